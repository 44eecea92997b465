import JvmDerived
import JvmDerived.Pilot.@@N@@Statement
import JvmDerived.Pilot.@@N@@Code
set_option linter.unusedVariables false
set_option linter.unusedSimpArgs false
namespace Jvm.RoadKit
open Sem ClassFile Op Lib Jvm.Stand Jvm.Free Jvm.LawKit
section New
variable {p : Program} {l : Launch} {e : Env} {R : Room} {s : State} {m : MethodId} {args : Array Value} {below : List Frame} {meth : Method} {c : Code} {T : State} {locs : List Loc} {cells slots : Nat}
theorem retI (X : Stand p l e R s m args below meth c T locs cells slots) (hx : p.tables.exec = Jvm.exec) {pc : Nat} {Ls : Array Slot} {z : Int32} {rest : List Value} (hret : meth.sig.returnType = some .int) (hd : decode c.code pc = .ok (.ireturn, 1)) {fs : List Frame}
    (hl : ∀ (f : JFrame) (acts : List Action), f.method = m → f.locked = none → f.entered = [] → (doReturn e (T.setTop f) acts (some (.int z))).1 = T.setFrames fs) : Steps p.tables e below (T.setTop (mkF m pc Ls (.int z :: rest))) (T.setFrames fs) := by
  have hm' : T.vm.method? m = some meth := X.method'
  have hn : narrow .int (.int z) = .int z := rfl
  show Steps p.tables e below (T.setTop { method := m, pc := pc, locals := Ls, stack := _ :: rest, locked := none }) _
  jvm_step X.here [X.here.top, hx, hd, hm', hret, hn]
  first | (intro acts; rw [hl _ acts rfl rfl rfl]) | rw [hl _ _ rfl rfl rfl]
  exact Steps.refl _
end New
end Jvm.RoadKit
namespace Jvm.Pilot.@@N@@
open Jvm Jvm.ClassFile Sem Op Lib Jvm.Free Jvm.Stand Jvm.LawKit Jvm.RoadKit Bundle Jvm.Pilot.@@N@@.Jvm.D
theorem own_lt {x y : Int32} {a b : Int} (h : x < y) (hx : x.toInt = a) (hy : y.toInt = b) : a < b := by rw [← hx, ← hy]; exact Int32.lt_iff_toInt_lt.mp h
theorem own_nlt {x y : Int32} {a b : Int} (h : ¬ x < y) (hx : x.toInt = a) (hy : y.toInt = b) : b ≤ a := by rw [← hx, ← hy]; exact Int.not_lt.mp fun q => h (Int32.lt_iff_toInt_lt.mpr q)
theorem own_eq {x y : Int32} {a b : Int} (h : x = y) (hx : x.toInt = a) (hy : y.toInt = b) : a = b := by rw [← hx, ← hy, h]
theorem own_ne {x y : Int32} {a b : Int} (h : ¬ x = y) (hx : x.toInt = a) (hy : y.toInt = b) : a ≠ b := by rw [← hx, ← hy]; exact fun q => h (Int32.toInt_inj.mp q)
open Jvm.FP.Core in
def own_G (d : UInt64) (c : Nat) (q : Int) : Prop := val64 d = .fin false c q ∧ 2 ^ 52 ≤ c ∧ c < 2 ^ 53 ∧ -200 ≤ q ∧ q ≤ 200
open Jvm.FP.Core in
theorem own_fits {c : Nat} {q : Int} (h1 : 2 ^ 52 ≤ c) (h2 : c < 2 ^ 53) (h3 : -200 ≤ q) (h4 : q ≤ 200) : Jvm.FP.Core.fits b64 (.fin false c q) := by
  have e1 : b64.qmin = -1074 := by decide
  have e2 : b64.qmax = 971 := by decide
  have e3 : b64.tails = 2 ^ 52 := by decide
  refine ⟨h2, ?_, ?_, Or.inr ?_⟩
  · rw [e1]; omega
  · rw [e2]; omega
  · rw [e3]; exact h1
open Jvm.FP.Core in
theorem own_l2d {a : Int64} {n L : Nat} (ha : a.toInt = (n : Int)) (h1 : 2 ^ L ≤ n) (h2 : n < 2 ^ (L + 1)) (hL : L ≤ 31) : own_G (FP.l2d a) (n * 2 ^ (52 - L)) ((L : Int) - 52) := by
  have c1 : 2 ^ 52 ≤ n * 2 ^ (52 - L) := by
    have := Nat.mul_le_mul_right (2 ^ (52 - L)) h1
    rw [← Nat.pow_add, show L + (52 - L) = 52 by omega] at this; exact this
  have c2 : n * 2 ^ (52 - L) < 2 ^ 53 := by
    have := Nat.mul_lt_mul_of_pos_right h2 (Nat.two_pow_pos (52 - L))
    rw [← Nat.pow_add, show L + 1 + (52 - L) = 53 by omega] at this; exact this
  have hf := own_fits (q := (L : Int) - 52) c1 c2 (by omega) (by omega)
  refine ⟨?_, c1, c2, by omega, by omega⟩
  show val64 (Jvm.FP.Core.l2d a) = _
  rw [val64_l2d, ha]
  show roundRatio b64 (decide ((n : Int) < 0)) ((n : Int).natAbs) 1 0 = _
  rw [show decide ((n : Int) < 0) = false from decide_eq_false (by omega), Int.natAbs_natCast]
  refine roundRatio_exact good_b64 (by decide) hf ?_
  rw [show ((0 : Int) - ((L : Int) - 52)).toNat = 52 - L by omega, show (((L : Int) - 52) - 0).toNat = 0 by omega]
  omega
open Jvm.FP.Core in
theorem own_div {x y : UInt64} {c : Nat} {q : Int} {k : Nat} (hx : own_G x c q) (hy : own_G y (2 ^ 52) ((k : Int) - 52)) (hk : k ≤ 31) (hq : -60 ≤ q) (hq2 : q ≤ 0) : own_G (FP.ddiv x y) c (q - k) := by
  have hf := own_fits (q := q - k) hx.2.1 hx.2.2.1 (by omega) (by omega)
  refine ⟨?_, hx.2.1, hx.2.2.1, by omega, by omega⟩
  show val64 (Jvm.FP.Core.ddiv x y) = _
  rw [val64_ddiv, hx.1, hy.1]
  show (if (2 ^ 52 : Nat) = 0 then (if c = 0 then Datum.nan else Datum.inf (false != false)) else roundRatio b64 (false != false) c (2 ^ 52) (q - ((k : Int) - 52))) = _
  rw [if_neg (by decide)]
  refine roundRatio_exact good_b64 (by decide) hf ?_
  rw [show ((q - ((k : Int) - 52)) - (q - k)).toNat = 52 by omega, show ((q - (k : Int)) - (q - ((k : Int) - 52))).toNat = 0 by omega]
  omega
open Jvm.FP.Core in
theorem own_mul {x y : UInt64} {c : Nat} {q : Int} {k : Nat} (hx : own_G x c q) (hy : own_G y (2 ^ 52) ((k : Int) - 52)) (hk : k ≤ 31) (hq : -60 ≤ q) (hq2 : q ≤ 0) : own_G (FP.dmul x y) c (q + k) := by
  have hf := own_fits (q := q + k) hx.2.1 hx.2.2.1 (by omega) (by omega)
  refine ⟨?_, hx.2.1, hx.2.2.1, by omega, by omega⟩
  show val64 (Jvm.FP.Core.dmul x y) = _
  rw [val64_dmul, hx.1, hy.1]
  show roundRatio b64 (false != false) (c * 2 ^ 52) 1 (q + ((k : Int) - 52)) = _
  refine roundRatio_exact good_b64 (by decide) hf ?_
  rw [show ((q + ((k : Int) - 52)) - (q + k)).toNat = 0 by omega, show ((q + (k : Int)) - (q + ((k : Int) - 52))).toNat = 52 by omega]
  omega
open Jvm.FP.Core in
theorem own_dfin {d : UInt64} {c : Nat} {q : Int} (h : own_G d c q) : Jvm.Free.Fl.Fin64 d := by
  rw [Jvm.Free.Fl.fin64_core]
  exact ⟨_, _, _, h.1⟩
open Jvm.FP.Core in
theorem own_nz {d : UInt64} {c : Nat} {q : Int} (h : own_G d c q) : Jvm.Free.Fl.Nz64 d := by
  rw [Jvm.Free.Fl.nz64_core]
  rintro ⟨s, q', e⟩
  rw [h.1] at e
  injection e with e1 e2 e3
  have := h.2.1
  omega
open Jvm.FP.Core in
theorem own_gt {d : UInt64} {c : Nat} {q : Int} (h : own_G d c q) : cmpValue (FP.dcmp d FP.dconst0) .l = 1 := by
  have e : FP.dcmp d FP.dconst0 = some .gt := by
    show order (val64 d) (val64 dconst0) = some .gt
    rw [h.1, val64_dconst0]
    show some (compare (signed false (inUnits c q (min q b64.qmin))) (signed false (inUnits 0 b64.qmin (min q b64.qmin)))) = _
    have p : 0 < inUnits c q (min q b64.qmin) := Nat.mul_pos (by have := h.2.1; omega) (Nat.two_pow_pos _)
    have z : inUnits 0 b64.qmin (min q b64.qmin) = 0 := Nat.zero_mul _
    rw [z]
    show some (compare ((inUnits c q (min q b64.qmin) : Nat) : Int) ((0 : Nat) : Int)) = _
    rw [Int.compare_eq_gt.mpr (by omega)]
  rw [e]; rfl
theorem own_one (x : Int32) : ∃ n : Nat, (((x &&& (2147483647 : Int32)).toInt64) + (1 : Int64)).toInt = (n : Int) ∧ 1 ≤ n ∧ n ≤ 2 ^ 31 := by
  have h1 := c_mask x 2147483647 31 (by decide) rfl
  rw [show (((2 : Nat) ^ 31 : Nat) : Int) = 2147483648 from rfl] at h1
  have h2 := c_i2l (x &&& (2147483647 : Int32))
  have h3 := c_ladd (x &&& (2147483647 : Int32)).toInt64 1
  rw [show (1 : Int64).toInt = 1 from rfl] at h3
  have h4 := rng64 ((x &&& (2147483647 : Int32)).toInt64 + 1)
  refine ⟨((x &&& (2147483647 : Int32)).toInt64 + 1).toInt.toNat, ?_, ?_, ?_⟩ <;> omega
theorem own_shl (x : Int32) : ∃ k : Nat, k ≤ 31 ∧ ((1 : Int64) <<< (((x &&& (31 : Int32)) &&& 0x3f).toInt64)).toInt = ((2 ^ k : Nat) : Int) := by
  have h1 := c_mask x 31 5 (by decide) rfl
  rw [show (((2 : Nat) ^ 5 : Nat) : Int) = 32 from rfl] at h1
  have a : ∀ i : Fin 32, ((1 : Int64) <<< (((Int32.ofNat i.val) &&& 0x3f).toInt64)).toInt = ((2 ^ i.val : Nat) : Int) := by decide
  have hk : (x &&& (31 : Int32)).toInt.toNat < 32 := by omega
  have e : (x &&& (31 : Int32)) = Int32.ofNat (x &&& (31 : Int32)).toInt.toNat := by
    apply Int32.toInt_inj.mp
    rw [Int32.toInt_ofNat_of_lt (by omega)]
    omega
  refine ⟨(x &&& (31 : Int32)).toInt.toNat, by omega, ?_⟩
  have := a ⟨_, hk⟩
  rw [e]
  rw [← e]
  rw [← e] at this
  exact this
theorem d1_0 : decode prog_64_method_2_code 0 = .ok (.dload_n 0, 1) := by decide +kernel
theorem d1_1 : decode prog_64_method_2_code 1 = .ok (.dconst 0, 1) := by decide +kernel
theorem d1_2 : decode prog_64_method_2_code 2 = .ok (.dcmp .l, 1) := by decide +kernel
theorem d1_3 : decode prog_64_method_2_code 3 = .ok (.ifCond .le 11, 3) := by decide +kernel
theorem d1_6 : decode prog_64_method_2_code 6 = .ok (.dload_n 0, 1) := by decide +kernel
theorem d1_7 : decode prog_64_method_2_code 7 = .ok (.ldc2_w 9, 3) := by decide +kernel
theorem wd_5 {a0 : Array Value} {Z : State} (hw : ∀ d ∈ tables_1, d.before a0 Z = true) : (Jvm.Cond.constantDouble "hubward/rank/StoppingRule" (9 : Nat) (9218868437227405312 : UInt64)).before a0 Z = true := hw _ (List.mem_of_getElem? (i := 5) rfl)
theorem d1_10 : decode prog_64_method_2_code 10 = .ok (.dcmp .g, 1) := by decide +kernel
theorem d1_11 : decode prog_64_method_2_code 11 = .ok (.ifCond .lt 17, 3) := by decide +kernel
theorem d1_28 : decode prog_64_method_2_code 28 = .ok (.dload_n 0, 1) := by decide +kernel
theorem d1_29 : decode prog_64_method_2_code 29 = .ok (.dreturn, 1) := by decide +kernel
theorem ef_1 (m : MethodId) (x0 : UInt64) : entryFrame m #[(.double x0)] 2 = mkF m 0 #[.val (.double x0), .second] [] := by first | (simp [entryFrame, mkF, argsToLocals, Value.category]; done) | rfl
theorem pn_hubward_rank_StoppingRule : plainName "hubward/rank/StoppingRule" = true := by first | (simp [plainName, overriddenIn]; done) | decide +kernel
def Q_rm1 (Z : State) (d1 : UInt64) (gc : Nat) (gq : Int) (h0 : Heap) (n0 : Nat) (v : Option Value) (h : Heap) (L : List Loc) : Prop := v = some (.double d1) ∧ Fr n0 L ∧ h = h0
set_option maxRecDepth 65536 in
set_option maxHeartbeats 40000000 in
theorem rm1 (l : Launch) (Z : State) (a0 : Array Value) (hw : ∀ d ∈ tables_1, d.before a0 Z = true) (ws : List Jvm.Cond) (d1 : UInt64) (gc : Nat) (gq : Int) (h0 : Heap) (n0 : Nat) (Z0 : n0 ≤ h0.size) (hG : own_G d1 gc gq) :
    MetFree l (⟨"hubward/rank/StoppingRule", "tolerance", "(D)D"⟩ : MethodName) (head1 (Jvm.Cond.code (⟨"hubward/rank/StoppingRule", "tolerance", "(D)D"⟩ : MethodName) prog_64_method_2_code 2 (some .double) :: ws) ({ frames := 0, cells := 0, slots := 0, locals := 0 } : Room)) (fun a U => a = #[(.double d1)] ∧ Z.Warmed39 U.vm ∧ U.heap = h0) (fun _ _ _ _ _ => True) (fun _ U o U' => ∃ v L, o = .returned v ∧ Q_rm1 Z d1 gc gq h0 n0 v U'.heap L ∧ FrameEnd U o U' L ({ frames := 0, cells := 0, slots := 0, locals := 0 } : Room).cells ({ frames := 0, cells := 0, slots := 0, locals := 0 } : Room).slots) := by
  refine MetFree.of_bodySF (plainFor_of_name pn_hubward_rank_StoppingRule) hisR ?_
  intro p e s m args below meth c s₁ Bd hml0 hP hK
  obtain ⟨rfl, hZ, hh⟩ := hP
  have hx := Bd.exec
  have hby := Bd.bytes
  have hml : c.maxLocals = 2 := hml0
  have hown : s.vm.findClass "hubward/rank/StoppingRule" = some m.cls := findClass_of_methodNamed Bd.named
  have hnm := (name_of_methodNamed Bd.named Bd.method).1
  have X0 : Stand p l e ({ frames := 0, cells := 0, slots := 0, locals := 0 } : Room) s m #[(.double d1)] below meth c s₁ [] 0 0 := Stand.of_body Bd
  have e0 : s₁.heap = h0 := by rw [← hh, Bd.state]; rfl
  have N0 := Fr.nil n0
  have pre0 : ∀ t, Steps p.tables e below (s₁.setTop (mkF m 0 #[.val (.double d1), .second] [])) t → Steps p.tables e below (s₁.setTop (entryFrame m #[(.double d1)] 2)) t := fun t k => castTop (ef_1 m d1) k
  obtain ⟨fs, hr, hrun, hended, hW, hsame⟩ := X0.leave (v := some (.double d1)) (fun h => by rw [Bd.returns] at h; cases h)
  refine ⟨_, _, pre0 _ ?_, hrun, hended, _, _, rfl, ?_, ⟨_, rfl⟩, hW, hsame.mono (by decide) (by decide)⟩
  · show Steps p.tables e below (s₁.setTop (mkF m 0 #[.val (.double d1), .second] [])) _
    refine XS.dloadN X0.here hx rfl (hb hby d1_0) rfl ?_
    refine XS.dconst0 X0.here hx rfl (hb hby d1_1) (v := FP.dconst0) rfl ?_
    refine XS.dcmpS X0.here hx rfl (hb hby d1_2) rfl (v := (1 : Int32)) (own_gt hG) ?_
    refine XS.ifNo X0.here hx rfl (hb hby d1_3) rfl ((if0 _ _).trans (tlt (by decide)).2.2.2) ?_
    show Steps p.tables e below (s₁.setTop (mkF m 6 #[.val (.double d1), .second] [])) _
    refine XS.dloadN X0.here hx rfl (hb hby d1_6) rfl ?_
    refine X0.ldc2DoubleC hx hown (mvT hZ (wd_5 hw)) (g := (mkF m 7 #[.val (.double d1), .second] [(.double d1)])) rfl (hb hby d1_7) _ ?_
    refine XS.dcmpS X0.here hx rfl (hb hby d1_10) rfl (v := (-1 : Int32)) (dcmp_pinf (own_dfin hG) .g) ?_
    refine XS.ifYes X0.here hx rfl (pc0 := 11) (pc' := 28) rfl (hb hby d1_11) rfl ((if0 _ _).trans (tlt (by decide)).1) (by decide) (by decide) ?_
    show Steps p.tables e below (s₁.setTop (mkF m 28 #[.val (.double d1), .second] [])) _
    refine XS.dloadN X0.here hx rfl (hb hby d1_28) rfl ?_
    jvm_step X0.here [X0.here.top, hx, (hb hby d1_29), X0.method', Bd.returns, narrow]
    first | (intro acts; rw [hr _ acts rfl rfl rfl]) | rw [hr _ _ rfl rfl rfl]
    exact Steps.refl _
  · show Q_rm1 Z d1 gc gq h0 n0 _ s₁.heap _
    rw [e0]
    exact ⟨rfl, N0, rfl⟩
theorem wd_0 {a0 : Array Value} {Z : State} (hw : ∀ d ∈ tables_1, d.before a0 Z = true) : (Jvm.Cond.constant "hubward/rank/StoppingRuleTolerancePinLaw" (7 : Nat) (2147483647 : Int32)).before a0 Z = true := hw _ (List.mem_of_getElem? (i := 0) rfl)
theorem wd_1 {a0 : Array Value} {Z : State} (hw : ∀ d ∈ tables_1, d.before a0 Z = true) : (Jvm.Cond.methodLink "hubward/rank/StoppingRuleTolerancePinLaw" (8 : Nat) ({ cls := "hubward/rank/StoppingRule", name := "tolerance", desc := "(D)D" } : Jvm.MethodName)).before a0 Z = true := hw _ (List.mem_of_getElem? (i := 1) rfl)
theorem wd_4 {a0 : Array Value} {Z : State} (hw : ∀ d ∈ tables_1, d.before a0 Z = true) : (Jvm.Cond.code ({ cls := "hubward/rank/StoppingRule", name := "tolerance", desc := "(D)D" } : Jvm.MethodName) prog_64_method_2_code (2 : Nat) (Option.some Jvm.ClassFile.FieldType.double)).before a0 Z = true := hw _ (List.mem_of_getElem? (i := 4) rfl)
theorem wd_3 {a0 : Array Value} {Z : State} (hw : ∀ d ∈ tables_1, d.before a0 Z = true) : (Jvm.Cond.initialized "hubward/rank/StoppingRule").before a0 Z = true := hw _ (List.mem_of_getElem? (i := 3) rfl)
theorem pd__D_D : parseMethodDescriptor "(D)D" = some ⟨[.double], some .double⟩ := by decide +kernel
theorem wd_2 {a0 : Array Value} {Z : State} (hw : ∀ d ∈ tables_1, d.before a0 Z = true) : (Jvm.Cond.static ({ cls := "hubward/rank/StoppingRule", name := "tolerance", desc := "(D)D" } : Jvm.MethodName)).before a0 Z = true := hw _ (List.mem_of_getElem? (i := 2) rfl)
theorem ef_0 (m : MethodId) (x0 : Int32) (x1 : Int32) (x2 : Int32) : entryFrame m #[(.int x0), (.int x1), (.int x2)] maxLocals = mkF m 0 #[.val (.int x0), .val (.int x1), .val (.int x2), .unset, .unset, .unset, .unset, .unset, .unset, .unset, .unset, .unset] [] := by first | (simp [entryFrame, mkF, argsToLocals, Value.category, maxLocals]; done) | rfl
theorem pn_hubward_rank_StoppingRuleTolerancePinLaw : plainName "hubward/rank/StoppingRuleTolerancePinLaw" = true := by first | (simp [plainName, overriddenIn]; done) | decide +kernel
def Q_rm0 (Z : State) (p1 : Int32) (p2 : Int32) (p3 : Int32) (h0 : Heap) (n0 : Nat) (v : Option Value) (h : Heap) (L : List Loc) : Prop := v = some (.int (1 : Int32)) ∧ Fr n0 L ∧ True
set_option maxRecDepth 65536 in
set_option maxHeartbeats 40000000 in
theorem rm0 (l : Launch) (Z : State) (a0 : Array Value) (hw : ∀ d ∈ tables_1, d.before a0 Z = true) (ws : List Jvm.Cond) (p1 : Int32) (p2 : Int32) (p3 : Int32) (h0 : Heap) (n0 : Nat) (Z0 : n0 ≤ h0.size) :
    MetFree l x (head1 (Jvm.Cond.code x code maxLocals ret :: ws) room_1) (fun a U => a = #[(.int p1), (.int p2), (.int p3)] ∧ Z.Warmed39 U.vm ∧ U.heap = h0) (fun _ _ _ _ _ => True) (fun _ U o U' => ∃ v L, o = .returned v ∧ Q_rm0 Z p1 p2 p3 h0 n0 v U'.heap L ∧ FrameEnd U o U' L room_1.cells room_1.slots) := by
  refine MetFree.of_bodySF (plainFor_of_name pn_hubward_rank_StoppingRuleTolerancePinLaw) hisR ?_
  intro p e s m args below meth c s₁ Bd hml0 hP hK
  obtain ⟨rfl, hZ, hh⟩ := hP
  have hx := Bd.exec
  have hby := Bd.bytes
  have hml : c.maxLocals = 12 := hml0
  have hown : s.vm.findClass "hubward/rank/StoppingRuleTolerancePinLaw" = some m.cls := findClass_of_methodNamed Bd.named
  have hnm := (name_of_methodNamed Bd.named Bd.method).1
  have X0 : Stand p l e room_1 s m #[(.int p1), (.int p2), (.int p3)] below meth c s₁ [] 0 0 := Stand.of_body Bd
  have e0 : s₁.heap = h0 := by rw [← hh, Bd.state]; rfl
  have N0 := Fr.nil n0
  have pre0 : ∀ t, Steps p.tables e below (s₁.setTop (mkF m 0 #[.val (.int p1), .val (.int p2), .val (.int p3), .unset, .unset, .unset, .unset, .unset, .unset, .unset, .unset, .unset] [])) t → Steps p.tables e below (s₁.setTop (entryFrame m #[(.int p1), (.int p2), (.int p3)] maxLocals)) t := fun t k => castTop (ef_0 m p1 p2 p3) k
  obtain ⟨dS, hdS⟩ : ∃ z : UInt64, z = (FP.l2d ((1 : Int64) <<< ((p2 &&& (31 : Int32)) &&& 0x3f).toInt64)) := ⟨_, rfl⟩
  obtain ⟨dB, hdB⟩ : ∃ z : UInt64, z = (FP.l2d (((p1 &&& (2147483647 : Int32)).toInt64) + (1 : Int64))) := ⟨_, rfl⟩
  have pre1 : ∀ t, Steps p.tables e below (s₁.setTop (mkF m 28 #[.val (.int p1), .val (.int p2), .val (.int p3), .val (.long (((p1 &&& (2147483647 : Int32)).toInt64) + (1 : Int64))), .second, .val (.int (p2 &&& (31 : Int32))), .val (.double dS), .second, .val (.double dB), .second, .unset, .unset] [(.int (p3 &&& (1 : Int32)))])) t → Steps p.tables e below (s₁.setTop (entryFrame m #[(.int p1), (.int p2), (.int p3)] maxLocals)) t := by
    intro t kt
    rw [hdS, hdB] at kt
    refine pre0 _ ?_
    show Steps p.tables e below (s₁.setTop (mkF m 0 #[.val (.int p1), .val (.int p2), .val (.int p3), .unset, .unset, .unset, .unset, .unset, .unset, .unset, .unset, .unset] [])) _
    refine XS.iloadN X0.here hx rfl (hb hby at_0) rfl ?_
    refine X0.ldcInt hx hown (mvT hZ (wd_0 hw)) (g := (mkF m 1 #[.val (.int p1), .val (.int p2), .val (.int p3), .unset, .unset, .unset, .unset, .unset, .unset, .unset, .unset, .unset] [(.int p1)])) rfl (hb hby at_1) _ ?_
    refine XS.iand X0.here hx rfl (hb hby at_3) rfl ?_
    refine XS.i2l X0.here hx rfl (hb hby at_4) rfl ?_
    show Steps p.tables e below (s₁.setTop (mkF m 5 #[.val (.int p1), .val (.int p2), .val (.int p3), .unset, .unset, .unset, .unset, .unset, .unset, .unset, .unset, .unset] [(.long ((p1 &&& (2147483647 : Int32)).toInt64))])) _
    refine XS.lconst X0.here hx rfl (hb hby at_5) ?_
    refine XS.ladd X0.here hx rfl (hb hby at_6) rfl ?_
    refine XS.lstoreN X0.here hx rfl (hb hby at_7) rfl (l' := #[.val (.int p1), .val (.int p2), .val (.int p3), .val (.long (((p1 &&& (2147483647 : Int32)).toInt64) + (1 : Int64))), .second, .unset, .unset, .unset, .unset, .unset, .unset, .unset]) rfl ?_
    refine XS.iloadN X0.here hx rfl (hb hby at_8) rfl ?_
    show Steps p.tables e below (s₁.setTop (mkF m 9 #[.val (.int p1), .val (.int p2), .val (.int p3), .val (.long (((p1 &&& (2147483647 : Int32)).toInt64) + (1 : Int64))), .second, .unset, .unset, .unset, .unset, .unset, .unset, .unset] [(.int p2)])) _
    refine XS.bipush X0.here hx rfl (hb hby at_9) ?_
    refine XS.iand X0.here hx rfl (hb hby at_11) rfl ?_
    refine XS.istore X0.here hx rfl (hb hby at_12) rfl (l' := #[.val (.int p1), .val (.int p2), .val (.int p3), .val (.long (((p1 &&& (2147483647 : Int32)).toInt64) + (1 : Int64))), .second, .val (.int (p2 &&& (31 : Int32))), .unset, .unset, .unset, .unset, .unset, .unset]) rfl ?_
    refine XS.lconst X0.here hx rfl (hb hby at_14) ?_
    show Steps p.tables e below (s₁.setTop (mkF m 15 #[.val (.int p1), .val (.int p2), .val (.int p3), .val (.long (((p1 &&& (2147483647 : Int32)).toInt64) + (1 : Int64))), .second, .val (.int (p2 &&& (31 : Int32))), .unset, .unset, .unset, .unset, .unset, .unset] [(.long (1 : Int64))])) _
    refine XS.iload X0.here hx rfl (hb hby at_15) rfl ?_
    refine XS.lshl X0.here hx rfl (hb hby at_17) rfl ?_
    refine XS.l2dS X0.here hx rfl (hb hby at_18) rfl (v := (FP.l2d ((1 : Int64) <<< ((p2 &&& (31 : Int32)) &&& 0x3f).toInt64))) rfl ?_
    refine XS.dstore X0.here hx rfl (hb hby at_19) rfl (l' := #[.val (.int p1), .val (.int p2), .val (.int p3), .val (.long (((p1 &&& (2147483647 : Int32)).toInt64) + (1 : Int64))), .second, .val (.int (p2 &&& (31 : Int32))), .val (.double (FP.l2d ((1 : Int64) <<< ((p2 &&& (31 : Int32)) &&& 0x3f).toInt64))), .second, .unset, .unset, .unset, .unset]) rfl ?_
    show Steps p.tables e below (s₁.setTop (mkF m 21 #[.val (.int p1), .val (.int p2), .val (.int p3), .val (.long (((p1 &&& (2147483647 : Int32)).toInt64) + (1 : Int64))), .second, .val (.int (p2 &&& (31 : Int32))), .val (.double (FP.l2d ((1 : Int64) <<< ((p2 &&& (31 : Int32)) &&& 0x3f).toInt64))), .second, .unset, .unset, .unset, .unset] [])) _
    refine XS.lloadN X0.here hx rfl (hb hby at_21) rfl ?_
    refine XS.l2dS X0.here hx rfl (hb hby at_22) rfl (v := (FP.l2d (((p1 &&& (2147483647 : Int32)).toInt64) + (1 : Int64)))) rfl ?_
    refine XS.dstore X0.here hx rfl (hb hby at_23) rfl (l' := #[.val (.int p1), .val (.int p2), .val (.int p3), .val (.long (((p1 &&& (2147483647 : Int32)).toInt64) + (1 : Int64))), .second, .val (.int (p2 &&& (31 : Int32))), .val (.double (FP.l2d ((1 : Int64) <<< ((p2 &&& (31 : Int32)) &&& 0x3f).toInt64))), .second, .val (.double (FP.l2d (((p1 &&& (2147483647 : Int32)).toInt64) + (1 : Int64)))), .second, .unset, .unset]) rfl ?_
    refine XS.iloadN X0.here hx rfl (hb hby at_25) rfl ?_
    show Steps p.tables e below (s₁.setTop (mkF m 26 #[.val (.int p1), .val (.int p2), .val (.int p3), .val (.long (((p1 &&& (2147483647 : Int32)).toInt64) + (1 : Int64))), .second, .val (.int (p2 &&& (31 : Int32))), .val (.double (FP.l2d ((1 : Int64) <<< ((p2 &&& (31 : Int32)) &&& 0x3f).toInt64))), .second, .val (.double (FP.l2d (((p1 &&& (2147483647 : Int32)).toInt64) + (1 : Int64)))), .second, .unset, .unset] [(.int p3)])) _
    refine XS.iconst X0.here hx rfl (hb hby at_26) ?_
    refine XS.iand X0.here hx rfl (hb hby at_27) rfl ?_
    exact kt
  obtain ⟨nB, hn1, hn2, hn3⟩ := own_one p1
  obtain ⟨kS, hk1, hk2⟩ := own_shl p2
  have GB : own_G dB (nB * 2 ^ (52 - nB.log2)) ((nB.log2 : Int) - 52) := by rw [hdB]; exact own_l2d hn1 (Nat.log2_self_le (by omega)) Nat.lt_log2_self (by have := (Nat.log2_lt (k := 32) (by omega : nB ≠ 0)).mpr (by omega); omega)
  have GS : own_G dS (2 ^ 52) ((kS : Int) - 52) := by
    rw [hdS]
    have := own_l2d (a := ((1 : Int64) <<< (((p2 &&& (31 : Int32)) &&& 0x3f).toInt64))) (n := 2 ^ kS) (L := kS) hk2 (Nat.le_refl _) (Nat.pow_lt_pow_right (by decide) (by omega)) hk1
    rw [← Nat.pow_add, show kS + (52 - kS) = 52 by omega] at this
    exact this
  have hLB : nB.log2 ≤ 31 := by have := (Nat.log2_lt (k := 32) (by omega : nB ≠ 0)).mpr (by omega); omega
  by_cases hc28_2 : (p3 &&& (1 : Int32)) = (0 : Int32)
  · obtain ⟨dd, hdd⟩ : ∃ z : UInt64, z = (FP.dmul dB dS) := ⟨_, rfl⟩
    have pre3 : ∀ t, Steps p.tables e below (s₁.setTop (mkF m 46 #[.val (.int p1), .val (.int p2), .val (.int p3), .val (.long (((p1 &&& (2147483647 : Int32)).toInt64) + (1 : Int64))), .second, .val (.int (p2 &&& (31 : Int32))), .val (.double dS), .second, .val (.double dB), .second, .val (.double dd), .second] [])) t → Steps p.tables e below (s₁.setTop (entryFrame m #[(.int p1), (.int p2), (.int p3)] maxLocals)) t := by
      intro t kt
      rw [hdd] at kt
      refine pre1 _ ?_
      show Steps p.tables e below (s₁.setTop (mkF m 28 #[.val (.int p1), .val (.int p2), .val (.int p3), .val (.long (((p1 &&& (2147483647 : Int32)).toInt64) + (1 : Int64))), .second, .val (.int (p2 &&& (31 : Int32))), .val (.double dS), .second, .val (.double dB), .second, .unset, .unset] [(.int (p3 &&& (1 : Int32)))])) _
      refine XS.ifYes X0.here hx rfl (pc0 := 28) (pc' := 39) rfl (hb hby at_28) rfl ((if0 _ _).trans (teq hc28_2).1) (by decide) (by decide) ?_
      refine XS.dload X0.here hx rfl (hb hby at_39) rfl ?_
      refine XS.dload X0.here hx rfl (hb hby at_41) rfl ?_
      refine XS.dmulS X0.here hx rfl (hb hby at_43) rfl (Jvm.Free.Fl.dmul_out (own_dfin GB) (own_dfin GS)) (v := (FP.dmul dB dS)) rfl ?_
      show Steps p.tables e below (s₁.setTop (mkF m 44 #[.val (.int p1), .val (.int p2), .val (.int p3), .val (.long (((p1 &&& (2147483647 : Int32)).toInt64) + (1 : Int64))), .second, .val (.int (p2 &&& (31 : Int32))), .val (.double dS), .second, .val (.double dB), .second, .unset, .unset] [(.double (FP.dmul dB dS))])) _
      refine XS.dstore X0.here hx rfl (hb hby at_44) rfl (l' := #[.val (.int p1), .val (.int p2), .val (.int p3), .val (.long (((p1 &&& (2147483647 : Int32)).toInt64) + (1 : Int64))), .second, .val (.int (p2 &&& (31 : Int32))), .val (.double dS), .second, .val (.double dB), .second, .val (.double (FP.dmul dB dS)), .second]) rfl ?_
      exact kt
    have GD : own_G dd (nB * 2 ^ (52 - nB.log2)) (((nB.log2 : Int) - 52) + kS) := by rw [hdd]; exact own_mul GB GS hk1 (by omega) (by omega)
    obtain ⟨_, _, ⟨T4, L4, k4, n4⟩, -, X4, ⟨Lc4, hQ4, l4, y4, z4⟩, st4⟩ := Jvm.LawKit.callS X0 hx (y := (⟨"hubward/rank/StoppingRule", "tolerance", "(D)D"⟩ : MethodName)) hown (mvT hZ (wd_1 hw)) (mvT hZ (wd_2 hw)) (mvT hZ (wd_3 hw)) (mvT hZ (wd_4 hw)) (by decide) (backOf (W := 0) (rm1 l Z a0 hw [] dd (nB * 2 ^ (52 - nB.log2)) (((nB.log2 : Int) - 52) + kS) h0 n0 Z0 GD) hZ (wd_4 hw) (wd_3 hw) (by decide) (by decide)) (g := (mkF m 48 #[.val (.int p1), .val (.int p2), .val (.int p3), .val (.long (((p1 &&& (2147483647 : Int32)).toInt64) + (1 : Int64))), .second, .val (.int (p2 &&& (31 : Int32))), .val (.double dS), .second, .val (.double dB), .second, .val (.double dd), .second] [(.double dd)])) rfl (by rw [hml]; rfl) (argsL := [(.double dd)]) (rest := []) (lenOf pd__D_D rfl) rfl (by show 2 * 0 + _ ≤ _; exact Nat.le_of_eq rfl) (hb hby at_48) (fun _ _ => ⟨rfl, e0, (by decide : 0 + 0 ≤ _), (by decide : 0 + 0 ≤ _)⟩)
    dsimp only [Pt.U, Pt.locs, Pt.cells, Pt.slots] at X4 l4 y4 z4 st4 hQ4
    subst l4 y4 z4
    obtain ⟨rfl, N4q, e4⟩ := hQ4
    have N4 := Fr.app N0 N4q
    obtain ⟨fs, hr, hrun, hended, hW, hsame⟩ := X4.leave (v := some (.int (1 : Int32))) (fun h => by rw [Bd.returns] at h; cases h)
    refine ⟨_, _, pre3 _ ?_, hrun, hended, _, _, rfl, ?_, ⟨_, rfl⟩, hW, hsame.mono (by decide) (by decide)⟩
    · show Steps p.tables e below (s₁.setTop (mkF m 46 #[.val (.int p1), .val (.int p2), .val (.int p3), .val (.long (((p1 &&& (2147483647 : Int32)).toInt64) + (1 : Int64))), .second, .val (.int (p2 &&& (31 : Int32))), .val (.double dS), .second, .val (.double dB), .second, .val (.double dd), .second] [])) _
      refine XS.dload X0.here hx rfl (hb hby at_46) rfl ?_
      refine st4 _ ?_
      refine XS.dload X4.here hx rfl (hb hby at_51) rfl ?_
      refine XS.dcmpS X4.here hx rfl (hb hby at_53) rfl (v := (0 : Int32)) (dcmpV_self (own_dfin GD).noNaN .l) ?_
      show Steps p.tables e below (T4.setTop (mkF m 54 #[.val (.int p1), .val (.int p2), .val (.int p3), .val (.long (((p1 &&& (2147483647 : Int32)).toInt64) + (1 : Int64))), .second, .val (.int (p2 &&& (31 : Int32))), .val (.double dS), .second, .val (.double dB), .second, .val (.double dd), .second] [(.int (0 : Int32))])) _
      refine XS.ifNo X4.here hx rfl (hb hby at_54) rfl ((if0 _ _).trans (teq (rfl : (0 : Int32) = (0 : Int32))).2) ?_
      refine XS.iconst X4.here hx rfl (hb hby at_57) ?_
      refine XS.goto X4.here hx rfl (pc0 := 58) (pc' := 62) rfl (hb hby at_58) (by decide) (by decide) ?_
      exact retN X4 hx (t := .boolean) Bd.returns (by simp) (hb hby at_62) hr
    · show Q_rm0 Z p1 p2 p3 h0 n0 _ T4.heap _
      rw [e4]
      exact ⟨rfl, N4, trivial⟩
  · obtain ⟨dd, hdd⟩ : ∃ z : UInt64, z = (FP.ddiv dB dS) := ⟨_, rfl⟩
    have pre5 : ∀ t, Steps p.tables e below (s₁.setTop (mkF m 46 #[.val (.int p1), .val (.int p2), .val (.int p3), .val (.long (((p1 &&& (2147483647 : Int32)).toInt64) + (1 : Int64))), .second, .val (.int (p2 &&& (31 : Int32))), .val (.double dS), .second, .val (.double dB), .second, .val (.double dd), .second] [])) t → Steps p.tables e below (s₁.setTop (entryFrame m #[(.int p1), (.int p2), (.int p3)] maxLocals)) t := by
      intro t kt
      rw [hdd] at kt
      refine pre1 _ ?_
      show Steps p.tables e below (s₁.setTop (mkF m 28 #[.val (.int p1), .val (.int p2), .val (.int p3), .val (.long (((p1 &&& (2147483647 : Int32)).toInt64) + (1 : Int64))), .second, .val (.int (p2 &&& (31 : Int32))), .val (.double dS), .second, .val (.double dB), .second, .unset, .unset] [(.int (p3 &&& (1 : Int32)))])) _
      refine XS.ifNo X0.here hx rfl (hb hby at_28) rfl ((if0 _ _).trans (feq hc28_2).1) ?_
      refine XS.dload X0.here hx rfl (hb hby at_31) rfl ?_
      refine XS.dload X0.here hx rfl (hb hby at_33) rfl ?_
      refine XS.ddivS X0.here hx rfl (hb hby at_35) rfl (Jvm.Free.Fl.ddiv_out (own_dfin GB).noNaN (own_dfin GS) (own_nz GS)) (v := (FP.ddiv dB dS)) rfl ?_
      show Steps p.tables e below (s₁.setTop (mkF m 36 #[.val (.int p1), .val (.int p2), .val (.int p3), .val (.long (((p1 &&& (2147483647 : Int32)).toInt64) + (1 : Int64))), .second, .val (.int (p2 &&& (31 : Int32))), .val (.double dS), .second, .val (.double dB), .second, .unset, .unset] [(.double (FP.ddiv dB dS))])) _
      refine XS.goto X0.here hx rfl (pc0 := 36) (pc' := 44) rfl (hb hby at_36) (by decide) (by decide) ?_
      refine XS.dstore X0.here hx rfl (hb hby at_44) rfl (l' := #[.val (.int p1), .val (.int p2), .val (.int p3), .val (.long (((p1 &&& (2147483647 : Int32)).toInt64) + (1 : Int64))), .second, .val (.int (p2 &&& (31 : Int32))), .val (.double dS), .second, .val (.double dB), .second, .val (.double (FP.ddiv dB dS)), .second]) rfl ?_
      exact kt
    have GD : own_G dd (nB * 2 ^ (52 - nB.log2)) (((nB.log2 : Int) - 52) - kS) := by rw [hdd]; exact own_div GB GS hk1 (by omega) (by omega)
    obtain ⟨_, _, ⟨T6, L6, k6, n6⟩, -, X6, ⟨Lc6, hQ6, l6, y6, z6⟩, st6⟩ := Jvm.LawKit.callS X0 hx (y := (⟨"hubward/rank/StoppingRule", "tolerance", "(D)D"⟩ : MethodName)) hown (mvT hZ (wd_1 hw)) (mvT hZ (wd_2 hw)) (mvT hZ (wd_3 hw)) (mvT hZ (wd_4 hw)) (by decide) (backOf (W := 0) (rm1 l Z a0 hw [] dd (nB * 2 ^ (52 - nB.log2)) (((nB.log2 : Int) - 52) - kS) h0 n0 Z0 GD) hZ (wd_4 hw) (wd_3 hw) (by decide) (by decide)) (g := (mkF m 48 #[.val (.int p1), .val (.int p2), .val (.int p3), .val (.long (((p1 &&& (2147483647 : Int32)).toInt64) + (1 : Int64))), .second, .val (.int (p2 &&& (31 : Int32))), .val (.double dS), .second, .val (.double dB), .second, .val (.double dd), .second] [(.double dd)])) rfl (by rw [hml]; rfl) (argsL := [(.double dd)]) (rest := []) (lenOf pd__D_D rfl) rfl (by show 2 * 0 + _ ≤ _; exact Nat.le_of_eq rfl) (hb hby at_48) (fun _ _ => ⟨rfl, e0, (by decide : 0 + 0 ≤ _), (by decide : 0 + 0 ≤ _)⟩)
    dsimp only [Pt.U, Pt.locs, Pt.cells, Pt.slots] at X6 l6 y6 z6 st6 hQ6
    subst l6 y6 z6
    obtain ⟨rfl, N6q, e6⟩ := hQ6
    have N6 := Fr.app N0 N6q
    obtain ⟨fs, hr, hrun, hended, hW, hsame⟩ := X6.leave (v := some (.int (1 : Int32))) (fun h => by rw [Bd.returns] at h; cases h)
    refine ⟨_, _, pre5 _ ?_, hrun, hended, _, _, rfl, ?_, ⟨_, rfl⟩, hW, hsame.mono (by decide) (by decide)⟩
    · show Steps p.tables e below (s₁.setTop (mkF m 46 #[.val (.int p1), .val (.int p2), .val (.int p3), .val (.long (((p1 &&& (2147483647 : Int32)).toInt64) + (1 : Int64))), .second, .val (.int (p2 &&& (31 : Int32))), .val (.double dS), .second, .val (.double dB), .second, .val (.double dd), .second] [])) _
      refine XS.dload X0.here hx rfl (hb hby at_46) rfl ?_
      refine st6 _ ?_
      refine XS.dload X6.here hx rfl (hb hby at_51) rfl ?_
      refine XS.dcmpS X6.here hx rfl (hb hby at_53) rfl (v := (0 : Int32)) (dcmpV_self (own_dfin GD).noNaN .l) ?_
      show Steps p.tables e below (T6.setTop (mkF m 54 #[.val (.int p1), .val (.int p2), .val (.int p3), .val (.long (((p1 &&& (2147483647 : Int32)).toInt64) + (1 : Int64))), .second, .val (.int (p2 &&& (31 : Int32))), .val (.double dS), .second, .val (.double dB), .second, .val (.double dd), .second] [(.int (0 : Int32))])) _
      refine XS.ifNo X6.here hx rfl (hb hby at_54) rfl ((if0 _ _).trans (teq (rfl : (0 : Int32) = (0 : Int32))).2) ?_
      refine XS.iconst X6.here hx rfl (hb hby at_57) ?_
      refine XS.goto X6.here hx rfl (pc0 := 58) (pc' := 62) rfl (hb hby at_58) (by decide) (by decide) ?_
      exact retN X6 hx (t := .boolean) Bd.returns (by simp) (hb hby at_62) hr
    · show Q_rm0 Z p1 p2 p3 h0 n0 _ T6.heap _
      rw [e6]
      exact ⟨rfl, N6, trivial⟩
set_option maxRecDepth 65536 in
set_option maxHeartbeats 40000000 in
theorem comes_1 {Post : Tables → Env → Array Value → State → Outcome → State → Prop} (hpost : ∀ tb e args s v u, (limb_1_1.after args s (.returned v) u = true ∧ limb_1_2.after args s (.returned v) u = true ∧ True) → FrameEnd s (.returned v) u (Jvm.fieldLocs frame_1_writes args s ++ Jvm.arrayLocs frame_1_arrays args s ++ Jvm.staticLocs frame_1_statics s) 0 0 → Post tb e args s (.returned v) u) :
    ArmFor flags0 classFile x code maxLocals ret World_1 tables_1 room_1 Calls_1 rest_1 Pre_1 Post := by
  intro l hfl _ _ p e ha hc hk s m args below hf hA hF happ hP
  obtain ⟨hcalls, hrest, hpre⟩ := hP
  obtain ⟨-, -, -, hnamed, -, -, -, hat⟩ := (Spec.applies_iff hf).mp happ
  obtain ⟨hg, hn⟩ := and_e (Cond.before_iff.mp (show (Jvm.Cond.and given_1 narrow_1).before args s = true from hpre))
  obtain ⟨g7, g8⟩ := and_e hg
  obtain ⟨g9, g10⟩ := and_e g8
  obtain ⟨g11, g12⟩ := and_e g10
  obtain ⟨w0, w1, w2, rfl⟩ : ∃ w0 w1 w2 : Value, args = #[w0, w1, w2] := by
    have hs : args.size = 3 := by simpa [Cond.value, given_1] using g7
    obtain ⟨L⟩ := args
    match L, hs with
    | [w0, w1, w2], _ => exact ⟨w0, w1, w2, rfl⟩
  have hw := fun d (hd : d ∈ tables_1) => atoms_spec (ws := Jvm.Cond.code x code maxLocals ret :: tables_1) hat d (List.mem_cons_of_mem _ hd)
  have hfit : Fit s := fun {y c} hc i hi => by
    obtain ⟨ha, rfl⟩ := Array.getElem?_eq_some_iff.mp hc
    have q := List.all_eq_true.mp ((Array.all_eq_true_iff_forall_mem.mp hF) _ (Array.getElem_mem ha)) i (List.mem_range.mpr hi)
    simpa [Array.getElem?_eq_getElem hi] using q
  obtain ⟨i0, ei0⟩ := is_v g9
  obtain rfl : w0 = (.int i0) := Option.some.inj ei0
  obtain ⟨i1, ei1⟩ := is_v g11
  obtain rfl : w1 = (.int i1) := Option.some.inj ei1
  obtain ⟨i2, ei2⟩ := is_v g12
  obtain rfl : w2 = (.int i2) := Option.some.inj ei2
  obtain ⟨n, o, h1, h2, h3, _, L, rfl, ⟨rfl, N, -⟩, hq⟩ := rm0 l s _ hw tables_1 i0 i1 i2 s.heap s.heap.size (Nat.le_refl _) p e ha hc hk s m _ below hf ((Spec.applies_iff_loose hf).mp happ).1 ⟨rfl, State.Warmed39.refl s, rfl⟩ trivial
  refine ⟨n, _, h1, h2, h3, hpost _ _ _ _ _ _ ⟨Cond.after_iff.mpr rfl, Cond.after_iff.mpr (eq_i res_at (Term.int_eval (1)) rfl), trivial⟩ ⟨hq.1, hq.2.1, (hq.2.2.sift fun y hy => Or.inr (N y hy)).mono (by decide) (by decide)⟩⟩
theorem main_1_1 : Claimed_1_1 := comes_1 fun _ _ _ _ _ _ h hF => ⟨h.1, hF⟩
theorem main_1_2 : Claimed_1_2 := comes_1 fun _ _ _ _ _ _ h hF => ⟨h.2.1, hF⟩
end Jvm.Pilot.@@N@@
namespace Jvm.Pilot.@@N@@
open Jvm Jvm.ClassFile Sem Op Lib Jvm.Free Jvm.Stand Jvm.Pilot.@@N@@.Jvm.D
/-! MADE BY PROGRAM (witnessworld.py) out of the Statement's table words and the real class files: 9 classes; the members and pool entries that the words name. The judged class is class 1, her method 1. -/
namespace start1
open Jvm.ClassFile
def u (s : String) : CpInfo := .utf8 (stringToUtf16 s)
/-- a pool by its gaps: so many unusable entries, then the entry; so many at the end -/
def gap : Nat → List CpInfo → List CpInfo
  | 0, r => r
  | n + 1, r => .unusable :: gap n r
def poolList (es : List (Nat × CpInfo)) (last : Nat) : List CpInfo := es.foldr (fun e r => gap e.1 (e.2 :: r)) (gap last [])
def pool (es : List (Nat × CpInfo)) (last : Nat) : Array CpInfo := ⟨poolList es last⟩
def fileOf (pool : Array CpInfo) (this : Nat) (attrs : Array Attribute := #[]) (ms : Array MethodInfo := #[]) (fl : Nat := 33) (sup : Nat := 0) (ifs : Array Nat := #[]) (fds : Array FieldInfo := #[]) : ClassFile where
  minorVersion := 0
  majorVersion := 65
  constantPool := pool
  accessFlags := fl
  thisClass := this
  superClass := sup
  interfaces := ifs
  fields := fds
  methods := ms
  attributes := attrs
def plain (name : String) (sup : Option ClassId) : Class where
  name := name
  kind := .ordinary
  loader := none
  accessFlags := 33
  super := sup
  interfaces := #[]
  cf := none
  fields := #[]
  methods := #[]
  instanceTypes := #[]
  staticTypes := #[]
  resolved := #[]
  callSites := []
  init := .initialized
  statics := none
  mirror := none

def pool0 : Array CpInfo := pool [(5, u "<init>"), (0, u "()V"), (1, .class_ 10), (1, u "java/lang/Object")] 113

def k0m0 : Method := { name := "<init>", desc := "()V", sig := { parameters := [], returnType := none }, accessFlags := 1, code := none }
/-- java/lang/Object -/
def k0 : Class := { plain "java/lang/Object" none with
  accessFlags := 33
  interfaces := #[]
  cf := some (fileOf pool0 8 #[] #[{ accessFlags := 1, nameIndex := 5, descriptorIndex := 6, attributes := #[] }] 33 0 #[] #[])
  fields := #[]
  methods := #[k0m0]
  instanceTypes := #[]
  staticTypes := #[]
  resolved := Array.replicate 124 none
  statics := none }

def pool1 : Array CpInfo := pool [(2, .class_ 4), (1, u "java/lang/Object"), (0, u "<init>"), (0, u "()V"), (0, .integer 2147483647), (0, .methodref 9 10), (0, .class_ 11), (0, .nameAndType 12 13), (0, u "hubward/rank/StoppingRule"), (0, u "tolerance"), (0, u "(D)D"), (0, .class_ 15), (0, u "hubward/rank/StoppingRuleTolerancePinLaw"), (2, u "law"), (0, u "(III)Z")] 3

def k1m0 : Method := { name := "<init>", desc := "()V", sig := { parameters := [], returnType := none }, accessFlags := 2, code := none }
def k1c1 : Code := { maxStack := 4, maxLocals := 12, code := code, exceptionTable := #[], attributes := #[] }
def k1m1 : Method := { name := "law", desc := "(III)Z", sig := { parameters := [.int, .int, .int], returnType := some .boolean }, accessFlags := 9, code := some k1c1 }
/-- hubward/rank/StoppingRuleTolerancePinLaw -/
def k1 : Class := { plain "hubward/rank/StoppingRuleTolerancePinLaw" (some 0) with
  accessFlags := 49
  interfaces := #[]
  cf := some (fileOf pool1 14 #[] #[{ accessFlags := 2, nameIndex := 5, descriptorIndex := 6, attributes := #[] }, { accessFlags := 9, nameIndex := 18, descriptorIndex := 19, attributes := #[] }] 49 2 #[] #[])
  fields := #[]
  methods := #[k1m0, k1m1]
  instanceTypes := #[]
  staticTypes := #[]
  resolved := Array.replicate 23 none
  statics := none }

def pool2 : Array CpInfo := pool [(2, .class_ 4), (1, u "java/lang/Object"), (0, u "<init>"), (0, u "()V"), (2, .double 9218868437227405312), (13, .class_ 24), (0, u "hubward/rank/StoppingRule"), (2, u "tolerance"), (0, u "(D)D")] 22

def k2m0 : Method := { name := "<init>", desc := "()V", sig := { parameters := [], returnType := none }, accessFlags := 2, code := none }
def k2c1 : Code := { maxStack := 4, maxLocals := 2, code := prog_64_method_2_code, exceptionTable := #[], attributes := #[] }
def k2m1 : Method := { name := "tolerance", desc := "(D)D", sig := { parameters := [.double], returnType := some .double }, accessFlags := 8, code := some k2c1 }
/-- hubward/rank/StoppingRule -/
def k2 : Class := { plain "hubward/rank/StoppingRule" (some 0) with
  accessFlags := 48
  interfaces := #[]
  cf := some (fileOf pool2 23 #[] #[{ accessFlags := 2, nameIndex := 5, descriptorIndex := 6, attributes := #[] }, { accessFlags := 8, nameIndex := 27, descriptorIndex := 28, attributes := #[] }] 48 2 #[] #[])
  fields := #[]
  methods := #[k2m0, k2m1]
  instanceTypes := #[]
  staticTypes := #[]
  resolved := Array.replicate 51 none
  statics := none }

def pool3 : Array CpInfo := pool [(1, u "java/lang/Cloneable"), (0, .class_ 1), (0, u "java/lang/Object"), (0, .class_ 3)] 3

/-- java/lang/Cloneable -/
def k3 : Class := { plain "java/lang/Cloneable" (some 0) with
  accessFlags := 1537
  interfaces := #[]
  cf := some (fileOf pool3 2 #[] #[] 1537 4 #[] #[])
  fields := #[]
  methods := #[]
  instanceTypes := #[]
  staticTypes := #[]
  resolved := Array.replicate 8 none
  statics := none }

def pool4 : Array CpInfo := pool [(1, u "java/io/Serializable"), (0, .class_ 1), (0, u "java/lang/Object"), (0, .class_ 3)] 3

/-- java/io/Serializable -/
def k4 : Class := { plain "java/io/Serializable" (some 0) with
  accessFlags := 1537
  interfaces := #[]
  cf := some (fileOf pool4 2 #[] #[] 1537 4 #[] #[])
  fields := #[]
  methods := #[]
  instanceTypes := #[]
  staticTypes := #[]
  resolved := Array.replicate 8 none
  statics := none }

/-- the primitive byte -/
def k5 : Class := { plain "byte" none with kind := .primitive 'B', accessFlags := 0x411 }
/-- [B -/
def k6 : Class := { plain "[B" (some 0) with kind := .array 5 .byte, interfaces := #[3, 4], accessFlags := 1041 }

/-- the primitive int -/
def k7 : Class := { plain "int" none with kind := .primitive 'I', accessFlags := 0x411 }
/-- [I -/
def k8 : Class := { plain "[I" (some 0) with kind := .array 7 .int, interfaces := #[3, 4], accessFlags := 1041 }

def heap : Heap := #[]
def classes : Array Class := #[k0, k1, k2, k3, k4, k5, k6, k7, k8]
def interned : List (Array UInt16 × Addr) := []
def slotsUsed : Nat := 0
def theMethod : MethodId := ⟨1, 1⟩
def args0 : Array Value := #[.int 5, .int 5, .int 5]
def aboutOver (below : List Frame) : State where
  vm := { classes := classes, interned := interned.toArray }
  heap := heap
  slotsUsed := slotsUsed
  threads := #[{ frames := .invoking theMethod args0 :: below }]
def below0 : List Frame := [.native { method := ⟨0, 0⟩, args := #[] }]
def about1 : State := aboutOver below0
def p0 : Program := .bare "" "" ""
def e0 : Env := launch0.env 0 0 0
theorem w_frames : about1.frames = Frame.invoking theMethod args0 :: below0 := rfl
set_option maxRecDepth 65536 in
theorem w_args : argsFit about1.vm theMethod args0 = true := by decide +kernel
set_option maxRecDepth 65536 in
theorem w_heap : heapFits about1 = true := by decide +kernel
set_option maxRecDepth 65536 in
theorem w_runnable : about1.curStatus? = some .runnable := by decide +kernel
set_option maxRecDepth 65536 in
theorem w_alone : about1.alone = true := by decide +kernel
set_option maxRecDepth 65536 in
theorem w_named : about1.methodNamed? x = some theMethod := by decide +kernel
set_option maxRecDepth 65536 in
theorem w_hears : about1.hears theMethod below0 = true := by decide +kernel
set_option maxRecDepth 65536 in
theorem w_ripe : about1.ripe theMethod args0 below0 = true := by decide +kernel
theorem w_running : about1.status = .running := rfl
set_option maxRecDepth 65536 in
theorem w_room : about1.hasRoom e0.platform room_1 = true :=
  launch0.hasRoom_least _ room_1 (by decide +kernel) (by decide +kernel) (by decide +kernel) (by decide +kernel) (by decide +kernel) (by decide +kernel)
theorem allAtoms_all (ts : List Jvm.Cond) (a : Array Jvm.Value) (st : Jvm.State) : (allAtoms ts).before a st = ts.all (fun c => c.before a st) := by
  induction ts with
  | nil => rfl
  | cons c t ih =>
    show (Jvm.Cond.and c (allAtoms t)).before a st = _
    rw [Jvm.Cond.before_and, ih, List.all_cons]
def words1 : List Jvm.Cond := Jvm.Cond.code x code maxLocals ret :: tables_1
/-- a 'code' word, met by the world's own term for the bytes: nothing is compared byte by byte -/
theorem code_word {y : MethodName} {bytes : ByteArray} {mx : Nat} {rt : Option FieldType} {a : Array Value} {s : State} {m : MethodId} {meth : Method} {c : Code} (h1 : s.methodNamed? y = some m) (h2 : s.vm.method? m = some meth) (h3 : meth.code = some c) (h4 : c.code = bytes)
    (h5 : (c.maxLocals == mx && c.exceptionTable.isEmpty && decide (c.maxStack ≤ mostOperands) && decide (meth.sig.returnType = rt) && !meth.locks && decide (parseMethodDescriptor y.desc = some meth.sig)) = true) : (Jvm.Cond.code y bytes mx rt).before a s = true := by
  simp only [Bool.and_eq_true, beq_iff_eq, Bool.not_eq_true', decide_eq_true_eq] at h5
  obtain ⟨⟨⟨⟨⟨g1, g2⟩, g3⟩, g4⟩, g5⟩, g6⟩ := h5
  simp [Cond.before, Cond.holds, Cond.value, h1, h2, h3, h4, g1, g2, g3, g4, g5, g6]
def isCode : Jvm.Cond → Bool
  | .code _ _ _ _ => true
  | _ => false
theorem all_split {L : List Jvm.Cond} {P : Jvm.Cond → Bool} (h1 : L.all (fun c => isCode c || P c) = true) (h2 : ∀ c ∈ L.filter isCode, P c = true) : L.all P = true := by
  refine List.all_eq_true.mpr fun c hc => ?_
  have h := List.all_eq_true.mp h1 c hc
  rcases Bool.eq_false_or_eq_true (isCode c) with hi | hi
  · exact h2 c (List.mem_filter.mpr ⟨hc, hi⟩)
  · simpa [hi] using h
set_option maxRecDepth 65536 in
theorem w_c0 : (Jvm.Cond.code x code maxLocals ret).before args0 about1 = true := code_word (m := ⟨1, 1⟩) (meth := k1m1) (c := k1c1) (by decide +kernel) rfl rfl rfl (by decide +kernel)
set_option maxRecDepth 65536 in
theorem w_c1 : (Jvm.Cond.code ({ cls := "hubward/rank/StoppingRule", name := "tolerance", desc := "(D)D" } : Jvm.MethodName) prog_64_method_2_code (2 : Nat) (Option.some Jvm.ClassFile.FieldType.double)).before args0 about1 = true := code_word (m := ⟨2, 1⟩) (meth := k2m1) (c := k2c1) (by decide +kernel) rfl rfl rfl (by decide +kernel)
def codes1 : List Jvm.Cond := [Jvm.Cond.code x code maxLocals ret, Jvm.Cond.code ({ cls := "hubward/rank/StoppingRule", name := "tolerance", desc := "(D)D" } : Jvm.MethodName) prog_64_method_2_code (2 : Nat) (Option.some Jvm.ClassFile.FieldType.double)]
set_option maxRecDepth 65536 in
theorem codes_eq : words1.filter isCode = codes1 := rfl
theorem w_codes : ∀ c ∈ words1.filter isCode, c.before args0 about1 = true := by
  rw [codes_eq]
  intro c hc
  simp only [codes1, List.mem_cons, List.not_mem_nil, or_false] at hc
  rcases hc with rfl | rfl
  · exact w_c0
  · exact w_c1
set_option maxRecDepth 65536 in
theorem w_t1 : words1.all (fun c => isCode c || c.before args0 about1) = true := by decide +kernel
theorem w_tables : (allAtoms (Jvm.Cond.code x code maxLocals ret :: tables_1)).before args0 about1 = true := by
  rw [allAtoms_all]
  show words1.all (fun c => c.before args0 about1) = true
  refine all_split ?_ w_codes
  rw [w_t1]
set_option maxRecDepth 65536 in
theorem w_case : (Jvm.Cond.and given_1 narrow_1).before args0 about1 = true := by decide +kernel
theorem w_applies : (headSpec (Jvm.Cond.code x code maxLocals ret :: tables_1) room_1).applies x e0.platform about1 = true :=
  (Spec.applies_iff w_frames).mpr ⟨w_running, w_runnable, w_alone, w_named, w_hears, w_ripe, w_room, w_tables⟩
theorem atStart : AtStart classFile x code maxLocals ret World_1 tables_1 room_1 Calls_1 rest_1 Pre_1 launch0 p0 e0 about1 theMethod args0 below0 :=
  ⟨lists_1, trivial, launch0.admits_env _ _ _, launch0.least_env, fairChoices_fair.cas, fairChoices_fair.clock, w_frames, w_args, w_heap, w_applies, trivial, trivial, w_case⟩
end start1
theorem witness_1 : WitnessClaimed_1 := ⟨start1.p0, start1.e0, start1.about1, start1.theMethod, start1.args0, start1.below0, start1.atStart⟩
end Jvm.Pilot.@@N@@
