import JvmDerived
import JvmDerived.Pilot.@@N@@Statement
import JvmDerived.Pilot.@@N@@Code
set_option linter.unusedVariables false
set_option linter.unusedSimpArgs false
namespace Jvm.RoadKit
open Sem ClassFile Op Lib Jvm.Stand Jvm.Free Jvm.LawKit
section New
variable {p : Program} {l : Launch} {e : Env} {R : Room} {s : State} {m : MethodId} {args : Array Value} {below : List Frame} {meth : Method} {c : Code} {T : State} {locs : List Loc} {cells slots : Nat}
theorem retI (X : Stand p l e R s m args below meth c T locs cells slots) (hx : p.tables.exec = Jvm.exec) {pc : Nat} {Ls : Array Slot} {z : Int32} {rest : List Value} (hret : meth.sig.returnType = some .int) (hd : decode c.code pc = .ok (.ireturn, 1)) {fs : List Frame}
    (hl : ∀ (f : JFrame) (acts : List Action), f.method = m → f.locked = none → f.entered = [] → (doReturn e (T.setTop f) acts (some (.int z))).1 = T.setFrames fs) : Steps p.tables e below (T.setTop (mkF m pc Ls (.int z :: rest))) (T.setFrames fs) := by
  have hm' : T.vm.method? m = some meth := X.method'
  have hn : narrow .int (.int z) = .int z := rfl
  show Steps p.tables e below (T.setTop { method := m, pc := pc, locals := Ls, stack := _ :: rest, locked := none }) _
  jvm_step X.here [X.here.top, hx, hd, hm', hret, hn]
  first | (intro acts; rw [hl _ acts rfl rfl rfl]) | rw [hl _ _ rfl rfl rfl]
  exact Steps.refl _
end New
end Jvm.RoadKit
namespace Jvm.Pilot.@@N@@
open Jvm Jvm.ClassFile Sem Op Lib Jvm.Free Jvm.Stand Jvm.LawKit Jvm.RoadKit Bundle Jvm.Pilot.@@N@@.Jvm.D
theorem own_lt {x y : Int32} {a b : Int} (h : x < y) (hx : x.toInt = a) (hy : y.toInt = b) : a < b := by rw [← hx, ← hy]; exact Int32.lt_iff_toInt_lt.mp h
theorem own_nlt {x y : Int32} {a b : Int} (h : ¬ x < y) (hx : x.toInt = a) (hy : y.toInt = b) : b ≤ a := by rw [← hx, ← hy]; exact Int.not_lt.mp fun q => h (Int32.lt_iff_toInt_lt.mpr q)
theorem own_eq {x y : Int32} {a b : Int} (h : x = y) (hx : x.toInt = a) (hy : y.toInt = b) : a = b := by rw [← hx, ← hy, h]
theorem own_ne {x y : Int32} {a b : Int} (h : ¬ x = y) (hx : x.toInt = a) (hy : y.toInt = b) : a ≠ b := by rw [← hx, ← hy]; exact fun q => h (Int32.toInt_inj.mp q)
def own_sel4 (j e0 e1 e2 e3 : Int32) : Int32 := if j = 0 then e0 else if j = 1 then e1 else if j = 2 then e2 else e3
theorem own_four {j : Int32} (h : ¬ j < 0 ∧ j < (4 : Int32)) : j = 0 ∨ j = 1 ∨ j = 2 ∨ j = 3 := by
  have h1 := own_nlt (b := 0) h.1 rfl rfl
  have h2 := own_lt (b := 4) h.2 rfl rfl
  have e : ∀ (i : Int32) (n : Int), i.toInt = n → j.toInt = n → j = i := fun i n a b => Int32.toInt_inj.mp (b.trans a.symm)
  have h3 : j.toInt = 0 ∨ j.toInt = 1 ∨ j.toInt = 2 ∨ j.toInt = 3 := by omega
  rcases h3 with q | q | q | q
  · exact Or.inl (e 0 0 rfl q)
  · exact Or.inr (Or.inl (e 1 1 rfl q))
  · exact Or.inr (Or.inr (Or.inl (e 2 2 rfl q)))
  · exact Or.inr (Or.inr (Or.inr (e 3 3 rfl q)))
theorem own_at4 {j e0 e1 e2 e3 : Int32} (h : ¬ j < 0 ∧ j < (4 : Int32)) : ([(.int e0), (.int e1), (.int e2), (.int e3)] : List Value).getD j.toNatClampNeg (.int (0 : Int32)) = .int (own_sel4 j e0 e1 e2 e3) := by
  rcases own_four h with rfl | rfl | rfl | rfl <;> rfl
theorem own_and3 (x : Int32) : ¬ (x &&& (3 : Int32)) < 0 ∧ (x &&& (3 : Int32)) < (4 : Int32) := by
  have h1 := c_mask x 3 2 (by decide) rfl
  rw [show (((2 : Nat) ^ 2 : Nat) : Int) = 4 from rfl] at h1
  refine ⟨fun q => ?_, ?_⟩
  · have := own_lt (b := 0) q h1 rfl; omega
  · rw [Int32.lt_iff_toInt_lt, h1, show (4 : Int32).toInt = 4 from rfl]; omega
theorem d2_0 : decode jdk_30_method_1_code 0 = .ok (.aload_n 0, 1) := by decide +kernel
theorem d2_1 : decode jdk_30_method_1_code 1 = .ok (.invokespecial 1, 3) := by decide +kernel
theorem wd_12 {a0 : Array Value} {Z : State} (hw : ∀ d ∈ tables_1, d.before a0 Z = true) : (Jvm.Cond.methodLink "java/lang/Record" (1 : Nat) ({ cls := "java/lang/Object", name := "<init>", desc := "()V" } : Jvm.MethodName)).before a0 Z = true := hw _ (List.mem_of_getElem? (i := 12) rfl)
theorem wd_13 {a0 : Array Value} {Z : State} (hw : ∀ d ∈ tables_1, d.before a0 Z = true) : (Jvm.Cond.instanceMethod ({ cls := "java/lang/Object", name := "<init>", desc := "()V" } : Jvm.MethodName)).before a0 Z = true := hw _ (List.mem_of_getElem? (i := 13) rfl)
theorem wd_14 {a0 : Array Value} {Z : State} (hw : ∀ d ∈ tables_1, d.before a0 Z = true) : (Jvm.Cond.code ({ cls := "java/lang/Object", name := "<init>", desc := "()V" } : Jvm.MethodName) object_method_1_code (1 : Nat) (Option.none : Option Jvm.ClassFile.FieldType)).before a0 Z = true := hw _ (List.mem_of_getElem? (i := 14) rfl)
theorem d2_4 : decode jdk_30_method_1_code 4 = .ok (.return_, 1) := by decide +kernel
theorem ef_2 (m : MethodId) (x0 : Addr) : entryFrame m #[(.ref x0)] 1 = mkF m 0 #[.val (.ref x0)] [] := by first | (simp [entryFrame, mkF, argsToLocals, Value.category]; done) | rfl
theorem pn_java_lang_Record : plainName "java/lang/Record" = true := by first | (simp [plainName, overriddenIn]; done) | decide +kernel
def Q_rm2 (Z : State) (a1 : Addr) (h0 : Heap) (n0 : Nat) (v : Option Value) (h : Heap) (L : List Loc) : Prop := v = none ∧ Fr n0 L ∧ h = h0
set_option maxRecDepth 65536 in
set_option maxHeartbeats 40000000 in
theorem rm2 (l : Launch) (Z : State) (a0 : Array Value) (hw : ∀ d ∈ tables_1, d.before a0 Z = true) (ws : List Jvm.Cond) (a1 : Addr) (h0 : Heap) (n0 : Nat) (Z0 : n0 ≤ h0.size) :
    MetFree l (⟨"java/lang/Record", "<init>", "()V"⟩ : MethodName) (head1 (Jvm.Cond.code (⟨"java/lang/Record", "<init>", "()V"⟩ : MethodName) jdk_30_method_1_code 1 none :: ws) ({ frames := 1, cells := 0, slots := 0, locals := 12 } : Room)) (fun a U => a = #[(.ref a1)] ∧ Z.Warmed39 U.vm ∧ U.heap = h0) (fun _ _ _ _ _ => True) (fun _ U o U' => ∃ v L, o = .returned v ∧ Q_rm2 Z a1 h0 n0 v U'.heap L ∧ FrameEnd U o U' L ({ frames := 1, cells := 0, slots := 0, locals := 12 } : Room).cells ({ frames := 1, cells := 0, slots := 0, locals := 12 } : Room).slots) := by
  refine MetFree.of_bodySF (plainFor_of_name pn_java_lang_Record) hisR ?_
  intro p e s m args below meth c s₁ Bd hml0 hP hK
  obtain ⟨rfl, hZ, hh⟩ := hP
  have hx := Bd.exec
  have hby := Bd.bytes
  have hml : c.maxLocals = 1 := hml0
  have hown : s.vm.findClass "java/lang/Record" = some m.cls := findClass_of_methodNamed Bd.named
  have hnm := (name_of_methodNamed Bd.named Bd.method).1
  have X0 : Stand p l e ({ frames := 1, cells := 0, slots := 0, locals := 12 } : Room) s m #[(.ref a1)] below meth c s₁ [] 0 0 := Stand.of_body Bd
  have e0 : s₁.heap = h0 := by rw [← hh, Bd.state]; rfl
  have N0 := Fr.nil n0
  have pre0 : ∀ t, Steps p.tables e below (s₁.setTop (mkF m 0 #[.val (.ref a1)] [])) t → Steps p.tables e below (s₁.setTop (entryFrame m #[(.ref a1)] 1)) t := fun t k => castTop (ef_2 m a1) k
  obtain ⟨T1, X1, e1, st1⟩ := initO X0 hx hZ hown (wd_12 hw) (wd_13 hw) (wd_14 hw) e0 (g := (mkF m 1 #[.val (.ref a1)] [(.ref a1)])) rfl (by rw [hml]; rfl) rfl (hb hby d2_1) (by decide) (W := 0) (by show 2 * 0 + _ ≤ _; exact Nat.le_of_eq rfl) (by decide)
  obtain ⟨fs, hr, hrun, hended, hW, hsame⟩ := X1.leave (v := none) (fun _ => rfl)
  refine ⟨_, _, pre0 _ ?_, hrun, hended, _, _, rfl, ?_, ⟨_, rfl⟩, hW, hsame.mono (by decide) (by decide)⟩
  · show Steps p.tables e below (s₁.setTop (mkF m 0 #[.val (.ref a1)] [])) _
    refine XS.aloadN X0.here hx rfl (hb hby d2_0) rfl rfl ?_
    refine st1 _ ?_
    exact X1.returnOut hx Bd.returns (hb hby d2_4) hr
  · show Q_rm2 Z a1 h0 n0 _ T1.heap _
    rw [e1]
    exact ⟨rfl, N0, rfl⟩
theorem d1_0 : decode prog_64_method_1_code 0 = .ok (.aload_n 0, 1) := by decide +kernel
theorem d1_1 : decode prog_64_method_1_code 1 = .ok (.invokespecial 1, 3) := by decide +kernel
theorem wd_7 {a0 : Array Value} {Z : State} (hw : ∀ d ∈ tables_1, d.before a0 Z = true) : (Jvm.Cond.methodLink "com/example/counterlens/counterlens/Rules$Forbidden" (1 : Nat) ({ cls := "java/lang/Record", name := "<init>", desc := "()V" } : Jvm.MethodName)).before a0 Z = true := hw _ (List.mem_of_getElem? (i := 7) rfl)
theorem wd_11 {a0 : Array Value} {Z : State} (hw : ∀ d ∈ tables_1, d.before a0 Z = true) : (Jvm.Cond.code ({ cls := "java/lang/Record", name := "<init>", desc := "()V" } : Jvm.MethodName) jdk_30_method_1_code (1 : Nat) (Option.none : Option Jvm.ClassFile.FieldType)).before a0 Z = true := hw _ (List.mem_of_getElem? (i := 11) rfl)
theorem wd_10 {a0 : Array Value} {Z : State} (hw : ∀ d ∈ tables_1, d.before a0 Z = true) : (Jvm.Cond.initialized "java/lang/Record").before a0 Z = true := hw _ (List.mem_of_getElem? (i := 10) rfl)
theorem pd___V : parseMethodDescriptor "()V" = some ⟨[], none⟩ := by decide +kernel
theorem wd_8 {a0 : Array Value} {Z : State} (hw : ∀ d ∈ tables_1, d.before a0 Z = true) : (Jvm.Cond.instanceMethod ({ cls := "java/lang/Record", name := "<init>", desc := "()V" } : Jvm.MethodName)).before a0 Z = true := hw _ (List.mem_of_getElem? (i := 8) rfl)
theorem d1_4 : decode prog_64_method_1_code 4 = .ok (.aload_n 0, 1) := by decide +kernel
theorem d1_5 : decode prog_64_method_1_code 5 = .ok (.aload_n 1, 1) := by decide +kernel
theorem d1_6 : decode prog_64_method_1_code 6 = .ok (.putfield 7, 3) := by decide +kernel
theorem wd_15 {a0 : Array Value} {Z : State} (hw : ∀ d ∈ tables_1, d.before a0 Z = true) : (Jvm.Cond.fieldLink "com/example/counterlens/counterlens/Rules$Forbidden" (7 : Nat) "com/example/counterlens/counterlens/Rules$Forbidden" "features" "[I").before a0 Z = true := hw _ (List.mem_of_getElem? (i := 15) rfl)
theorem wd_16 {a0 : Array Value} {Z : State} (hw : ∀ d ∈ tables_1, d.before a0 Z = true) : (Jvm.Cond.laysFinal "com/example/counterlens/counterlens/Rules$Forbidden" "com/example/counterlens/counterlens/Rules$Forbidden" "features" "[I").before a0 Z = true := hw _ (List.mem_of_getElem? (i := 16) rfl)
theorem wd_2 {a0 : Array Value} {Z : State} (hw : ∀ d ∈ tables_1, d.before a0 Z = true) : (Jvm.Cond.instantiable "com/example/counterlens/counterlens/Rules$Forbidden" (2 : Nat)).before a0 Z = true := hw _ (List.mem_of_getElem? (i := 2) rfl)
theorem d1_9 : decode prog_64_method_1_code 9 = .ok (.aload_n 0, 1) := by decide +kernel
theorem d1_10 : decode prog_64_method_1_code 10 = .ok (.aload_n 2, 1) := by decide +kernel
theorem d1_11 : decode prog_64_method_1_code 11 = .ok (.putfield 13, 3) := by decide +kernel
theorem wd_17 {a0 : Array Value} {Z : State} (hw : ∀ d ∈ tables_1, d.before a0 Z = true) : (Jvm.Cond.fieldLink "com/example/counterlens/counterlens/Rules$Forbidden" (13 : Nat) "com/example/counterlens/counterlens/Rules$Forbidden" "values" "[I").before a0 Z = true := hw _ (List.mem_of_getElem? (i := 17) rfl)
theorem wd_18 {a0 : Array Value} {Z : State} (hw : ∀ d ∈ tables_1, d.before a0 Z = true) : (Jvm.Cond.laysFinal "com/example/counterlens/counterlens/Rules$Forbidden" "com/example/counterlens/counterlens/Rules$Forbidden" "values" "[I").before a0 Z = true := hw _ (List.mem_of_getElem? (i := 18) rfl)
theorem d1_14 : decode prog_64_method_1_code 14 = .ok (.return_, 1) := by decide +kernel
theorem ef_1 (m : MethodId) (x0 : Addr) (x1 : Addr) (x2 : Addr) : entryFrame m #[(.ref x0), (.ref x1), (.ref x2)] 3 = mkF m 0 #[.val (.ref x0), .val (.ref x1), .val (.ref x2)] [] := by first | (simp [entryFrame, mkF, argsToLocals, Value.category]; done) | rfl
theorem pn_com_example_counterlens_counterlens_Rules_Forbidden : plainName "com/example/counterlens/counterlens/Rules$Forbidden" = true := by first | (simp [plainName, overriddenIn]; done) | decide +kernel
def Q_rm1 (Z : State) (a1 : Addr) (a2 : Addr) (a3 : Addr) (u1 : Value) (u2 : Value) (h0 : Heap) (n0 : Nat) (v : Option Value) (h : Heap) (L : List Loc) : Prop := v = none ∧ Fr n0 L ∧ Keep h0 h [a1] ∧ (Exa Z h a1 "com/example/counterlens/counterlens/Rules$Forbidden") ∧ (Fld Z h a1 "com/example/counterlens/counterlens/Rules$Forbidden" "features" "[I" (.ref a2)) ∧ (Fld Z h a1 "com/example/counterlens/counterlens/Rules$Forbidden" "values" "[I" (.ref a3))
set_option maxRecDepth 65536 in
set_option maxHeartbeats 40000000 in
theorem rm1 (l : Launch) (Z : State) (a0 : Array Value) (hw : ∀ d ∈ tables_1, d.before a0 Z = true) (ws : List Jvm.Cond) (a1 : Addr) (a2 : Addr) (a3 : Addr) (u1 : Value) (u2 : Value) (h0 : Heap) (n0 : Nat) (Z0 : n0 ≤ h0.size) (F_features_a1 : Fld Z h0 a1 "com/example/counterlens/counterlens/Rules$Forbidden" "features" "[I" u1) (F_values_a1 : Fld Z h0 a1 "com/example/counterlens/counterlens/Rules$Forbidden" "values" "[I" u2) (E_a1 : Exa Z h0 a1 "com/example/counterlens/counterlens/Rules$Forbidden") (g_a1 : n0 ≤ a1) :
    MetFree l (⟨"com/example/counterlens/counterlens/Rules$Forbidden", "<init>", "([I[I)V"⟩ : MethodName) (head1 (Jvm.Cond.code (⟨"com/example/counterlens/counterlens/Rules$Forbidden", "<init>", "([I[I)V"⟩ : MethodName) prog_64_method_1_code 3 none :: ws) ({ frames := 2, cells := 0, slots := 0, locals := 24 } : Room)) (fun a U => a = #[(.ref a1), (.ref a2), (.ref a3)] ∧ Z.Warmed39 U.vm ∧ U.heap = h0) (fun _ _ _ _ _ => True) (fun _ U o U' => ∃ v L, o = .returned v ∧ Q_rm1 Z a1 a2 a3 u1 u2 h0 n0 v U'.heap L ∧ FrameEnd U o U' L ({ frames := 2, cells := 0, slots := 0, locals := 24 } : Room).cells ({ frames := 2, cells := 0, slots := 0, locals := 24 } : Room).slots) := by
  refine MetFree.of_bodySF (plainFor_of_name pn_com_example_counterlens_counterlens_Rules_Forbidden) hisR ?_
  intro p e s m args below meth c s₁ Bd hml0 hP hK
  obtain ⟨rfl, hZ, hh⟩ := hP
  have hx := Bd.exec
  have hby := Bd.bytes
  have hml : c.maxLocals = 3 := hml0
  have hown : s.vm.findClass "com/example/counterlens/counterlens/Rules$Forbidden" = some m.cls := findClass_of_methodNamed Bd.named
  have hnm := (name_of_methodNamed Bd.named Bd.method).1
  have X0 : Stand p l e ({ frames := 2, cells := 0, slots := 0, locals := 24 } : Room) s m #[(.ref a1), (.ref a2), (.ref a3)] below meth c s₁ [] 0 0 := Stand.of_body Bd
  have e0 : s₁.heap = h0 := by rw [← hh, Bd.state]; rfl
  have N0 := Fr.nil n0
  have pre0 : ∀ t, Steps p.tables e below (s₁.setTop (mkF m 0 #[.val (.ref a1), .val (.ref a2), .val (.ref a3)] [])) t → Steps p.tables e below (s₁.setTop (entryFrame m #[(.ref a1), (.ref a2), (.ref a3)] 3)) t := fun t k => castTop (ef_1 m a1 a2 a3) k
  obtain ⟨_, _, ⟨T2, L2, k2, n2⟩, -, X2, ⟨Lc2, hQ2, l2, y2, z2⟩, st2⟩ := X0.specialBack hx (y := (⟨"java/lang/Record", "<init>", "()V"⟩ : MethodName)) rfl hown (mvT hZ (wd_7 hw)) (mvT hZ (wd_8 hw)) (mvT hZ (wd_11 hw)) (by decide) (backOf (W := 0) (rm2 l Z a0 hw [] a1 h0 n0 Z0) hZ (wd_11 hw) (wd_10 hw) (by decide) (by decide)) (g := (mkF m 1 #[.val (.ref a1), .val (.ref a2), .val (.ref a3)] [(.ref a1)])) rfl (by rw [hml]; rfl) (Steps.refl _) (a := a1) (argsL := []) (rest := []) (lenOf pd___V rfl) rfl (by show 2 * 0 + _ ≤ _; exact Nat.le_of_eq rfl) (hb hby d1_1) (fun _ _ => ⟨rfl, e0, (by decide : 0 + 0 ≤ _), (by decide : 0 + 0 ≤ _)⟩)
  dsimp only [Pt.U, Pt.locs, Pt.cells, Pt.slots] at X2 l2 y2 z2 st2 hQ2
  subst l2 y2 z2
  obtain ⟨rfl, N2q, e2⟩ := hQ2
  have N2 := Fr.app N0 N2q
  obtain ⟨T3, h3, X3, e3, W3, st3⟩ := putF X2 hx hZ hown (host := "") (Or.inl (wd_15 hw)) Via.refl e2 F_features_a1 E_a1 (Or.inr ⟨(wd_16 hw), rfl, hnm⟩) (wd_2 hw) (ty := (.array .int)) (by decide) rfl rfl (g := (mkF m 6 #[.val (.ref a1), .val (.ref a2), .val (.ref a3)] [(.ref a2), (.ref a1)])) rfl rfl (hb hby d1_6)
  have Fw3 := F_features_a1.same W3
  have Z4 : n0 ≤ h3.size := Nat.le_trans Z0 (Keep.of_wr W3).1
  have K5 : Keep h0 h3 [a1] := Keep.wr (Keep.refl h0 [a1]) W3 (Or.inl (List.mem_of_getElem? (i := 0) rfl))
  have N3 := Fr.snoc X3 N2 g_a1
  obtain ⟨T6, h6, X6, e6, W6, st6⟩ := putF X3 hx hZ hown (host := "") (Or.inl (wd_17 hw)) Via.refl e3 (F_values_a1.other W3 (Or.inr (slot_ne (Or.inr (wd_18 hw)) (Or.inr (wd_16 hw)) (by decide) (t := (.array .int)) (t' := (.array .int)) (by decide) (by decide)))) (E_a1.wr W3) (Or.inr ⟨(wd_18 hw), rfl, hnm⟩) (wd_2 hw) (ty := (.array .int)) (by decide) rfl rfl (g := (mkF m 11 #[.val (.ref a1), .val (.ref a2), .val (.ref a3)] [(.ref a3), (.ref a1)])) rfl rfl (hb hby d1_11)
  have Fw6 := (F_values_a1.other W3 (Or.inr (slot_ne (Or.inr (wd_18 hw)) (Or.inr (wd_16 hw)) (by decide) (t := (.array .int)) (t' := (.array .int)) (by decide) (by decide)))).same W6
  have Z7 : n0 ≤ h6.size := Nat.le_trans Z4 (Keep.of_wr W6).1
  have K8 : Keep h0 h6 [a1] := Keep.wr K5 W6 (Or.inl (List.mem_of_getElem? (i := 0) rfl))
  have N6 := Fr.snoc X6 N3 g_a1
  obtain ⟨fs, hr, hrun, hended, hW, hsame⟩ := X6.leave (v := none) (fun _ => rfl)
  refine ⟨_, _, pre0 _ ?_, hrun, hended, _, _, rfl, ?_, ⟨_, rfl⟩, hW, hsame.mono (by decide) (by decide)⟩
  · show Steps p.tables e below (s₁.setTop (mkF m 0 #[.val (.ref a1), .val (.ref a2), .val (.ref a3)] [])) _
    refine XS.aloadN X0.here hx rfl (hb hby d1_0) rfl rfl ?_
    refine st2.trans ?_
    refine XS.aloadN X2.here hx rfl (hb hby d1_4) rfl rfl ?_
    refine XS.aloadN X2.here hx rfl (hb hby d1_5) rfl rfl ?_
    show Steps p.tables e below (T2.setTop (mkF m 6 #[.val (.ref a1), .val (.ref a2), .val (.ref a3)] [(.ref a2), (.ref a1)])) _
    refine st3 _ ?_
    refine XS.aloadN X3.here hx rfl (hb hby d1_9) rfl rfl ?_
    refine XS.aloadN X3.here hx rfl (hb hby d1_10) rfl rfl ?_
    refine st6 _ ?_
    show Steps p.tables e below (T6.setTop (mkF m 14 #[.val (.ref a1), .val (.ref a2), .val (.ref a3)] [])) _
    exact X6.returnOut hx Bd.returns (hb hby d1_14) hr
  · show Q_rm1 Z a1 a2 a3 u1 u2 h0 n0 _ T6.heap _
    rw [e6]
    exact ⟨rfl, N6, K8, ((E_a1.wr W3).wr W6), (Fw3.other W6 (Or.inr (slot_ne (Or.inr (wd_16 hw)) (Or.inr (wd_18 hw)) (by decide) (t := (.array .int)) (t' := (.array .int)) (by decide) (by decide)))), Fw6⟩
theorem d4_0 : decode prog_64_method_2_code 0 = .ok (.iconst 0, 1) := by decide +kernel
theorem d4_1 : decode prog_64_method_2_code 1 = .ok (.istore_n 2, 1) := by decide +kernel
theorem d4_2 : decode prog_64_method_2_code 2 = .ok (.iload_n 2, 1) := by decide +kernel
theorem d4_3 : decode prog_64_method_2_code 3 = .ok (.aload_n 0, 1) := by decide +kernel
theorem d4_4 : decode prog_64_method_2_code 4 = .ok (.getfield 7, 3) := by decide +kernel
theorem d4_7 : decode prog_64_method_2_code 7 = .ok (.arraylength, 1) := by decide +kernel
theorem d4_8 : decode prog_64_method_2_code 8 = .ok (.if_icmp .ge 28, 3) := by decide +kernel
theorem d4_36 : decode prog_64_method_2_code 36 = .ok (.iconst 1, 1) := by decide +kernel
theorem d4_37 : decode prog_64_method_2_code 37 = .ok (.ireturn, 1) := by decide +kernel
theorem ef_4 (m : MethodId) (x0 : Addr) (x1 : Addr) : entryFrame m #[(.ref x0), (.ref x1)] 3 = mkF m 0 #[.val (.ref x0), .val (.ref x1), .unset] [] := by first | (simp [entryFrame, mkF, argsToLocals, Value.category]; done) | rfl
def Q_rmm0 (Z : State) (a1 : Addr) (a2 : Addr) (fa : Addr) (va : Addr) (kf : ClassId) (kv : ClassId) (ke : ClassId) (ea : Int32) (eb : Int32) (ec : Int32) (ed : Int32) (h0 : Heap) (n0 : Nat) (v : Option Value) (h : Heap) (L : List Loc) : Prop := v = some (.int (1 : Int32)) ∧ Fr n0 L ∧ h = h0
set_option maxRecDepth 65536 in
set_option maxHeartbeats 40000000 in
theorem rmm0 (l : Launch) (Z : State) (a0 : Array Value) (hw : ∀ d ∈ tables_1, d.before a0 Z = true) (ws : List Jvm.Cond) (a1 : Addr) (a2 : Addr) (fa : Addr) (va : Addr) (kf : ClassId) (kv : ClassId) (ke : ClassId) (ea : Int32) (eb : Int32) (ec : Int32) (ed : Int32) (h0 : Heap) (n0 : Nat) (Z0 : n0 ≤ h0.size) (F_features_a1 : Fld Z h0 a1 "com/example/counterlens/counterlens/Rules$Forbidden" "features" "[I" (.ref fa)) (F_values_a1 : Fld Z h0 a1 "com/example/counterlens/counterlens/Rules$Forbidden" "values" "[I" (.ref va)) (V_fa : Arv Z h0 fa kf .int (0 : Int32) [] (.int (0 : Int32))) (V_va : Arv Z h0 va kv .int (0 : Int32) [] (.int (0 : Int32))) (V_a2 : Arv Z h0 a2 ke .int (4 : Int32) [(.int ea), (.int eb), (.int ec), (.int ed)] (.int (0 : Int32))) :
    MetFree l (⟨"com/example/counterlens/counterlens/Rules$Forbidden", "matches", "([I)Z"⟩ : MethodName) (head1 (Jvm.Cond.code (⟨"com/example/counterlens/counterlens/Rules$Forbidden", "matches", "([I)Z"⟩ : MethodName) prog_64_method_2_code 3 (some .boolean) :: ws) ({ frames := 0, cells := 0, slots := 0, locals := 0 } : Room)) (fun a U => a = #[(.ref a1), (.ref a2)] ∧ Z.Warmed39 U.vm ∧ U.heap = h0) (fun _ _ _ _ _ => True) (fun _ U o U' => ∃ v L, o = .returned v ∧ Q_rmm0 Z a1 a2 fa va kf kv ke ea eb ec ed h0 n0 v U'.heap L ∧ FrameEnd U o U' L ({ frames := 0, cells := 0, slots := 0, locals := 0 } : Room).cells ({ frames := 0, cells := 0, slots := 0, locals := 0 } : Room).slots) := by
  refine MetFree.of_bodySF (plainFor_of_name pn_com_example_counterlens_counterlens_Rules_Forbidden) hisR ?_
  intro p e s m args below meth c s₁ Bd hml0 hP hK
  obtain ⟨rfl, hZ, hh⟩ := hP
  have hx := Bd.exec
  have hby := Bd.bytes
  have hml : c.maxLocals = 3 := hml0
  have hown : s.vm.findClass "com/example/counterlens/counterlens/Rules$Forbidden" = some m.cls := findClass_of_methodNamed Bd.named
  have hnm := (name_of_methodNamed Bd.named Bd.method).1
  have X0 : Stand p l e ({ frames := 0, cells := 0, slots := 0, locals := 0 } : Room) s m #[(.ref a1), (.ref a2)] below meth c s₁ [] 0 0 := Stand.of_body Bd
  have e0 : s₁.heap = h0 := by rw [← hh, Bd.state]; rfl
  have N0 := Fr.nil n0
  have pre0 : ∀ t, Steps p.tables e below (s₁.setTop (mkF m 0 #[.val (.ref a1), .val (.ref a2), .unset] [])) t → Steps p.tables e below (s₁.setTop (entryFrame m #[(.ref a1), (.ref a2)] 3)) t := fun t k => castTop (ef_4 m a1 a2) k
  obtain ⟨T9, X9, e9, st9⟩ := getF X0 hx hZ hown (host := "") (Or.inl (wd_15 hw)) Via.refl e0 F_features_a1 (g := (mkF m 4 #[.val (.ref a1), .val (.ref a2), .val (.int (0 : Int32))] [(.ref a1), (.int (0 : Int32))])) rfl rfl (hb hby d4_4)
  obtain ⟨cl10, Ar10, q10, S10, N10n, H10, G10⟩ := id (V_fa)
  obtain ⟨fs, hr, hrun, hended, hW, hsame⟩ := X9.leave (v := some (.int (1 : Int32))) (fun h => by rw [Bd.returns] at h; cases h)
  refine ⟨_, _, pre0 _ ?_, hrun, hended, _, _, rfl, ?_, ⟨_, rfl⟩, hW, hsame.mono (by decide) (by decide)⟩
  · show Steps p.tables e below (s₁.setTop (mkF m 0 #[.val (.ref a1), .val (.ref a2), .unset] [])) _
    refine XS.iconst X0.here hx rfl (hb hby d4_0) ?_
    refine XS.istoreN X0.here hx rfl (hb hby d4_1) rfl (l' := #[.val (.ref a1), .val (.ref a2), .val (.int (0 : Int32))]) rfl ?_
    refine XS.iloadN X0.here hx rfl (hb hby d4_2) rfl ?_
    refine XS.aloadN X0.here hx rfl (hb hby d4_3) rfl rfl ?_
    show Steps p.tables e below (s₁.setTop (mkF m 4 #[.val (.ref a1), .val (.ref a2), .val (.int (0 : Int32))] [(.ref a1), (.int (0 : Int32))])) _
    refine st9 _ ?_
    refine X9.arraylength hx (by rw [e9]; exact Ar10.1) (State.isArrayOf_alike hZ.alike Ar10.2.1) (g := (mkF m 7 #[.val (.ref a1), .val (.ref a2), .val (.int (0 : Int32))] [(.ref fa), (.int (0 : Int32))])) rfl rfl (hb hby d4_7) _ ?_
    rw [len_of S10 N10n]
    refine XS.icmpYes X9.here hx rfl (pc0 := 8) (pc' := 36) rfl (hb hby d4_8) rfl (flt (by decide)).2.1 (by decide) (by decide) ?_
    refine XS.iconst X9.here hx rfl (hb hby d4_36) ?_
    show Steps p.tables e below (T9.setTop (mkF m 37 #[.val (.ref a1), .val (.ref a2), .val (.int (0 : Int32))] [(.int (1 : Int32))])) _
    exact retN X9 hx (t := .boolean) Bd.returns (by simp) (hb hby d4_37) hr
  · show Q_rmm0 Z a1 a2 fa va kf kv ke ea eb ec ed h0 n0 _ T9.heap _
    rw [e9]
    exact ⟨rfl, N0, rfl⟩
theorem d4_11 : decode prog_64_method_2_code 11 = .ok (.aload_n 1, 1) := by decide +kernel
theorem d4_12 : decode prog_64_method_2_code 12 = .ok (.aload_n 0, 1) := by decide +kernel
theorem d4_13 : decode prog_64_method_2_code 13 = .ok (.getfield 7, 3) := by decide +kernel
theorem d4_16 : decode prog_64_method_2_code 16 = .ok (.iload_n 2, 1) := by decide +kernel
theorem d4_17 : decode prog_64_method_2_code 17 = .ok (.iaload, 1) := by decide +kernel
theorem d4_18 : decode prog_64_method_2_code 18 = .ok (.iaload, 1) := by decide +kernel
theorem d4_19 : decode prog_64_method_2_code 19 = .ok (.aload_n 0, 1) := by decide +kernel
theorem d4_20 : decode prog_64_method_2_code 20 = .ok (.getfield 13, 3) := by decide +kernel
theorem d4_23 : decode prog_64_method_2_code 23 = .ok (.iload_n 2, 1) := by decide +kernel
theorem d4_24 : decode prog_64_method_2_code 24 = .ok (.iaload, 1) := by decide +kernel
theorem d4_25 : decode prog_64_method_2_code 25 = .ok (.if_icmp .eq 5, 3) := by decide +kernel
theorem d4_30 : decode prog_64_method_2_code 30 = .ok (.iinc 2 1, 3) := by decide +kernel
theorem d4_33 : decode prog_64_method_2_code 33 = .ok (.goto (-31), 3) := by decide +kernel
theorem d4_28 : decode prog_64_method_2_code 28 = .ok (.iconst 0, 1) := by decide +kernel
theorem d4_29 : decode prog_64_method_2_code 29 = .ok (.ireturn, 1) := by decide +kernel
def Q_rmm1 (Z : State) (a1 : Addr) (a2 : Addr) (fa : Addr) (va : Addr) (kf : ClassId) (kv : ClassId) (ke : ClassId) (f0 : Int32) (v0 : Int32) (ea : Int32) (eb : Int32) (ec : Int32) (ed : Int32) (h0 : Heap) (n0 : Nat) (v : Option Value) (h : Heap) (L : List Loc) : Prop := v = some (.int (if (own_sel4 f0 ea eb ec ed) = v0 then (1 : Int32) else (0 : Int32))) ∧ Fr n0 L ∧ h = h0
set_option maxRecDepth 65536 in
set_option maxHeartbeats 40000000 in
theorem rmm1 (l : Launch) (Z : State) (a0 : Array Value) (hw : ∀ d ∈ tables_1, d.before a0 Z = true) (ws : List Jvm.Cond) (a1 : Addr) (a2 : Addr) (fa : Addr) (va : Addr) (kf : ClassId) (kv : ClassId) (ke : ClassId) (f0 : Int32) (v0 : Int32) (ea : Int32) (eb : Int32) (ec : Int32) (ed : Int32) (h0 : Heap) (n0 : Nat) (Z0 : n0 ≤ h0.size) (F_features_a1 : Fld Z h0 a1 "com/example/counterlens/counterlens/Rules$Forbidden" "features" "[I" (.ref fa)) (F_values_a1 : Fld Z h0 a1 "com/example/counterlens/counterlens/Rules$Forbidden" "values" "[I" (.ref va)) (V_fa : Arv Z h0 fa kf .int (1 : Int32) [(.int f0)] (.int (0 : Int32))) (V_va : Arv Z h0 va kv .int (1 : Int32) [(.int v0)] (.int (0 : Int32))) (V_a2 : Arv Z h0 a2 ke .int (4 : Int32) [(.int ea), (.int eb), (.int ec), (.int ed)] (.int (0 : Int32))) (hb_f0 : ¬ f0 < 0 ∧ f0 < (4 : Int32)) :
    MetFree l (⟨"com/example/counterlens/counterlens/Rules$Forbidden", "matches", "([I)Z"⟩ : MethodName) (head1 (Jvm.Cond.code (⟨"com/example/counterlens/counterlens/Rules$Forbidden", "matches", "([I)Z"⟩ : MethodName) prog_64_method_2_code 3 (some .boolean) :: ws) ({ frames := 0, cells := 0, slots := 0, locals := 0 } : Room)) (fun a U => a = #[(.ref a1), (.ref a2)] ∧ Z.Warmed39 U.vm ∧ U.heap = h0) (fun _ _ _ _ _ => True) (fun _ U o U' => ∃ v L, o = .returned v ∧ Q_rmm1 Z a1 a2 fa va kf kv ke f0 v0 ea eb ec ed h0 n0 v U'.heap L ∧ FrameEnd U o U' L ({ frames := 0, cells := 0, slots := 0, locals := 0 } : Room).cells ({ frames := 0, cells := 0, slots := 0, locals := 0 } : Room).slots) := by
  refine MetFree.of_bodySF (plainFor_of_name pn_com_example_counterlens_counterlens_Rules_Forbidden) hisR ?_
  intro p e s m args below meth c s₁ Bd hml0 hP hK
  obtain ⟨rfl, hZ, hh⟩ := hP
  have hx := Bd.exec
  have hby := Bd.bytes
  have hml : c.maxLocals = 3 := hml0
  have hown : s.vm.findClass "com/example/counterlens/counterlens/Rules$Forbidden" = some m.cls := findClass_of_methodNamed Bd.named
  have hnm := (name_of_methodNamed Bd.named Bd.method).1
  have X0 : Stand p l e ({ frames := 0, cells := 0, slots := 0, locals := 0 } : Room) s m #[(.ref a1), (.ref a2)] below meth c s₁ [] 0 0 := Stand.of_body Bd
  have e0 : s₁.heap = h0 := by rw [← hh, Bd.state]; rfl
  have N0 := Fr.nil n0
  have pre0 : ∀ t, Steps p.tables e below (s₁.setTop (mkF m 0 #[.val (.ref a1), .val (.ref a2), .unset] [])) t → Steps p.tables e below (s₁.setTop (entryFrame m #[(.ref a1), (.ref a2)] 3)) t := fun t k => castTop (ef_4 m a1 a2) k
  obtain ⟨T11, X11, e11, st11⟩ := getF X0 hx hZ hown (host := "") (Or.inl (wd_15 hw)) Via.refl e0 F_features_a1 (g := (mkF m 4 #[.val (.ref a1), .val (.ref a2), .val (.int (0 : Int32))] [(.ref a1), (.int (0 : Int32))])) rfl rfl (hb hby d4_4)
  obtain ⟨cl12, Ar12, q12, S12, N12n, H12, G12⟩ := id (V_fa)
  obtain ⟨T13, X13, e13, st13⟩ := getF X11 hx hZ hown (host := "") (Or.inl (wd_15 hw)) Via.refl e11 F_features_a1 (g := (mkF m 13 #[.val (.ref a1), .val (.ref a2), .val (.int (0 : Int32))] [(.ref a1), (.ref a2)])) rfl rfl (hb hby d4_13)
  obtain ⟨cl14, Ar14, q14, S14, N14n, H14, G14⟩ := id (V_fa)
  have hin14 : ¬ ((0 : Int32) < 0 ∨ cl14.slots.size ≤ ((0 : Int32)).toNatClampNeg) := inb_of S14 ⟨by decide, by decide⟩
  have hat14 : cl14.slots[((0 : Int32)).toNatClampNeg]? = some (.int f0) := H14.at hin14 rfl
  obtain ⟨cl15, Ar15, q15, S15, N15n, H15, G15⟩ := id (V_a2)
  have hin15 : ¬ (f0 < 0 ∨ cl15.slots.size ≤ (f0).toNatClampNeg) := inb_of S15 hb_f0
  have hat15 : cl15.slots[(f0).toNatClampNeg]? = some (.int (own_sel4 f0 ea eb ec ed)) := H15.at hin15 (own_at4 hb_f0)
  obtain ⟨T16, X16, e16, st16⟩ := getF X13 hx hZ hown (host := "") (Or.inl (wd_17 hw)) Via.refl e13 F_values_a1 (g := (mkF m 20 #[.val (.ref a1), .val (.ref a2), .val (.int (0 : Int32))] [(.ref a1), (.int (own_sel4 f0 ea eb ec ed))])) rfl rfl (hb hby d4_20)
  obtain ⟨cl17, Ar17, q17, S17, N17n, H17, G17⟩ := id (V_va)
  have hin17 : ¬ ((0 : Int32) < 0 ∨ cl17.slots.size ≤ ((0 : Int32)).toNatClampNeg) := inb_of S17 ⟨by decide, by decide⟩
  have hat17 : cl17.slots[((0 : Int32)).toNatClampNeg]? = some (.int v0) := H17.at hin17 rfl
  have pre19 : ∀ t, Steps p.tables e below (T16.setTop (mkF m 25 #[.val (.ref a1), .val (.ref a2), .val (.int (0 : Int32))] [(.int v0), (.int (own_sel4 f0 ea eb ec ed))])) t → Steps p.tables e below (s₁.setTop (entryFrame m #[(.ref a1), (.ref a2)] 3)) t := by
    intro t kt
    refine pre0 _ ?_
    show Steps p.tables e below (s₁.setTop (mkF m 0 #[.val (.ref a1), .val (.ref a2), .unset] [])) _
    refine XS.iconst X0.here hx rfl (hb hby d4_0) ?_
    refine XS.istoreN X0.here hx rfl (hb hby d4_1) rfl (l' := #[.val (.ref a1), .val (.ref a2), .val (.int (0 : Int32))]) rfl ?_
    refine XS.iloadN X0.here hx rfl (hb hby d4_2) rfl ?_
    refine XS.aloadN X0.here hx rfl (hb hby d4_3) rfl rfl ?_
    show Steps p.tables e below (s₁.setTop (mkF m 4 #[.val (.ref a1), .val (.ref a2), .val (.int (0 : Int32))] [(.ref a1), (.int (0 : Int32))])) _
    refine st11 _ ?_
    refine X11.arraylength hx (by rw [e11]; exact Ar12.1) (State.isArrayOf_alike hZ.alike Ar12.2.1) (g := (mkF m 7 #[.val (.ref a1), .val (.ref a2), .val (.int (0 : Int32))] [(.ref fa), (.int (0 : Int32))])) rfl rfl (hb hby d4_7) _ ?_
    rw [len_of S12 N12n]
    refine XS.icmpNo X11.here hx rfl (hb hby d4_8) rfl (tlt (by decide)).2.1 ?_
    refine XS.aloadN X11.here hx rfl (hb hby d4_11) rfl rfl ?_
    show Steps p.tables e below (T11.setTop (mkF m 12 #[.val (.ref a1), .val (.ref a2), .val (.int (0 : Int32))] [(.ref a2)])) _
    refine XS.aloadN X11.here hx rfl (hb hby d4_12) rfl rfl ?_
    refine st13 _ ?_
    refine XS.iloadN X13.here hx rfl (hb hby d4_16) rfl ?_
    refine X13.iaload hx (j := (0 : Int32)) (v := (.int f0)) (by rw [e13]; exact Ar14.1) (State.isArrayOf_alike hZ.alike Ar14.2.1) Ar14.2.2 hin14 hat14 (g := (mkF m 17 #[.val (.ref a1), .val (.ref a2), .val (.int (0 : Int32))] [(.int (0 : Int32)), (.ref fa), (.ref a2)])) rfl rfl (hb hby d4_17) _ ?_
    show Steps p.tables e below (T13.setTop (mkF m 18 #[.val (.ref a1), .val (.ref a2), .val (.int (0 : Int32))] [(.int f0), (.ref a2)])) _
    refine X13.iaload hx (j := f0) (v := (.int (own_sel4 f0 ea eb ec ed))) (by rw [e13]; exact Ar15.1) (State.isArrayOf_alike hZ.alike Ar15.2.1) Ar15.2.2 hin15 hat15 (g := (mkF m 18 #[.val (.ref a1), .val (.ref a2), .val (.int (0 : Int32))] [(.int f0), (.ref a2)])) rfl rfl (hb hby d4_18) _ ?_
    refine XS.aloadN X13.here hx rfl (hb hby d4_19) rfl rfl ?_
    refine st16 _ ?_
    refine XS.iloadN X16.here hx rfl (hb hby d4_23) rfl ?_
    show Steps p.tables e below (T16.setTop (mkF m 24 #[.val (.ref a1), .val (.ref a2), .val (.int (0 : Int32))] [(.int (0 : Int32)), (.ref va), (.int (own_sel4 f0 ea eb ec ed))])) _
    refine X16.iaload hx (j := (0 : Int32)) (v := (.int v0)) (by rw [e16]; exact Ar17.1) (State.isArrayOf_alike hZ.alike Ar17.2.1) Ar17.2.2 hin17 hat17 (g := (mkF m 24 #[.val (.ref a1), .val (.ref a2), .val (.int (0 : Int32))] [(.int (0 : Int32)), (.ref va), (.int (own_sel4 f0 ea eb ec ed))])) rfl rfl (hb hby d4_24) _ ?_
    exact kt
  by_cases hc25_18 : (own_sel4 f0 ea eb ec ed) = v0
  · obtain ⟨T20, X20, e20, st20⟩ := getF X16 hx hZ hown (host := "") (Or.inl (wd_15 hw)) Via.refl e16 F_features_a1 (g := (mkF m 4 #[.val (.ref a1), .val (.ref a2), .val (.int (1 : Int32))] [(.ref a1), (.int (1 : Int32))])) rfl rfl (hb hby d4_4)
    obtain ⟨cl21, Ar21, q21, S21, N21n, H21, G21⟩ := id (V_fa)
    obtain ⟨fs, hr, hrun, hended, hW, hsame⟩ := X20.leave (v := some (.int (1 : Int32))) (fun h => by rw [Bd.returns] at h; cases h)
    refine ⟨_, _, pre19 _ ?_, hrun, hended, _, _, rfl, ?_, ⟨_, rfl⟩, hW, hsame.mono (by decide) (by decide)⟩
    · show Steps p.tables e below (T16.setTop (mkF m 25 #[.val (.ref a1), .val (.ref a2), .val (.int (0 : Int32))] [(.int v0), (.int (own_sel4 f0 ea eb ec ed))])) _
      refine XS.icmpYes X16.here hx rfl (pc0 := 25) (pc' := 30) rfl (hb hby d4_25) rfl (teq hc25_18).1 (by decide) (by decide) ?_
      refine XS.iinc X16.here hx rfl (hb hby d4_30) rfl (l' := #[.val (.ref a1), .val (.ref a2), .val (.int (1 : Int32))]) rfl ?_
      refine XS.goto X16.here hx rfl (pc0 := 33) (pc' := 2) rfl (hb hby d4_33) (by decide) (by decide) ?_
      show Steps p.tables e below (T16.setTop (mkF m 2 #[.val (.ref a1), .val (.ref a2), .val (.int (1 : Int32))] [])) _
      refine XS.iloadN X16.here hx rfl (hb hby d4_2) rfl ?_
      refine XS.aloadN X16.here hx rfl (hb hby d4_3) rfl rfl ?_
      refine st20 _ ?_
      refine X20.arraylength hx (by rw [e20]; exact Ar21.1) (State.isArrayOf_alike hZ.alike Ar21.2.1) (g := (mkF m 7 #[.val (.ref a1), .val (.ref a2), .val (.int (1 : Int32))] [(.ref fa), (.int (1 : Int32))])) rfl rfl (hb hby d4_7) _ ?_
      rw [len_of S21 N21n]
      show Steps p.tables e below (T20.setTop (mkF m 8 #[.val (.ref a1), .val (.ref a2), .val (.int (1 : Int32))] [(.int (1 : Int32)), (.int (1 : Int32))])) _
      refine XS.icmpYes X20.here hx rfl (pc0 := 8) (pc' := 36) rfl (hb hby d4_8) rfl (flt (by decide)).2.1 (by decide) (by decide) ?_
      refine XS.iconst X20.here hx rfl (hb hby d4_36) ?_
      exact retN X20 hx (t := .boolean) Bd.returns (by simp) (hb hby d4_37) hr
    · show Q_rmm1 Z a1 a2 fa va kf kv ke f0 v0 ea eb ec ed h0 n0 _ T20.heap _
      rw [e20]
      exact ⟨(by simp only [if_pos hc25_18]), N0, rfl⟩
  · obtain ⟨fs, hr, hrun, hended, hW, hsame⟩ := X16.leave (v := some (.int (0 : Int32))) (fun h => by rw [Bd.returns] at h; cases h)
    refine ⟨_, _, pre19 _ ?_, hrun, hended, _, _, rfl, ?_, ⟨_, rfl⟩, hW, hsame.mono (by decide) (by decide)⟩
    · show Steps p.tables e below (T16.setTop (mkF m 25 #[.val (.ref a1), .val (.ref a2), .val (.int (0 : Int32))] [(.int v0), (.int (own_sel4 f0 ea eb ec ed))])) _
      refine XS.icmpNo X16.here hx rfl (hb hby d4_25) rfl (feq hc25_18).1 ?_
      refine XS.iconst X16.here hx rfl (hb hby d4_28) ?_
      exact retN X16 hx (t := .boolean) Bd.returns (by simp) (hb hby d4_29) hr
    · show Q_rmm1 Z a1 a2 fa va kf kv ke f0 v0 ea eb ec ed h0 n0 _ T16.heap _
      rw [e16]
      exact ⟨(by simp only [if_neg hc25_18]), N0, rfl⟩
def Q_rmm2 (Z : State) (a1 : Addr) (a2 : Addr) (fa : Addr) (va : Addr) (kf : ClassId) (kv : ClassId) (ke : ClassId) (f0 : Int32) (f1 : Int32) (v0 : Int32) (v1 : Int32) (ea : Int32) (eb : Int32) (ec : Int32) (ed : Int32) (h0 : Heap) (n0 : Nat) (v : Option Value) (h : Heap) (L : List Loc) : Prop := v = some (.int (if (own_sel4 f0 ea eb ec ed) = v0 then (if (own_sel4 f1 ea eb ec ed) = v1 then (1 : Int32) else (0 : Int32)) else (0 : Int32))) ∧ Fr n0 L ∧ h = h0
set_option maxRecDepth 65536 in
set_option maxHeartbeats 40000000 in
theorem rmm2 (l : Launch) (Z : State) (a0 : Array Value) (hw : ∀ d ∈ tables_1, d.before a0 Z = true) (ws : List Jvm.Cond) (a1 : Addr) (a2 : Addr) (fa : Addr) (va : Addr) (kf : ClassId) (kv : ClassId) (ke : ClassId) (f0 : Int32) (f1 : Int32) (v0 : Int32) (v1 : Int32) (ea : Int32) (eb : Int32) (ec : Int32) (ed : Int32) (h0 : Heap) (n0 : Nat) (Z0 : n0 ≤ h0.size) (F_features_a1 : Fld Z h0 a1 "com/example/counterlens/counterlens/Rules$Forbidden" "features" "[I" (.ref fa)) (F_values_a1 : Fld Z h0 a1 "com/example/counterlens/counterlens/Rules$Forbidden" "values" "[I" (.ref va)) (V_fa : Arv Z h0 fa kf .int (2 : Int32) [(.int f0), (.int f1)] (.int (0 : Int32))) (V_va : Arv Z h0 va kv .int (2 : Int32) [(.int v0), (.int v1)] (.int (0 : Int32))) (V_a2 : Arv Z h0 a2 ke .int (4 : Int32) [(.int ea), (.int eb), (.int ec), (.int ed)] (.int (0 : Int32))) (hb_f0 : ¬ f0 < 0 ∧ f0 < (4 : Int32)) (hb_f1 : ¬ f1 < 0 ∧ f1 < (4 : Int32)) :
    MetFree l (⟨"com/example/counterlens/counterlens/Rules$Forbidden", "matches", "([I)Z"⟩ : MethodName) (head1 (Jvm.Cond.code (⟨"com/example/counterlens/counterlens/Rules$Forbidden", "matches", "([I)Z"⟩ : MethodName) prog_64_method_2_code 3 (some .boolean) :: ws) ({ frames := 0, cells := 0, slots := 0, locals := 0 } : Room)) (fun a U => a = #[(.ref a1), (.ref a2)] ∧ Z.Warmed39 U.vm ∧ U.heap = h0) (fun _ _ _ _ _ => True) (fun _ U o U' => ∃ v L, o = .returned v ∧ Q_rmm2 Z a1 a2 fa va kf kv ke f0 f1 v0 v1 ea eb ec ed h0 n0 v U'.heap L ∧ FrameEnd U o U' L ({ frames := 0, cells := 0, slots := 0, locals := 0 } : Room).cells ({ frames := 0, cells := 0, slots := 0, locals := 0 } : Room).slots) := by
  refine MetFree.of_bodySF (plainFor_of_name pn_com_example_counterlens_counterlens_Rules_Forbidden) hisR ?_
  intro p e s m args below meth c s₁ Bd hml0 hP hK
  obtain ⟨rfl, hZ, hh⟩ := hP
  have hx := Bd.exec
  have hby := Bd.bytes
  have hml : c.maxLocals = 3 := hml0
  have hown : s.vm.findClass "com/example/counterlens/counterlens/Rules$Forbidden" = some m.cls := findClass_of_methodNamed Bd.named
  have hnm := (name_of_methodNamed Bd.named Bd.method).1
  have X0 : Stand p l e ({ frames := 0, cells := 0, slots := 0, locals := 0 } : Room) s m #[(.ref a1), (.ref a2)] below meth c s₁ [] 0 0 := Stand.of_body Bd
  have e0 : s₁.heap = h0 := by rw [← hh, Bd.state]; rfl
  have N0 := Fr.nil n0
  have pre0 : ∀ t, Steps p.tables e below (s₁.setTop (mkF m 0 #[.val (.ref a1), .val (.ref a2), .unset] [])) t → Steps p.tables e below (s₁.setTop (entryFrame m #[(.ref a1), (.ref a2)] 3)) t := fun t k => castTop (ef_4 m a1 a2) k
  obtain ⟨T22, X22, e22, st22⟩ := getF X0 hx hZ hown (host := "") (Or.inl (wd_15 hw)) Via.refl e0 F_features_a1 (g := (mkF m 4 #[.val (.ref a1), .val (.ref a2), .val (.int (0 : Int32))] [(.ref a1), (.int (0 : Int32))])) rfl rfl (hb hby d4_4)
  obtain ⟨cl23, Ar23, q23, S23, N23n, H23, G23⟩ := id (V_fa)
  obtain ⟨T24, X24, e24, st24⟩ := getF X22 hx hZ hown (host := "") (Or.inl (wd_15 hw)) Via.refl e22 F_features_a1 (g := (mkF m 13 #[.val (.ref a1), .val (.ref a2), .val (.int (0 : Int32))] [(.ref a1), (.ref a2)])) rfl rfl (hb hby d4_13)
  obtain ⟨cl25, Ar25, q25, S25, N25n, H25, G25⟩ := id (V_fa)
  have hin25 : ¬ ((0 : Int32) < 0 ∨ cl25.slots.size ≤ ((0 : Int32)).toNatClampNeg) := inb_of S25 ⟨by decide, by decide⟩
  have hat25 : cl25.slots[((0 : Int32)).toNatClampNeg]? = some (.int f0) := H25.at hin25 rfl
  obtain ⟨cl26, Ar26, q26, S26, N26n, H26, G26⟩ := id (V_a2)
  have hin26 : ¬ (f0 < 0 ∨ cl26.slots.size ≤ (f0).toNatClampNeg) := inb_of S26 hb_f0
  have hat26 : cl26.slots[(f0).toNatClampNeg]? = some (.int (own_sel4 f0 ea eb ec ed)) := H26.at hin26 (own_at4 hb_f0)
  obtain ⟨T27, X27, e27, st27⟩ := getF X24 hx hZ hown (host := "") (Or.inl (wd_17 hw)) Via.refl e24 F_values_a1 (g := (mkF m 20 #[.val (.ref a1), .val (.ref a2), .val (.int (0 : Int32))] [(.ref a1), (.int (own_sel4 f0 ea eb ec ed))])) rfl rfl (hb hby d4_20)
  obtain ⟨cl28, Ar28, q28, S28, N28n, H28, G28⟩ := id (V_va)
  have hin28 : ¬ ((0 : Int32) < 0 ∨ cl28.slots.size ≤ ((0 : Int32)).toNatClampNeg) := inb_of S28 ⟨by decide, by decide⟩
  have hat28 : cl28.slots[((0 : Int32)).toNatClampNeg]? = some (.int v0) := H28.at hin28 rfl
  have pre30 : ∀ t, Steps p.tables e below (T27.setTop (mkF m 25 #[.val (.ref a1), .val (.ref a2), .val (.int (0 : Int32))] [(.int v0), (.int (own_sel4 f0 ea eb ec ed))])) t → Steps p.tables e below (s₁.setTop (entryFrame m #[(.ref a1), (.ref a2)] 3)) t := by
    intro t kt
    refine pre0 _ ?_
    show Steps p.tables e below (s₁.setTop (mkF m 0 #[.val (.ref a1), .val (.ref a2), .unset] [])) _
    refine XS.iconst X0.here hx rfl (hb hby d4_0) ?_
    refine XS.istoreN X0.here hx rfl (hb hby d4_1) rfl (l' := #[.val (.ref a1), .val (.ref a2), .val (.int (0 : Int32))]) rfl ?_
    refine XS.iloadN X0.here hx rfl (hb hby d4_2) rfl ?_
    refine XS.aloadN X0.here hx rfl (hb hby d4_3) rfl rfl ?_
    show Steps p.tables e below (s₁.setTop (mkF m 4 #[.val (.ref a1), .val (.ref a2), .val (.int (0 : Int32))] [(.ref a1), (.int (0 : Int32))])) _
    refine st22 _ ?_
    refine X22.arraylength hx (by rw [e22]; exact Ar23.1) (State.isArrayOf_alike hZ.alike Ar23.2.1) (g := (mkF m 7 #[.val (.ref a1), .val (.ref a2), .val (.int (0 : Int32))] [(.ref fa), (.int (0 : Int32))])) rfl rfl (hb hby d4_7) _ ?_
    rw [len_of S23 N23n]
    refine XS.icmpNo X22.here hx rfl (hb hby d4_8) rfl (tlt (by decide)).2.1 ?_
    refine XS.aloadN X22.here hx rfl (hb hby d4_11) rfl rfl ?_
    show Steps p.tables e below (T22.setTop (mkF m 12 #[.val (.ref a1), .val (.ref a2), .val (.int (0 : Int32))] [(.ref a2)])) _
    refine XS.aloadN X22.here hx rfl (hb hby d4_12) rfl rfl ?_
    refine st24 _ ?_
    refine XS.iloadN X24.here hx rfl (hb hby d4_16) rfl ?_
    refine X24.iaload hx (j := (0 : Int32)) (v := (.int f0)) (by rw [e24]; exact Ar25.1) (State.isArrayOf_alike hZ.alike Ar25.2.1) Ar25.2.2 hin25 hat25 (g := (mkF m 17 #[.val (.ref a1), .val (.ref a2), .val (.int (0 : Int32))] [(.int (0 : Int32)), (.ref fa), (.ref a2)])) rfl rfl (hb hby d4_17) _ ?_
    show Steps p.tables e below (T24.setTop (mkF m 18 #[.val (.ref a1), .val (.ref a2), .val (.int (0 : Int32))] [(.int f0), (.ref a2)])) _
    refine X24.iaload hx (j := f0) (v := (.int (own_sel4 f0 ea eb ec ed))) (by rw [e24]; exact Ar26.1) (State.isArrayOf_alike hZ.alike Ar26.2.1) Ar26.2.2 hin26 hat26 (g := (mkF m 18 #[.val (.ref a1), .val (.ref a2), .val (.int (0 : Int32))] [(.int f0), (.ref a2)])) rfl rfl (hb hby d4_18) _ ?_
    refine XS.aloadN X24.here hx rfl (hb hby d4_19) rfl rfl ?_
    refine st27 _ ?_
    refine XS.iloadN X27.here hx rfl (hb hby d4_23) rfl ?_
    show Steps p.tables e below (T27.setTop (mkF m 24 #[.val (.ref a1), .val (.ref a2), .val (.int (0 : Int32))] [(.int (0 : Int32)), (.ref va), (.int (own_sel4 f0 ea eb ec ed))])) _
    refine X27.iaload hx (j := (0 : Int32)) (v := (.int v0)) (by rw [e27]; exact Ar28.1) (State.isArrayOf_alike hZ.alike Ar28.2.1) Ar28.2.2 hin28 hat28 (g := (mkF m 24 #[.val (.ref a1), .val (.ref a2), .val (.int (0 : Int32))] [(.int (0 : Int32)), (.ref va), (.int (own_sel4 f0 ea eb ec ed))])) rfl rfl (hb hby d4_24) _ ?_
    exact kt
  by_cases hc25_29 : (own_sel4 f0 ea eb ec ed) = v0
  · obtain ⟨T31, X31, e31, st31⟩ := getF X27 hx hZ hown (host := "") (Or.inl (wd_15 hw)) Via.refl e27 F_features_a1 (g := (mkF m 4 #[.val (.ref a1), .val (.ref a2), .val (.int (1 : Int32))] [(.ref a1), (.int (1 : Int32))])) rfl rfl (hb hby d4_4)
    obtain ⟨cl32, Ar32, q32, S32, N32n, H32, G32⟩ := id (V_fa)
    obtain ⟨T33, X33, e33, st33⟩ := getF X31 hx hZ hown (host := "") (Or.inl (wd_15 hw)) Via.refl e31 F_features_a1 (g := (mkF m 13 #[.val (.ref a1), .val (.ref a2), .val (.int (1 : Int32))] [(.ref a1), (.ref a2)])) rfl rfl (hb hby d4_13)
    obtain ⟨cl34, Ar34, q34, S34, N34n, H34, G34⟩ := id (V_fa)
    have hin34 : ¬ ((1 : Int32) < 0 ∨ cl34.slots.size ≤ ((1 : Int32)).toNatClampNeg) := inb_of S34 ⟨by decide, by decide⟩
    have hat34 : cl34.slots[((1 : Int32)).toNatClampNeg]? = some (.int f1) := H34.at hin34 rfl
    obtain ⟨cl35, Ar35, q35, S35, N35n, H35, G35⟩ := id (V_a2)
    have hin35 : ¬ (f1 < 0 ∨ cl35.slots.size ≤ (f1).toNatClampNeg) := inb_of S35 hb_f1
    have hat35 : cl35.slots[(f1).toNatClampNeg]? = some (.int (own_sel4 f1 ea eb ec ed)) := H35.at hin35 (own_at4 hb_f1)
    obtain ⟨T36, X36, e36, st36⟩ := getF X33 hx hZ hown (host := "") (Or.inl (wd_17 hw)) Via.refl e33 F_values_a1 (g := (mkF m 20 #[.val (.ref a1), .val (.ref a2), .val (.int (1 : Int32))] [(.ref a1), (.int (own_sel4 f1 ea eb ec ed))])) rfl rfl (hb hby d4_20)
    obtain ⟨cl37, Ar37, q37, S37, N37n, H37, G37⟩ := id (V_va)
    have hin37 : ¬ ((1 : Int32) < 0 ∨ cl37.slots.size ≤ ((1 : Int32)).toNatClampNeg) := inb_of S37 ⟨by decide, by decide⟩
    have hat37 : cl37.slots[((1 : Int32)).toNatClampNeg]? = some (.int v1) := H37.at hin37 rfl
    have pre39 : ∀ t, Steps p.tables e below (T36.setTop (mkF m 25 #[.val (.ref a1), .val (.ref a2), .val (.int (1 : Int32))] [(.int v1), (.int (own_sel4 f1 ea eb ec ed))])) t → Steps p.tables e below (s₁.setTop (entryFrame m #[(.ref a1), (.ref a2)] 3)) t := by
      intro t kt
      refine pre30 _ ?_
      show Steps p.tables e below (T27.setTop (mkF m 25 #[.val (.ref a1), .val (.ref a2), .val (.int (0 : Int32))] [(.int v0), (.int (own_sel4 f0 ea eb ec ed))])) _
      refine XS.icmpYes X27.here hx rfl (pc0 := 25) (pc' := 30) rfl (hb hby d4_25) rfl (teq hc25_29).1 (by decide) (by decide) ?_
      refine XS.iinc X27.here hx rfl (hb hby d4_30) rfl (l' := #[.val (.ref a1), .val (.ref a2), .val (.int (1 : Int32))]) rfl ?_
      refine XS.goto X27.here hx rfl (pc0 := 33) (pc' := 2) rfl (hb hby d4_33) (by decide) (by decide) ?_
      show Steps p.tables e below (T27.setTop (mkF m 2 #[.val (.ref a1), .val (.ref a2), .val (.int (1 : Int32))] [])) _
      refine XS.iloadN X27.here hx rfl (hb hby d4_2) rfl ?_
      refine XS.aloadN X27.here hx rfl (hb hby d4_3) rfl rfl ?_
      refine st31 _ ?_
      refine X31.arraylength hx (by rw [e31]; exact Ar32.1) (State.isArrayOf_alike hZ.alike Ar32.2.1) (g := (mkF m 7 #[.val (.ref a1), .val (.ref a2), .val (.int (1 : Int32))] [(.ref fa), (.int (1 : Int32))])) rfl rfl (hb hby d4_7) _ ?_
      rw [len_of S32 N32n]
      show Steps p.tables e below (T31.setTop (mkF m 8 #[.val (.ref a1), .val (.ref a2), .val (.int (1 : Int32))] [(.int (2 : Int32)), (.int (1 : Int32))])) _
      refine XS.icmpNo X31.here hx rfl (hb hby d4_8) rfl (tlt (by decide)).2.1 ?_
      refine XS.aloadN X31.here hx rfl (hb hby d4_11) rfl rfl ?_
      refine XS.aloadN X31.here hx rfl (hb hby d4_12) rfl rfl ?_
      refine st33 _ ?_
      show Steps p.tables e below (T33.setTop (mkF m 16 #[.val (.ref a1), .val (.ref a2), .val (.int (1 : Int32))] [(.ref fa), (.ref a2)])) _
      refine XS.iloadN X33.here hx rfl (hb hby d4_16) rfl ?_
      refine X33.iaload hx (j := (1 : Int32)) (v := (.int f1)) (by rw [e33]; exact Ar34.1) (State.isArrayOf_alike hZ.alike Ar34.2.1) Ar34.2.2 hin34 hat34 (g := (mkF m 17 #[.val (.ref a1), .val (.ref a2), .val (.int (1 : Int32))] [(.int (1 : Int32)), (.ref fa), (.ref a2)])) rfl rfl (hb hby d4_17) _ ?_
      refine X33.iaload hx (j := f1) (v := (.int (own_sel4 f1 ea eb ec ed))) (by rw [e33]; exact Ar35.1) (State.isArrayOf_alike hZ.alike Ar35.2.1) Ar35.2.2 hin35 hat35 (g := (mkF m 18 #[.val (.ref a1), .val (.ref a2), .val (.int (1 : Int32))] [(.int f1), (.ref a2)])) rfl rfl (hb hby d4_18) _ ?_
      refine XS.aloadN X33.here hx rfl (hb hby d4_19) rfl rfl ?_
      show Steps p.tables e below (T33.setTop (mkF m 20 #[.val (.ref a1), .val (.ref a2), .val (.int (1 : Int32))] [(.ref a1), (.int (own_sel4 f1 ea eb ec ed))])) _
      refine st36 _ ?_
      refine XS.iloadN X36.here hx rfl (hb hby d4_23) rfl ?_
      refine X36.iaload hx (j := (1 : Int32)) (v := (.int v1)) (by rw [e36]; exact Ar37.1) (State.isArrayOf_alike hZ.alike Ar37.2.1) Ar37.2.2 hin37 hat37 (g := (mkF m 24 #[.val (.ref a1), .val (.ref a2), .val (.int (1 : Int32))] [(.int (1 : Int32)), (.ref va), (.int (own_sel4 f1 ea eb ec ed))])) rfl rfl (hb hby d4_24) _ ?_
      exact kt
    by_cases hc25_38 : (own_sel4 f1 ea eb ec ed) = v1
    · obtain ⟨T40, X40, e40, st40⟩ := getF X36 hx hZ hown (host := "") (Or.inl (wd_15 hw)) Via.refl e36 F_features_a1 (g := (mkF m 4 #[.val (.ref a1), .val (.ref a2), .val (.int (2 : Int32))] [(.ref a1), (.int (2 : Int32))])) rfl rfl (hb hby d4_4)
      obtain ⟨cl41, Ar41, q41, S41, N41n, H41, G41⟩ := id (V_fa)
      obtain ⟨fs, hr, hrun, hended, hW, hsame⟩ := X40.leave (v := some (.int (1 : Int32))) (fun h => by rw [Bd.returns] at h; cases h)
      refine ⟨_, _, pre39 _ ?_, hrun, hended, _, _, rfl, ?_, ⟨_, rfl⟩, hW, hsame.mono (by decide) (by decide)⟩
      · show Steps p.tables e below (T36.setTop (mkF m 25 #[.val (.ref a1), .val (.ref a2), .val (.int (1 : Int32))] [(.int v1), (.int (own_sel4 f1 ea eb ec ed))])) _
        refine XS.icmpYes X36.here hx rfl (pc0 := 25) (pc' := 30) rfl (hb hby d4_25) rfl (teq hc25_38).1 (by decide) (by decide) ?_
        show Steps p.tables e below (T36.setTop (mkF m 30 #[.val (.ref a1), .val (.ref a2), .val (.int (1 : Int32))] [])) _
        refine XS.iinc X36.here hx rfl (hb hby d4_30) rfl (l' := #[.val (.ref a1), .val (.ref a2), .val (.int (2 : Int32))]) rfl ?_
        refine XS.goto X36.here hx rfl (pc0 := 33) (pc' := 2) rfl (hb hby d4_33) (by decide) (by decide) ?_
        refine XS.iloadN X36.here hx rfl (hb hby d4_2) rfl ?_
        refine XS.aloadN X36.here hx rfl (hb hby d4_3) rfl rfl ?_
        show Steps p.tables e below (T36.setTop (mkF m 4 #[.val (.ref a1), .val (.ref a2), .val (.int (2 : Int32))] [(.ref a1), (.int (2 : Int32))])) _
        refine st40 _ ?_
        refine X40.arraylength hx (by rw [e40]; exact Ar41.1) (State.isArrayOf_alike hZ.alike Ar41.2.1) (g := (mkF m 7 #[.val (.ref a1), .val (.ref a2), .val (.int (2 : Int32))] [(.ref fa), (.int (2 : Int32))])) rfl rfl (hb hby d4_7) _ ?_
        rw [len_of S41 N41n]
        refine XS.icmpYes X40.here hx rfl (pc0 := 8) (pc' := 36) rfl (hb hby d4_8) rfl (flt (by decide)).2.1 (by decide) (by decide) ?_
        refine XS.iconst X40.here hx rfl (hb hby d4_36) ?_
        show Steps p.tables e below (T40.setTop (mkF m 37 #[.val (.ref a1), .val (.ref a2), .val (.int (2 : Int32))] [(.int (1 : Int32))])) _
        exact retN X40 hx (t := .boolean) Bd.returns (by simp) (hb hby d4_37) hr
      · show Q_rmm2 Z a1 a2 fa va kf kv ke f0 f1 v0 v1 ea eb ec ed h0 n0 _ T40.heap _
        rw [e40]
        exact ⟨(by simp only [if_pos hc25_29, if_pos hc25_38]), N0, rfl⟩
    · obtain ⟨fs, hr, hrun, hended, hW, hsame⟩ := X36.leave (v := some (.int (0 : Int32))) (fun h => by rw [Bd.returns] at h; cases h)
      refine ⟨_, _, pre39 _ ?_, hrun, hended, _, _, rfl, ?_, ⟨_, rfl⟩, hW, hsame.mono (by decide) (by decide)⟩
      · show Steps p.tables e below (T36.setTop (mkF m 25 #[.val (.ref a1), .val (.ref a2), .val (.int (1 : Int32))] [(.int v1), (.int (own_sel4 f1 ea eb ec ed))])) _
        refine XS.icmpNo X36.here hx rfl (hb hby d4_25) rfl (feq hc25_38).1 ?_
        show Steps p.tables e below (T36.setTop (mkF m 28 #[.val (.ref a1), .val (.ref a2), .val (.int (1 : Int32))] [])) _
        refine XS.iconst X36.here hx rfl (hb hby d4_28) ?_
        exact retN X36 hx (t := .boolean) Bd.returns (by simp) (hb hby d4_29) hr
      · show Q_rmm2 Z a1 a2 fa va kf kv ke f0 f1 v0 v1 ea eb ec ed h0 n0 _ T36.heap _
        rw [e36]
        exact ⟨(by simp only [if_pos hc25_29, if_neg hc25_38]), N0, rfl⟩
  · obtain ⟨fs, hr, hrun, hended, hW, hsame⟩ := X27.leave (v := some (.int (0 : Int32))) (fun h => by rw [Bd.returns] at h; cases h)
    refine ⟨_, _, pre30 _ ?_, hrun, hended, _, _, rfl, ?_, ⟨_, rfl⟩, hW, hsame.mono (by decide) (by decide)⟩
    · show Steps p.tables e below (T27.setTop (mkF m 25 #[.val (.ref a1), .val (.ref a2), .val (.int (0 : Int32))] [(.int v0), (.int (own_sel4 f0 ea eb ec ed))])) _
      refine XS.icmpNo X27.here hx rfl (hb hby d4_25) rfl (feq hc25_29).1 ?_
      refine XS.iconst X27.here hx rfl (hb hby d4_28) ?_
      exact retN X27 hx (t := .boolean) Bd.returns (by simp) (hb hby d4_29) hr
    · show Q_rmm2 Z a1 a2 fa va kf kv ke f0 f1 v0 v1 ea eb ec ed h0 n0 _ T27.heap _
      rw [e27]
      exact ⟨(by simp only [if_neg hc25_29]), N0, rfl⟩
def Q_rmm3 (Z : State) (a1 : Addr) (a2 : Addr) (fa : Addr) (va : Addr) (kf : ClassId) (kv : ClassId) (ke : ClassId) (f0 : Int32) (f1 : Int32) (f2 : Int32) (v0 : Int32) (v1 : Int32) (v2 : Int32) (ea : Int32) (eb : Int32) (ec : Int32) (ed : Int32) (h0 : Heap) (n0 : Nat) (v : Option Value) (h : Heap) (L : List Loc) : Prop := v = some (.int (if (own_sel4 f0 ea eb ec ed) = v0 then (if (own_sel4 f1 ea eb ec ed) = v1 then (if (own_sel4 f2 ea eb ec ed) = v2 then (1 : Int32) else (0 : Int32)) else (0 : Int32)) else (0 : Int32))) ∧ Fr n0 L ∧ h = h0
set_option maxRecDepth 65536 in
set_option maxHeartbeats 40000000 in
theorem rmm3 (l : Launch) (Z : State) (a0 : Array Value) (hw : ∀ d ∈ tables_1, d.before a0 Z = true) (ws : List Jvm.Cond) (a1 : Addr) (a2 : Addr) (fa : Addr) (va : Addr) (kf : ClassId) (kv : ClassId) (ke : ClassId) (f0 : Int32) (f1 : Int32) (f2 : Int32) (v0 : Int32) (v1 : Int32) (v2 : Int32) (ea : Int32) (eb : Int32) (ec : Int32) (ed : Int32) (h0 : Heap) (n0 : Nat) (Z0 : n0 ≤ h0.size) (F_features_a1 : Fld Z h0 a1 "com/example/counterlens/counterlens/Rules$Forbidden" "features" "[I" (.ref fa)) (F_values_a1 : Fld Z h0 a1 "com/example/counterlens/counterlens/Rules$Forbidden" "values" "[I" (.ref va)) (V_fa : Arv Z h0 fa kf .int (3 : Int32) [(.int f0), (.int f1), (.int f2)] (.int (0 : Int32))) (V_va : Arv Z h0 va kv .int (3 : Int32) [(.int v0), (.int v1), (.int v2)] (.int (0 : Int32))) (V_a2 : Arv Z h0 a2 ke .int (4 : Int32) [(.int ea), (.int eb), (.int ec), (.int ed)] (.int (0 : Int32))) (hb_f0 : ¬ f0 < 0 ∧ f0 < (4 : Int32)) (hb_f1 : ¬ f1 < 0 ∧ f1 < (4 : Int32)) (hb_f2 : ¬ f2 < 0 ∧ f2 < (4 : Int32)) :
    MetFree l (⟨"com/example/counterlens/counterlens/Rules$Forbidden", "matches", "([I)Z"⟩ : MethodName) (head1 (Jvm.Cond.code (⟨"com/example/counterlens/counterlens/Rules$Forbidden", "matches", "([I)Z"⟩ : MethodName) prog_64_method_2_code 3 (some .boolean) :: ws) ({ frames := 0, cells := 0, slots := 0, locals := 0 } : Room)) (fun a U => a = #[(.ref a1), (.ref a2)] ∧ Z.Warmed39 U.vm ∧ U.heap = h0) (fun _ _ _ _ _ => True) (fun _ U o U' => ∃ v L, o = .returned v ∧ Q_rmm3 Z a1 a2 fa va kf kv ke f0 f1 f2 v0 v1 v2 ea eb ec ed h0 n0 v U'.heap L ∧ FrameEnd U o U' L ({ frames := 0, cells := 0, slots := 0, locals := 0 } : Room).cells ({ frames := 0, cells := 0, slots := 0, locals := 0 } : Room).slots) := by
  refine MetFree.of_bodySF (plainFor_of_name pn_com_example_counterlens_counterlens_Rules_Forbidden) hisR ?_
  intro p e s m args below meth c s₁ Bd hml0 hP hK
  obtain ⟨rfl, hZ, hh⟩ := hP
  have hx := Bd.exec
  have hby := Bd.bytes
  have hml : c.maxLocals = 3 := hml0
  have hown : s.vm.findClass "com/example/counterlens/counterlens/Rules$Forbidden" = some m.cls := findClass_of_methodNamed Bd.named
  have hnm := (name_of_methodNamed Bd.named Bd.method).1
  have X0 : Stand p l e ({ frames := 0, cells := 0, slots := 0, locals := 0 } : Room) s m #[(.ref a1), (.ref a2)] below meth c s₁ [] 0 0 := Stand.of_body Bd
  have e0 : s₁.heap = h0 := by rw [← hh, Bd.state]; rfl
  have N0 := Fr.nil n0
  have pre0 : ∀ t, Steps p.tables e below (s₁.setTop (mkF m 0 #[.val (.ref a1), .val (.ref a2), .unset] [])) t → Steps p.tables e below (s₁.setTop (entryFrame m #[(.ref a1), (.ref a2)] 3)) t := fun t k => castTop (ef_4 m a1 a2) k
  obtain ⟨T42, X42, e42, st42⟩ := getF X0 hx hZ hown (host := "") (Or.inl (wd_15 hw)) Via.refl e0 F_features_a1 (g := (mkF m 4 #[.val (.ref a1), .val (.ref a2), .val (.int (0 : Int32))] [(.ref a1), (.int (0 : Int32))])) rfl rfl (hb hby d4_4)
  obtain ⟨cl43, Ar43, q43, S43, N43n, H43, G43⟩ := id (V_fa)
  obtain ⟨T44, X44, e44, st44⟩ := getF X42 hx hZ hown (host := "") (Or.inl (wd_15 hw)) Via.refl e42 F_features_a1 (g := (mkF m 13 #[.val (.ref a1), .val (.ref a2), .val (.int (0 : Int32))] [(.ref a1), (.ref a2)])) rfl rfl (hb hby d4_13)
  obtain ⟨cl45, Ar45, q45, S45, N45n, H45, G45⟩ := id (V_fa)
  have hin45 : ¬ ((0 : Int32) < 0 ∨ cl45.slots.size ≤ ((0 : Int32)).toNatClampNeg) := inb_of S45 ⟨by decide, by decide⟩
  have hat45 : cl45.slots[((0 : Int32)).toNatClampNeg]? = some (.int f0) := H45.at hin45 rfl
  obtain ⟨cl46, Ar46, q46, S46, N46n, H46, G46⟩ := id (V_a2)
  have hin46 : ¬ (f0 < 0 ∨ cl46.slots.size ≤ (f0).toNatClampNeg) := inb_of S46 hb_f0
  have hat46 : cl46.slots[(f0).toNatClampNeg]? = some (.int (own_sel4 f0 ea eb ec ed)) := H46.at hin46 (own_at4 hb_f0)
  obtain ⟨T47, X47, e47, st47⟩ := getF X44 hx hZ hown (host := "") (Or.inl (wd_17 hw)) Via.refl e44 F_values_a1 (g := (mkF m 20 #[.val (.ref a1), .val (.ref a2), .val (.int (0 : Int32))] [(.ref a1), (.int (own_sel4 f0 ea eb ec ed))])) rfl rfl (hb hby d4_20)
  obtain ⟨cl48, Ar48, q48, S48, N48n, H48, G48⟩ := id (V_va)
  have hin48 : ¬ ((0 : Int32) < 0 ∨ cl48.slots.size ≤ ((0 : Int32)).toNatClampNeg) := inb_of S48 ⟨by decide, by decide⟩
  have hat48 : cl48.slots[((0 : Int32)).toNatClampNeg]? = some (.int v0) := H48.at hin48 rfl
  have pre50 : ∀ t, Steps p.tables e below (T47.setTop (mkF m 25 #[.val (.ref a1), .val (.ref a2), .val (.int (0 : Int32))] [(.int v0), (.int (own_sel4 f0 ea eb ec ed))])) t → Steps p.tables e below (s₁.setTop (entryFrame m #[(.ref a1), (.ref a2)] 3)) t := by
    intro t kt
    refine pre0 _ ?_
    show Steps p.tables e below (s₁.setTop (mkF m 0 #[.val (.ref a1), .val (.ref a2), .unset] [])) _
    refine XS.iconst X0.here hx rfl (hb hby d4_0) ?_
    refine XS.istoreN X0.here hx rfl (hb hby d4_1) rfl (l' := #[.val (.ref a1), .val (.ref a2), .val (.int (0 : Int32))]) rfl ?_
    refine XS.iloadN X0.here hx rfl (hb hby d4_2) rfl ?_
    refine XS.aloadN X0.here hx rfl (hb hby d4_3) rfl rfl ?_
    show Steps p.tables e below (s₁.setTop (mkF m 4 #[.val (.ref a1), .val (.ref a2), .val (.int (0 : Int32))] [(.ref a1), (.int (0 : Int32))])) _
    refine st42 _ ?_
    refine X42.arraylength hx (by rw [e42]; exact Ar43.1) (State.isArrayOf_alike hZ.alike Ar43.2.1) (g := (mkF m 7 #[.val (.ref a1), .val (.ref a2), .val (.int (0 : Int32))] [(.ref fa), (.int (0 : Int32))])) rfl rfl (hb hby d4_7) _ ?_
    rw [len_of S43 N43n]
    refine XS.icmpNo X42.here hx rfl (hb hby d4_8) rfl (tlt (by decide)).2.1 ?_
    refine XS.aloadN X42.here hx rfl (hb hby d4_11) rfl rfl ?_
    show Steps p.tables e below (T42.setTop (mkF m 12 #[.val (.ref a1), .val (.ref a2), .val (.int (0 : Int32))] [(.ref a2)])) _
    refine XS.aloadN X42.here hx rfl (hb hby d4_12) rfl rfl ?_
    refine st44 _ ?_
    refine XS.iloadN X44.here hx rfl (hb hby d4_16) rfl ?_
    refine X44.iaload hx (j := (0 : Int32)) (v := (.int f0)) (by rw [e44]; exact Ar45.1) (State.isArrayOf_alike hZ.alike Ar45.2.1) Ar45.2.2 hin45 hat45 (g := (mkF m 17 #[.val (.ref a1), .val (.ref a2), .val (.int (0 : Int32))] [(.int (0 : Int32)), (.ref fa), (.ref a2)])) rfl rfl (hb hby d4_17) _ ?_
    show Steps p.tables e below (T44.setTop (mkF m 18 #[.val (.ref a1), .val (.ref a2), .val (.int (0 : Int32))] [(.int f0), (.ref a2)])) _
    refine X44.iaload hx (j := f0) (v := (.int (own_sel4 f0 ea eb ec ed))) (by rw [e44]; exact Ar46.1) (State.isArrayOf_alike hZ.alike Ar46.2.1) Ar46.2.2 hin46 hat46 (g := (mkF m 18 #[.val (.ref a1), .val (.ref a2), .val (.int (0 : Int32))] [(.int f0), (.ref a2)])) rfl rfl (hb hby d4_18) _ ?_
    refine XS.aloadN X44.here hx rfl (hb hby d4_19) rfl rfl ?_
    refine st47 _ ?_
    refine XS.iloadN X47.here hx rfl (hb hby d4_23) rfl ?_
    show Steps p.tables e below (T47.setTop (mkF m 24 #[.val (.ref a1), .val (.ref a2), .val (.int (0 : Int32))] [(.int (0 : Int32)), (.ref va), (.int (own_sel4 f0 ea eb ec ed))])) _
    refine X47.iaload hx (j := (0 : Int32)) (v := (.int v0)) (by rw [e47]; exact Ar48.1) (State.isArrayOf_alike hZ.alike Ar48.2.1) Ar48.2.2 hin48 hat48 (g := (mkF m 24 #[.val (.ref a1), .val (.ref a2), .val (.int (0 : Int32))] [(.int (0 : Int32)), (.ref va), (.int (own_sel4 f0 ea eb ec ed))])) rfl rfl (hb hby d4_24) _ ?_
    exact kt
  by_cases hc25_49 : (own_sel4 f0 ea eb ec ed) = v0
  · obtain ⟨T51, X51, e51, st51⟩ := getF X47 hx hZ hown (host := "") (Or.inl (wd_15 hw)) Via.refl e47 F_features_a1 (g := (mkF m 4 #[.val (.ref a1), .val (.ref a2), .val (.int (1 : Int32))] [(.ref a1), (.int (1 : Int32))])) rfl rfl (hb hby d4_4)
    obtain ⟨cl52, Ar52, q52, S52, N52n, H52, G52⟩ := id (V_fa)
    obtain ⟨T53, X53, e53, st53⟩ := getF X51 hx hZ hown (host := "") (Or.inl (wd_15 hw)) Via.refl e51 F_features_a1 (g := (mkF m 13 #[.val (.ref a1), .val (.ref a2), .val (.int (1 : Int32))] [(.ref a1), (.ref a2)])) rfl rfl (hb hby d4_13)
    obtain ⟨cl54, Ar54, q54, S54, N54n, H54, G54⟩ := id (V_fa)
    have hin54 : ¬ ((1 : Int32) < 0 ∨ cl54.slots.size ≤ ((1 : Int32)).toNatClampNeg) := inb_of S54 ⟨by decide, by decide⟩
    have hat54 : cl54.slots[((1 : Int32)).toNatClampNeg]? = some (.int f1) := H54.at hin54 rfl
    obtain ⟨cl55, Ar55, q55, S55, N55n, H55, G55⟩ := id (V_a2)
    have hin55 : ¬ (f1 < 0 ∨ cl55.slots.size ≤ (f1).toNatClampNeg) := inb_of S55 hb_f1
    have hat55 : cl55.slots[(f1).toNatClampNeg]? = some (.int (own_sel4 f1 ea eb ec ed)) := H55.at hin55 (own_at4 hb_f1)
    obtain ⟨T56, X56, e56, st56⟩ := getF X53 hx hZ hown (host := "") (Or.inl (wd_17 hw)) Via.refl e53 F_values_a1 (g := (mkF m 20 #[.val (.ref a1), .val (.ref a2), .val (.int (1 : Int32))] [(.ref a1), (.int (own_sel4 f1 ea eb ec ed))])) rfl rfl (hb hby d4_20)
    obtain ⟨cl57, Ar57, q57, S57, N57n, H57, G57⟩ := id (V_va)
    have hin57 : ¬ ((1 : Int32) < 0 ∨ cl57.slots.size ≤ ((1 : Int32)).toNatClampNeg) := inb_of S57 ⟨by decide, by decide⟩
    have hat57 : cl57.slots[((1 : Int32)).toNatClampNeg]? = some (.int v1) := H57.at hin57 rfl
    have pre59 : ∀ t, Steps p.tables e below (T56.setTop (mkF m 25 #[.val (.ref a1), .val (.ref a2), .val (.int (1 : Int32))] [(.int v1), (.int (own_sel4 f1 ea eb ec ed))])) t → Steps p.tables e below (s₁.setTop (entryFrame m #[(.ref a1), (.ref a2)] 3)) t := by
      intro t kt
      refine pre50 _ ?_
      show Steps p.tables e below (T47.setTop (mkF m 25 #[.val (.ref a1), .val (.ref a2), .val (.int (0 : Int32))] [(.int v0), (.int (own_sel4 f0 ea eb ec ed))])) _
      refine XS.icmpYes X47.here hx rfl (pc0 := 25) (pc' := 30) rfl (hb hby d4_25) rfl (teq hc25_49).1 (by decide) (by decide) ?_
      refine XS.iinc X47.here hx rfl (hb hby d4_30) rfl (l' := #[.val (.ref a1), .val (.ref a2), .val (.int (1 : Int32))]) rfl ?_
      refine XS.goto X47.here hx rfl (pc0 := 33) (pc' := 2) rfl (hb hby d4_33) (by decide) (by decide) ?_
      show Steps p.tables e below (T47.setTop (mkF m 2 #[.val (.ref a1), .val (.ref a2), .val (.int (1 : Int32))] [])) _
      refine XS.iloadN X47.here hx rfl (hb hby d4_2) rfl ?_
      refine XS.aloadN X47.here hx rfl (hb hby d4_3) rfl rfl ?_
      refine st51 _ ?_
      refine X51.arraylength hx (by rw [e51]; exact Ar52.1) (State.isArrayOf_alike hZ.alike Ar52.2.1) (g := (mkF m 7 #[.val (.ref a1), .val (.ref a2), .val (.int (1 : Int32))] [(.ref fa), (.int (1 : Int32))])) rfl rfl (hb hby d4_7) _ ?_
      rw [len_of S52 N52n]
      show Steps p.tables e below (T51.setTop (mkF m 8 #[.val (.ref a1), .val (.ref a2), .val (.int (1 : Int32))] [(.int (3 : Int32)), (.int (1 : Int32))])) _
      refine XS.icmpNo X51.here hx rfl (hb hby d4_8) rfl (tlt (by decide)).2.1 ?_
      refine XS.aloadN X51.here hx rfl (hb hby d4_11) rfl rfl ?_
      refine XS.aloadN X51.here hx rfl (hb hby d4_12) rfl rfl ?_
      refine st53 _ ?_
      show Steps p.tables e below (T53.setTop (mkF m 16 #[.val (.ref a1), .val (.ref a2), .val (.int (1 : Int32))] [(.ref fa), (.ref a2)])) _
      refine XS.iloadN X53.here hx rfl (hb hby d4_16) rfl ?_
      refine X53.iaload hx (j := (1 : Int32)) (v := (.int f1)) (by rw [e53]; exact Ar54.1) (State.isArrayOf_alike hZ.alike Ar54.2.1) Ar54.2.2 hin54 hat54 (g := (mkF m 17 #[.val (.ref a1), .val (.ref a2), .val (.int (1 : Int32))] [(.int (1 : Int32)), (.ref fa), (.ref a2)])) rfl rfl (hb hby d4_17) _ ?_
      refine X53.iaload hx (j := f1) (v := (.int (own_sel4 f1 ea eb ec ed))) (by rw [e53]; exact Ar55.1) (State.isArrayOf_alike hZ.alike Ar55.2.1) Ar55.2.2 hin55 hat55 (g := (mkF m 18 #[.val (.ref a1), .val (.ref a2), .val (.int (1 : Int32))] [(.int f1), (.ref a2)])) rfl rfl (hb hby d4_18) _ ?_
      refine XS.aloadN X53.here hx rfl (hb hby d4_19) rfl rfl ?_
      show Steps p.tables e below (T53.setTop (mkF m 20 #[.val (.ref a1), .val (.ref a2), .val (.int (1 : Int32))] [(.ref a1), (.int (own_sel4 f1 ea eb ec ed))])) _
      refine st56 _ ?_
      refine XS.iloadN X56.here hx rfl (hb hby d4_23) rfl ?_
      refine X56.iaload hx (j := (1 : Int32)) (v := (.int v1)) (by rw [e56]; exact Ar57.1) (State.isArrayOf_alike hZ.alike Ar57.2.1) Ar57.2.2 hin57 hat57 (g := (mkF m 24 #[.val (.ref a1), .val (.ref a2), .val (.int (1 : Int32))] [(.int (1 : Int32)), (.ref va), (.int (own_sel4 f1 ea eb ec ed))])) rfl rfl (hb hby d4_24) _ ?_
      exact kt
    by_cases hc25_58 : (own_sel4 f1 ea eb ec ed) = v1
    · obtain ⟨T60, X60, e60, st60⟩ := getF X56 hx hZ hown (host := "") (Or.inl (wd_15 hw)) Via.refl e56 F_features_a1 (g := (mkF m 4 #[.val (.ref a1), .val (.ref a2), .val (.int (2 : Int32))] [(.ref a1), (.int (2 : Int32))])) rfl rfl (hb hby d4_4)
      obtain ⟨cl61, Ar61, q61, S61, N61n, H61, G61⟩ := id (V_fa)
      obtain ⟨T62, X62, e62, st62⟩ := getF X60 hx hZ hown (host := "") (Or.inl (wd_15 hw)) Via.refl e60 F_features_a1 (g := (mkF m 13 #[.val (.ref a1), .val (.ref a2), .val (.int (2 : Int32))] [(.ref a1), (.ref a2)])) rfl rfl (hb hby d4_13)
      obtain ⟨cl63, Ar63, q63, S63, N63n, H63, G63⟩ := id (V_fa)
      have hin63 : ¬ ((2 : Int32) < 0 ∨ cl63.slots.size ≤ ((2 : Int32)).toNatClampNeg) := inb_of S63 ⟨by decide, by decide⟩
      have hat63 : cl63.slots[((2 : Int32)).toNatClampNeg]? = some (.int f2) := H63.at hin63 rfl
      obtain ⟨cl64, Ar64, q64, S64, N64n, H64, G64⟩ := id (V_a2)
      have hin64 : ¬ (f2 < 0 ∨ cl64.slots.size ≤ (f2).toNatClampNeg) := inb_of S64 hb_f2
      have hat64 : cl64.slots[(f2).toNatClampNeg]? = some (.int (own_sel4 f2 ea eb ec ed)) := H64.at hin64 (own_at4 hb_f2)
      obtain ⟨T65, X65, e65, st65⟩ := getF X62 hx hZ hown (host := "") (Or.inl (wd_17 hw)) Via.refl e62 F_values_a1 (g := (mkF m 20 #[.val (.ref a1), .val (.ref a2), .val (.int (2 : Int32))] [(.ref a1), (.int (own_sel4 f2 ea eb ec ed))])) rfl rfl (hb hby d4_20)
      obtain ⟨cl66, Ar66, q66, S66, N66n, H66, G66⟩ := id (V_va)
      have hin66 : ¬ ((2 : Int32) < 0 ∨ cl66.slots.size ≤ ((2 : Int32)).toNatClampNeg) := inb_of S66 ⟨by decide, by decide⟩
      have hat66 : cl66.slots[((2 : Int32)).toNatClampNeg]? = some (.int v2) := H66.at hin66 rfl
      have pre68 : ∀ t, Steps p.tables e below (T65.setTop (mkF m 25 #[.val (.ref a1), .val (.ref a2), .val (.int (2 : Int32))] [(.int v2), (.int (own_sel4 f2 ea eb ec ed))])) t → Steps p.tables e below (s₁.setTop (entryFrame m #[(.ref a1), (.ref a2)] 3)) t := by
        intro t kt
        refine pre59 _ ?_
        show Steps p.tables e below (T56.setTop (mkF m 25 #[.val (.ref a1), .val (.ref a2), .val (.int (1 : Int32))] [(.int v1), (.int (own_sel4 f1 ea eb ec ed))])) _
        refine XS.icmpYes X56.here hx rfl (pc0 := 25) (pc' := 30) rfl (hb hby d4_25) rfl (teq hc25_58).1 (by decide) (by decide) ?_
        show Steps p.tables e below (T56.setTop (mkF m 30 #[.val (.ref a1), .val (.ref a2), .val (.int (1 : Int32))] [])) _
        refine XS.iinc X56.here hx rfl (hb hby d4_30) rfl (l' := #[.val (.ref a1), .val (.ref a2), .val (.int (2 : Int32))]) rfl ?_
        refine XS.goto X56.here hx rfl (pc0 := 33) (pc' := 2) rfl (hb hby d4_33) (by decide) (by decide) ?_
        refine XS.iloadN X56.here hx rfl (hb hby d4_2) rfl ?_
        refine XS.aloadN X56.here hx rfl (hb hby d4_3) rfl rfl ?_
        show Steps p.tables e below (T56.setTop (mkF m 4 #[.val (.ref a1), .val (.ref a2), .val (.int (2 : Int32))] [(.ref a1), (.int (2 : Int32))])) _
        refine st60 _ ?_
        refine X60.arraylength hx (by rw [e60]; exact Ar61.1) (State.isArrayOf_alike hZ.alike Ar61.2.1) (g := (mkF m 7 #[.val (.ref a1), .val (.ref a2), .val (.int (2 : Int32))] [(.ref fa), (.int (2 : Int32))])) rfl rfl (hb hby d4_7) _ ?_
        rw [len_of S61 N61n]
        refine XS.icmpNo X60.here hx rfl (hb hby d4_8) rfl (tlt (by decide)).2.1 ?_
        refine XS.aloadN X60.here hx rfl (hb hby d4_11) rfl rfl ?_
        show Steps p.tables e below (T60.setTop (mkF m 12 #[.val (.ref a1), .val (.ref a2), .val (.int (2 : Int32))] [(.ref a2)])) _
        refine XS.aloadN X60.here hx rfl (hb hby d4_12) rfl rfl ?_
        refine st62 _ ?_
        refine XS.iloadN X62.here hx rfl (hb hby d4_16) rfl ?_
        refine X62.iaload hx (j := (2 : Int32)) (v := (.int f2)) (by rw [e62]; exact Ar63.1) (State.isArrayOf_alike hZ.alike Ar63.2.1) Ar63.2.2 hin63 hat63 (g := (mkF m 17 #[.val (.ref a1), .val (.ref a2), .val (.int (2 : Int32))] [(.int (2 : Int32)), (.ref fa), (.ref a2)])) rfl rfl (hb hby d4_17) _ ?_
        show Steps p.tables e below (T62.setTop (mkF m 18 #[.val (.ref a1), .val (.ref a2), .val (.int (2 : Int32))] [(.int f2), (.ref a2)])) _
        refine X62.iaload hx (j := f2) (v := (.int (own_sel4 f2 ea eb ec ed))) (by rw [e62]; exact Ar64.1) (State.isArrayOf_alike hZ.alike Ar64.2.1) Ar64.2.2 hin64 hat64 (g := (mkF m 18 #[.val (.ref a1), .val (.ref a2), .val (.int (2 : Int32))] [(.int f2), (.ref a2)])) rfl rfl (hb hby d4_18) _ ?_
        refine XS.aloadN X62.here hx rfl (hb hby d4_19) rfl rfl ?_
        refine st65 _ ?_
        refine XS.iloadN X65.here hx rfl (hb hby d4_23) rfl ?_
        show Steps p.tables e below (T65.setTop (mkF m 24 #[.val (.ref a1), .val (.ref a2), .val (.int (2 : Int32))] [(.int (2 : Int32)), (.ref va), (.int (own_sel4 f2 ea eb ec ed))])) _
        refine X65.iaload hx (j := (2 : Int32)) (v := (.int v2)) (by rw [e65]; exact Ar66.1) (State.isArrayOf_alike hZ.alike Ar66.2.1) Ar66.2.2 hin66 hat66 (g := (mkF m 24 #[.val (.ref a1), .val (.ref a2), .val (.int (2 : Int32))] [(.int (2 : Int32)), (.ref va), (.int (own_sel4 f2 ea eb ec ed))])) rfl rfl (hb hby d4_24) _ ?_
        exact kt
      by_cases hc25_67 : (own_sel4 f2 ea eb ec ed) = v2
      · obtain ⟨T69, X69, e69, st69⟩ := getF X65 hx hZ hown (host := "") (Or.inl (wd_15 hw)) Via.refl e65 F_features_a1 (g := (mkF m 4 #[.val (.ref a1), .val (.ref a2), .val (.int (3 : Int32))] [(.ref a1), (.int (3 : Int32))])) rfl rfl (hb hby d4_4)
        obtain ⟨cl70, Ar70, q70, S70, N70n, H70, G70⟩ := id (V_fa)
        obtain ⟨fs, hr, hrun, hended, hW, hsame⟩ := X69.leave (v := some (.int (1 : Int32))) (fun h => by rw [Bd.returns] at h; cases h)
        refine ⟨_, _, pre68 _ ?_, hrun, hended, _, _, rfl, ?_, ⟨_, rfl⟩, hW, hsame.mono (by decide) (by decide)⟩
        · show Steps p.tables e below (T65.setTop (mkF m 25 #[.val (.ref a1), .val (.ref a2), .val (.int (2 : Int32))] [(.int v2), (.int (own_sel4 f2 ea eb ec ed))])) _
          refine XS.icmpYes X65.here hx rfl (pc0 := 25) (pc' := 30) rfl (hb hby d4_25) rfl (teq hc25_67).1 (by decide) (by decide) ?_
          refine XS.iinc X65.here hx rfl (hb hby d4_30) rfl (l' := #[.val (.ref a1), .val (.ref a2), .val (.int (3 : Int32))]) rfl ?_
          refine XS.goto X65.here hx rfl (pc0 := 33) (pc' := 2) rfl (hb hby d4_33) (by decide) (by decide) ?_
          show Steps p.tables e below (T65.setTop (mkF m 2 #[.val (.ref a1), .val (.ref a2), .val (.int (3 : Int32))] [])) _
          refine XS.iloadN X65.here hx rfl (hb hby d4_2) rfl ?_
          refine XS.aloadN X65.here hx rfl (hb hby d4_3) rfl rfl ?_
          refine st69 _ ?_
          refine X69.arraylength hx (by rw [e69]; exact Ar70.1) (State.isArrayOf_alike hZ.alike Ar70.2.1) (g := (mkF m 7 #[.val (.ref a1), .val (.ref a2), .val (.int (3 : Int32))] [(.ref fa), (.int (3 : Int32))])) rfl rfl (hb hby d4_7) _ ?_
          rw [len_of S70 N70n]
          show Steps p.tables e below (T69.setTop (mkF m 8 #[.val (.ref a1), .val (.ref a2), .val (.int (3 : Int32))] [(.int (3 : Int32)), (.int (3 : Int32))])) _
          refine XS.icmpYes X69.here hx rfl (pc0 := 8) (pc' := 36) rfl (hb hby d4_8) rfl (flt (by decide)).2.1 (by decide) (by decide) ?_
          refine XS.iconst X69.here hx rfl (hb hby d4_36) ?_
          exact retN X69 hx (t := .boolean) Bd.returns (by simp) (hb hby d4_37) hr
        · show Q_rmm3 Z a1 a2 fa va kf kv ke f0 f1 f2 v0 v1 v2 ea eb ec ed h0 n0 _ T69.heap _
          rw [e69]
          exact ⟨(by simp only [if_pos hc25_49, if_pos hc25_58, if_pos hc25_67]), N0, rfl⟩
      · obtain ⟨fs, hr, hrun, hended, hW, hsame⟩ := X65.leave (v := some (.int (0 : Int32))) (fun h => by rw [Bd.returns] at h; cases h)
        refine ⟨_, _, pre68 _ ?_, hrun, hended, _, _, rfl, ?_, ⟨_, rfl⟩, hW, hsame.mono (by decide) (by decide)⟩
        · show Steps p.tables e below (T65.setTop (mkF m 25 #[.val (.ref a1), .val (.ref a2), .val (.int (2 : Int32))] [(.int v2), (.int (own_sel4 f2 ea eb ec ed))])) _
          refine XS.icmpNo X65.here hx rfl (hb hby d4_25) rfl (feq hc25_67).1 ?_
          refine XS.iconst X65.here hx rfl (hb hby d4_28) ?_
          exact retN X65 hx (t := .boolean) Bd.returns (by simp) (hb hby d4_29) hr
        · show Q_rmm3 Z a1 a2 fa va kf kv ke f0 f1 f2 v0 v1 v2 ea eb ec ed h0 n0 _ T65.heap _
          rw [e65]
          exact ⟨(by simp only [if_pos hc25_49, if_pos hc25_58, if_neg hc25_67]), N0, rfl⟩
    · obtain ⟨fs, hr, hrun, hended, hW, hsame⟩ := X56.leave (v := some (.int (0 : Int32))) (fun h => by rw [Bd.returns] at h; cases h)
      refine ⟨_, _, pre59 _ ?_, hrun, hended, _, _, rfl, ?_, ⟨_, rfl⟩, hW, hsame.mono (by decide) (by decide)⟩
      · show Steps p.tables e below (T56.setTop (mkF m 25 #[.val (.ref a1), .val (.ref a2), .val (.int (1 : Int32))] [(.int v1), (.int (own_sel4 f1 ea eb ec ed))])) _
        refine XS.icmpNo X56.here hx rfl (hb hby d4_25) rfl (feq hc25_58).1 ?_
        show Steps p.tables e below (T56.setTop (mkF m 28 #[.val (.ref a1), .val (.ref a2), .val (.int (1 : Int32))] [])) _
        refine XS.iconst X56.here hx rfl (hb hby d4_28) ?_
        exact retN X56 hx (t := .boolean) Bd.returns (by simp) (hb hby d4_29) hr
      · show Q_rmm3 Z a1 a2 fa va kf kv ke f0 f1 f2 v0 v1 v2 ea eb ec ed h0 n0 _ T56.heap _
        rw [e56]
        exact ⟨(by simp only [if_pos hc25_49, if_neg hc25_58]), N0, rfl⟩
  · obtain ⟨fs, hr, hrun, hended, hW, hsame⟩ := X47.leave (v := some (.int (0 : Int32))) (fun h => by rw [Bd.returns] at h; cases h)
    refine ⟨_, _, pre50 _ ?_, hrun, hended, _, _, rfl, ?_, ⟨_, rfl⟩, hW, hsame.mono (by decide) (by decide)⟩
    · show Steps p.tables e below (T47.setTop (mkF m 25 #[.val (.ref a1), .val (.ref a2), .val (.int (0 : Int32))] [(.int v0), (.int (own_sel4 f0 ea eb ec ed))])) _
      refine XS.icmpNo X47.here hx rfl (hb hby d4_25) rfl (feq hc25_49).1 ?_
      refine XS.iconst X47.here hx rfl (hb hby d4_28) ?_
      exact retN X47 hx (t := .boolean) Bd.returns (by simp) (hb hby d4_29) hr
    · show Q_rmm3 Z a1 a2 fa va kf kv ke f0 f1 f2 v0 v1 v2 ea eb ec ed h0 n0 _ T47.heap _
      rw [e47]
      exact ⟨(by simp only [if_neg hc25_49]), N0, rfl⟩
theorem wd_0 {a0 : Array Value} {Z : State} (hw : ∀ d ∈ tables_1, d.before a0 Z = true) : (Jvm.Cond.arrayClass Jvm.ClassFile.FieldType.int).before a0 Z = true := hw _ (List.mem_of_getElem? (i := 0) rfl)
theorem wd_1 {a0 : Array Value} {Z : State} (hw : ∀ d ∈ tables_1, d.before a0 Z = true) : (Jvm.Cond.classLink "com/example/counterlens/counterlens/ForbiddenMatchesPinLaw" (7 : Nat) "com/example/counterlens/counterlens/Rules$Forbidden").before a0 Z = true := hw _ (List.mem_of_getElem? (i := 1) rfl)
theorem wd_3 {a0 : Array Value} {Z : State} (hw : ∀ d ∈ tables_1, d.before a0 Z = true) : (Jvm.Cond.initialized "com/example/counterlens/counterlens/Rules$Forbidden").before a0 Z = true := hw _ (List.mem_of_getElem? (i := 3) rfl)
theorem wd_4 {a0 : Array Value} {Z : State} (hw : ∀ d ∈ tables_1, d.before a0 Z = true) : (Jvm.Cond.methodLink "com/example/counterlens/counterlens/ForbiddenMatchesPinLaw" (9 : Nat) ({ cls := "com/example/counterlens/counterlens/Rules$Forbidden", name := "<init>", desc := "([I[I)V" } : Jvm.MethodName)).before a0 Z = true := hw _ (List.mem_of_getElem? (i := 4) rfl)
theorem wd_6 {a0 : Array Value} {Z : State} (hw : ∀ d ∈ tables_1, d.before a0 Z = true) : (Jvm.Cond.code ({ cls := "com/example/counterlens/counterlens/Rules$Forbidden", name := "<init>", desc := "([I[I)V" } : Jvm.MethodName) prog_64_method_1_code (3 : Nat) (Option.none : Option Jvm.ClassFile.FieldType)).before a0 Z = true := hw _ (List.mem_of_getElem? (i := 6) rfl)
theorem pd___I_I_V : parseMethodDescriptor "([I[I)V" = some ⟨[(.array .int), (.array .int)], none⟩ := by decide +kernel
theorem wd_5 {a0 : Array Value} {Z : State} (hw : ∀ d ∈ tables_1, d.before a0 Z = true) : (Jvm.Cond.instanceMethod ({ cls := "com/example/counterlens/counterlens/Rules$Forbidden", name := "<init>", desc := "([I[I)V" } : Jvm.MethodName)).before a0 Z = true := hw _ (List.mem_of_getElem? (i := 5) rfl)
theorem wd_19 {a0 : Array Value} {Z : State} (hw : ∀ d ∈ tables_1, d.before a0 Z = true) : (Jvm.Cond.methodLink "com/example/counterlens/counterlens/ForbiddenMatchesPinLaw" (12 : Nat) ({ cls := "com/example/counterlens/counterlens/Rules$Forbidden", name := "matches", desc := "([I)Z" } : Jvm.MethodName)).before a0 Z = true := hw _ (List.mem_of_getElem? (i := 19) rfl)
theorem wd_23 {a0 : Array Value} {Z : State} (hw : ∀ d ∈ tables_1, d.before a0 Z = true) : (Jvm.Cond.code ({ cls := "com/example/counterlens/counterlens/Rules$Forbidden", name := "matches", desc := "([I)Z" } : Jvm.MethodName) prog_64_method_2_code (3 : Nat) (Option.some Jvm.ClassFile.FieldType.boolean)).before a0 Z = true := hw _ (List.mem_of_getElem? (i := 23) rfl)
theorem pd___I_Z : parseMethodDescriptor "([I)Z" = some ⟨[(.array .int)], some .boolean⟩ := by decide +kernel
theorem wd_22 {a0 : Array Value} {Z : State} (hw : ∀ d ∈ tables_1, d.before a0 Z = true) : (Jvm.Cond.selects "com/example/counterlens/counterlens/Rules$Forbidden" ({ cls := "com/example/counterlens/counterlens/Rules$Forbidden", name := "matches", desc := "([I)Z" } : Jvm.MethodName) ({ cls := "com/example/counterlens/counterlens/Rules$Forbidden", name := "matches", desc := "([I)Z" } : Jvm.MethodName)).before a0 Z = true := hw _ (List.mem_of_getElem? (i := 22) rfl)
theorem wd_20 {a0 : Array Value} {Z : State} (hw : ∀ d ∈ tables_1, d.before a0 Z = true) : (Jvm.Cond.declares ({ cls := "com/example/counterlens/counterlens/Rules$Forbidden", name := "matches", desc := "([I)Z" } : Jvm.MethodName)).before a0 Z = true := hw _ (List.mem_of_getElem? (i := 20) rfl)
theorem wd_21 {a0 : Array Value} {Z : State} (hw : ∀ d ∈ tables_1, d.before a0 Z = true) : (Jvm.Cond.instanceMethod ({ cls := "com/example/counterlens/counterlens/Rules$Forbidden", name := "matches", desc := "([I)Z" } : Jvm.MethodName)).before a0 Z = true := hw _ (List.mem_of_getElem? (i := 21) rfl)
theorem ef_0 (m : MethodId) (x0 : Int32) (x1 : Int32) (x2 : Int32) : entryFrame m #[(.int x0), (.int x1), (.int x2)] maxLocals = mkF m 0 #[.val (.int x0), .val (.int x1), .val (.int x2), .unset, .unset, .unset, .unset, .unset, .unset, .unset, .unset, .unset, .unset, .unset, .unset] [] := by first | (simp [entryFrame, mkF, argsToLocals, Value.category, maxLocals]; done) | rfl
theorem pn_com_example_counterlens_counterlens_ForbiddenMatchesPinLaw : plainName "com/example/counterlens/counterlens/ForbiddenMatchesPinLaw" = true := by first | (simp [plainName, overriddenIn]; done) | decide +kernel
def Q_rm0 (Z : State) (p1 : Int32) (p2 : Int32) (p3 : Int32) (h0 : Heap) (n0 : Nat) (v : Option Value) (h : Heap) (L : List Loc) : Prop := v = some (.int (1 : Int32)) ∧ Fr n0 L ∧ True
set_option maxRecDepth 65536 in
set_option maxHeartbeats 40000000 in
theorem rm0 (l : Launch) (Z : State) (a0 : Array Value) (hw : ∀ d ∈ tables_1, d.before a0 Z = true) (ws : List Jvm.Cond) (p1 : Int32) (p2 : Int32) (p3 : Int32) (h0 : Heap) (n0 : Nat) (Z0 : n0 ≤ h0.size) :
    MetFree l x (head1 (Jvm.Cond.code x code maxLocals ret :: ws) room_1) (fun a U => a = #[(.int p1), (.int p2), (.int p3)] ∧ Z.Warmed39 U.vm ∧ U.heap = h0) (fun _ _ _ _ _ => True) (fun _ U o U' => ∃ v L, o = .returned v ∧ Q_rm0 Z p1 p2 p3 h0 n0 v U'.heap L ∧ FrameEnd U o U' L room_1.cells room_1.slots) := by
  refine MetFree.of_bodySF (plainFor_of_name pn_com_example_counterlens_counterlens_ForbiddenMatchesPinLaw) hisR ?_
  intro p e s m args below meth c s₁ Bd hml0 hP hK
  obtain ⟨rfl, hZ, hh⟩ := hP
  have hx := Bd.exec
  have hby := Bd.bytes
  have hml : c.maxLocals = 15 := hml0
  have hown : s.vm.findClass "com/example/counterlens/counterlens/ForbiddenMatchesPinLaw" = some m.cls := findClass_of_methodNamed Bd.named
  have hnm := (name_of_methodNamed Bd.named Bd.method).1
  have X0 : Stand p l e room_1 s m #[(.int p1), (.int p2), (.int p3)] below meth c s₁ [] 0 0 := Stand.of_body Bd
  have e0 : s₁.heap = h0 := by rw [← hh, Bd.state]; rfl
  have N0 := Fr.nil n0
  have pre0 : ∀ t, Steps p.tables e below (s₁.setTop (mkF m 0 #[.val (.int p1), .val (.int p2), .val (.int p3), .unset, .unset, .unset, .unset, .unset, .unset, .unset, .unset, .unset, .unset, .unset, .unset] [])) t → Steps p.tables e below (s₁.setTop (entryFrame m #[(.int p1), (.int p2), (.int p3)] maxLocals)) t := fun t k => castTop (ef_0 m p1 p2 p3) k
  obtain ⟨kk, hkk⟩ : ∃ z : Int32, z = (p1 &&& (3 : Int32)) := ⟨_, rfl⟩
  have pre71 : ∀ t, Steps p.tables e below (s₁.setTop (mkF m 4 #[.val (.int p1), .val (.int p2), .val (.int p3), .val (.int kk), .unset, .unset, .unset, .unset, .unset, .unset, .unset, .unset, .unset, .unset, .unset] [])) t → Steps p.tables e below (s₁.setTop (entryFrame m #[(.int p1), (.int p2), (.int p3)] maxLocals)) t := by
    intro t kt
    rw [hkk] at kt
    refine pre0 _ ?_
    show Steps p.tables e below (s₁.setTop (mkF m 0 #[.val (.int p1), .val (.int p2), .val (.int p3), .unset, .unset, .unset, .unset, .unset, .unset, .unset, .unset, .unset, .unset, .unset, .unset] [])) _
    refine XS.iloadN X0.here hx rfl (hb hby at_0) rfl ?_
    refine XS.iconst X0.here hx rfl (hb hby at_1) ?_
    refine XS.iand X0.here hx rfl (hb hby at_2) rfl ?_
    refine XS.istoreN X0.here hx rfl (hb hby at_3) rfl (l' := #[.val (.int p1), .val (.int p2), .val (.int p3), .val (.int (p1 &&& (3 : Int32))), .unset, .unset, .unset, .unset, .unset, .unset, .unset, .unset, .unset, .unset, .unset]) rfl ?_
    show Steps p.tables e below (s₁.setTop (mkF m 4 #[.val (.int p1), .val (.int p2), .val (.int p3), .val (.int (p1 &&& (3 : Int32))), .unset, .unset, .unset, .unset, .unset, .unset, .unset, .unset, .unset, .unset, .unset] [])) _
    exact kt
  have hb_kk : ¬ kk < 0 ∧ kk < (4 : Int32) := by rw [hkk]; exact own_and3 p1
  have h4 := own_four hb_kk
  clear hb_kk hkk
  rcases h4 with rfl | rfl | rfl | rfl
  · obtain ⟨f0, hf0⟩ : ∃ z : Int32, z = (((p1.toUInt32 >>> ((2 : Int32) &&& 31).toUInt32).toInt32) &&& (3 : Int32)) := ⟨_, rfl⟩
    obtain ⟨f1, hf1⟩ : ∃ z : Int32, z = (((p1.toUInt32 >>> ((4 : Int32) &&& 31).toUInt32).toInt32) &&& (3 : Int32)) := ⟨_, rfl⟩
    obtain ⟨f2, hf2⟩ : ∃ z : Int32, z = (((p1.toUInt32 >>> ((6 : Int32) &&& 31).toUInt32).toInt32) &&& (3 : Int32)) := ⟨_, rfl⟩
    obtain ⟨v0, hv0⟩ : ∃ z : Int32, z = ((p2 &&& (7 : Int32)) - (3 : Int32)) := ⟨_, rfl⟩
    obtain ⟨v1, hv1⟩ : ∃ z : Int32, z = ((((p2.toUInt32 >>> ((3 : Int32) &&& 31).toUInt32).toInt32) &&& (7 : Int32)) - (3 : Int32)) := ⟨_, rfl⟩
    obtain ⟨v2, hv2⟩ : ∃ z : Int32, z = ((((p2.toUInt32 >>> ((6 : Int32) &&& 31).toUInt32).toInt32) &&& (7 : Int32)) - (3 : Int32)) := ⟨_, rfl⟩
    have pre72 : ∀ t, Steps p.tables e below (s₁.setTop (mkF m 55 #[.val (.int p1), .val (.int p2), .val (.int p3), .val (.int (0 : Int32)), .val (.int f0), .val (.int f1), .val (.int f2), .val (.int v0), .val (.int v1), .val (.int v2), .unset, .unset, .unset, .unset, .unset] [])) t → Steps p.tables e below (s₁.setTop (entryFrame m #[(.int p1), (.int p2), (.int p3)] maxLocals)) t := by
      intro t kt
      rw [hf0, hf1, hf2, hv0, hv1, hv2] at kt
      refine pre71 _ ?_
      show Steps p.tables e below (s₁.setTop (mkF m 4 #[.val (.int p1), .val (.int p2), .val (.int p3), .val (.int (0 : Int32)), .unset, .unset, .unset, .unset, .unset, .unset, .unset, .unset, .unset, .unset, .unset] [])) _
      refine XS.iloadN X0.here hx rfl (hb hby at_4) rfl ?_
      refine XS.iconst X0.here hx rfl (hb hby at_5) ?_
      refine XS.iushr X0.here hx rfl (hb hby at_6) rfl ?_
      refine XS.iconst X0.here hx rfl (hb hby at_7) ?_
      show Steps p.tables e below (s₁.setTop (mkF m 8 #[.val (.int p1), .val (.int p2), .val (.int p3), .val (.int (0 : Int32)), .unset, .unset, .unset, .unset, .unset, .unset, .unset, .unset, .unset, .unset, .unset] [(.int (3 : Int32)), (.int ((p1.toUInt32 >>> ((2 : Int32) &&& 31).toUInt32).toInt32))])) _
      refine XS.iand X0.here hx rfl (hb hby at_8) rfl ?_
      refine XS.istore X0.here hx rfl (hb hby at_9) rfl (l' := #[.val (.int p1), .val (.int p2), .val (.int p3), .val (.int (0 : Int32)), .val (.int (((p1.toUInt32 >>> ((2 : Int32) &&& 31).toUInt32).toInt32) &&& (3 : Int32))), .unset, .unset, .unset, .unset, .unset, .unset, .unset, .unset, .unset, .unset]) rfl ?_
      refine XS.iloadN X0.here hx rfl (hb hby at_11) rfl ?_
      refine XS.iconst X0.here hx rfl (hb hby at_12) ?_
      show Steps p.tables e below (s₁.setTop (mkF m 13 #[.val (.int p1), .val (.int p2), .val (.int p3), .val (.int (0 : Int32)), .val (.int (((p1.toUInt32 >>> ((2 : Int32) &&& 31).toUInt32).toInt32) &&& (3 : Int32))), .unset, .unset, .unset, .unset, .unset, .unset, .unset, .unset, .unset, .unset] [(.int (4 : Int32)), (.int p1)])) _
      refine XS.iushr X0.here hx rfl (hb hby at_13) rfl ?_
      refine XS.iconst X0.here hx rfl (hb hby at_14) ?_
      refine XS.iand X0.here hx rfl (hb hby at_15) rfl ?_
      refine XS.istore X0.here hx rfl (hb hby at_16) rfl (l' := #[.val (.int p1), .val (.int p2), .val (.int p3), .val (.int (0 : Int32)), .val (.int (((p1.toUInt32 >>> ((2 : Int32) &&& 31).toUInt32).toInt32) &&& (3 : Int32))), .val (.int (((p1.toUInt32 >>> ((4 : Int32) &&& 31).toUInt32).toInt32) &&& (3 : Int32))), .unset, .unset, .unset, .unset, .unset, .unset, .unset, .unset, .unset]) rfl ?_
      show Steps p.tables e below (s₁.setTop (mkF m 18 #[.val (.int p1), .val (.int p2), .val (.int p3), .val (.int (0 : Int32)), .val (.int (((p1.toUInt32 >>> ((2 : Int32) &&& 31).toUInt32).toInt32) &&& (3 : Int32))), .val (.int (((p1.toUInt32 >>> ((4 : Int32) &&& 31).toUInt32).toInt32) &&& (3 : Int32))), .unset, .unset, .unset, .unset, .unset, .unset, .unset, .unset, .unset] [])) _
      refine XS.iloadN X0.here hx rfl (hb hby at_18) rfl ?_
      refine XS.bipush X0.here hx rfl (hb hby at_19) ?_
      refine XS.iushr X0.here hx rfl (hb hby at_21) rfl ?_
      refine XS.iconst X0.here hx rfl (hb hby at_22) ?_
      show Steps p.tables e below (s₁.setTop (mkF m 23 #[.val (.int p1), .val (.int p2), .val (.int p3), .val (.int (0 : Int32)), .val (.int (((p1.toUInt32 >>> ((2 : Int32) &&& 31).toUInt32).toInt32) &&& (3 : Int32))), .val (.int (((p1.toUInt32 >>> ((4 : Int32) &&& 31).toUInt32).toInt32) &&& (3 : Int32))), .unset, .unset, .unset, .unset, .unset, .unset, .unset, .unset, .unset] [(.int (3 : Int32)), (.int ((p1.toUInt32 >>> ((6 : Int32) &&& 31).toUInt32).toInt32))])) _
      refine XS.iand X0.here hx rfl (hb hby at_23) rfl ?_
      refine XS.istore X0.here hx rfl (hb hby at_24) rfl (l' := #[.val (.int p1), .val (.int p2), .val (.int p3), .val (.int (0 : Int32)), .val (.int (((p1.toUInt32 >>> ((2 : Int32) &&& 31).toUInt32).toInt32) &&& (3 : Int32))), .val (.int (((p1.toUInt32 >>> ((4 : Int32) &&& 31).toUInt32).toInt32) &&& (3 : Int32))), .val (.int (((p1.toUInt32 >>> ((6 : Int32) &&& 31).toUInt32).toInt32) &&& (3 : Int32))), .unset, .unset, .unset, .unset, .unset, .unset, .unset, .unset]) rfl ?_
      refine XS.iloadN X0.here hx rfl (hb hby at_26) rfl ?_
      refine XS.bipush X0.here hx rfl (hb hby at_27) ?_
      show Steps p.tables e below (s₁.setTop (mkF m 29 #[.val (.int p1), .val (.int p2), .val (.int p3), .val (.int (0 : Int32)), .val (.int (((p1.toUInt32 >>> ((2 : Int32) &&& 31).toUInt32).toInt32) &&& (3 : Int32))), .val (.int (((p1.toUInt32 >>> ((4 : Int32) &&& 31).toUInt32).toInt32) &&& (3 : Int32))), .val (.int (((p1.toUInt32 >>> ((6 : Int32) &&& 31).toUInt32).toInt32) &&& (3 : Int32))), .unset, .unset, .unset, .unset, .unset, .unset, .unset, .unset] [(.int (7 : Int32)), (.int p2)])) _
      refine XS.iand X0.here hx rfl (hb hby at_29) rfl ?_
      refine XS.iconst X0.here hx rfl (hb hby at_30) ?_
      refine XS.isub X0.here hx rfl (hb hby at_31) rfl ?_
      refine XS.istore X0.here hx rfl (hb hby at_32) rfl (l' := #[.val (.int p1), .val (.int p2), .val (.int p3), .val (.int (0 : Int32)), .val (.int (((p1.toUInt32 >>> ((2 : Int32) &&& 31).toUInt32).toInt32) &&& (3 : Int32))), .val (.int (((p1.toUInt32 >>> ((4 : Int32) &&& 31).toUInt32).toInt32) &&& (3 : Int32))), .val (.int (((p1.toUInt32 >>> ((6 : Int32) &&& 31).toUInt32).toInt32) &&& (3 : Int32))), .val (.int ((p2 &&& (7 : Int32)) - (3 : Int32))), .unset, .unset, .unset, .unset, .unset, .unset, .unset]) rfl ?_
      show Steps p.tables e below (s₁.setTop (mkF m 34 #[.val (.int p1), .val (.int p2), .val (.int p3), .val (.int (0 : Int32)), .val (.int (((p1.toUInt32 >>> ((2 : Int32) &&& 31).toUInt32).toInt32) &&& (3 : Int32))), .val (.int (((p1.toUInt32 >>> ((4 : Int32) &&& 31).toUInt32).toInt32) &&& (3 : Int32))), .val (.int (((p1.toUInt32 >>> ((6 : Int32) &&& 31).toUInt32).toInt32) &&& (3 : Int32))), .val (.int ((p2 &&& (7 : Int32)) - (3 : Int32))), .unset, .unset, .unset, .unset, .unset, .unset, .unset] [])) _
      refine XS.iloadN X0.here hx rfl (hb hby at_34) rfl ?_
      refine XS.iconst X0.here hx rfl (hb hby at_35) ?_
      refine XS.iushr X0.here hx rfl (hb hby at_36) rfl ?_
      refine XS.bipush X0.here hx rfl (hb hby at_37) ?_
      show Steps p.tables e below (s₁.setTop (mkF m 39 #[.val (.int p1), .val (.int p2), .val (.int p3), .val (.int (0 : Int32)), .val (.int (((p1.toUInt32 >>> ((2 : Int32) &&& 31).toUInt32).toInt32) &&& (3 : Int32))), .val (.int (((p1.toUInt32 >>> ((4 : Int32) &&& 31).toUInt32).toInt32) &&& (3 : Int32))), .val (.int (((p1.toUInt32 >>> ((6 : Int32) &&& 31).toUInt32).toInt32) &&& (3 : Int32))), .val (.int ((p2 &&& (7 : Int32)) - (3 : Int32))), .unset, .unset, .unset, .unset, .unset, .unset, .unset] [(.int (7 : Int32)), (.int ((p2.toUInt32 >>> ((3 : Int32) &&& 31).toUInt32).toInt32))])) _
      refine XS.iand X0.here hx rfl (hb hby at_39) rfl ?_
      refine XS.iconst X0.here hx rfl (hb hby at_40) ?_
      refine XS.isub X0.here hx rfl (hb hby at_41) rfl ?_
      refine XS.istore X0.here hx rfl (hb hby at_42) rfl (l' := #[.val (.int p1), .val (.int p2), .val (.int p3), .val (.int (0 : Int32)), .val (.int (((p1.toUInt32 >>> ((2 : Int32) &&& 31).toUInt32).toInt32) &&& (3 : Int32))), .val (.int (((p1.toUInt32 >>> ((4 : Int32) &&& 31).toUInt32).toInt32) &&& (3 : Int32))), .val (.int (((p1.toUInt32 >>> ((6 : Int32) &&& 31).toUInt32).toInt32) &&& (3 : Int32))), .val (.int ((p2 &&& (7 : Int32)) - (3 : Int32))), .val (.int ((((p2.toUInt32 >>> ((3 : Int32) &&& 31).toUInt32).toInt32) &&& (7 : Int32)) - (3 : Int32))), .unset, .unset, .unset, .unset, .unset, .unset]) rfl ?_
      show Steps p.tables e below (s₁.setTop (mkF m 44 #[.val (.int p1), .val (.int p2), .val (.int p3), .val (.int (0 : Int32)), .val (.int (((p1.toUInt32 >>> ((2 : Int32) &&& 31).toUInt32).toInt32) &&& (3 : Int32))), .val (.int (((p1.toUInt32 >>> ((4 : Int32) &&& 31).toUInt32).toInt32) &&& (3 : Int32))), .val (.int (((p1.toUInt32 >>> ((6 : Int32) &&& 31).toUInt32).toInt32) &&& (3 : Int32))), .val (.int ((p2 &&& (7 : Int32)) - (3 : Int32))), .val (.int ((((p2.toUInt32 >>> ((3 : Int32) &&& 31).toUInt32).toInt32) &&& (7 : Int32)) - (3 : Int32))), .unset, .unset, .unset, .unset, .unset, .unset] [])) _
      refine XS.iloadN X0.here hx rfl (hb hby at_44) rfl ?_
      refine XS.bipush X0.here hx rfl (hb hby at_45) ?_
      refine XS.iushr X0.here hx rfl (hb hby at_47) rfl ?_
      refine XS.bipush X0.here hx rfl (hb hby at_48) ?_
      show Steps p.tables e below (s₁.setTop (mkF m 50 #[.val (.int p1), .val (.int p2), .val (.int p3), .val (.int (0 : Int32)), .val (.int (((p1.toUInt32 >>> ((2 : Int32) &&& 31).toUInt32).toInt32) &&& (3 : Int32))), .val (.int (((p1.toUInt32 >>> ((4 : Int32) &&& 31).toUInt32).toInt32) &&& (3 : Int32))), .val (.int (((p1.toUInt32 >>> ((6 : Int32) &&& 31).toUInt32).toInt32) &&& (3 : Int32))), .val (.int ((p2 &&& (7 : Int32)) - (3 : Int32))), .val (.int ((((p2.toUInt32 >>> ((3 : Int32) &&& 31).toUInt32).toInt32) &&& (7 : Int32)) - (3 : Int32))), .unset, .unset, .unset, .unset, .unset, .unset] [(.int (7 : Int32)), (.int ((p2.toUInt32 >>> ((6 : Int32) &&& 31).toUInt32).toInt32))])) _
      refine XS.iand X0.here hx rfl (hb hby at_50) rfl ?_
      refine XS.iconst X0.here hx rfl (hb hby at_51) ?_
      refine XS.isub X0.here hx rfl (hb hby at_52) rfl ?_
      refine XS.istore X0.here hx rfl (hb hby at_53) rfl (l' := #[.val (.int p1), .val (.int p2), .val (.int p3), .val (.int (0 : Int32)), .val (.int (((p1.toUInt32 >>> ((2 : Int32) &&& 31).toUInt32).toInt32) &&& (3 : Int32))), .val (.int (((p1.toUInt32 >>> ((4 : Int32) &&& 31).toUInt32).toInt32) &&& (3 : Int32))), .val (.int (((p1.toUInt32 >>> ((6 : Int32) &&& 31).toUInt32).toInt32) &&& (3 : Int32))), .val (.int ((p2 &&& (7 : Int32)) - (3 : Int32))), .val (.int ((((p2.toUInt32 >>> ((3 : Int32) &&& 31).toUInt32).toInt32) &&& (7 : Int32)) - (3 : Int32))), .val (.int ((((p2.toUInt32 >>> ((6 : Int32) &&& 31).toUInt32).toInt32) &&& (7 : Int32)) - (3 : Int32))), .unset, .unset, .unset, .unset, .unset]) rfl ?_
      show Steps p.tables e below (s₁.setTop (mkF m 55 #[.val (.int p1), .val (.int p2), .val (.int p3), .val (.int (0 : Int32)), .val (.int (((p1.toUInt32 >>> ((2 : Int32) &&& 31).toUInt32).toInt32) &&& (3 : Int32))), .val (.int (((p1.toUInt32 >>> ((4 : Int32) &&& 31).toUInt32).toInt32) &&& (3 : Int32))), .val (.int (((p1.toUInt32 >>> ((6 : Int32) &&& 31).toUInt32).toInt32) &&& (3 : Int32))), .val (.int ((p2 &&& (7 : Int32)) - (3 : Int32))), .val (.int ((((p2.toUInt32 >>> ((3 : Int32) &&& 31).toUInt32).toInt32) &&& (7 : Int32)) - (3 : Int32))), .val (.int ((((p2.toUInt32 >>> ((6 : Int32) &&& 31).toUInt32).toInt32) &&& (7 : Int32)) - (3 : Int32))), .unset, .unset, .unset, .unset, .unset] [])) _
      exact kt
    have hb_f0 : ¬ f0 < 0 ∧ f0 < (4 : Int32) := by rw [hf0]; exact own_and3 _
    have hb_f1 : ¬ f1 < 0 ∧ f1 < (4 : Int32) := by rw [hf1]; exact own_and3 _
    have hb_f2 : ¬ f2 < 0 ∧ f2 < (4 : Int32) := by rw [hf2]; exact own_and3 _
    obtain ⟨T73, h73, k73, X73, e73, E73, A73, st73⟩ := newP (aty := .int) X0 hx hZ (wd_0 hw) e0 (g := (mkF m 56 #[.val (.int p1), .val (.int p2), .val (.int p3), .val (.int (0 : Int32)), .val (.int f0), .val (.int f1), .val (.int f2), .val (.int v0), .val (.int v1), .val (.int v2), .unset, .unset, .unset, .unset, .unset] [(.int (4 : Int32))])) rfl (hb hby at_56) rfl (by decide) (cap := 4) (by decide) (by decide) (by decide) (by decide)
    obtain ⟨b73, g73⟩ : ∃ z, z = h0.size := ⟨_, rfl⟩
    rw [← g73] at A73 st73
    have g_b73 : n0 ≤ b73 := Nat.le_trans Z0 (Nat.le_of_eq g73.symm)
    have Z74 : n0 ≤ h73.size := Nat.le_trans Z0 E73.1
    have V0_b73 := (Arv.new A73 (by decide)).pad (pad_rep [] (.int (0 : Int32)) 4)
    have V_b73 : Arv Z h73 b73 k73 .int (4 : Int32) [(.int (0 : Int32)), (.int (0 : Int32)), (.int (0 : Int32)), (.int (0 : Int32))] (.int (0 : Int32)) := V0_b73
    obtain ⟨ea, hea⟩ : ∃ z : Int32, z = ((p3 &&& (7 : Int32)) - (3 : Int32)) := ⟨_, rfl⟩
    have pre75 : ∀ t, Steps p.tables e below (T73.setTop (mkF m 69 #[.val (.int p1), .val (.int p2), .val (.int p3), .val (.int (0 : Int32)), .val (.int f0), .val (.int f1), .val (.int f2), .val (.int v0), .val (.int v1), .val (.int v2), .val (.ref b73), .unset, .unset, .unset, .unset] [(.int ea), (.int (0 : Int32)), (.ref b73)])) t → Steps p.tables e below (s₁.setTop (entryFrame m #[(.int p1), (.int p2), (.int p3)] maxLocals)) t := by
      intro t kt
      rw [hea] at kt
      refine pre72 _ ?_
      show Steps p.tables e below (s₁.setTop (mkF m 55 #[.val (.int p1), .val (.int p2), .val (.int p3), .val (.int (0 : Int32)), .val (.int f0), .val (.int f1), .val (.int f2), .val (.int v0), .val (.int v1), .val (.int v2), .unset, .unset, .unset, .unset, .unset] [])) _
      refine XS.iconst X0.here hx rfl (hb hby at_55) ?_
      refine st73 _ ?_
      refine XS.astore X73.here hx rfl (hb hby at_58) rfl rfl (l' := #[.val (.int p1), .val (.int p2), .val (.int p3), .val (.int (0 : Int32)), .val (.int f0), .val (.int f1), .val (.int f2), .val (.int v0), .val (.int v1), .val (.int v2), .val (.ref b73), .unset, .unset, .unset, .unset]) rfl ?_
      refine XS.aload X73.here hx rfl (hb hby at_60) rfl rfl ?_
      show Steps p.tables e below (T73.setTop (mkF m 62 #[.val (.int p1), .val (.int p2), .val (.int p3), .val (.int (0 : Int32)), .val (.int f0), .val (.int f1), .val (.int f2), .val (.int v0), .val (.int v1), .val (.int v2), .val (.ref b73), .unset, .unset, .unset, .unset] [(.ref b73)])) _
      refine XS.iconst X73.here hx rfl (hb hby at_62) ?_
      refine XS.iloadN X73.here hx rfl (hb hby at_63) rfl ?_
      refine XS.bipush X73.here hx rfl (hb hby at_64) ?_
      refine XS.iand X73.here hx rfl (hb hby at_66) rfl ?_
      show Steps p.tables e below (T73.setTop (mkF m 67 #[.val (.int p1), .val (.int p2), .val (.int p3), .val (.int (0 : Int32)), .val (.int f0), .val (.int f1), .val (.int f2), .val (.int v0), .val (.int v1), .val (.int v2), .val (.ref b73), .unset, .unset, .unset, .unset] [(.int (p3 &&& (7 : Int32))), (.int (0 : Int32)), (.ref b73)])) _
      refine XS.iconst X73.here hx rfl (hb hby at_67) ?_
      refine XS.isub X73.here hx rfl (hb hby at_68) rfl ?_
      exact kt
    obtain ⟨cl76, Ar76, q76, S76, N76n, H76, G76⟩ := id (V_b73)
    have hin76 : ¬ ((0 : Int32) < 0 ∨ cl76.slots.size ≤ ((0 : Int32)).toNatClampNeg) := inb_of S76 ⟨by decide, by decide⟩
    obtain ⟨T77, h77, X77, e77, W77, st77⟩ := stI X73 hx hZ e73 Ar76 (j := (0 : Int32)) hin76 (g := (mkF m 69 #[.val (.int p1), .val (.int p2), .val (.int p3), .val (.int (0 : Int32)), .val (.int f0), .val (.int f1), .val (.int f2), .val (.int v0), .val (.int v1), .val (.int v2), .val (.ref b73), .unset, .unset, .unset, .unset] [(.int ea), (.int (0 : Int32)), (.ref b73)])) rfl rfl (hb hby at_69)
    have V_b73_77 : Arv Z h77 b73 k73 .int (4 : Int32) [(.int ea), (.int (0 : Int32)), (.int (0 : Int32)), (.int (0 : Int32))] (.int (0 : Int32)) := Arv.set Ar76 q76 S76 N76n H76 G76 rfl W77 0 rfl (Nat.le_of_ble_eq_true rfl)
    have Z78 : n0 ≤ h77.size := Nat.le_trans Z74 (Keep.of_wr W77).1
    have N77 := Fr.snoc X77 N0 g_b73
    obtain ⟨eb, heb⟩ : ∃ z : Int32, z = ((((p3.toUInt32 >>> ((3 : Int32) &&& 31).toUInt32).toInt32) &&& (7 : Int32)) - (3 : Int32)) := ⟨_, rfl⟩
    have pre79 : ∀ t, Steps p.tables e below (T77.setTop (mkF m 81 #[.val (.int p1), .val (.int p2), .val (.int p3), .val (.int (0 : Int32)), .val (.int f0), .val (.int f1), .val (.int f2), .val (.int v0), .val (.int v1), .val (.int v2), .val (.ref b73), .unset, .unset, .unset, .unset] [(.int eb), (.int (1 : Int32)), (.ref b73)])) t → Steps p.tables e below (s₁.setTop (entryFrame m #[(.int p1), (.int p2), (.int p3)] maxLocals)) t := by
      intro t kt
      rw [heb] at kt
      refine pre75 _ ?_
      show Steps p.tables e below (T73.setTop (mkF m 69 #[.val (.int p1), .val (.int p2), .val (.int p3), .val (.int (0 : Int32)), .val (.int f0), .val (.int f1), .val (.int f2), .val (.int v0), .val (.int v1), .val (.int v2), .val (.ref b73), .unset, .unset, .unset, .unset] [(.int ea), (.int (0 : Int32)), (.ref b73)])) _
      refine st77 _ ?_
      refine XS.aload X77.here hx rfl (hb hby at_70) rfl rfl ?_
      refine XS.iconst X77.here hx rfl (hb hby at_72) ?_
      refine XS.iloadN X77.here hx rfl (hb hby at_73) rfl ?_
      show Steps p.tables e below (T77.setTop (mkF m 74 #[.val (.int p1), .val (.int p2), .val (.int p3), .val (.int (0 : Int32)), .val (.int f0), .val (.int f1), .val (.int f2), .val (.int v0), .val (.int v1), .val (.int v2), .val (.ref b73), .unset, .unset, .unset, .unset] [(.int p3), (.int (1 : Int32)), (.ref b73)])) _
      refine XS.iconst X77.here hx rfl (hb hby at_74) ?_
      refine XS.iushr X77.here hx rfl (hb hby at_75) rfl ?_
      refine XS.bipush X77.here hx rfl (hb hby at_76) ?_
      refine XS.iand X77.here hx rfl (hb hby at_78) rfl ?_
      show Steps p.tables e below (T77.setTop (mkF m 79 #[.val (.int p1), .val (.int p2), .val (.int p3), .val (.int (0 : Int32)), .val (.int f0), .val (.int f1), .val (.int f2), .val (.int v0), .val (.int v1), .val (.int v2), .val (.ref b73), .unset, .unset, .unset, .unset] [(.int (((p3.toUInt32 >>> ((3 : Int32) &&& 31).toUInt32).toInt32) &&& (7 : Int32))), (.int (1 : Int32)), (.ref b73)])) _
      refine XS.iconst X77.here hx rfl (hb hby at_79) ?_
      refine XS.isub X77.here hx rfl (hb hby at_80) rfl ?_
      exact kt
    obtain ⟨cl80, Ar80, q80, S80, N80n, H80, G80⟩ := id (V_b73_77)
    have hin80 : ¬ ((1 : Int32) < 0 ∨ cl80.slots.size ≤ ((1 : Int32)).toNatClampNeg) := inb_of S80 ⟨by decide, by decide⟩
    obtain ⟨T81, h81, X81, e81, W81, st81⟩ := stI X77 hx hZ e77 Ar80 (j := (1 : Int32)) hin80 (g := (mkF m 81 #[.val (.int p1), .val (.int p2), .val (.int p3), .val (.int (0 : Int32)), .val (.int f0), .val (.int f1), .val (.int f2), .val (.int v0), .val (.int v1), .val (.int v2), .val (.ref b73), .unset, .unset, .unset, .unset] [(.int eb), (.int (1 : Int32)), (.ref b73)])) rfl rfl (hb hby at_81)
    have V_b73_81 : Arv Z h81 b73 k73 .int (4 : Int32) [(.int ea), (.int eb), (.int (0 : Int32)), (.int (0 : Int32))] (.int (0 : Int32)) := Arv.set Ar80 q80 S80 N80n H80 G80 rfl W81 1 rfl (Nat.le_of_ble_eq_true rfl)
    have Z82 : n0 ≤ h81.size := Nat.le_trans Z78 (Keep.of_wr W81).1
    have N81 := Fr.snoc X81 N77 g_b73
    obtain ⟨ec, hec⟩ : ∃ z : Int32, z = ((((p3.toUInt32 >>> ((6 : Int32) &&& 31).toUInt32).toInt32) &&& (7 : Int32)) - (3 : Int32)) := ⟨_, rfl⟩
    have pre83 : ∀ t, Steps p.tables e below (T81.setTop (mkF m 94 #[.val (.int p1), .val (.int p2), .val (.int p3), .val (.int (0 : Int32)), .val (.int f0), .val (.int f1), .val (.int f2), .val (.int v0), .val (.int v1), .val (.int v2), .val (.ref b73), .unset, .unset, .unset, .unset] [(.int ec), (.int (2 : Int32)), (.ref b73)])) t → Steps p.tables e below (s₁.setTop (entryFrame m #[(.int p1), (.int p2), (.int p3)] maxLocals)) t := by
      intro t kt
      rw [hec] at kt
      refine pre79 _ ?_
      show Steps p.tables e below (T77.setTop (mkF m 81 #[.val (.int p1), .val (.int p2), .val (.int p3), .val (.int (0 : Int32)), .val (.int f0), .val (.int f1), .val (.int f2), .val (.int v0), .val (.int v1), .val (.int v2), .val (.ref b73), .unset, .unset, .unset, .unset] [(.int eb), (.int (1 : Int32)), (.ref b73)])) _
      refine st81 _ ?_
      refine XS.aload X81.here hx rfl (hb hby at_82) rfl rfl ?_
      refine XS.iconst X81.here hx rfl (hb hby at_84) ?_
      refine XS.iloadN X81.here hx rfl (hb hby at_85) rfl ?_
      show Steps p.tables e below (T81.setTop (mkF m 86 #[.val (.int p1), .val (.int p2), .val (.int p3), .val (.int (0 : Int32)), .val (.int f0), .val (.int f1), .val (.int f2), .val (.int v0), .val (.int v1), .val (.int v2), .val (.ref b73), .unset, .unset, .unset, .unset] [(.int p3), (.int (2 : Int32)), (.ref b73)])) _
      refine XS.bipush X81.here hx rfl (hb hby at_86) ?_
      refine XS.iushr X81.here hx rfl (hb hby at_88) rfl ?_
      refine XS.bipush X81.here hx rfl (hb hby at_89) ?_
      refine XS.iand X81.here hx rfl (hb hby at_91) rfl ?_
      show Steps p.tables e below (T81.setTop (mkF m 92 #[.val (.int p1), .val (.int p2), .val (.int p3), .val (.int (0 : Int32)), .val (.int f0), .val (.int f1), .val (.int f2), .val (.int v0), .val (.int v1), .val (.int v2), .val (.ref b73), .unset, .unset, .unset, .unset] [(.int (((p3.toUInt32 >>> ((6 : Int32) &&& 31).toUInt32).toInt32) &&& (7 : Int32))), (.int (2 : Int32)), (.ref b73)])) _
      refine XS.iconst X81.here hx rfl (hb hby at_92) ?_
      refine XS.isub X81.here hx rfl (hb hby at_93) rfl ?_
      exact kt
    obtain ⟨cl84, Ar84, q84, S84, N84n, H84, G84⟩ := id (V_b73_81)
    have hin84 : ¬ ((2 : Int32) < 0 ∨ cl84.slots.size ≤ ((2 : Int32)).toNatClampNeg) := inb_of S84 ⟨by decide, by decide⟩
    obtain ⟨T85, h85, X85, e85, W85, st85⟩ := stI X81 hx hZ e81 Ar84 (j := (2 : Int32)) hin84 (g := (mkF m 94 #[.val (.int p1), .val (.int p2), .val (.int p3), .val (.int (0 : Int32)), .val (.int f0), .val (.int f1), .val (.int f2), .val (.int v0), .val (.int v1), .val (.int v2), .val (.ref b73), .unset, .unset, .unset, .unset] [(.int ec), (.int (2 : Int32)), (.ref b73)])) rfl rfl (hb hby at_94)
    have V_b73_85 : Arv Z h85 b73 k73 .int (4 : Int32) [(.int ea), (.int eb), (.int ec), (.int (0 : Int32))] (.int (0 : Int32)) := Arv.set Ar84 q84 S84 N84n H84 G84 rfl W85 2 rfl (Nat.le_of_ble_eq_true rfl)
    have Z86 : n0 ≤ h85.size := Nat.le_trans Z82 (Keep.of_wr W85).1
    have N85 := Fr.snoc X85 N81 g_b73
    obtain ⟨ed, hed⟩ : ∃ z : Int32, z = ((((p3.toUInt32 >>> ((9 : Int32) &&& 31).toUInt32).toInt32) &&& (7 : Int32)) - (3 : Int32)) := ⟨_, rfl⟩
    have pre87 : ∀ t, Steps p.tables e below (T85.setTop (mkF m 107 #[.val (.int p1), .val (.int p2), .val (.int p3), .val (.int (0 : Int32)), .val (.int f0), .val (.int f1), .val (.int f2), .val (.int v0), .val (.int v1), .val (.int v2), .val (.ref b73), .unset, .unset, .unset, .unset] [(.int ed), (.int (3 : Int32)), (.ref b73)])) t → Steps p.tables e below (s₁.setTop (entryFrame m #[(.int p1), (.int p2), (.int p3)] maxLocals)) t := by
      intro t kt
      rw [hed] at kt
      refine pre83 _ ?_
      show Steps p.tables e below (T81.setTop (mkF m 94 #[.val (.int p1), .val (.int p2), .val (.int p3), .val (.int (0 : Int32)), .val (.int f0), .val (.int f1), .val (.int f2), .val (.int v0), .val (.int v1), .val (.int v2), .val (.ref b73), .unset, .unset, .unset, .unset] [(.int ec), (.int (2 : Int32)), (.ref b73)])) _
      refine st85 _ ?_
      refine XS.aload X85.here hx rfl (hb hby at_95) rfl rfl ?_
      refine XS.iconst X85.here hx rfl (hb hby at_97) ?_
      refine XS.iloadN X85.here hx rfl (hb hby at_98) rfl ?_
      show Steps p.tables e below (T85.setTop (mkF m 99 #[.val (.int p1), .val (.int p2), .val (.int p3), .val (.int (0 : Int32)), .val (.int f0), .val (.int f1), .val (.int f2), .val (.int v0), .val (.int v1), .val (.int v2), .val (.ref b73), .unset, .unset, .unset, .unset] [(.int p3), (.int (3 : Int32)), (.ref b73)])) _
      refine XS.bipush X85.here hx rfl (hb hby at_99) ?_
      refine XS.iushr X85.here hx rfl (hb hby at_101) rfl ?_
      refine XS.bipush X85.here hx rfl (hb hby at_102) ?_
      refine XS.iand X85.here hx rfl (hb hby at_104) rfl ?_
      show Steps p.tables e below (T85.setTop (mkF m 105 #[.val (.int p1), .val (.int p2), .val (.int p3), .val (.int (0 : Int32)), .val (.int f0), .val (.int f1), .val (.int f2), .val (.int v0), .val (.int v1), .val (.int v2), .val (.ref b73), .unset, .unset, .unset, .unset] [(.int (((p3.toUInt32 >>> ((9 : Int32) &&& 31).toUInt32).toInt32) &&& (7 : Int32))), (.int (3 : Int32)), (.ref b73)])) _
      refine XS.iconst X85.here hx rfl (hb hby at_105) ?_
      refine XS.isub X85.here hx rfl (hb hby at_106) rfl ?_
      exact kt
    obtain ⟨cl88, Ar88, q88, S88, N88n, H88, G88⟩ := id (V_b73_85)
    have hin88 : ¬ ((3 : Int32) < 0 ∨ cl88.slots.size ≤ ((3 : Int32)).toNatClampNeg) := inb_of S88 ⟨by decide, by decide⟩
    obtain ⟨T89, h89, X89, e89, W89, st89⟩ := stI X85 hx hZ e85 Ar88 (j := (3 : Int32)) hin88 (g := (mkF m 107 #[.val (.int p1), .val (.int p2), .val (.int p3), .val (.int (0 : Int32)), .val (.int f0), .val (.int f1), .val (.int f2), .val (.int v0), .val (.int v1), .val (.int v2), .val (.ref b73), .unset, .unset, .unset, .unset] [(.int ed), (.int (3 : Int32)), (.ref b73)])) rfl rfl (hb hby at_107)
    have V_b73_89 : Arv Z h89 b73 k73 .int (4 : Int32) [(.int ea), (.int eb), (.int ec), (.int ed)] (.int (0 : Int32)) := Arv.set Ar88 q88 S88 N88n H88 G88 rfl W89 3 rfl (Nat.le_of_ble_eq_true rfl)
    have Z90 : n0 ≤ h89.size := Nat.le_trans Z86 (Keep.of_wr W89).1
    have N89 := Fr.snoc X89 N85 g_b73
    obtain ⟨T91, h91, k91, X91, e91, E91, A91, st91⟩ := newP (aty := .int) X89 hx hZ (wd_0 hw) e89 (g := (mkF m 109 #[.val (.int p1), .val (.int p2), .val (.int p3), .val (.int (0 : Int32)), .val (.int f0), .val (.int f1), .val (.int f2), .val (.int v0), .val (.int v1), .val (.int v2), .val (.ref b73), .unset, .unset, .unset, .unset] [(.int (0 : Int32))])) rfl (hb hby at_109) rfl (by decide) (cap := 0) (by decide) (by decide) (by decide) (by decide)
    obtain ⟨b91, g91⟩ : ∃ z, z = h89.size := ⟨_, rfl⟩
    rw [← g91] at A91 st91
    have g_b91 : n0 ≤ b91 := Nat.le_trans Z90 (Nat.le_of_eq g91.symm)
    have ne_b73_b91 : b73 ≠ b91 := Nat.ne_of_lt (Nat.lt_of_lt_of_le (V_b73_89).lt (Nat.le_of_eq g91.symm))
    have Z92 : n0 ≤ h91.size := Nat.le_trans Z90 E91.1
    have V_b91 : Arv Z h91 b91 k91 .int (0 : Int32) [] (.int (0 : Int32)) := Arv.new A91 (by decide)
    obtain ⟨T93, h93, k93, X93, e93, E93, A93, st93⟩ := newP (aty := .int) X91 hx hZ (wd_0 hw) e91 (g := (mkF m 114 #[.val (.int p1), .val (.int p2), .val (.int p3), .val (.int (0 : Int32)), .val (.int f0), .val (.int f1), .val (.int f2), .val (.int v0), .val (.int v1), .val (.int v2), .val (.ref b73), .val (.ref b91), .unset, .unset, .unset] [(.int (0 : Int32))])) rfl (hb hby at_114) rfl (by decide) (cap := 0) (by decide) (by decide) (by decide) (by decide)
    obtain ⟨b93, g93⟩ : ∃ z, z = h91.size := ⟨_, rfl⟩
    rw [← g93] at A93 st93
    have g_b93 : n0 ≤ b93 := Nat.le_trans Z92 (Nat.le_of_eq g93.symm)
    have ne_b73_b93 : b73 ≠ b93 := Nat.ne_of_lt (Nat.lt_of_lt_of_le ((V_b73_89.ext E91)).lt (Nat.le_of_eq g93.symm))
    have ne_b91_b93 : b91 ≠ b93 := Nat.ne_of_lt (Nat.lt_of_lt_of_le (V_b91).lt (Nat.le_of_eq g93.symm))
    have Z94 : n0 ≤ h93.size := Nat.le_trans Z92 E93.1
    have V_b93 : Arv Z h93 b93 k93 .int (0 : Int32) [] (.int (0 : Int32)) := Arv.new A93 (by decide)
    obtain ⟨T95, h95, X95, e95, E95, A95, D95, -, st95⟩ := newO X93 hx hZ hown (wd_1 hw) (wd_2 hw) (wd_3 hw) e93 (g := (mkF m 220 #[.val (.int p1), .val (.int p2), .val (.int p3), .val (.int (0 : Int32)), .val (.int f0), .val (.int f1), .val (.int f2), .val (.int v0), .val (.int v1), .val (.int v2), .val (.ref b73), .val (.ref b91), .val (.ref b93), .val (.int (1 : Int32)), .unset] [])) rfl (hb hby at_220) (by decide) (by decide)
    obtain ⟨b95, g95⟩ : ∃ z, z = h93.size := ⟨_, rfl⟩
    rw [← g95] at A95 D95 st95
    have g_b95 : n0 ≤ b95 := Nat.le_trans Z94 (Nat.le_of_eq g95.symm)
    have ne_b73_b95 : b73 ≠ b95 := Nat.ne_of_lt (Nat.lt_of_lt_of_le (((V_b73_89.ext E91).ext E93)).lt (Nat.le_of_eq g95.symm))
    have ne_b91_b95 : b91 ≠ b95 := Nat.ne_of_lt (Nat.lt_of_lt_of_le ((V_b91.ext E93)).lt (Nat.le_of_eq g95.symm))
    have ne_b93_b95 : b93 ≠ b95 := Nat.ne_of_lt (Nat.lt_of_lt_of_le (V_b93).lt (Nat.le_of_eq g95.symm))
    have Z96 : n0 ≤ h95.size := Nat.le_trans Z94 E95.1
    have F_features_b95 : Fld Z h95 b95 "com/example/counterlens/counterlens/Rules$Forbidden" "features" "[I" .null := D95 (Or.inr (wd_16 hw)) (ty := (.array .int)) (by decide)
    have F_values_b95 : Fld Z h95 b95 "com/example/counterlens/counterlens/Rules$Forbidden" "values" "[I" .null := D95 (Or.inr (wd_18 hw)) (ty := (.array .int)) (by decide)
    obtain ⟨_, _, ⟨T97, L97, k97, n97⟩, -, X97, ⟨Lc97, hQ97, l97, y97, z97⟩, st97⟩ := X95.specialBack hx (y := (⟨"com/example/counterlens/counterlens/Rules$Forbidden", "<init>", "([I[I)V"⟩ : MethodName)) rfl hown (mvT hZ (wd_4 hw)) (mvT hZ (wd_5 hw)) (mvT hZ (wd_6 hw)) (by decide) (backOf (W := 1) (rm1 l Z a0 hw [] b95 b91 b93 .null .null h95 n0 Z96 F_features_b95 F_values_b95 A95 g_b95) hZ (wd_6 hw) (wd_3 hw) (by decide) (by decide)) (g := (mkF m 228 #[.val (.int p1), .val (.int p2), .val (.int p3), .val (.int (0 : Int32)), .val (.int f0), .val (.int f1), .val (.int f2), .val (.int v0), .val (.int v1), .val (.int v2), .val (.ref b73), .val (.ref b91), .val (.ref b93), .val (.int (1 : Int32)), .unset] [(.ref b93), (.ref b91), (.ref b95), (.ref b95)])) rfl (by rw [hml]; rfl) (Steps.refl _) (a := b95) (argsL := [(.ref b91), (.ref b93)]) (rest := [(.ref b95)]) (lenOf pd___I_I_V rfl) rfl (by show 2 * 0 + _ ≤ _; exact Nat.le_of_eq rfl) (hb hby at_228) (fun _ _ => ⟨rfl, e95, (by decide : 4 + 0 ≤ _), (by decide : 6 + 0 ≤ _)⟩)
    dsimp only [Pt.U, Pt.locs, Pt.cells, Pt.slots] at X97 l97 y97 z97 st97 hQ97
    subst l97 y97 z97
    obtain ⟨rfl, N97q, K97q, g97_0, g97_1, g97_2⟩ := hQ97
    have N97 := Fr.app N89 N97q
    have Z98 : n0 ≤ T97.heap.size := Nat.le_trans Z96 K97q.1
    obtain ⟨cq99, kq99, q99a, q99b, q99c⟩ := isOf hZ rfl (g97_0)
    obtain ⟨_, _, ⟨T99, L99, k99, n99⟩, -, X99, ⟨Lc99, hQ99, l99, y99, z99⟩, st99⟩ := X97.virtualBack hx (y := (⟨"com/example/counterlens/counterlens/Rules$Forbidden", "matches", "([I)Z"⟩ : MethodName)) (z := (⟨"com/example/counterlens/counterlens/Rules$Forbidden", "matches", "([I)Z"⟩ : MethodName)) hown (mvT hZ (wd_19 hw)) (mvT hZ (wd_20 hw)) (notFace_of_selects (args := #[]) (mvT hZ (wd_22 hw))) (mvT hZ (wd_22 hw)) (mvT hZ (wd_21 hw)) (by decide) (backOf (W := 0) (rmm0 l Z a0 hw [] b95 b73 b91 b93 k91 k93 k73 ea eb ec ed T97.heap n0 Z98 g97_1 g97_2 (((V_b91.ext E93).ext E95).keep K97q (ninS ne_b91_b95 nin0)) ((V_b93.ext E95).keep K97q (ninS ne_b93_b95 nin0)) ((((V_b73_89.ext E91).ext E93).ext E95).keep K97q (ninS ne_b73_b95 nin0))) hZ (wd_23 hw) (wd_3 hw) (by decide) (by decide)) q99a q99c (g := (mkF m 237 #[.val (.int p1), .val (.int p2), .val (.int p3), .val (.int (0 : Int32)), .val (.int f0), .val (.int f1), .val (.int f2), .val (.int v0), .val (.int v1), .val (.int v2), .val (.ref b73), .val (.ref b91), .val (.ref b93), .val (.int (1 : Int32)), .val (.ref b95)] [(.ref b73), (.ref b95)])) rfl (by rw [hml]; rfl) (Steps.refl _) (argsL := [(.ref b73)]) (rest := []) (lenOf pd___I_Z rfl) rfl (by show 2 * 0 + _ ≤ _; exact Nat.le_of_eq rfl) (hb hby at_237) (fun _ _ => ⟨rfl, rfl, (by decide : 4 + 0 ≤ _), (by decide : 6 + 0 ≤ _)⟩)
    dsimp only [Pt.U, Pt.locs, Pt.cells, Pt.slots] at X99 l99 y99 z99 st99 hQ99
    subst l99 y99 z99
    obtain ⟨rfl, N99q, e99⟩ := hQ99
    have N99 := Fr.app N97 N99q
    obtain ⟨fs, hr, hrun, hended, hW, hsame⟩ := X99.leave (v := some (.int (1 : Int32))) (fun h => by rw [Bd.returns] at h; cases h)
    refine ⟨_, _, pre87 _ ?_, hrun, hended, _, _, rfl, ?_, ⟨_, rfl⟩, hW, hsame.mono (by decide) (by decide)⟩
    · show Steps p.tables e below (T85.setTop (mkF m 107 #[.val (.int p1), .val (.int p2), .val (.int p3), .val (.int (0 : Int32)), .val (.int f0), .val (.int f1), .val (.int f2), .val (.int v0), .val (.int v1), .val (.int v2), .val (.ref b73), .unset, .unset, .unset, .unset] [(.int ed), (.int (3 : Int32)), (.ref b73)])) _
      refine st89 _ ?_
      refine XS.iloadN X89.here hx rfl (hb hby at_108) rfl ?_
      refine st91 _ ?_
      refine XS.astore X91.here hx rfl (hb hby at_111) rfl rfl (l' := #[.val (.int p1), .val (.int p2), .val (.int p3), .val (.int (0 : Int32)), .val (.int f0), .val (.int f1), .val (.int f2), .val (.int v0), .val (.int v1), .val (.int v2), .val (.ref b73), .val (.ref b91), .unset, .unset, .unset]) rfl ?_
      show Steps p.tables e below (T91.setTop (mkF m 113 #[.val (.int p1), .val (.int p2), .val (.int p3), .val (.int (0 : Int32)), .val (.int f0), .val (.int f1), .val (.int f2), .val (.int v0), .val (.int v1), .val (.int v2), .val (.ref b73), .val (.ref b91), .unset, .unset, .unset] [])) _
      refine XS.iloadN X91.here hx rfl (hb hby at_113) rfl ?_
      refine st93 _ ?_
      refine XS.astore X93.here hx rfl (hb hby at_116) rfl rfl (l' := #[.val (.int p1), .val (.int p2), .val (.int p3), .val (.int (0 : Int32)), .val (.int f0), .val (.int f1), .val (.int f2), .val (.int v0), .val (.int v1), .val (.int v2), .val (.ref b73), .val (.ref b91), .val (.ref b93), .unset, .unset]) rfl ?_
      refine XS.iloadN X93.here hx rfl (hb hby at_118) rfl ?_
      show Steps p.tables e below (T93.setTop (mkF m 119 #[.val (.int p1), .val (.int p2), .val (.int p3), .val (.int (0 : Int32)), .val (.int f0), .val (.int f1), .val (.int f2), .val (.int v0), .val (.int v1), .val (.int v2), .val (.ref b73), .val (.ref b91), .val (.ref b93), .unset, .unset] [(.int (0 : Int32))])) _
      refine XS.ifYes X93.here hx rfl (pc0 := 119) (pc' := 134) rfl (hb hby at_119) rfl ((if0 _ _).trans (flt (by decide)).2.2.2) (by decide) (by decide) ?_
      refine XS.iloadN X93.here hx rfl (hb hby at_134) rfl ?_
      refine XS.iconst X93.here hx rfl (hb hby at_135) ?_
      refine XS.icmpYes X93.here hx rfl (pc0 := 136) (pc' := 151) rfl (hb hby at_136) rfl (flt (by decide)).2.2.2 (by decide) (by decide) ?_
      show Steps p.tables e below (T93.setTop (mkF m 151 #[.val (.int p1), .val (.int p2), .val (.int p3), .val (.int (0 : Int32)), .val (.int f0), .val (.int f1), .val (.int f2), .val (.int v0), .val (.int v1), .val (.int v2), .val (.ref b73), .val (.ref b91), .val (.ref b93), .unset, .unset] [])) _
      refine XS.iloadN X93.here hx rfl (hb hby at_151) rfl ?_
      refine XS.iconst X93.here hx rfl (hb hby at_152) ?_
      refine XS.icmpYes X93.here hx rfl (pc0 := 153) (pc' := 168) rfl (hb hby at_153) rfl (flt (by decide)).2.2.2 (by decide) (by decide) ?_
      refine XS.iloadN X93.here hx rfl (hb hby at_168) rfl ?_
      show Steps p.tables e below (T93.setTop (mkF m 169 #[.val (.int p1), .val (.int p2), .val (.int p3), .val (.int (0 : Int32)), .val (.int f0), .val (.int f1), .val (.int f2), .val (.int v0), .val (.int v1), .val (.int v2), .val (.ref b73), .val (.ref b91), .val (.ref b93), .unset, .unset] [(.int (0 : Int32))])) _
      refine XS.iconst X93.here hx rfl (hb hby at_169) ?_
      refine XS.icmpYes X93.here hx rfl (pc0 := 170) (pc' := 183) rfl (hb hby at_170) rfl (tlt (by decide)).1 (by decide) (by decide) ?_
      refine XS.iloadN X93.here hx rfl (hb hby at_183) rfl ?_
      refine XS.iconst X93.here hx rfl (hb hby at_184) ?_
      show Steps p.tables e below (T93.setTop (mkF m 185 #[.val (.int p1), .val (.int p2), .val (.int p3), .val (.int (0 : Int32)), .val (.int f0), .val (.int f1), .val (.int f2), .val (.int v0), .val (.int v1), .val (.int v2), .val (.ref b73), .val (.ref b91), .val (.ref b93), .unset, .unset] [(.int (2 : Int32)), (.int (0 : Int32))])) _
      refine XS.icmpYes X93.here hx rfl (pc0 := 185) (pc' := 198) rfl (hb hby at_185) rfl (tlt (by decide)).1 (by decide) (by decide) ?_
      refine XS.iloadN X93.here hx rfl (hb hby at_198) rfl ?_
      refine XS.iconst X93.here hx rfl (hb hby at_199) ?_
      refine XS.icmpYes X93.here hx rfl (pc0 := 200) (pc' := 213) rfl (hb hby at_200) rfl (tlt (by decide)).1 (by decide) (by decide) ?_
      show Steps p.tables e below (T93.setTop (mkF m 213 #[.val (.int p1), .val (.int p2), .val (.int p3), .val (.int (0 : Int32)), .val (.int f0), .val (.int f1), .val (.int f2), .val (.int v0), .val (.int v1), .val (.int v2), .val (.ref b73), .val (.ref b91), .val (.ref b93), .unset, .unset] [])) _
      refine XS.iconst X93.here hx rfl (hb hby at_213) ?_
      refine XS.goto X93.here hx rfl (pc0 := 214) (pc' := 218) rfl (hb hby at_214) (by decide) (by decide) ?_
      refine XS.istore X93.here hx rfl (hb hby at_218) rfl (l' := #[.val (.int p1), .val (.int p2), .val (.int p3), .val (.int (0 : Int32)), .val (.int f0), .val (.int f1), .val (.int f2), .val (.int v0), .val (.int v1), .val (.int v2), .val (.ref b73), .val (.ref b91), .val (.ref b93), .val (.int (1 : Int32)), .unset]) rfl ?_
      refine st95 _ ?_
      show Steps p.tables e below (T95.setTop (mkF m 223 #[.val (.int p1), .val (.int p2), .val (.int p3), .val (.int (0 : Int32)), .val (.int f0), .val (.int f1), .val (.int f2), .val (.int v0), .val (.int v1), .val (.int v2), .val (.ref b73), .val (.ref b91), .val (.ref b93), .val (.int (1 : Int32)), .unset] [(.ref b95)])) _
      refine XS.dup X95.here hx rfl (hb hby at_223) rfl rfl ?_
      refine XS.aload X95.here hx rfl (hb hby at_224) rfl rfl ?_
      refine XS.aload X95.here hx rfl (hb hby at_226) rfl rfl ?_
      refine st97.trans ?_
      show Steps p.tables e below (T97.setTop (mkF m 231 #[.val (.int p1), .val (.int p2), .val (.int p3), .val (.int (0 : Int32)), .val (.int f0), .val (.int f1), .val (.int f2), .val (.int v0), .val (.int v1), .val (.int v2), .val (.ref b73), .val (.ref b91), .val (.ref b93), .val (.int (1 : Int32)), .unset] [(.ref b95)])) _
      refine XS.astore X97.here hx rfl (hb hby at_231) rfl rfl (l' := #[.val (.int p1), .val (.int p2), .val (.int p3), .val (.int (0 : Int32)), .val (.int f0), .val (.int f1), .val (.int f2), .val (.int v0), .val (.int v1), .val (.int v2), .val (.ref b73), .val (.ref b91), .val (.ref b93), .val (.int (1 : Int32)), .val (.ref b95)]) rfl ?_
      refine XS.aload X97.here hx rfl (hb hby at_233) rfl rfl ?_
      refine XS.aload X97.here hx rfl (hb hby at_235) rfl rfl ?_
      refine st99.trans ?_
      show Steps p.tables e below (T99.setTop (mkF m 240 #[.val (.int p1), .val (.int p2), .val (.int p3), .val (.int (0 : Int32)), .val (.int f0), .val (.int f1), .val (.int f2), .val (.int v0), .val (.int v1), .val (.int v2), .val (.ref b73), .val (.ref b91), .val (.ref b93), .val (.int (1 : Int32)), .val (.ref b95)] [(.int (1 : Int32))])) _
      refine XS.iload X99.here hx rfl (hb hby at_240) rfl ?_
      refine XS.icmpNo X99.here hx rfl (hb hby at_242) rfl (teq rfl).2 ?_
      refine XS.iconst X99.here hx rfl (hb hby at_245) ?_
      refine XS.goto X99.here hx rfl (pc0 := 246) (pc' := 250) rfl (hb hby at_246) (by decide) (by decide) ?_
      show Steps p.tables e below (T99.setTop (mkF m 250 #[.val (.int p1), .val (.int p2), .val (.int p3), .val (.int (0 : Int32)), .val (.int f0), .val (.int f1), .val (.int f2), .val (.int v0), .val (.int v1), .val (.int v2), .val (.ref b73), .val (.ref b91), .val (.ref b93), .val (.int (1 : Int32)), .val (.ref b95)] [(.int (1 : Int32))])) _
      exact retN X99 hx (t := .boolean) Bd.returns (by simp) (hb hby at_250) hr
    · show Q_rm0 Z p1 p2 p3 h0 n0 _ T99.heap _
      rw [e99]
      exact ⟨rfl, N99, trivial⟩
  · obtain ⟨f0, hf0⟩ : ∃ z : Int32, z = (((p1.toUInt32 >>> ((2 : Int32) &&& 31).toUInt32).toInt32) &&& (3 : Int32)) := ⟨_, rfl⟩
    obtain ⟨f1, hf1⟩ : ∃ z : Int32, z = (((p1.toUInt32 >>> ((4 : Int32) &&& 31).toUInt32).toInt32) &&& (3 : Int32)) := ⟨_, rfl⟩
    obtain ⟨f2, hf2⟩ : ∃ z : Int32, z = (((p1.toUInt32 >>> ((6 : Int32) &&& 31).toUInt32).toInt32) &&& (3 : Int32)) := ⟨_, rfl⟩
    obtain ⟨v0, hv0⟩ : ∃ z : Int32, z = ((p2 &&& (7 : Int32)) - (3 : Int32)) := ⟨_, rfl⟩
    obtain ⟨v1, hv1⟩ : ∃ z : Int32, z = ((((p2.toUInt32 >>> ((3 : Int32) &&& 31).toUInt32).toInt32) &&& (7 : Int32)) - (3 : Int32)) := ⟨_, rfl⟩
    obtain ⟨v2, hv2⟩ : ∃ z : Int32, z = ((((p2.toUInt32 >>> ((6 : Int32) &&& 31).toUInt32).toInt32) &&& (7 : Int32)) - (3 : Int32)) := ⟨_, rfl⟩
    have pre100 : ∀ t, Steps p.tables e below (s₁.setTop (mkF m 55 #[.val (.int p1), .val (.int p2), .val (.int p3), .val (.int (1 : Int32)), .val (.int f0), .val (.int f1), .val (.int f2), .val (.int v0), .val (.int v1), .val (.int v2), .unset, .unset, .unset, .unset, .unset] [])) t → Steps p.tables e below (s₁.setTop (entryFrame m #[(.int p1), (.int p2), (.int p3)] maxLocals)) t := by
      intro t kt
      rw [hf0, hf1, hf2, hv0, hv1, hv2] at kt
      refine pre71 _ ?_
      show Steps p.tables e below (s₁.setTop (mkF m 4 #[.val (.int p1), .val (.int p2), .val (.int p3), .val (.int (1 : Int32)), .unset, .unset, .unset, .unset, .unset, .unset, .unset, .unset, .unset, .unset, .unset] [])) _
      refine XS.iloadN X0.here hx rfl (hb hby at_4) rfl ?_
      refine XS.iconst X0.here hx rfl (hb hby at_5) ?_
      refine XS.iushr X0.here hx rfl (hb hby at_6) rfl ?_
      refine XS.iconst X0.here hx rfl (hb hby at_7) ?_
      show Steps p.tables e below (s₁.setTop (mkF m 8 #[.val (.int p1), .val (.int p2), .val (.int p3), .val (.int (1 : Int32)), .unset, .unset, .unset, .unset, .unset, .unset, .unset, .unset, .unset, .unset, .unset] [(.int (3 : Int32)), (.int ((p1.toUInt32 >>> ((2 : Int32) &&& 31).toUInt32).toInt32))])) _
      refine XS.iand X0.here hx rfl (hb hby at_8) rfl ?_
      refine XS.istore X0.here hx rfl (hb hby at_9) rfl (l' := #[.val (.int p1), .val (.int p2), .val (.int p3), .val (.int (1 : Int32)), .val (.int (((p1.toUInt32 >>> ((2 : Int32) &&& 31).toUInt32).toInt32) &&& (3 : Int32))), .unset, .unset, .unset, .unset, .unset, .unset, .unset, .unset, .unset, .unset]) rfl ?_
      refine XS.iloadN X0.here hx rfl (hb hby at_11) rfl ?_
      refine XS.iconst X0.here hx rfl (hb hby at_12) ?_
      show Steps p.tables e below (s₁.setTop (mkF m 13 #[.val (.int p1), .val (.int p2), .val (.int p3), .val (.int (1 : Int32)), .val (.int (((p1.toUInt32 >>> ((2 : Int32) &&& 31).toUInt32).toInt32) &&& (3 : Int32))), .unset, .unset, .unset, .unset, .unset, .unset, .unset, .unset, .unset, .unset] [(.int (4 : Int32)), (.int p1)])) _
      refine XS.iushr X0.here hx rfl (hb hby at_13) rfl ?_
      refine XS.iconst X0.here hx rfl (hb hby at_14) ?_
      refine XS.iand X0.here hx rfl (hb hby at_15) rfl ?_
      refine XS.istore X0.here hx rfl (hb hby at_16) rfl (l' := #[.val (.int p1), .val (.int p2), .val (.int p3), .val (.int (1 : Int32)), .val (.int (((p1.toUInt32 >>> ((2 : Int32) &&& 31).toUInt32).toInt32) &&& (3 : Int32))), .val (.int (((p1.toUInt32 >>> ((4 : Int32) &&& 31).toUInt32).toInt32) &&& (3 : Int32))), .unset, .unset, .unset, .unset, .unset, .unset, .unset, .unset, .unset]) rfl ?_
      show Steps p.tables e below (s₁.setTop (mkF m 18 #[.val (.int p1), .val (.int p2), .val (.int p3), .val (.int (1 : Int32)), .val (.int (((p1.toUInt32 >>> ((2 : Int32) &&& 31).toUInt32).toInt32) &&& (3 : Int32))), .val (.int (((p1.toUInt32 >>> ((4 : Int32) &&& 31).toUInt32).toInt32) &&& (3 : Int32))), .unset, .unset, .unset, .unset, .unset, .unset, .unset, .unset, .unset] [])) _
      refine XS.iloadN X0.here hx rfl (hb hby at_18) rfl ?_
      refine XS.bipush X0.here hx rfl (hb hby at_19) ?_
      refine XS.iushr X0.here hx rfl (hb hby at_21) rfl ?_
      refine XS.iconst X0.here hx rfl (hb hby at_22) ?_
      show Steps p.tables e below (s₁.setTop (mkF m 23 #[.val (.int p1), .val (.int p2), .val (.int p3), .val (.int (1 : Int32)), .val (.int (((p1.toUInt32 >>> ((2 : Int32) &&& 31).toUInt32).toInt32) &&& (3 : Int32))), .val (.int (((p1.toUInt32 >>> ((4 : Int32) &&& 31).toUInt32).toInt32) &&& (3 : Int32))), .unset, .unset, .unset, .unset, .unset, .unset, .unset, .unset, .unset] [(.int (3 : Int32)), (.int ((p1.toUInt32 >>> ((6 : Int32) &&& 31).toUInt32).toInt32))])) _
      refine XS.iand X0.here hx rfl (hb hby at_23) rfl ?_
      refine XS.istore X0.here hx rfl (hb hby at_24) rfl (l' := #[.val (.int p1), .val (.int p2), .val (.int p3), .val (.int (1 : Int32)), .val (.int (((p1.toUInt32 >>> ((2 : Int32) &&& 31).toUInt32).toInt32) &&& (3 : Int32))), .val (.int (((p1.toUInt32 >>> ((4 : Int32) &&& 31).toUInt32).toInt32) &&& (3 : Int32))), .val (.int (((p1.toUInt32 >>> ((6 : Int32) &&& 31).toUInt32).toInt32) &&& (3 : Int32))), .unset, .unset, .unset, .unset, .unset, .unset, .unset, .unset]) rfl ?_
      refine XS.iloadN X0.here hx rfl (hb hby at_26) rfl ?_
      refine XS.bipush X0.here hx rfl (hb hby at_27) ?_
      show Steps p.tables e below (s₁.setTop (mkF m 29 #[.val (.int p1), .val (.int p2), .val (.int p3), .val (.int (1 : Int32)), .val (.int (((p1.toUInt32 >>> ((2 : Int32) &&& 31).toUInt32).toInt32) &&& (3 : Int32))), .val (.int (((p1.toUInt32 >>> ((4 : Int32) &&& 31).toUInt32).toInt32) &&& (3 : Int32))), .val (.int (((p1.toUInt32 >>> ((6 : Int32) &&& 31).toUInt32).toInt32) &&& (3 : Int32))), .unset, .unset, .unset, .unset, .unset, .unset, .unset, .unset] [(.int (7 : Int32)), (.int p2)])) _
      refine XS.iand X0.here hx rfl (hb hby at_29) rfl ?_
      refine XS.iconst X0.here hx rfl (hb hby at_30) ?_
      refine XS.isub X0.here hx rfl (hb hby at_31) rfl ?_
      refine XS.istore X0.here hx rfl (hb hby at_32) rfl (l' := #[.val (.int p1), .val (.int p2), .val (.int p3), .val (.int (1 : Int32)), .val (.int (((p1.toUInt32 >>> ((2 : Int32) &&& 31).toUInt32).toInt32) &&& (3 : Int32))), .val (.int (((p1.toUInt32 >>> ((4 : Int32) &&& 31).toUInt32).toInt32) &&& (3 : Int32))), .val (.int (((p1.toUInt32 >>> ((6 : Int32) &&& 31).toUInt32).toInt32) &&& (3 : Int32))), .val (.int ((p2 &&& (7 : Int32)) - (3 : Int32))), .unset, .unset, .unset, .unset, .unset, .unset, .unset]) rfl ?_
      show Steps p.tables e below (s₁.setTop (mkF m 34 #[.val (.int p1), .val (.int p2), .val (.int p3), .val (.int (1 : Int32)), .val (.int (((p1.toUInt32 >>> ((2 : Int32) &&& 31).toUInt32).toInt32) &&& (3 : Int32))), .val (.int (((p1.toUInt32 >>> ((4 : Int32) &&& 31).toUInt32).toInt32) &&& (3 : Int32))), .val (.int (((p1.toUInt32 >>> ((6 : Int32) &&& 31).toUInt32).toInt32) &&& (3 : Int32))), .val (.int ((p2 &&& (7 : Int32)) - (3 : Int32))), .unset, .unset, .unset, .unset, .unset, .unset, .unset] [])) _
      refine XS.iloadN X0.here hx rfl (hb hby at_34) rfl ?_
      refine XS.iconst X0.here hx rfl (hb hby at_35) ?_
      refine XS.iushr X0.here hx rfl (hb hby at_36) rfl ?_
      refine XS.bipush X0.here hx rfl (hb hby at_37) ?_
      show Steps p.tables e below (s₁.setTop (mkF m 39 #[.val (.int p1), .val (.int p2), .val (.int p3), .val (.int (1 : Int32)), .val (.int (((p1.toUInt32 >>> ((2 : Int32) &&& 31).toUInt32).toInt32) &&& (3 : Int32))), .val (.int (((p1.toUInt32 >>> ((4 : Int32) &&& 31).toUInt32).toInt32) &&& (3 : Int32))), .val (.int (((p1.toUInt32 >>> ((6 : Int32) &&& 31).toUInt32).toInt32) &&& (3 : Int32))), .val (.int ((p2 &&& (7 : Int32)) - (3 : Int32))), .unset, .unset, .unset, .unset, .unset, .unset, .unset] [(.int (7 : Int32)), (.int ((p2.toUInt32 >>> ((3 : Int32) &&& 31).toUInt32).toInt32))])) _
      refine XS.iand X0.here hx rfl (hb hby at_39) rfl ?_
      refine XS.iconst X0.here hx rfl (hb hby at_40) ?_
      refine XS.isub X0.here hx rfl (hb hby at_41) rfl ?_
      refine XS.istore X0.here hx rfl (hb hby at_42) rfl (l' := #[.val (.int p1), .val (.int p2), .val (.int p3), .val (.int (1 : Int32)), .val (.int (((p1.toUInt32 >>> ((2 : Int32) &&& 31).toUInt32).toInt32) &&& (3 : Int32))), .val (.int (((p1.toUInt32 >>> ((4 : Int32) &&& 31).toUInt32).toInt32) &&& (3 : Int32))), .val (.int (((p1.toUInt32 >>> ((6 : Int32) &&& 31).toUInt32).toInt32) &&& (3 : Int32))), .val (.int ((p2 &&& (7 : Int32)) - (3 : Int32))), .val (.int ((((p2.toUInt32 >>> ((3 : Int32) &&& 31).toUInt32).toInt32) &&& (7 : Int32)) - (3 : Int32))), .unset, .unset, .unset, .unset, .unset, .unset]) rfl ?_
      show Steps p.tables e below (s₁.setTop (mkF m 44 #[.val (.int p1), .val (.int p2), .val (.int p3), .val (.int (1 : Int32)), .val (.int (((p1.toUInt32 >>> ((2 : Int32) &&& 31).toUInt32).toInt32) &&& (3 : Int32))), .val (.int (((p1.toUInt32 >>> ((4 : Int32) &&& 31).toUInt32).toInt32) &&& (3 : Int32))), .val (.int (((p1.toUInt32 >>> ((6 : Int32) &&& 31).toUInt32).toInt32) &&& (3 : Int32))), .val (.int ((p2 &&& (7 : Int32)) - (3 : Int32))), .val (.int ((((p2.toUInt32 >>> ((3 : Int32) &&& 31).toUInt32).toInt32) &&& (7 : Int32)) - (3 : Int32))), .unset, .unset, .unset, .unset, .unset, .unset] [])) _
      refine XS.iloadN X0.here hx rfl (hb hby at_44) rfl ?_
      refine XS.bipush X0.here hx rfl (hb hby at_45) ?_
      refine XS.iushr X0.here hx rfl (hb hby at_47) rfl ?_
      refine XS.bipush X0.here hx rfl (hb hby at_48) ?_
      show Steps p.tables e below (s₁.setTop (mkF m 50 #[.val (.int p1), .val (.int p2), .val (.int p3), .val (.int (1 : Int32)), .val (.int (((p1.toUInt32 >>> ((2 : Int32) &&& 31).toUInt32).toInt32) &&& (3 : Int32))), .val (.int (((p1.toUInt32 >>> ((4 : Int32) &&& 31).toUInt32).toInt32) &&& (3 : Int32))), .val (.int (((p1.toUInt32 >>> ((6 : Int32) &&& 31).toUInt32).toInt32) &&& (3 : Int32))), .val (.int ((p2 &&& (7 : Int32)) - (3 : Int32))), .val (.int ((((p2.toUInt32 >>> ((3 : Int32) &&& 31).toUInt32).toInt32) &&& (7 : Int32)) - (3 : Int32))), .unset, .unset, .unset, .unset, .unset, .unset] [(.int (7 : Int32)), (.int ((p2.toUInt32 >>> ((6 : Int32) &&& 31).toUInt32).toInt32))])) _
      refine XS.iand X0.here hx rfl (hb hby at_50) rfl ?_
      refine XS.iconst X0.here hx rfl (hb hby at_51) ?_
      refine XS.isub X0.here hx rfl (hb hby at_52) rfl ?_
      refine XS.istore X0.here hx rfl (hb hby at_53) rfl (l' := #[.val (.int p1), .val (.int p2), .val (.int p3), .val (.int (1 : Int32)), .val (.int (((p1.toUInt32 >>> ((2 : Int32) &&& 31).toUInt32).toInt32) &&& (3 : Int32))), .val (.int (((p1.toUInt32 >>> ((4 : Int32) &&& 31).toUInt32).toInt32) &&& (3 : Int32))), .val (.int (((p1.toUInt32 >>> ((6 : Int32) &&& 31).toUInt32).toInt32) &&& (3 : Int32))), .val (.int ((p2 &&& (7 : Int32)) - (3 : Int32))), .val (.int ((((p2.toUInt32 >>> ((3 : Int32) &&& 31).toUInt32).toInt32) &&& (7 : Int32)) - (3 : Int32))), .val (.int ((((p2.toUInt32 >>> ((6 : Int32) &&& 31).toUInt32).toInt32) &&& (7 : Int32)) - (3 : Int32))), .unset, .unset, .unset, .unset, .unset]) rfl ?_
      show Steps p.tables e below (s₁.setTop (mkF m 55 #[.val (.int p1), .val (.int p2), .val (.int p3), .val (.int (1 : Int32)), .val (.int (((p1.toUInt32 >>> ((2 : Int32) &&& 31).toUInt32).toInt32) &&& (3 : Int32))), .val (.int (((p1.toUInt32 >>> ((4 : Int32) &&& 31).toUInt32).toInt32) &&& (3 : Int32))), .val (.int (((p1.toUInt32 >>> ((6 : Int32) &&& 31).toUInt32).toInt32) &&& (3 : Int32))), .val (.int ((p2 &&& (7 : Int32)) - (3 : Int32))), .val (.int ((((p2.toUInt32 >>> ((3 : Int32) &&& 31).toUInt32).toInt32) &&& (7 : Int32)) - (3 : Int32))), .val (.int ((((p2.toUInt32 >>> ((6 : Int32) &&& 31).toUInt32).toInt32) &&& (7 : Int32)) - (3 : Int32))), .unset, .unset, .unset, .unset, .unset] [])) _
      exact kt
    have hb_f0 : ¬ f0 < 0 ∧ f0 < (4 : Int32) := by rw [hf0]; exact own_and3 _
    have hb_f1 : ¬ f1 < 0 ∧ f1 < (4 : Int32) := by rw [hf1]; exact own_and3 _
    have hb_f2 : ¬ f2 < 0 ∧ f2 < (4 : Int32) := by rw [hf2]; exact own_and3 _
    obtain ⟨T101, h101, k101, X101, e101, E101, A101, st101⟩ := newP (aty := .int) X0 hx hZ (wd_0 hw) e0 (g := (mkF m 56 #[.val (.int p1), .val (.int p2), .val (.int p3), .val (.int (1 : Int32)), .val (.int f0), .val (.int f1), .val (.int f2), .val (.int v0), .val (.int v1), .val (.int v2), .unset, .unset, .unset, .unset, .unset] [(.int (4 : Int32))])) rfl (hb hby at_56) rfl (by decide) (cap := 4) (by decide) (by decide) (by decide) (by decide)
    obtain ⟨b101, g101⟩ : ∃ z, z = h0.size := ⟨_, rfl⟩
    rw [← g101] at A101 st101
    have g_b101 : n0 ≤ b101 := Nat.le_trans Z0 (Nat.le_of_eq g101.symm)
    have Z102 : n0 ≤ h101.size := Nat.le_trans Z0 E101.1
    have V0_b101 := (Arv.new A101 (by decide)).pad (pad_rep [] (.int (0 : Int32)) 4)
    have V_b101 : Arv Z h101 b101 k101 .int (4 : Int32) [(.int (0 : Int32)), (.int (0 : Int32)), (.int (0 : Int32)), (.int (0 : Int32))] (.int (0 : Int32)) := V0_b101
    obtain ⟨ea, hea⟩ : ∃ z : Int32, z = ((p3 &&& (7 : Int32)) - (3 : Int32)) := ⟨_, rfl⟩
    have pre103 : ∀ t, Steps p.tables e below (T101.setTop (mkF m 69 #[.val (.int p1), .val (.int p2), .val (.int p3), .val (.int (1 : Int32)), .val (.int f0), .val (.int f1), .val (.int f2), .val (.int v0), .val (.int v1), .val (.int v2), .val (.ref b101), .unset, .unset, .unset, .unset] [(.int ea), (.int (0 : Int32)), (.ref b101)])) t → Steps p.tables e below (s₁.setTop (entryFrame m #[(.int p1), (.int p2), (.int p3)] maxLocals)) t := by
      intro t kt
      rw [hea] at kt
      refine pre100 _ ?_
      show Steps p.tables e below (s₁.setTop (mkF m 55 #[.val (.int p1), .val (.int p2), .val (.int p3), .val (.int (1 : Int32)), .val (.int f0), .val (.int f1), .val (.int f2), .val (.int v0), .val (.int v1), .val (.int v2), .unset, .unset, .unset, .unset, .unset] [])) _
      refine XS.iconst X0.here hx rfl (hb hby at_55) ?_
      refine st101 _ ?_
      refine XS.astore X101.here hx rfl (hb hby at_58) rfl rfl (l' := #[.val (.int p1), .val (.int p2), .val (.int p3), .val (.int (1 : Int32)), .val (.int f0), .val (.int f1), .val (.int f2), .val (.int v0), .val (.int v1), .val (.int v2), .val (.ref b101), .unset, .unset, .unset, .unset]) rfl ?_
      refine XS.aload X101.here hx rfl (hb hby at_60) rfl rfl ?_
      show Steps p.tables e below (T101.setTop (mkF m 62 #[.val (.int p1), .val (.int p2), .val (.int p3), .val (.int (1 : Int32)), .val (.int f0), .val (.int f1), .val (.int f2), .val (.int v0), .val (.int v1), .val (.int v2), .val (.ref b101), .unset, .unset, .unset, .unset] [(.ref b101)])) _
      refine XS.iconst X101.here hx rfl (hb hby at_62) ?_
      refine XS.iloadN X101.here hx rfl (hb hby at_63) rfl ?_
      refine XS.bipush X101.here hx rfl (hb hby at_64) ?_
      refine XS.iand X101.here hx rfl (hb hby at_66) rfl ?_
      show Steps p.tables e below (T101.setTop (mkF m 67 #[.val (.int p1), .val (.int p2), .val (.int p3), .val (.int (1 : Int32)), .val (.int f0), .val (.int f1), .val (.int f2), .val (.int v0), .val (.int v1), .val (.int v2), .val (.ref b101), .unset, .unset, .unset, .unset] [(.int (p3 &&& (7 : Int32))), (.int (0 : Int32)), (.ref b101)])) _
      refine XS.iconst X101.here hx rfl (hb hby at_67) ?_
      refine XS.isub X101.here hx rfl (hb hby at_68) rfl ?_
      exact kt
    obtain ⟨cl104, Ar104, q104, S104, N104n, H104, G104⟩ := id (V_b101)
    have hin104 : ¬ ((0 : Int32) < 0 ∨ cl104.slots.size ≤ ((0 : Int32)).toNatClampNeg) := inb_of S104 ⟨by decide, by decide⟩
    obtain ⟨T105, h105, X105, e105, W105, st105⟩ := stI X101 hx hZ e101 Ar104 (j := (0 : Int32)) hin104 (g := (mkF m 69 #[.val (.int p1), .val (.int p2), .val (.int p3), .val (.int (1 : Int32)), .val (.int f0), .val (.int f1), .val (.int f2), .val (.int v0), .val (.int v1), .val (.int v2), .val (.ref b101), .unset, .unset, .unset, .unset] [(.int ea), (.int (0 : Int32)), (.ref b101)])) rfl rfl (hb hby at_69)
    have V_b101_105 : Arv Z h105 b101 k101 .int (4 : Int32) [(.int ea), (.int (0 : Int32)), (.int (0 : Int32)), (.int (0 : Int32))] (.int (0 : Int32)) := Arv.set Ar104 q104 S104 N104n H104 G104 rfl W105 0 rfl (Nat.le_of_ble_eq_true rfl)
    have Z106 : n0 ≤ h105.size := Nat.le_trans Z102 (Keep.of_wr W105).1
    have N105 := Fr.snoc X105 N0 g_b101
    obtain ⟨eb, heb⟩ : ∃ z : Int32, z = ((((p3.toUInt32 >>> ((3 : Int32) &&& 31).toUInt32).toInt32) &&& (7 : Int32)) - (3 : Int32)) := ⟨_, rfl⟩
    have pre107 : ∀ t, Steps p.tables e below (T105.setTop (mkF m 81 #[.val (.int p1), .val (.int p2), .val (.int p3), .val (.int (1 : Int32)), .val (.int f0), .val (.int f1), .val (.int f2), .val (.int v0), .val (.int v1), .val (.int v2), .val (.ref b101), .unset, .unset, .unset, .unset] [(.int eb), (.int (1 : Int32)), (.ref b101)])) t → Steps p.tables e below (s₁.setTop (entryFrame m #[(.int p1), (.int p2), (.int p3)] maxLocals)) t := by
      intro t kt
      rw [heb] at kt
      refine pre103 _ ?_
      show Steps p.tables e below (T101.setTop (mkF m 69 #[.val (.int p1), .val (.int p2), .val (.int p3), .val (.int (1 : Int32)), .val (.int f0), .val (.int f1), .val (.int f2), .val (.int v0), .val (.int v1), .val (.int v2), .val (.ref b101), .unset, .unset, .unset, .unset] [(.int ea), (.int (0 : Int32)), (.ref b101)])) _
      refine st105 _ ?_
      refine XS.aload X105.here hx rfl (hb hby at_70) rfl rfl ?_
      refine XS.iconst X105.here hx rfl (hb hby at_72) ?_
      refine XS.iloadN X105.here hx rfl (hb hby at_73) rfl ?_
      show Steps p.tables e below (T105.setTop (mkF m 74 #[.val (.int p1), .val (.int p2), .val (.int p3), .val (.int (1 : Int32)), .val (.int f0), .val (.int f1), .val (.int f2), .val (.int v0), .val (.int v1), .val (.int v2), .val (.ref b101), .unset, .unset, .unset, .unset] [(.int p3), (.int (1 : Int32)), (.ref b101)])) _
      refine XS.iconst X105.here hx rfl (hb hby at_74) ?_
      refine XS.iushr X105.here hx rfl (hb hby at_75) rfl ?_
      refine XS.bipush X105.here hx rfl (hb hby at_76) ?_
      refine XS.iand X105.here hx rfl (hb hby at_78) rfl ?_
      show Steps p.tables e below (T105.setTop (mkF m 79 #[.val (.int p1), .val (.int p2), .val (.int p3), .val (.int (1 : Int32)), .val (.int f0), .val (.int f1), .val (.int f2), .val (.int v0), .val (.int v1), .val (.int v2), .val (.ref b101), .unset, .unset, .unset, .unset] [(.int (((p3.toUInt32 >>> ((3 : Int32) &&& 31).toUInt32).toInt32) &&& (7 : Int32))), (.int (1 : Int32)), (.ref b101)])) _
      refine XS.iconst X105.here hx rfl (hb hby at_79) ?_
      refine XS.isub X105.here hx rfl (hb hby at_80) rfl ?_
      exact kt
    obtain ⟨cl108, Ar108, q108, S108, N108n, H108, G108⟩ := id (V_b101_105)
    have hin108 : ¬ ((1 : Int32) < 0 ∨ cl108.slots.size ≤ ((1 : Int32)).toNatClampNeg) := inb_of S108 ⟨by decide, by decide⟩
    obtain ⟨T109, h109, X109, e109, W109, st109⟩ := stI X105 hx hZ e105 Ar108 (j := (1 : Int32)) hin108 (g := (mkF m 81 #[.val (.int p1), .val (.int p2), .val (.int p3), .val (.int (1 : Int32)), .val (.int f0), .val (.int f1), .val (.int f2), .val (.int v0), .val (.int v1), .val (.int v2), .val (.ref b101), .unset, .unset, .unset, .unset] [(.int eb), (.int (1 : Int32)), (.ref b101)])) rfl rfl (hb hby at_81)
    have V_b101_109 : Arv Z h109 b101 k101 .int (4 : Int32) [(.int ea), (.int eb), (.int (0 : Int32)), (.int (0 : Int32))] (.int (0 : Int32)) := Arv.set Ar108 q108 S108 N108n H108 G108 rfl W109 1 rfl (Nat.le_of_ble_eq_true rfl)
    have Z110 : n0 ≤ h109.size := Nat.le_trans Z106 (Keep.of_wr W109).1
    have N109 := Fr.snoc X109 N105 g_b101
    obtain ⟨ec, hec⟩ : ∃ z : Int32, z = ((((p3.toUInt32 >>> ((6 : Int32) &&& 31).toUInt32).toInt32) &&& (7 : Int32)) - (3 : Int32)) := ⟨_, rfl⟩
    have pre111 : ∀ t, Steps p.tables e below (T109.setTop (mkF m 94 #[.val (.int p1), .val (.int p2), .val (.int p3), .val (.int (1 : Int32)), .val (.int f0), .val (.int f1), .val (.int f2), .val (.int v0), .val (.int v1), .val (.int v2), .val (.ref b101), .unset, .unset, .unset, .unset] [(.int ec), (.int (2 : Int32)), (.ref b101)])) t → Steps p.tables e below (s₁.setTop (entryFrame m #[(.int p1), (.int p2), (.int p3)] maxLocals)) t := by
      intro t kt
      rw [hec] at kt
      refine pre107 _ ?_
      show Steps p.tables e below (T105.setTop (mkF m 81 #[.val (.int p1), .val (.int p2), .val (.int p3), .val (.int (1 : Int32)), .val (.int f0), .val (.int f1), .val (.int f2), .val (.int v0), .val (.int v1), .val (.int v2), .val (.ref b101), .unset, .unset, .unset, .unset] [(.int eb), (.int (1 : Int32)), (.ref b101)])) _
      refine st109 _ ?_
      refine XS.aload X109.here hx rfl (hb hby at_82) rfl rfl ?_
      refine XS.iconst X109.here hx rfl (hb hby at_84) ?_
      refine XS.iloadN X109.here hx rfl (hb hby at_85) rfl ?_
      show Steps p.tables e below (T109.setTop (mkF m 86 #[.val (.int p1), .val (.int p2), .val (.int p3), .val (.int (1 : Int32)), .val (.int f0), .val (.int f1), .val (.int f2), .val (.int v0), .val (.int v1), .val (.int v2), .val (.ref b101), .unset, .unset, .unset, .unset] [(.int p3), (.int (2 : Int32)), (.ref b101)])) _
      refine XS.bipush X109.here hx rfl (hb hby at_86) ?_
      refine XS.iushr X109.here hx rfl (hb hby at_88) rfl ?_
      refine XS.bipush X109.here hx rfl (hb hby at_89) ?_
      refine XS.iand X109.here hx rfl (hb hby at_91) rfl ?_
      show Steps p.tables e below (T109.setTop (mkF m 92 #[.val (.int p1), .val (.int p2), .val (.int p3), .val (.int (1 : Int32)), .val (.int f0), .val (.int f1), .val (.int f2), .val (.int v0), .val (.int v1), .val (.int v2), .val (.ref b101), .unset, .unset, .unset, .unset] [(.int (((p3.toUInt32 >>> ((6 : Int32) &&& 31).toUInt32).toInt32) &&& (7 : Int32))), (.int (2 : Int32)), (.ref b101)])) _
      refine XS.iconst X109.here hx rfl (hb hby at_92) ?_
      refine XS.isub X109.here hx rfl (hb hby at_93) rfl ?_
      exact kt
    obtain ⟨cl112, Ar112, q112, S112, N112n, H112, G112⟩ := id (V_b101_109)
    have hin112 : ¬ ((2 : Int32) < 0 ∨ cl112.slots.size ≤ ((2 : Int32)).toNatClampNeg) := inb_of S112 ⟨by decide, by decide⟩
    obtain ⟨T113, h113, X113, e113, W113, st113⟩ := stI X109 hx hZ e109 Ar112 (j := (2 : Int32)) hin112 (g := (mkF m 94 #[.val (.int p1), .val (.int p2), .val (.int p3), .val (.int (1 : Int32)), .val (.int f0), .val (.int f1), .val (.int f2), .val (.int v0), .val (.int v1), .val (.int v2), .val (.ref b101), .unset, .unset, .unset, .unset] [(.int ec), (.int (2 : Int32)), (.ref b101)])) rfl rfl (hb hby at_94)
    have V_b101_113 : Arv Z h113 b101 k101 .int (4 : Int32) [(.int ea), (.int eb), (.int ec), (.int (0 : Int32))] (.int (0 : Int32)) := Arv.set Ar112 q112 S112 N112n H112 G112 rfl W113 2 rfl (Nat.le_of_ble_eq_true rfl)
    have Z114 : n0 ≤ h113.size := Nat.le_trans Z110 (Keep.of_wr W113).1
    have N113 := Fr.snoc X113 N109 g_b101
    obtain ⟨ed, hed⟩ : ∃ z : Int32, z = ((((p3.toUInt32 >>> ((9 : Int32) &&& 31).toUInt32).toInt32) &&& (7 : Int32)) - (3 : Int32)) := ⟨_, rfl⟩
    have pre115 : ∀ t, Steps p.tables e below (T113.setTop (mkF m 107 #[.val (.int p1), .val (.int p2), .val (.int p3), .val (.int (1 : Int32)), .val (.int f0), .val (.int f1), .val (.int f2), .val (.int v0), .val (.int v1), .val (.int v2), .val (.ref b101), .unset, .unset, .unset, .unset] [(.int ed), (.int (3 : Int32)), (.ref b101)])) t → Steps p.tables e below (s₁.setTop (entryFrame m #[(.int p1), (.int p2), (.int p3)] maxLocals)) t := by
      intro t kt
      rw [hed] at kt
      refine pre111 _ ?_
      show Steps p.tables e below (T109.setTop (mkF m 94 #[.val (.int p1), .val (.int p2), .val (.int p3), .val (.int (1 : Int32)), .val (.int f0), .val (.int f1), .val (.int f2), .val (.int v0), .val (.int v1), .val (.int v2), .val (.ref b101), .unset, .unset, .unset, .unset] [(.int ec), (.int (2 : Int32)), (.ref b101)])) _
      refine st113 _ ?_
      refine XS.aload X113.here hx rfl (hb hby at_95) rfl rfl ?_
      refine XS.iconst X113.here hx rfl (hb hby at_97) ?_
      refine XS.iloadN X113.here hx rfl (hb hby at_98) rfl ?_
      show Steps p.tables e below (T113.setTop (mkF m 99 #[.val (.int p1), .val (.int p2), .val (.int p3), .val (.int (1 : Int32)), .val (.int f0), .val (.int f1), .val (.int f2), .val (.int v0), .val (.int v1), .val (.int v2), .val (.ref b101), .unset, .unset, .unset, .unset] [(.int p3), (.int (3 : Int32)), (.ref b101)])) _
      refine XS.bipush X113.here hx rfl (hb hby at_99) ?_
      refine XS.iushr X113.here hx rfl (hb hby at_101) rfl ?_
      refine XS.bipush X113.here hx rfl (hb hby at_102) ?_
      refine XS.iand X113.here hx rfl (hb hby at_104) rfl ?_
      show Steps p.tables e below (T113.setTop (mkF m 105 #[.val (.int p1), .val (.int p2), .val (.int p3), .val (.int (1 : Int32)), .val (.int f0), .val (.int f1), .val (.int f2), .val (.int v0), .val (.int v1), .val (.int v2), .val (.ref b101), .unset, .unset, .unset, .unset] [(.int (((p3.toUInt32 >>> ((9 : Int32) &&& 31).toUInt32).toInt32) &&& (7 : Int32))), (.int (3 : Int32)), (.ref b101)])) _
      refine XS.iconst X113.here hx rfl (hb hby at_105) ?_
      refine XS.isub X113.here hx rfl (hb hby at_106) rfl ?_
      exact kt
    obtain ⟨cl116, Ar116, q116, S116, N116n, H116, G116⟩ := id (V_b101_113)
    have hin116 : ¬ ((3 : Int32) < 0 ∨ cl116.slots.size ≤ ((3 : Int32)).toNatClampNeg) := inb_of S116 ⟨by decide, by decide⟩
    obtain ⟨T117, h117, X117, e117, W117, st117⟩ := stI X113 hx hZ e113 Ar116 (j := (3 : Int32)) hin116 (g := (mkF m 107 #[.val (.int p1), .val (.int p2), .val (.int p3), .val (.int (1 : Int32)), .val (.int f0), .val (.int f1), .val (.int f2), .val (.int v0), .val (.int v1), .val (.int v2), .val (.ref b101), .unset, .unset, .unset, .unset] [(.int ed), (.int (3 : Int32)), (.ref b101)])) rfl rfl (hb hby at_107)
    have V_b101_117 : Arv Z h117 b101 k101 .int (4 : Int32) [(.int ea), (.int eb), (.int ec), (.int ed)] (.int (0 : Int32)) := Arv.set Ar116 q116 S116 N116n H116 G116 rfl W117 3 rfl (Nat.le_of_ble_eq_true rfl)
    have Z118 : n0 ≤ h117.size := Nat.le_trans Z114 (Keep.of_wr W117).1
    have N117 := Fr.snoc X117 N113 g_b101
    obtain ⟨T119, h119, k119, X119, e119, E119, A119, st119⟩ := newP (aty := .int) X117 hx hZ (wd_0 hw) e117 (g := (mkF m 109 #[.val (.int p1), .val (.int p2), .val (.int p3), .val (.int (1 : Int32)), .val (.int f0), .val (.int f1), .val (.int f2), .val (.int v0), .val (.int v1), .val (.int v2), .val (.ref b101), .unset, .unset, .unset, .unset] [(.int (1 : Int32))])) rfl (hb hby at_109) rfl (by decide) (cap := 1) (by decide) (by decide) (by decide) (by decide)
    obtain ⟨b119, g119⟩ : ∃ z, z = h117.size := ⟨_, rfl⟩
    rw [← g119] at A119 st119
    have g_b119 : n0 ≤ b119 := Nat.le_trans Z118 (Nat.le_of_eq g119.symm)
    have ne_b101_b119 : b101 ≠ b119 := Nat.ne_of_lt (Nat.lt_of_lt_of_le (V_b101_117).lt (Nat.le_of_eq g119.symm))
    have Z120 : n0 ≤ h119.size := Nat.le_trans Z118 E119.1
    have V0_b119 := (Arv.new A119 (by decide)).pad (pad_rep [] (.int (0 : Int32)) 1)
    have V_b119 : Arv Z h119 b119 k119 .int (1 : Int32) [(.int (0 : Int32))] (.int (0 : Int32)) := V0_b119
    obtain ⟨T121, h121, k121, X121, e121, E121, A121, st121⟩ := newP (aty := .int) X119 hx hZ (wd_0 hw) e119 (g := (mkF m 114 #[.val (.int p1), .val (.int p2), .val (.int p3), .val (.int (1 : Int32)), .val (.int f0), .val (.int f1), .val (.int f2), .val (.int v0), .val (.int v1), .val (.int v2), .val (.ref b101), .val (.ref b119), .unset, .unset, .unset] [(.int (1 : Int32))])) rfl (hb hby at_114) rfl (by decide) (cap := 1) (by decide) (by decide) (by decide) (by decide)
    obtain ⟨b121, g121⟩ : ∃ z, z = h119.size := ⟨_, rfl⟩
    rw [← g121] at A121 st121
    have g_b121 : n0 ≤ b121 := Nat.le_trans Z120 (Nat.le_of_eq g121.symm)
    have ne_b101_b121 : b101 ≠ b121 := Nat.ne_of_lt (Nat.lt_of_lt_of_le ((V_b101_117.ext E119)).lt (Nat.le_of_eq g121.symm))
    have ne_b119_b121 : b119 ≠ b121 := Nat.ne_of_lt (Nat.lt_of_lt_of_le (V_b119).lt (Nat.le_of_eq g121.symm))
    have Z122 : n0 ≤ h121.size := Nat.le_trans Z120 E121.1
    have V0_b121 := (Arv.new A121 (by decide)).pad (pad_rep [] (.int (0 : Int32)) 1)
    have V_b121 : Arv Z h121 b121 k121 .int (1 : Int32) [(.int (0 : Int32))] (.int (0 : Int32)) := V0_b121
    obtain ⟨cl123, Ar123, q123, S123, N123n, H123, G123⟩ := id ((V_b119.ext E121))
    have hin123 : ¬ ((0 : Int32) < 0 ∨ cl123.slots.size ≤ ((0 : Int32)).toNatClampNeg) := inb_of S123 ⟨by decide, by decide⟩
    obtain ⟨T124, h124, X124, e124, W124, st124⟩ := stI X121 hx hZ e121 Ar123 (j := (0 : Int32)) hin123 (g := (mkF m 127 #[.val (.int p1), .val (.int p2), .val (.int p3), .val (.int (1 : Int32)), .val (.int f0), .val (.int f1), .val (.int f2), .val (.int v0), .val (.int v1), .val (.int v2), .val (.ref b101), .val (.ref b119), .val (.ref b121), .unset, .unset] [(.int f0), (.int (0 : Int32)), (.ref b119)])) rfl rfl (hb hby at_127)
    have V_b119_124 : Arv Z h124 b119 k119 .int (1 : Int32) [(.int f0)] (.int (0 : Int32)) := Arv.set Ar123 q123 S123 N123n H123 G123 rfl W124 0 rfl (Nat.le_of_ble_eq_true rfl)
    have Z125 : n0 ≤ h124.size := Nat.le_trans Z122 (Keep.of_wr W124).1
    have N124 := Fr.snoc X124 N117 g_b119
    obtain ⟨cl126, Ar126, q126, S126, N126n, H126, G126⟩ := id ((V_b121.other W124 (Ne.symm ne_b119_b121)))
    have hin126 : ¬ ((0 : Int32) < 0 ∨ cl126.slots.size ≤ ((0 : Int32)).toNatClampNeg) := inb_of S126 ⟨by decide, by decide⟩
    obtain ⟨T127, h127, X127, e127, W127, st127⟩ := stI X124 hx hZ e124 Ar126 (j := (0 : Int32)) hin126 (g := (mkF m 133 #[.val (.int p1), .val (.int p2), .val (.int p3), .val (.int (1 : Int32)), .val (.int f0), .val (.int f1), .val (.int f2), .val (.int v0), .val (.int v1), .val (.int v2), .val (.ref b101), .val (.ref b119), .val (.ref b121), .unset, .unset] [(.int v0), (.int (0 : Int32)), (.ref b121)])) rfl rfl (hb hby at_133)
    have V_b121_127 : Arv Z h127 b121 k121 .int (1 : Int32) [(.int v0)] (.int (0 : Int32)) := Arv.set Ar126 q126 S126 N126n H126 G126 rfl W127 0 rfl (Nat.le_of_ble_eq_true rfl)
    have Z128 : n0 ≤ h127.size := Nat.le_trans Z125 (Keep.of_wr W127).1
    have N127 := Fr.snoc X127 N124 g_b121
    obtain ⟨cl129, Ar129, q129, S129, N129n, H129, G129⟩ := id (((((V_b101_117.ext E119).ext E121).other W124 ne_b101_b119).other W127 ne_b101_b121))
    have hin129 : ¬ (f0 < 0 ∨ cl129.slots.size ≤ (f0).toNatClampNeg) := inb_of S129 hb_f0
    have hat129 : cl129.slots[(f0).toNatClampNeg]? = some (.int (own_sel4 f0 ea eb ec ed)) := H129.at hin129 (own_at4 hb_f0)
    have pre131 : ∀ t, Steps p.tables e below (T127.setTop (mkF m 180 #[.val (.int p1), .val (.int p2), .val (.int p3), .val (.int (1 : Int32)), .val (.int f0), .val (.int f1), .val (.int f2), .val (.int v0), .val (.int v1), .val (.int v2), .val (.ref b101), .val (.ref b119), .val (.ref b121), .unset, .unset] [(.int v0), (.int (own_sel4 f0 ea eb ec ed))])) t → Steps p.tables e below (s₁.setTop (entryFrame m #[(.int p1), (.int p2), (.int p3)] maxLocals)) t := by
      intro t kt
      refine pre115 _ ?_
      show Steps p.tables e below (T113.setTop (mkF m 107 #[.val (.int p1), .val (.int p2), .val (.int p3), .val (.int (1 : Int32)), .val (.int f0), .val (.int f1), .val (.int f2), .val (.int v0), .val (.int v1), .val (.int v2), .val (.ref b101), .unset, .unset, .unset, .unset] [(.int ed), (.int (3 : Int32)), (.ref b101)])) _
      refine st117 _ ?_
      refine XS.iloadN X117.here hx rfl (hb hby at_108) rfl ?_
      refine st119 _ ?_
      refine XS.astore X119.here hx rfl (hb hby at_111) rfl rfl (l' := #[.val (.int p1), .val (.int p2), .val (.int p3), .val (.int (1 : Int32)), .val (.int f0), .val (.int f1), .val (.int f2), .val (.int v0), .val (.int v1), .val (.int v2), .val (.ref b101), .val (.ref b119), .unset, .unset, .unset]) rfl ?_
      show Steps p.tables e below (T119.setTop (mkF m 113 #[.val (.int p1), .val (.int p2), .val (.int p3), .val (.int (1 : Int32)), .val (.int f0), .val (.int f1), .val (.int f2), .val (.int v0), .val (.int v1), .val (.int v2), .val (.ref b101), .val (.ref b119), .unset, .unset, .unset] [])) _
      refine XS.iloadN X119.here hx rfl (hb hby at_113) rfl ?_
      refine st121 _ ?_
      refine XS.astore X121.here hx rfl (hb hby at_116) rfl rfl (l' := #[.val (.int p1), .val (.int p2), .val (.int p3), .val (.int (1 : Int32)), .val (.int f0), .val (.int f1), .val (.int f2), .val (.int v0), .val (.int v1), .val (.int v2), .val (.ref b101), .val (.ref b119), .val (.ref b121), .unset, .unset]) rfl ?_
      refine XS.iloadN X121.here hx rfl (hb hby at_118) rfl ?_
      show Steps p.tables e below (T121.setTop (mkF m 119 #[.val (.int p1), .val (.int p2), .val (.int p3), .val (.int (1 : Int32)), .val (.int f0), .val (.int f1), .val (.int f2), .val (.int v0), .val (.int v1), .val (.int v2), .val (.ref b101), .val (.ref b119), .val (.ref b121), .unset, .unset] [(.int (1 : Int32))])) _
      refine XS.ifNo X121.here hx rfl (hb hby at_119) rfl ((if0 _ _).trans (tlt (by decide)).2.2.2) ?_
      refine XS.aload X121.here hx rfl (hb hby at_122) rfl rfl ?_
      refine XS.iconst X121.here hx rfl (hb hby at_124) ?_
      refine XS.iload X121.here hx rfl (hb hby at_125) rfl ?_
      show Steps p.tables e below (T121.setTop (mkF m 127 #[.val (.int p1), .val (.int p2), .val (.int p3), .val (.int (1 : Int32)), .val (.int f0), .val (.int f1), .val (.int f2), .val (.int v0), .val (.int v1), .val (.int v2), .val (.ref b101), .val (.ref b119), .val (.ref b121), .unset, .unset] [(.int f0), (.int (0 : Int32)), (.ref b119)])) _
      refine st124 _ ?_
      refine XS.aload X124.here hx rfl (hb hby at_128) rfl rfl ?_
      refine XS.iconst X124.here hx rfl (hb hby at_130) ?_
      refine XS.iload X124.here hx rfl (hb hby at_131) rfl ?_
      show Steps p.tables e below (T124.setTop (mkF m 133 #[.val (.int p1), .val (.int p2), .val (.int p3), .val (.int (1 : Int32)), .val (.int f0), .val (.int f1), .val (.int f2), .val (.int v0), .val (.int v1), .val (.int v2), .val (.ref b101), .val (.ref b119), .val (.ref b121), .unset, .unset] [(.int v0), (.int (0 : Int32)), (.ref b121)])) _
      refine st127 _ ?_
      refine XS.iloadN X127.here hx rfl (hb hby at_134) rfl ?_
      refine XS.iconst X127.here hx rfl (hb hby at_135) ?_
      refine XS.icmpYes X127.here hx rfl (pc0 := 136) (pc' := 151) rfl (hb hby at_136) rfl (flt (by decide)).2.2.2 (by decide) (by decide) ?_
      show Steps p.tables e below (T127.setTop (mkF m 151 #[.val (.int p1), .val (.int p2), .val (.int p3), .val (.int (1 : Int32)), .val (.int f0), .val (.int f1), .val (.int f2), .val (.int v0), .val (.int v1), .val (.int v2), .val (.ref b101), .val (.ref b119), .val (.ref b121), .unset, .unset] [])) _
      refine XS.iloadN X127.here hx rfl (hb hby at_151) rfl ?_
      refine XS.iconst X127.here hx rfl (hb hby at_152) ?_
      refine XS.icmpYes X127.here hx rfl (pc0 := 153) (pc' := 168) rfl (hb hby at_153) rfl (flt (by decide)).2.2.2 (by decide) (by decide) ?_
      refine XS.iloadN X127.here hx rfl (hb hby at_168) rfl ?_
      show Steps p.tables e below (T127.setTop (mkF m 169 #[.val (.int p1), .val (.int p2), .val (.int p3), .val (.int (1 : Int32)), .val (.int f0), .val (.int f1), .val (.int f2), .val (.int v0), .val (.int v1), .val (.int v2), .val (.ref b101), .val (.ref b119), .val (.ref b121), .unset, .unset] [(.int (1 : Int32))])) _
      refine XS.iconst X127.here hx rfl (hb hby at_169) ?_
      refine XS.icmpNo X127.here hx rfl (hb hby at_170) rfl (flt (by decide)).1 ?_
      refine XS.aload X127.here hx rfl (hb hby at_173) rfl rfl ?_
      refine XS.iload X127.here hx rfl (hb hby at_175) rfl ?_
      show Steps p.tables e below (T127.setTop (mkF m 177 #[.val (.int p1), .val (.int p2), .val (.int p3), .val (.int (1 : Int32)), .val (.int f0), .val (.int f1), .val (.int f2), .val (.int v0), .val (.int v1), .val (.int v2), .val (.ref b101), .val (.ref b119), .val (.ref b121), .unset, .unset] [(.int f0), (.ref b101)])) _
      refine X127.iaload hx (j := f0) (v := (.int (own_sel4 f0 ea eb ec ed))) (by rw [e127]; exact Ar129.1) (State.isArrayOf_alike hZ.alike Ar129.2.1) Ar129.2.2 hin129 hat129 (g := (mkF m 177 #[.val (.int p1), .val (.int p2), .val (.int p3), .val (.int (1 : Int32)), .val (.int f0), .val (.int f1), .val (.int f2), .val (.int v0), .val (.int v1), .val (.int v2), .val (.ref b101), .val (.ref b119), .val (.ref b121), .unset, .unset] [(.int f0), (.ref b101)])) rfl rfl (hb hby at_177) _ ?_
      refine XS.iload X127.here hx rfl (hb hby at_178) rfl ?_
      exact kt
    by_cases hc180_130 : (own_sel4 f0 ea eb ec ed) = v0
    · obtain ⟨T132, h132, X132, e132, E132, A132, D132, -, st132⟩ := newO X127 hx hZ hown (wd_1 hw) (wd_2 hw) (wd_3 hw) e127 (g := (mkF m 220 #[.val (.int p1), .val (.int p2), .val (.int p3), .val (.int (1 : Int32)), .val (.int f0), .val (.int f1), .val (.int f2), .val (.int v0), .val (.int v1), .val (.int v2), .val (.ref b101), .val (.ref b119), .val (.ref b121), .val (.int (1 : Int32)), .unset] [])) rfl (hb hby at_220) (by decide) (by decide)
      obtain ⟨b132, g132⟩ : ∃ z, z = h127.size := ⟨_, rfl⟩
      rw [← g132] at A132 D132 st132
      have g_b132 : n0 ≤ b132 := Nat.le_trans Z128 (Nat.le_of_eq g132.symm)
      have ne_b101_b132 : b101 ≠ b132 := Nat.ne_of_lt (Nat.lt_of_lt_of_le (((((V_b101_117.ext E119).ext E121).other W124 ne_b101_b119).other W127 ne_b101_b121)).lt (Nat.le_of_eq g132.symm))
      have ne_b119_b132 : b119 ≠ b132 := Nat.ne_of_lt (Nat.lt_of_lt_of_le ((V_b119_124.other W127 ne_b119_b121)).lt (Nat.le_of_eq g132.symm))
      have ne_b121_b132 : b121 ≠ b132 := Nat.ne_of_lt (Nat.lt_of_lt_of_le (V_b121_127).lt (Nat.le_of_eq g132.symm))
      have Z133 : n0 ≤ h132.size := Nat.le_trans Z128 E132.1
      have F_features_b132 : Fld Z h132 b132 "com/example/counterlens/counterlens/Rules$Forbidden" "features" "[I" .null := D132 (Or.inr (wd_16 hw)) (ty := (.array .int)) (by decide)
      have F_values_b132 : Fld Z h132 b132 "com/example/counterlens/counterlens/Rules$Forbidden" "values" "[I" .null := D132 (Or.inr (wd_18 hw)) (ty := (.array .int)) (by decide)
      obtain ⟨_, _, ⟨T134, L134, k134, n134⟩, -, X134, ⟨Lc134, hQ134, l134, y134, z134⟩, st134⟩ := X132.specialBack hx (y := (⟨"com/example/counterlens/counterlens/Rules$Forbidden", "<init>", "([I[I)V"⟩ : MethodName)) rfl hown (mvT hZ (wd_4 hw)) (mvT hZ (wd_5 hw)) (mvT hZ (wd_6 hw)) (by decide) (backOf (W := 1) (rm1 l Z a0 hw [] b132 b119 b121 .null .null h132 n0 Z133 F_features_b132 F_values_b132 A132 g_b132) hZ (wd_6 hw) (wd_3 hw) (by decide) (by decide)) (g := (mkF m 228 #[.val (.int p1), .val (.int p2), .val (.int p3), .val (.int (1 : Int32)), .val (.int f0), .val (.int f1), .val (.int f2), .val (.int v0), .val (.int v1), .val (.int v2), .val (.ref b101), .val (.ref b119), .val (.ref b121), .val (.int (1 : Int32)), .unset] [(.ref b121), (.ref b119), (.ref b132), (.ref b132)])) rfl (by rw [hml]; rfl) (Steps.refl _) (a := b132) (argsL := [(.ref b119), (.ref b121)]) (rest := [(.ref b132)]) (lenOf pd___I_I_V rfl) rfl (by show 2 * 0 + _ ≤ _; exact Nat.le_of_eq rfl) (hb hby at_228) (fun _ _ => ⟨rfl, e132, (by decide : 4 + 0 ≤ _), (by decide : 8 + 0 ≤ _)⟩)
      dsimp only [Pt.U, Pt.locs, Pt.cells, Pt.slots] at X134 l134 y134 z134 st134 hQ134
      subst l134 y134 z134
      obtain ⟨rfl, N134q, K134q, g134_0, g134_1, g134_2⟩ := hQ134
      have N134 := Fr.app N127 N134q
      have Z135 : n0 ≤ T134.heap.size := Nat.le_trans Z133 K134q.1
      obtain ⟨cq136, kq136, q136a, q136b, q136c⟩ := isOf hZ rfl (g134_0)
      obtain ⟨_, _, ⟨T136, L136, k136, n136⟩, -, X136, ⟨Lc136, hQ136, l136, y136, z136⟩, st136⟩ := X134.virtualBack hx (y := (⟨"com/example/counterlens/counterlens/Rules$Forbidden", "matches", "([I)Z"⟩ : MethodName)) (z := (⟨"com/example/counterlens/counterlens/Rules$Forbidden", "matches", "([I)Z"⟩ : MethodName)) hown (mvT hZ (wd_19 hw)) (mvT hZ (wd_20 hw)) (notFace_of_selects (args := #[]) (mvT hZ (wd_22 hw))) (mvT hZ (wd_22 hw)) (mvT hZ (wd_21 hw)) (by decide) (backOf (W := 0) (rmm1 l Z a0 hw [] b132 b101 b119 b121 k119 k121 k101 f0 v0 ea eb ec ed T134.heap n0 Z135 g134_1 g134_2 (((V_b119_124.other W127 ne_b119_b121).ext E132).keep K134q (ninS ne_b119_b132 nin0)) ((V_b121_127.ext E132).keep K134q (ninS ne_b121_b132 nin0)) ((((((V_b101_117.ext E119).ext E121).other W124 ne_b101_b119).other W127 ne_b101_b121).ext E132).keep K134q (ninS ne_b101_b132 nin0)) hb_f0) hZ (wd_23 hw) (wd_3 hw) (by decide) (by decide)) q136a q136c (g := (mkF m 237 #[.val (.int p1), .val (.int p2), .val (.int p3), .val (.int (1 : Int32)), .val (.int f0), .val (.int f1), .val (.int f2), .val (.int v0), .val (.int v1), .val (.int v2), .val (.ref b101), .val (.ref b119), .val (.ref b121), .val (.int (1 : Int32)), .val (.ref b132)] [(.ref b101), (.ref b132)])) rfl (by rw [hml]; rfl) (Steps.refl _) (argsL := [(.ref b101)]) (rest := []) (lenOf pd___I_Z rfl) rfl (by show 2 * 0 + _ ≤ _; exact Nat.le_of_eq rfl) (hb hby at_237) (fun _ _ => ⟨rfl, rfl, (by decide : 4 + 0 ≤ _), (by decide : 8 + 0 ≤ _)⟩)
      dsimp only [Pt.U, Pt.locs, Pt.cells, Pt.slots] at X136 l136 y136 z136 st136 hQ136
      subst l136 y136 z136
      obtain ⟨rfl, N136q, e136⟩ := hQ136
      have N136 := Fr.app N134 N136q
      obtain ⟨fs, hr, hrun, hended, hW, hsame⟩ := X136.leave (v := some (.int (1 : Int32))) (fun h => by rw [Bd.returns] at h; cases h)
      refine ⟨_, _, pre131 _ ?_, hrun, hended, _, _, rfl, ?_, ⟨_, rfl⟩, hW, hsame.mono (by decide) (by decide)⟩
      · show Steps p.tables e below (T127.setTop (mkF m 180 #[.val (.int p1), .val (.int p2), .val (.int p3), .val (.int (1 : Int32)), .val (.int f0), .val (.int f1), .val (.int f2), .val (.int v0), .val (.int v1), .val (.int v2), .val (.ref b101), .val (.ref b119), .val (.ref b121), .unset, .unset] [(.int v0), (.int (own_sel4 f0 ea eb ec ed))])) _
        refine XS.icmpNo X127.here hx rfl (hb hby at_180) rfl (teq hc180_130).2 ?_
        refine XS.iloadN X127.here hx rfl (hb hby at_183) rfl ?_
        show Steps p.tables e below (T127.setTop (mkF m 184 #[.val (.int p1), .val (.int p2), .val (.int p3), .val (.int (1 : Int32)), .val (.int f0), .val (.int f1), .val (.int f2), .val (.int v0), .val (.int v1), .val (.int v2), .val (.ref b101), .val (.ref b119), .val (.ref b121), .unset, .unset] [(.int (1 : Int32))])) _
        refine XS.iconst X127.here hx rfl (hb hby at_184) ?_
        refine XS.icmpYes X127.here hx rfl (pc0 := 185) (pc' := 198) rfl (hb hby at_185) rfl (tlt (by decide)).1 (by decide) (by decide) ?_
        refine XS.iloadN X127.here hx rfl (hb hby at_198) rfl ?_
        refine XS.iconst X127.here hx rfl (hb hby at_199) ?_
        show Steps p.tables e below (T127.setTop (mkF m 200 #[.val (.int p1), .val (.int p2), .val (.int p3), .val (.int (1 : Int32)), .val (.int f0), .val (.int f1), .val (.int f2), .val (.int v0), .val (.int v1), .val (.int v2), .val (.ref b101), .val (.ref b119), .val (.ref b121), .unset, .unset] [(.int (3 : Int32)), (.int (1 : Int32))])) _
        refine XS.icmpYes X127.here hx rfl (pc0 := 200) (pc' := 213) rfl (hb hby at_200) rfl (tlt (by decide)).1 (by decide) (by decide) ?_
        refine XS.iconst X127.here hx rfl (hb hby at_213) ?_
        refine XS.goto X127.here hx rfl (pc0 := 214) (pc' := 218) rfl (hb hby at_214) (by decide) (by decide) ?_
        refine XS.istore X127.here hx rfl (hb hby at_218) rfl (l' := #[.val (.int p1), .val (.int p2), .val (.int p3), .val (.int (1 : Int32)), .val (.int f0), .val (.int f1), .val (.int f2), .val (.int v0), .val (.int v1), .val (.int v2), .val (.ref b101), .val (.ref b119), .val (.ref b121), .val (.int (1 : Int32)), .unset]) rfl ?_
        show Steps p.tables e below (T127.setTop (mkF m 220 #[.val (.int p1), .val (.int p2), .val (.int p3), .val (.int (1 : Int32)), .val (.int f0), .val (.int f1), .val (.int f2), .val (.int v0), .val (.int v1), .val (.int v2), .val (.ref b101), .val (.ref b119), .val (.ref b121), .val (.int (1 : Int32)), .unset] [])) _
        refine st132 _ ?_
        refine XS.dup X132.here hx rfl (hb hby at_223) rfl rfl ?_
        refine XS.aload X132.here hx rfl (hb hby at_224) rfl rfl ?_
        refine XS.aload X132.here hx rfl (hb hby at_226) rfl rfl ?_
        show Steps p.tables e below (T132.setTop (mkF m 228 #[.val (.int p1), .val (.int p2), .val (.int p3), .val (.int (1 : Int32)), .val (.int f0), .val (.int f1), .val (.int f2), .val (.int v0), .val (.int v1), .val (.int v2), .val (.ref b101), .val (.ref b119), .val (.ref b121), .val (.int (1 : Int32)), .unset] [(.ref b121), (.ref b119), (.ref b132), (.ref b132)])) _
        refine st134.trans ?_
        refine XS.astore X134.here hx rfl (hb hby at_231) rfl rfl (l' := #[.val (.int p1), .val (.int p2), .val (.int p3), .val (.int (1 : Int32)), .val (.int f0), .val (.int f1), .val (.int f2), .val (.int v0), .val (.int v1), .val (.int v2), .val (.ref b101), .val (.ref b119), .val (.ref b121), .val (.int (1 : Int32)), .val (.ref b132)]) rfl ?_
        refine XS.aload X134.here hx rfl (hb hby at_233) rfl rfl ?_
        refine XS.aload X134.here hx rfl (hb hby at_235) rfl rfl ?_
        show Steps p.tables e below (T134.setTop (mkF m 237 #[.val (.int p1), .val (.int p2), .val (.int p3), .val (.int (1 : Int32)), .val (.int f0), .val (.int f1), .val (.int f2), .val (.int v0), .val (.int v1), .val (.int v2), .val (.ref b101), .val (.ref b119), .val (.ref b121), .val (.int (1 : Int32)), .val (.ref b132)] [(.ref b101), (.ref b132)])) _
        refine st136.trans ?_
        refine XS.iload X136.here hx rfl (hb hby at_240) rfl ?_
        refine XS.icmpNo X136.here hx rfl (hb hby at_242) rfl (teq (by simp only [if_pos hc180_130])).2 ?_
        refine XS.iconst X136.here hx rfl (hb hby at_245) ?_
        show Steps p.tables e below (T136.setTop (mkF m 246 #[.val (.int p1), .val (.int p2), .val (.int p3), .val (.int (1 : Int32)), .val (.int f0), .val (.int f1), .val (.int f2), .val (.int v0), .val (.int v1), .val (.int v2), .val (.ref b101), .val (.ref b119), .val (.ref b121), .val (.int (1 : Int32)), .val (.ref b132)] [(.int (1 : Int32))])) _
        refine XS.goto X136.here hx rfl (pc0 := 246) (pc' := 250) rfl (hb hby at_246) (by decide) (by decide) ?_
        exact retN X136 hx (t := .boolean) Bd.returns (by simp) (hb hby at_250) hr
      · show Q_rm0 Z p1 p2 p3 h0 n0 _ T136.heap _
        rw [e136]
        exact ⟨rfl, N136, trivial⟩
    · obtain ⟨T137, h137, X137, e137, E137, A137, D137, -, st137⟩ := newO X127 hx hZ hown (wd_1 hw) (wd_2 hw) (wd_3 hw) e127 (g := (mkF m 220 #[.val (.int p1), .val (.int p2), .val (.int p3), .val (.int (1 : Int32)), .val (.int f0), .val (.int f1), .val (.int f2), .val (.int v0), .val (.int v1), .val (.int v2), .val (.ref b101), .val (.ref b119), .val (.ref b121), .val (.int (0 : Int32)), .unset] [])) rfl (hb hby at_220) (by decide) (by decide)
      obtain ⟨b137, g137⟩ : ∃ z, z = h127.size := ⟨_, rfl⟩
      rw [← g137] at A137 D137 st137
      have g_b137 : n0 ≤ b137 := Nat.le_trans Z128 (Nat.le_of_eq g137.symm)
      have ne_b101_b137 : b101 ≠ b137 := Nat.ne_of_lt (Nat.lt_of_lt_of_le (((((V_b101_117.ext E119).ext E121).other W124 ne_b101_b119).other W127 ne_b101_b121)).lt (Nat.le_of_eq g137.symm))
      have ne_b119_b137 : b119 ≠ b137 := Nat.ne_of_lt (Nat.lt_of_lt_of_le ((V_b119_124.other W127 ne_b119_b121)).lt (Nat.le_of_eq g137.symm))
      have ne_b121_b137 : b121 ≠ b137 := Nat.ne_of_lt (Nat.lt_of_lt_of_le (V_b121_127).lt (Nat.le_of_eq g137.symm))
      have Z138 : n0 ≤ h137.size := Nat.le_trans Z128 E137.1
      have F_features_b137 : Fld Z h137 b137 "com/example/counterlens/counterlens/Rules$Forbidden" "features" "[I" .null := D137 (Or.inr (wd_16 hw)) (ty := (.array .int)) (by decide)
      have F_values_b137 : Fld Z h137 b137 "com/example/counterlens/counterlens/Rules$Forbidden" "values" "[I" .null := D137 (Or.inr (wd_18 hw)) (ty := (.array .int)) (by decide)
      obtain ⟨_, _, ⟨T139, L139, k139, n139⟩, -, X139, ⟨Lc139, hQ139, l139, y139, z139⟩, st139⟩ := X137.specialBack hx (y := (⟨"com/example/counterlens/counterlens/Rules$Forbidden", "<init>", "([I[I)V"⟩ : MethodName)) rfl hown (mvT hZ (wd_4 hw)) (mvT hZ (wd_5 hw)) (mvT hZ (wd_6 hw)) (by decide) (backOf (W := 1) (rm1 l Z a0 hw [] b137 b119 b121 .null .null h137 n0 Z138 F_features_b137 F_values_b137 A137 g_b137) hZ (wd_6 hw) (wd_3 hw) (by decide) (by decide)) (g := (mkF m 228 #[.val (.int p1), .val (.int p2), .val (.int p3), .val (.int (1 : Int32)), .val (.int f0), .val (.int f1), .val (.int f2), .val (.int v0), .val (.int v1), .val (.int v2), .val (.ref b101), .val (.ref b119), .val (.ref b121), .val (.int (0 : Int32)), .unset] [(.ref b121), (.ref b119), (.ref b137), (.ref b137)])) rfl (by rw [hml]; rfl) (Steps.refl _) (a := b137) (argsL := [(.ref b119), (.ref b121)]) (rest := [(.ref b137)]) (lenOf pd___I_I_V rfl) rfl (by show 2 * 0 + _ ≤ _; exact Nat.le_of_eq rfl) (hb hby at_228) (fun _ _ => ⟨rfl, e137, (by decide : 4 + 0 ≤ _), (by decide : 8 + 0 ≤ _)⟩)
      dsimp only [Pt.U, Pt.locs, Pt.cells, Pt.slots] at X139 l139 y139 z139 st139 hQ139
      subst l139 y139 z139
      obtain ⟨rfl, N139q, K139q, g139_0, g139_1, g139_2⟩ := hQ139
      have N139 := Fr.app N127 N139q
      have Z140 : n0 ≤ T139.heap.size := Nat.le_trans Z138 K139q.1
      obtain ⟨cq141, kq141, q141a, q141b, q141c⟩ := isOf hZ rfl (g139_0)
      obtain ⟨_, _, ⟨T141, L141, k141, n141⟩, -, X141, ⟨Lc141, hQ141, l141, y141, z141⟩, st141⟩ := X139.virtualBack hx (y := (⟨"com/example/counterlens/counterlens/Rules$Forbidden", "matches", "([I)Z"⟩ : MethodName)) (z := (⟨"com/example/counterlens/counterlens/Rules$Forbidden", "matches", "([I)Z"⟩ : MethodName)) hown (mvT hZ (wd_19 hw)) (mvT hZ (wd_20 hw)) (notFace_of_selects (args := #[]) (mvT hZ (wd_22 hw))) (mvT hZ (wd_22 hw)) (mvT hZ (wd_21 hw)) (by decide) (backOf (W := 0) (rmm1 l Z a0 hw [] b137 b101 b119 b121 k119 k121 k101 f0 v0 ea eb ec ed T139.heap n0 Z140 g139_1 g139_2 (((V_b119_124.other W127 ne_b119_b121).ext E137).keep K139q (ninS ne_b119_b137 nin0)) ((V_b121_127.ext E137).keep K139q (ninS ne_b121_b137 nin0)) ((((((V_b101_117.ext E119).ext E121).other W124 ne_b101_b119).other W127 ne_b101_b121).ext E137).keep K139q (ninS ne_b101_b137 nin0)) hb_f0) hZ (wd_23 hw) (wd_3 hw) (by decide) (by decide)) q141a q141c (g := (mkF m 237 #[.val (.int p1), .val (.int p2), .val (.int p3), .val (.int (1 : Int32)), .val (.int f0), .val (.int f1), .val (.int f2), .val (.int v0), .val (.int v1), .val (.int v2), .val (.ref b101), .val (.ref b119), .val (.ref b121), .val (.int (0 : Int32)), .val (.ref b137)] [(.ref b101), (.ref b137)])) rfl (by rw [hml]; rfl) (Steps.refl _) (argsL := [(.ref b101)]) (rest := []) (lenOf pd___I_Z rfl) rfl (by show 2 * 0 + _ ≤ _; exact Nat.le_of_eq rfl) (hb hby at_237) (fun _ _ => ⟨rfl, rfl, (by decide : 4 + 0 ≤ _), (by decide : 8 + 0 ≤ _)⟩)
      dsimp only [Pt.U, Pt.locs, Pt.cells, Pt.slots] at X141 l141 y141 z141 st141 hQ141
      subst l141 y141 z141
      obtain ⟨rfl, N141q, e141⟩ := hQ141
      have N141 := Fr.app N139 N141q
      obtain ⟨fs, hr, hrun, hended, hW, hsame⟩ := X141.leave (v := some (.int (1 : Int32))) (fun h => by rw [Bd.returns] at h; cases h)
      refine ⟨_, _, pre131 _ ?_, hrun, hended, _, _, rfl, ?_, ⟨_, rfl⟩, hW, hsame.mono (by decide) (by decide)⟩
      · show Steps p.tables e below (T127.setTop (mkF m 180 #[.val (.int p1), .val (.int p2), .val (.int p3), .val (.int (1 : Int32)), .val (.int f0), .val (.int f1), .val (.int f2), .val (.int v0), .val (.int v1), .val (.int v2), .val (.ref b101), .val (.ref b119), .val (.ref b121), .unset, .unset] [(.int v0), (.int (own_sel4 f0 ea eb ec ed))])) _
        refine XS.icmpYes X127.here hx rfl (pc0 := 180) (pc' := 217) rfl (hb hby at_180) rfl (feq hc180_130).2 (by decide) (by decide) ?_
        refine XS.iconst X127.here hx rfl (hb hby at_217) ?_
        show Steps p.tables e below (T127.setTop (mkF m 218 #[.val (.int p1), .val (.int p2), .val (.int p3), .val (.int (1 : Int32)), .val (.int f0), .val (.int f1), .val (.int f2), .val (.int v0), .val (.int v1), .val (.int v2), .val (.ref b101), .val (.ref b119), .val (.ref b121), .unset, .unset] [(.int (0 : Int32))])) _
        refine XS.istore X127.here hx rfl (hb hby at_218) rfl (l' := #[.val (.int p1), .val (.int p2), .val (.int p3), .val (.int (1 : Int32)), .val (.int f0), .val (.int f1), .val (.int f2), .val (.int v0), .val (.int v1), .val (.int v2), .val (.ref b101), .val (.ref b119), .val (.ref b121), .val (.int (0 : Int32)), .unset]) rfl ?_
        refine st137 _ ?_
        refine XS.dup X137.here hx rfl (hb hby at_223) rfl rfl ?_
        refine XS.aload X137.here hx rfl (hb hby at_224) rfl rfl ?_
        show Steps p.tables e below (T137.setTop (mkF m 226 #[.val (.int p1), .val (.int p2), .val (.int p3), .val (.int (1 : Int32)), .val (.int f0), .val (.int f1), .val (.int f2), .val (.int v0), .val (.int v1), .val (.int v2), .val (.ref b101), .val (.ref b119), .val (.ref b121), .val (.int (0 : Int32)), .unset] [(.ref b119), (.ref b137), (.ref b137)])) _
        refine XS.aload X137.here hx rfl (hb hby at_226) rfl rfl ?_
        refine st139.trans ?_
        refine XS.astore X139.here hx rfl (hb hby at_231) rfl rfl (l' := #[.val (.int p1), .val (.int p2), .val (.int p3), .val (.int (1 : Int32)), .val (.int f0), .val (.int f1), .val (.int f2), .val (.int v0), .val (.int v1), .val (.int v2), .val (.ref b101), .val (.ref b119), .val (.ref b121), .val (.int (0 : Int32)), .val (.ref b137)]) rfl ?_
        refine XS.aload X139.here hx rfl (hb hby at_233) rfl rfl ?_
        show Steps p.tables e below (T139.setTop (mkF m 235 #[.val (.int p1), .val (.int p2), .val (.int p3), .val (.int (1 : Int32)), .val (.int f0), .val (.int f1), .val (.int f2), .val (.int v0), .val (.int v1), .val (.int v2), .val (.ref b101), .val (.ref b119), .val (.ref b121), .val (.int (0 : Int32)), .val (.ref b137)] [(.ref b137)])) _
        refine XS.aload X139.here hx rfl (hb hby at_235) rfl rfl ?_
        refine st141.trans ?_
        refine XS.iload X141.here hx rfl (hb hby at_240) rfl ?_
        refine XS.icmpNo X141.here hx rfl (hb hby at_242) rfl (teq (by simp only [if_neg hc180_130])).2 ?_
        show Steps p.tables e below (T141.setTop (mkF m 245 #[.val (.int p1), .val (.int p2), .val (.int p3), .val (.int (1 : Int32)), .val (.int f0), .val (.int f1), .val (.int f2), .val (.int v0), .val (.int v1), .val (.int v2), .val (.ref b101), .val (.ref b119), .val (.ref b121), .val (.int (0 : Int32)), .val (.ref b137)] [])) _
        refine XS.iconst X141.here hx rfl (hb hby at_245) ?_
        refine XS.goto X141.here hx rfl (pc0 := 246) (pc' := 250) rfl (hb hby at_246) (by decide) (by decide) ?_
        exact retN X141 hx (t := .boolean) Bd.returns (by simp) (hb hby at_250) hr
      · show Q_rm0 Z p1 p2 p3 h0 n0 _ T141.heap _
        rw [e141]
        exact ⟨rfl, N141, trivial⟩
  · obtain ⟨f0, hf0⟩ : ∃ z : Int32, z = (((p1.toUInt32 >>> ((2 : Int32) &&& 31).toUInt32).toInt32) &&& (3 : Int32)) := ⟨_, rfl⟩
    obtain ⟨f1, hf1⟩ : ∃ z : Int32, z = (((p1.toUInt32 >>> ((4 : Int32) &&& 31).toUInt32).toInt32) &&& (3 : Int32)) := ⟨_, rfl⟩
    obtain ⟨f2, hf2⟩ : ∃ z : Int32, z = (((p1.toUInt32 >>> ((6 : Int32) &&& 31).toUInt32).toInt32) &&& (3 : Int32)) := ⟨_, rfl⟩
    obtain ⟨v0, hv0⟩ : ∃ z : Int32, z = ((p2 &&& (7 : Int32)) - (3 : Int32)) := ⟨_, rfl⟩
    obtain ⟨v1, hv1⟩ : ∃ z : Int32, z = ((((p2.toUInt32 >>> ((3 : Int32) &&& 31).toUInt32).toInt32) &&& (7 : Int32)) - (3 : Int32)) := ⟨_, rfl⟩
    obtain ⟨v2, hv2⟩ : ∃ z : Int32, z = ((((p2.toUInt32 >>> ((6 : Int32) &&& 31).toUInt32).toInt32) &&& (7 : Int32)) - (3 : Int32)) := ⟨_, rfl⟩
    have pre142 : ∀ t, Steps p.tables e below (s₁.setTop (mkF m 55 #[.val (.int p1), .val (.int p2), .val (.int p3), .val (.int (2 : Int32)), .val (.int f0), .val (.int f1), .val (.int f2), .val (.int v0), .val (.int v1), .val (.int v2), .unset, .unset, .unset, .unset, .unset] [])) t → Steps p.tables e below (s₁.setTop (entryFrame m #[(.int p1), (.int p2), (.int p3)] maxLocals)) t := by
      intro t kt
      rw [hf0, hf1, hf2, hv0, hv1, hv2] at kt
      refine pre71 _ ?_
      show Steps p.tables e below (s₁.setTop (mkF m 4 #[.val (.int p1), .val (.int p2), .val (.int p3), .val (.int (2 : Int32)), .unset, .unset, .unset, .unset, .unset, .unset, .unset, .unset, .unset, .unset, .unset] [])) _
      refine XS.iloadN X0.here hx rfl (hb hby at_4) rfl ?_
      refine XS.iconst X0.here hx rfl (hb hby at_5) ?_
      refine XS.iushr X0.here hx rfl (hb hby at_6) rfl ?_
      refine XS.iconst X0.here hx rfl (hb hby at_7) ?_
      show Steps p.tables e below (s₁.setTop (mkF m 8 #[.val (.int p1), .val (.int p2), .val (.int p3), .val (.int (2 : Int32)), .unset, .unset, .unset, .unset, .unset, .unset, .unset, .unset, .unset, .unset, .unset] [(.int (3 : Int32)), (.int ((p1.toUInt32 >>> ((2 : Int32) &&& 31).toUInt32).toInt32))])) _
      refine XS.iand X0.here hx rfl (hb hby at_8) rfl ?_
      refine XS.istore X0.here hx rfl (hb hby at_9) rfl (l' := #[.val (.int p1), .val (.int p2), .val (.int p3), .val (.int (2 : Int32)), .val (.int (((p1.toUInt32 >>> ((2 : Int32) &&& 31).toUInt32).toInt32) &&& (3 : Int32))), .unset, .unset, .unset, .unset, .unset, .unset, .unset, .unset, .unset, .unset]) rfl ?_
      refine XS.iloadN X0.here hx rfl (hb hby at_11) rfl ?_
      refine XS.iconst X0.here hx rfl (hb hby at_12) ?_
      show Steps p.tables e below (s₁.setTop (mkF m 13 #[.val (.int p1), .val (.int p2), .val (.int p3), .val (.int (2 : Int32)), .val (.int (((p1.toUInt32 >>> ((2 : Int32) &&& 31).toUInt32).toInt32) &&& (3 : Int32))), .unset, .unset, .unset, .unset, .unset, .unset, .unset, .unset, .unset, .unset] [(.int (4 : Int32)), (.int p1)])) _
      refine XS.iushr X0.here hx rfl (hb hby at_13) rfl ?_
      refine XS.iconst X0.here hx rfl (hb hby at_14) ?_
      refine XS.iand X0.here hx rfl (hb hby at_15) rfl ?_
      refine XS.istore X0.here hx rfl (hb hby at_16) rfl (l' := #[.val (.int p1), .val (.int p2), .val (.int p3), .val (.int (2 : Int32)), .val (.int (((p1.toUInt32 >>> ((2 : Int32) &&& 31).toUInt32).toInt32) &&& (3 : Int32))), .val (.int (((p1.toUInt32 >>> ((4 : Int32) &&& 31).toUInt32).toInt32) &&& (3 : Int32))), .unset, .unset, .unset, .unset, .unset, .unset, .unset, .unset, .unset]) rfl ?_
      show Steps p.tables e below (s₁.setTop (mkF m 18 #[.val (.int p1), .val (.int p2), .val (.int p3), .val (.int (2 : Int32)), .val (.int (((p1.toUInt32 >>> ((2 : Int32) &&& 31).toUInt32).toInt32) &&& (3 : Int32))), .val (.int (((p1.toUInt32 >>> ((4 : Int32) &&& 31).toUInt32).toInt32) &&& (3 : Int32))), .unset, .unset, .unset, .unset, .unset, .unset, .unset, .unset, .unset] [])) _
      refine XS.iloadN X0.here hx rfl (hb hby at_18) rfl ?_
      refine XS.bipush X0.here hx rfl (hb hby at_19) ?_
      refine XS.iushr X0.here hx rfl (hb hby at_21) rfl ?_
      refine XS.iconst X0.here hx rfl (hb hby at_22) ?_
      show Steps p.tables e below (s₁.setTop (mkF m 23 #[.val (.int p1), .val (.int p2), .val (.int p3), .val (.int (2 : Int32)), .val (.int (((p1.toUInt32 >>> ((2 : Int32) &&& 31).toUInt32).toInt32) &&& (3 : Int32))), .val (.int (((p1.toUInt32 >>> ((4 : Int32) &&& 31).toUInt32).toInt32) &&& (3 : Int32))), .unset, .unset, .unset, .unset, .unset, .unset, .unset, .unset, .unset] [(.int (3 : Int32)), (.int ((p1.toUInt32 >>> ((6 : Int32) &&& 31).toUInt32).toInt32))])) _
      refine XS.iand X0.here hx rfl (hb hby at_23) rfl ?_
      refine XS.istore X0.here hx rfl (hb hby at_24) rfl (l' := #[.val (.int p1), .val (.int p2), .val (.int p3), .val (.int (2 : Int32)), .val (.int (((p1.toUInt32 >>> ((2 : Int32) &&& 31).toUInt32).toInt32) &&& (3 : Int32))), .val (.int (((p1.toUInt32 >>> ((4 : Int32) &&& 31).toUInt32).toInt32) &&& (3 : Int32))), .val (.int (((p1.toUInt32 >>> ((6 : Int32) &&& 31).toUInt32).toInt32) &&& (3 : Int32))), .unset, .unset, .unset, .unset, .unset, .unset, .unset, .unset]) rfl ?_
      refine XS.iloadN X0.here hx rfl (hb hby at_26) rfl ?_
      refine XS.bipush X0.here hx rfl (hb hby at_27) ?_
      show Steps p.tables e below (s₁.setTop (mkF m 29 #[.val (.int p1), .val (.int p2), .val (.int p3), .val (.int (2 : Int32)), .val (.int (((p1.toUInt32 >>> ((2 : Int32) &&& 31).toUInt32).toInt32) &&& (3 : Int32))), .val (.int (((p1.toUInt32 >>> ((4 : Int32) &&& 31).toUInt32).toInt32) &&& (3 : Int32))), .val (.int (((p1.toUInt32 >>> ((6 : Int32) &&& 31).toUInt32).toInt32) &&& (3 : Int32))), .unset, .unset, .unset, .unset, .unset, .unset, .unset, .unset] [(.int (7 : Int32)), (.int p2)])) _
      refine XS.iand X0.here hx rfl (hb hby at_29) rfl ?_
      refine XS.iconst X0.here hx rfl (hb hby at_30) ?_
      refine XS.isub X0.here hx rfl (hb hby at_31) rfl ?_
      refine XS.istore X0.here hx rfl (hb hby at_32) rfl (l' := #[.val (.int p1), .val (.int p2), .val (.int p3), .val (.int (2 : Int32)), .val (.int (((p1.toUInt32 >>> ((2 : Int32) &&& 31).toUInt32).toInt32) &&& (3 : Int32))), .val (.int (((p1.toUInt32 >>> ((4 : Int32) &&& 31).toUInt32).toInt32) &&& (3 : Int32))), .val (.int (((p1.toUInt32 >>> ((6 : Int32) &&& 31).toUInt32).toInt32) &&& (3 : Int32))), .val (.int ((p2 &&& (7 : Int32)) - (3 : Int32))), .unset, .unset, .unset, .unset, .unset, .unset, .unset]) rfl ?_
      show Steps p.tables e below (s₁.setTop (mkF m 34 #[.val (.int p1), .val (.int p2), .val (.int p3), .val (.int (2 : Int32)), .val (.int (((p1.toUInt32 >>> ((2 : Int32) &&& 31).toUInt32).toInt32) &&& (3 : Int32))), .val (.int (((p1.toUInt32 >>> ((4 : Int32) &&& 31).toUInt32).toInt32) &&& (3 : Int32))), .val (.int (((p1.toUInt32 >>> ((6 : Int32) &&& 31).toUInt32).toInt32) &&& (3 : Int32))), .val (.int ((p2 &&& (7 : Int32)) - (3 : Int32))), .unset, .unset, .unset, .unset, .unset, .unset, .unset] [])) _
      refine XS.iloadN X0.here hx rfl (hb hby at_34) rfl ?_
      refine XS.iconst X0.here hx rfl (hb hby at_35) ?_
      refine XS.iushr X0.here hx rfl (hb hby at_36) rfl ?_
      refine XS.bipush X0.here hx rfl (hb hby at_37) ?_
      show Steps p.tables e below (s₁.setTop (mkF m 39 #[.val (.int p1), .val (.int p2), .val (.int p3), .val (.int (2 : Int32)), .val (.int (((p1.toUInt32 >>> ((2 : Int32) &&& 31).toUInt32).toInt32) &&& (3 : Int32))), .val (.int (((p1.toUInt32 >>> ((4 : Int32) &&& 31).toUInt32).toInt32) &&& (3 : Int32))), .val (.int (((p1.toUInt32 >>> ((6 : Int32) &&& 31).toUInt32).toInt32) &&& (3 : Int32))), .val (.int ((p2 &&& (7 : Int32)) - (3 : Int32))), .unset, .unset, .unset, .unset, .unset, .unset, .unset] [(.int (7 : Int32)), (.int ((p2.toUInt32 >>> ((3 : Int32) &&& 31).toUInt32).toInt32))])) _
      refine XS.iand X0.here hx rfl (hb hby at_39) rfl ?_
      refine XS.iconst X0.here hx rfl (hb hby at_40) ?_
      refine XS.isub X0.here hx rfl (hb hby at_41) rfl ?_
      refine XS.istore X0.here hx rfl (hb hby at_42) rfl (l' := #[.val (.int p1), .val (.int p2), .val (.int p3), .val (.int (2 : Int32)), .val (.int (((p1.toUInt32 >>> ((2 : Int32) &&& 31).toUInt32).toInt32) &&& (3 : Int32))), .val (.int (((p1.toUInt32 >>> ((4 : Int32) &&& 31).toUInt32).toInt32) &&& (3 : Int32))), .val (.int (((p1.toUInt32 >>> ((6 : Int32) &&& 31).toUInt32).toInt32) &&& (3 : Int32))), .val (.int ((p2 &&& (7 : Int32)) - (3 : Int32))), .val (.int ((((p2.toUInt32 >>> ((3 : Int32) &&& 31).toUInt32).toInt32) &&& (7 : Int32)) - (3 : Int32))), .unset, .unset, .unset, .unset, .unset, .unset]) rfl ?_
      show Steps p.tables e below (s₁.setTop (mkF m 44 #[.val (.int p1), .val (.int p2), .val (.int p3), .val (.int (2 : Int32)), .val (.int (((p1.toUInt32 >>> ((2 : Int32) &&& 31).toUInt32).toInt32) &&& (3 : Int32))), .val (.int (((p1.toUInt32 >>> ((4 : Int32) &&& 31).toUInt32).toInt32) &&& (3 : Int32))), .val (.int (((p1.toUInt32 >>> ((6 : Int32) &&& 31).toUInt32).toInt32) &&& (3 : Int32))), .val (.int ((p2 &&& (7 : Int32)) - (3 : Int32))), .val (.int ((((p2.toUInt32 >>> ((3 : Int32) &&& 31).toUInt32).toInt32) &&& (7 : Int32)) - (3 : Int32))), .unset, .unset, .unset, .unset, .unset, .unset] [])) _
      refine XS.iloadN X0.here hx rfl (hb hby at_44) rfl ?_
      refine XS.bipush X0.here hx rfl (hb hby at_45) ?_
      refine XS.iushr X0.here hx rfl (hb hby at_47) rfl ?_
      refine XS.bipush X0.here hx rfl (hb hby at_48) ?_
      show Steps p.tables e below (s₁.setTop (mkF m 50 #[.val (.int p1), .val (.int p2), .val (.int p3), .val (.int (2 : Int32)), .val (.int (((p1.toUInt32 >>> ((2 : Int32) &&& 31).toUInt32).toInt32) &&& (3 : Int32))), .val (.int (((p1.toUInt32 >>> ((4 : Int32) &&& 31).toUInt32).toInt32) &&& (3 : Int32))), .val (.int (((p1.toUInt32 >>> ((6 : Int32) &&& 31).toUInt32).toInt32) &&& (3 : Int32))), .val (.int ((p2 &&& (7 : Int32)) - (3 : Int32))), .val (.int ((((p2.toUInt32 >>> ((3 : Int32) &&& 31).toUInt32).toInt32) &&& (7 : Int32)) - (3 : Int32))), .unset, .unset, .unset, .unset, .unset, .unset] [(.int (7 : Int32)), (.int ((p2.toUInt32 >>> ((6 : Int32) &&& 31).toUInt32).toInt32))])) _
      refine XS.iand X0.here hx rfl (hb hby at_50) rfl ?_
      refine XS.iconst X0.here hx rfl (hb hby at_51) ?_
      refine XS.isub X0.here hx rfl (hb hby at_52) rfl ?_
      refine XS.istore X0.here hx rfl (hb hby at_53) rfl (l' := #[.val (.int p1), .val (.int p2), .val (.int p3), .val (.int (2 : Int32)), .val (.int (((p1.toUInt32 >>> ((2 : Int32) &&& 31).toUInt32).toInt32) &&& (3 : Int32))), .val (.int (((p1.toUInt32 >>> ((4 : Int32) &&& 31).toUInt32).toInt32) &&& (3 : Int32))), .val (.int (((p1.toUInt32 >>> ((6 : Int32) &&& 31).toUInt32).toInt32) &&& (3 : Int32))), .val (.int ((p2 &&& (7 : Int32)) - (3 : Int32))), .val (.int ((((p2.toUInt32 >>> ((3 : Int32) &&& 31).toUInt32).toInt32) &&& (7 : Int32)) - (3 : Int32))), .val (.int ((((p2.toUInt32 >>> ((6 : Int32) &&& 31).toUInt32).toInt32) &&& (7 : Int32)) - (3 : Int32))), .unset, .unset, .unset, .unset, .unset]) rfl ?_
      show Steps p.tables e below (s₁.setTop (mkF m 55 #[.val (.int p1), .val (.int p2), .val (.int p3), .val (.int (2 : Int32)), .val (.int (((p1.toUInt32 >>> ((2 : Int32) &&& 31).toUInt32).toInt32) &&& (3 : Int32))), .val (.int (((p1.toUInt32 >>> ((4 : Int32) &&& 31).toUInt32).toInt32) &&& (3 : Int32))), .val (.int (((p1.toUInt32 >>> ((6 : Int32) &&& 31).toUInt32).toInt32) &&& (3 : Int32))), .val (.int ((p2 &&& (7 : Int32)) - (3 : Int32))), .val (.int ((((p2.toUInt32 >>> ((3 : Int32) &&& 31).toUInt32).toInt32) &&& (7 : Int32)) - (3 : Int32))), .val (.int ((((p2.toUInt32 >>> ((6 : Int32) &&& 31).toUInt32).toInt32) &&& (7 : Int32)) - (3 : Int32))), .unset, .unset, .unset, .unset, .unset] [])) _
      exact kt
    have hb_f0 : ¬ f0 < 0 ∧ f0 < (4 : Int32) := by rw [hf0]; exact own_and3 _
    have hb_f1 : ¬ f1 < 0 ∧ f1 < (4 : Int32) := by rw [hf1]; exact own_and3 _
    have hb_f2 : ¬ f2 < 0 ∧ f2 < (4 : Int32) := by rw [hf2]; exact own_and3 _
    obtain ⟨T143, h143, k143, X143, e143, E143, A143, st143⟩ := newP (aty := .int) X0 hx hZ (wd_0 hw) e0 (g := (mkF m 56 #[.val (.int p1), .val (.int p2), .val (.int p3), .val (.int (2 : Int32)), .val (.int f0), .val (.int f1), .val (.int f2), .val (.int v0), .val (.int v1), .val (.int v2), .unset, .unset, .unset, .unset, .unset] [(.int (4 : Int32))])) rfl (hb hby at_56) rfl (by decide) (cap := 4) (by decide) (by decide) (by decide) (by decide)
    obtain ⟨b143, g143⟩ : ∃ z, z = h0.size := ⟨_, rfl⟩
    rw [← g143] at A143 st143
    have g_b143 : n0 ≤ b143 := Nat.le_trans Z0 (Nat.le_of_eq g143.symm)
    have Z144 : n0 ≤ h143.size := Nat.le_trans Z0 E143.1
    have V0_b143 := (Arv.new A143 (by decide)).pad (pad_rep [] (.int (0 : Int32)) 4)
    have V_b143 : Arv Z h143 b143 k143 .int (4 : Int32) [(.int (0 : Int32)), (.int (0 : Int32)), (.int (0 : Int32)), (.int (0 : Int32))] (.int (0 : Int32)) := V0_b143
    obtain ⟨ea, hea⟩ : ∃ z : Int32, z = ((p3 &&& (7 : Int32)) - (3 : Int32)) := ⟨_, rfl⟩
    have pre145 : ∀ t, Steps p.tables e below (T143.setTop (mkF m 69 #[.val (.int p1), .val (.int p2), .val (.int p3), .val (.int (2 : Int32)), .val (.int f0), .val (.int f1), .val (.int f2), .val (.int v0), .val (.int v1), .val (.int v2), .val (.ref b143), .unset, .unset, .unset, .unset] [(.int ea), (.int (0 : Int32)), (.ref b143)])) t → Steps p.tables e below (s₁.setTop (entryFrame m #[(.int p1), (.int p2), (.int p3)] maxLocals)) t := by
      intro t kt
      rw [hea] at kt
      refine pre142 _ ?_
      show Steps p.tables e below (s₁.setTop (mkF m 55 #[.val (.int p1), .val (.int p2), .val (.int p3), .val (.int (2 : Int32)), .val (.int f0), .val (.int f1), .val (.int f2), .val (.int v0), .val (.int v1), .val (.int v2), .unset, .unset, .unset, .unset, .unset] [])) _
      refine XS.iconst X0.here hx rfl (hb hby at_55) ?_
      refine st143 _ ?_
      refine XS.astore X143.here hx rfl (hb hby at_58) rfl rfl (l' := #[.val (.int p1), .val (.int p2), .val (.int p3), .val (.int (2 : Int32)), .val (.int f0), .val (.int f1), .val (.int f2), .val (.int v0), .val (.int v1), .val (.int v2), .val (.ref b143), .unset, .unset, .unset, .unset]) rfl ?_
      refine XS.aload X143.here hx rfl (hb hby at_60) rfl rfl ?_
      show Steps p.tables e below (T143.setTop (mkF m 62 #[.val (.int p1), .val (.int p2), .val (.int p3), .val (.int (2 : Int32)), .val (.int f0), .val (.int f1), .val (.int f2), .val (.int v0), .val (.int v1), .val (.int v2), .val (.ref b143), .unset, .unset, .unset, .unset] [(.ref b143)])) _
      refine XS.iconst X143.here hx rfl (hb hby at_62) ?_
      refine XS.iloadN X143.here hx rfl (hb hby at_63) rfl ?_
      refine XS.bipush X143.here hx rfl (hb hby at_64) ?_
      refine XS.iand X143.here hx rfl (hb hby at_66) rfl ?_
      show Steps p.tables e below (T143.setTop (mkF m 67 #[.val (.int p1), .val (.int p2), .val (.int p3), .val (.int (2 : Int32)), .val (.int f0), .val (.int f1), .val (.int f2), .val (.int v0), .val (.int v1), .val (.int v2), .val (.ref b143), .unset, .unset, .unset, .unset] [(.int (p3 &&& (7 : Int32))), (.int (0 : Int32)), (.ref b143)])) _
      refine XS.iconst X143.here hx rfl (hb hby at_67) ?_
      refine XS.isub X143.here hx rfl (hb hby at_68) rfl ?_
      exact kt
    obtain ⟨cl146, Ar146, q146, S146, N146n, H146, G146⟩ := id (V_b143)
    have hin146 : ¬ ((0 : Int32) < 0 ∨ cl146.slots.size ≤ ((0 : Int32)).toNatClampNeg) := inb_of S146 ⟨by decide, by decide⟩
    obtain ⟨T147, h147, X147, e147, W147, st147⟩ := stI X143 hx hZ e143 Ar146 (j := (0 : Int32)) hin146 (g := (mkF m 69 #[.val (.int p1), .val (.int p2), .val (.int p3), .val (.int (2 : Int32)), .val (.int f0), .val (.int f1), .val (.int f2), .val (.int v0), .val (.int v1), .val (.int v2), .val (.ref b143), .unset, .unset, .unset, .unset] [(.int ea), (.int (0 : Int32)), (.ref b143)])) rfl rfl (hb hby at_69)
    have V_b143_147 : Arv Z h147 b143 k143 .int (4 : Int32) [(.int ea), (.int (0 : Int32)), (.int (0 : Int32)), (.int (0 : Int32))] (.int (0 : Int32)) := Arv.set Ar146 q146 S146 N146n H146 G146 rfl W147 0 rfl (Nat.le_of_ble_eq_true rfl)
    have Z148 : n0 ≤ h147.size := Nat.le_trans Z144 (Keep.of_wr W147).1
    have N147 := Fr.snoc X147 N0 g_b143
    obtain ⟨eb, heb⟩ : ∃ z : Int32, z = ((((p3.toUInt32 >>> ((3 : Int32) &&& 31).toUInt32).toInt32) &&& (7 : Int32)) - (3 : Int32)) := ⟨_, rfl⟩
    have pre149 : ∀ t, Steps p.tables e below (T147.setTop (mkF m 81 #[.val (.int p1), .val (.int p2), .val (.int p3), .val (.int (2 : Int32)), .val (.int f0), .val (.int f1), .val (.int f2), .val (.int v0), .val (.int v1), .val (.int v2), .val (.ref b143), .unset, .unset, .unset, .unset] [(.int eb), (.int (1 : Int32)), (.ref b143)])) t → Steps p.tables e below (s₁.setTop (entryFrame m #[(.int p1), (.int p2), (.int p3)] maxLocals)) t := by
      intro t kt
      rw [heb] at kt
      refine pre145 _ ?_
      show Steps p.tables e below (T143.setTop (mkF m 69 #[.val (.int p1), .val (.int p2), .val (.int p3), .val (.int (2 : Int32)), .val (.int f0), .val (.int f1), .val (.int f2), .val (.int v0), .val (.int v1), .val (.int v2), .val (.ref b143), .unset, .unset, .unset, .unset] [(.int ea), (.int (0 : Int32)), (.ref b143)])) _
      refine st147 _ ?_
      refine XS.aload X147.here hx rfl (hb hby at_70) rfl rfl ?_
      refine XS.iconst X147.here hx rfl (hb hby at_72) ?_
      refine XS.iloadN X147.here hx rfl (hb hby at_73) rfl ?_
      show Steps p.tables e below (T147.setTop (mkF m 74 #[.val (.int p1), .val (.int p2), .val (.int p3), .val (.int (2 : Int32)), .val (.int f0), .val (.int f1), .val (.int f2), .val (.int v0), .val (.int v1), .val (.int v2), .val (.ref b143), .unset, .unset, .unset, .unset] [(.int p3), (.int (1 : Int32)), (.ref b143)])) _
      refine XS.iconst X147.here hx rfl (hb hby at_74) ?_
      refine XS.iushr X147.here hx rfl (hb hby at_75) rfl ?_
      refine XS.bipush X147.here hx rfl (hb hby at_76) ?_
      refine XS.iand X147.here hx rfl (hb hby at_78) rfl ?_
      show Steps p.tables e below (T147.setTop (mkF m 79 #[.val (.int p1), .val (.int p2), .val (.int p3), .val (.int (2 : Int32)), .val (.int f0), .val (.int f1), .val (.int f2), .val (.int v0), .val (.int v1), .val (.int v2), .val (.ref b143), .unset, .unset, .unset, .unset] [(.int (((p3.toUInt32 >>> ((3 : Int32) &&& 31).toUInt32).toInt32) &&& (7 : Int32))), (.int (1 : Int32)), (.ref b143)])) _
      refine XS.iconst X147.here hx rfl (hb hby at_79) ?_
      refine XS.isub X147.here hx rfl (hb hby at_80) rfl ?_
      exact kt
    obtain ⟨cl150, Ar150, q150, S150, N150n, H150, G150⟩ := id (V_b143_147)
    have hin150 : ¬ ((1 : Int32) < 0 ∨ cl150.slots.size ≤ ((1 : Int32)).toNatClampNeg) := inb_of S150 ⟨by decide, by decide⟩
    obtain ⟨T151, h151, X151, e151, W151, st151⟩ := stI X147 hx hZ e147 Ar150 (j := (1 : Int32)) hin150 (g := (mkF m 81 #[.val (.int p1), .val (.int p2), .val (.int p3), .val (.int (2 : Int32)), .val (.int f0), .val (.int f1), .val (.int f2), .val (.int v0), .val (.int v1), .val (.int v2), .val (.ref b143), .unset, .unset, .unset, .unset] [(.int eb), (.int (1 : Int32)), (.ref b143)])) rfl rfl (hb hby at_81)
    have V_b143_151 : Arv Z h151 b143 k143 .int (4 : Int32) [(.int ea), (.int eb), (.int (0 : Int32)), (.int (0 : Int32))] (.int (0 : Int32)) := Arv.set Ar150 q150 S150 N150n H150 G150 rfl W151 1 rfl (Nat.le_of_ble_eq_true rfl)
    have Z152 : n0 ≤ h151.size := Nat.le_trans Z148 (Keep.of_wr W151).1
    have N151 := Fr.snoc X151 N147 g_b143
    obtain ⟨ec, hec⟩ : ∃ z : Int32, z = ((((p3.toUInt32 >>> ((6 : Int32) &&& 31).toUInt32).toInt32) &&& (7 : Int32)) - (3 : Int32)) := ⟨_, rfl⟩
    have pre153 : ∀ t, Steps p.tables e below (T151.setTop (mkF m 94 #[.val (.int p1), .val (.int p2), .val (.int p3), .val (.int (2 : Int32)), .val (.int f0), .val (.int f1), .val (.int f2), .val (.int v0), .val (.int v1), .val (.int v2), .val (.ref b143), .unset, .unset, .unset, .unset] [(.int ec), (.int (2 : Int32)), (.ref b143)])) t → Steps p.tables e below (s₁.setTop (entryFrame m #[(.int p1), (.int p2), (.int p3)] maxLocals)) t := by
      intro t kt
      rw [hec] at kt
      refine pre149 _ ?_
      show Steps p.tables e below (T147.setTop (mkF m 81 #[.val (.int p1), .val (.int p2), .val (.int p3), .val (.int (2 : Int32)), .val (.int f0), .val (.int f1), .val (.int f2), .val (.int v0), .val (.int v1), .val (.int v2), .val (.ref b143), .unset, .unset, .unset, .unset] [(.int eb), (.int (1 : Int32)), (.ref b143)])) _
      refine st151 _ ?_
      refine XS.aload X151.here hx rfl (hb hby at_82) rfl rfl ?_
      refine XS.iconst X151.here hx rfl (hb hby at_84) ?_
      refine XS.iloadN X151.here hx rfl (hb hby at_85) rfl ?_
      show Steps p.tables e below (T151.setTop (mkF m 86 #[.val (.int p1), .val (.int p2), .val (.int p3), .val (.int (2 : Int32)), .val (.int f0), .val (.int f1), .val (.int f2), .val (.int v0), .val (.int v1), .val (.int v2), .val (.ref b143), .unset, .unset, .unset, .unset] [(.int p3), (.int (2 : Int32)), (.ref b143)])) _
      refine XS.bipush X151.here hx rfl (hb hby at_86) ?_
      refine XS.iushr X151.here hx rfl (hb hby at_88) rfl ?_
      refine XS.bipush X151.here hx rfl (hb hby at_89) ?_
      refine XS.iand X151.here hx rfl (hb hby at_91) rfl ?_
      show Steps p.tables e below (T151.setTop (mkF m 92 #[.val (.int p1), .val (.int p2), .val (.int p3), .val (.int (2 : Int32)), .val (.int f0), .val (.int f1), .val (.int f2), .val (.int v0), .val (.int v1), .val (.int v2), .val (.ref b143), .unset, .unset, .unset, .unset] [(.int (((p3.toUInt32 >>> ((6 : Int32) &&& 31).toUInt32).toInt32) &&& (7 : Int32))), (.int (2 : Int32)), (.ref b143)])) _
      refine XS.iconst X151.here hx rfl (hb hby at_92) ?_
      refine XS.isub X151.here hx rfl (hb hby at_93) rfl ?_
      exact kt
    obtain ⟨cl154, Ar154, q154, S154, N154n, H154, G154⟩ := id (V_b143_151)
    have hin154 : ¬ ((2 : Int32) < 0 ∨ cl154.slots.size ≤ ((2 : Int32)).toNatClampNeg) := inb_of S154 ⟨by decide, by decide⟩
    obtain ⟨T155, h155, X155, e155, W155, st155⟩ := stI X151 hx hZ e151 Ar154 (j := (2 : Int32)) hin154 (g := (mkF m 94 #[.val (.int p1), .val (.int p2), .val (.int p3), .val (.int (2 : Int32)), .val (.int f0), .val (.int f1), .val (.int f2), .val (.int v0), .val (.int v1), .val (.int v2), .val (.ref b143), .unset, .unset, .unset, .unset] [(.int ec), (.int (2 : Int32)), (.ref b143)])) rfl rfl (hb hby at_94)
    have V_b143_155 : Arv Z h155 b143 k143 .int (4 : Int32) [(.int ea), (.int eb), (.int ec), (.int (0 : Int32))] (.int (0 : Int32)) := Arv.set Ar154 q154 S154 N154n H154 G154 rfl W155 2 rfl (Nat.le_of_ble_eq_true rfl)
    have Z156 : n0 ≤ h155.size := Nat.le_trans Z152 (Keep.of_wr W155).1
    have N155 := Fr.snoc X155 N151 g_b143
    obtain ⟨ed, hed⟩ : ∃ z : Int32, z = ((((p3.toUInt32 >>> ((9 : Int32) &&& 31).toUInt32).toInt32) &&& (7 : Int32)) - (3 : Int32)) := ⟨_, rfl⟩
    have pre157 : ∀ t, Steps p.tables e below (T155.setTop (mkF m 107 #[.val (.int p1), .val (.int p2), .val (.int p3), .val (.int (2 : Int32)), .val (.int f0), .val (.int f1), .val (.int f2), .val (.int v0), .val (.int v1), .val (.int v2), .val (.ref b143), .unset, .unset, .unset, .unset] [(.int ed), (.int (3 : Int32)), (.ref b143)])) t → Steps p.tables e below (s₁.setTop (entryFrame m #[(.int p1), (.int p2), (.int p3)] maxLocals)) t := by
      intro t kt
      rw [hed] at kt
      refine pre153 _ ?_
      show Steps p.tables e below (T151.setTop (mkF m 94 #[.val (.int p1), .val (.int p2), .val (.int p3), .val (.int (2 : Int32)), .val (.int f0), .val (.int f1), .val (.int f2), .val (.int v0), .val (.int v1), .val (.int v2), .val (.ref b143), .unset, .unset, .unset, .unset] [(.int ec), (.int (2 : Int32)), (.ref b143)])) _
      refine st155 _ ?_
      refine XS.aload X155.here hx rfl (hb hby at_95) rfl rfl ?_
      refine XS.iconst X155.here hx rfl (hb hby at_97) ?_
      refine XS.iloadN X155.here hx rfl (hb hby at_98) rfl ?_
      show Steps p.tables e below (T155.setTop (mkF m 99 #[.val (.int p1), .val (.int p2), .val (.int p3), .val (.int (2 : Int32)), .val (.int f0), .val (.int f1), .val (.int f2), .val (.int v0), .val (.int v1), .val (.int v2), .val (.ref b143), .unset, .unset, .unset, .unset] [(.int p3), (.int (3 : Int32)), (.ref b143)])) _
      refine XS.bipush X155.here hx rfl (hb hby at_99) ?_
      refine XS.iushr X155.here hx rfl (hb hby at_101) rfl ?_
      refine XS.bipush X155.here hx rfl (hb hby at_102) ?_
      refine XS.iand X155.here hx rfl (hb hby at_104) rfl ?_
      show Steps p.tables e below (T155.setTop (mkF m 105 #[.val (.int p1), .val (.int p2), .val (.int p3), .val (.int (2 : Int32)), .val (.int f0), .val (.int f1), .val (.int f2), .val (.int v0), .val (.int v1), .val (.int v2), .val (.ref b143), .unset, .unset, .unset, .unset] [(.int (((p3.toUInt32 >>> ((9 : Int32) &&& 31).toUInt32).toInt32) &&& (7 : Int32))), (.int (3 : Int32)), (.ref b143)])) _
      refine XS.iconst X155.here hx rfl (hb hby at_105) ?_
      refine XS.isub X155.here hx rfl (hb hby at_106) rfl ?_
      exact kt
    obtain ⟨cl158, Ar158, q158, S158, N158n, H158, G158⟩ := id (V_b143_155)
    have hin158 : ¬ ((3 : Int32) < 0 ∨ cl158.slots.size ≤ ((3 : Int32)).toNatClampNeg) := inb_of S158 ⟨by decide, by decide⟩
    obtain ⟨T159, h159, X159, e159, W159, st159⟩ := stI X155 hx hZ e155 Ar158 (j := (3 : Int32)) hin158 (g := (mkF m 107 #[.val (.int p1), .val (.int p2), .val (.int p3), .val (.int (2 : Int32)), .val (.int f0), .val (.int f1), .val (.int f2), .val (.int v0), .val (.int v1), .val (.int v2), .val (.ref b143), .unset, .unset, .unset, .unset] [(.int ed), (.int (3 : Int32)), (.ref b143)])) rfl rfl (hb hby at_107)
    have V_b143_159 : Arv Z h159 b143 k143 .int (4 : Int32) [(.int ea), (.int eb), (.int ec), (.int ed)] (.int (0 : Int32)) := Arv.set Ar158 q158 S158 N158n H158 G158 rfl W159 3 rfl (Nat.le_of_ble_eq_true rfl)
    have Z160 : n0 ≤ h159.size := Nat.le_trans Z156 (Keep.of_wr W159).1
    have N159 := Fr.snoc X159 N155 g_b143
    obtain ⟨T161, h161, k161, X161, e161, E161, A161, st161⟩ := newP (aty := .int) X159 hx hZ (wd_0 hw) e159 (g := (mkF m 109 #[.val (.int p1), .val (.int p2), .val (.int p3), .val (.int (2 : Int32)), .val (.int f0), .val (.int f1), .val (.int f2), .val (.int v0), .val (.int v1), .val (.int v2), .val (.ref b143), .unset, .unset, .unset, .unset] [(.int (2 : Int32))])) rfl (hb hby at_109) rfl (by decide) (cap := 2) (by decide) (by decide) (by decide) (by decide)
    obtain ⟨b161, g161⟩ : ∃ z, z = h159.size := ⟨_, rfl⟩
    rw [← g161] at A161 st161
    have g_b161 : n0 ≤ b161 := Nat.le_trans Z160 (Nat.le_of_eq g161.symm)
    have ne_b143_b161 : b143 ≠ b161 := Nat.ne_of_lt (Nat.lt_of_lt_of_le (V_b143_159).lt (Nat.le_of_eq g161.symm))
    have Z162 : n0 ≤ h161.size := Nat.le_trans Z160 E161.1
    have V0_b161 := (Arv.new A161 (by decide)).pad (pad_rep [] (.int (0 : Int32)) 2)
    have V_b161 : Arv Z h161 b161 k161 .int (2 : Int32) [(.int (0 : Int32)), (.int (0 : Int32))] (.int (0 : Int32)) := V0_b161
    obtain ⟨T163, h163, k163, X163, e163, E163, A163, st163⟩ := newP (aty := .int) X161 hx hZ (wd_0 hw) e161 (g := (mkF m 114 #[.val (.int p1), .val (.int p2), .val (.int p3), .val (.int (2 : Int32)), .val (.int f0), .val (.int f1), .val (.int f2), .val (.int v0), .val (.int v1), .val (.int v2), .val (.ref b143), .val (.ref b161), .unset, .unset, .unset] [(.int (2 : Int32))])) rfl (hb hby at_114) rfl (by decide) (cap := 2) (by decide) (by decide) (by decide) (by decide)
    obtain ⟨b163, g163⟩ : ∃ z, z = h161.size := ⟨_, rfl⟩
    rw [← g163] at A163 st163
    have g_b163 : n0 ≤ b163 := Nat.le_trans Z162 (Nat.le_of_eq g163.symm)
    have ne_b143_b163 : b143 ≠ b163 := Nat.ne_of_lt (Nat.lt_of_lt_of_le ((V_b143_159.ext E161)).lt (Nat.le_of_eq g163.symm))
    have ne_b161_b163 : b161 ≠ b163 := Nat.ne_of_lt (Nat.lt_of_lt_of_le (V_b161).lt (Nat.le_of_eq g163.symm))
    have Z164 : n0 ≤ h163.size := Nat.le_trans Z162 E163.1
    have V0_b163 := (Arv.new A163 (by decide)).pad (pad_rep [] (.int (0 : Int32)) 2)
    have V_b163 : Arv Z h163 b163 k163 .int (2 : Int32) [(.int (0 : Int32)), (.int (0 : Int32))] (.int (0 : Int32)) := V0_b163
    obtain ⟨cl165, Ar165, q165, S165, N165n, H165, G165⟩ := id ((V_b161.ext E163))
    have hin165 : ¬ ((0 : Int32) < 0 ∨ cl165.slots.size ≤ ((0 : Int32)).toNatClampNeg) := inb_of S165 ⟨by decide, by decide⟩
    obtain ⟨T166, h166, X166, e166, W166, st166⟩ := stI X163 hx hZ e163 Ar165 (j := (0 : Int32)) hin165 (g := (mkF m 127 #[.val (.int p1), .val (.int p2), .val (.int p3), .val (.int (2 : Int32)), .val (.int f0), .val (.int f1), .val (.int f2), .val (.int v0), .val (.int v1), .val (.int v2), .val (.ref b143), .val (.ref b161), .val (.ref b163), .unset, .unset] [(.int f0), (.int (0 : Int32)), (.ref b161)])) rfl rfl (hb hby at_127)
    have V_b161_166 : Arv Z h166 b161 k161 .int (2 : Int32) [(.int f0), (.int (0 : Int32))] (.int (0 : Int32)) := Arv.set Ar165 q165 S165 N165n H165 G165 rfl W166 0 rfl (Nat.le_of_ble_eq_true rfl)
    have Z167 : n0 ≤ h166.size := Nat.le_trans Z164 (Keep.of_wr W166).1
    have N166 := Fr.snoc X166 N159 g_b161
    obtain ⟨cl168, Ar168, q168, S168, N168n, H168, G168⟩ := id ((V_b163.other W166 (Ne.symm ne_b161_b163)))
    have hin168 : ¬ ((0 : Int32) < 0 ∨ cl168.slots.size ≤ ((0 : Int32)).toNatClampNeg) := inb_of S168 ⟨by decide, by decide⟩
    obtain ⟨T169, h169, X169, e169, W169, st169⟩ := stI X166 hx hZ e166 Ar168 (j := (0 : Int32)) hin168 (g := (mkF m 133 #[.val (.int p1), .val (.int p2), .val (.int p3), .val (.int (2 : Int32)), .val (.int f0), .val (.int f1), .val (.int f2), .val (.int v0), .val (.int v1), .val (.int v2), .val (.ref b143), .val (.ref b161), .val (.ref b163), .unset, .unset] [(.int v0), (.int (0 : Int32)), (.ref b163)])) rfl rfl (hb hby at_133)
    have V_b163_169 : Arv Z h169 b163 k163 .int (2 : Int32) [(.int v0), (.int (0 : Int32))] (.int (0 : Int32)) := Arv.set Ar168 q168 S168 N168n H168 G168 rfl W169 0 rfl (Nat.le_of_ble_eq_true rfl)
    have Z170 : n0 ≤ h169.size := Nat.le_trans Z167 (Keep.of_wr W169).1
    have N169 := Fr.snoc X169 N166 g_b163
    obtain ⟨cl171, Ar171, q171, S171, N171n, H171, G171⟩ := id ((V_b161_166.other W169 ne_b161_b163))
    have hin171 : ¬ ((1 : Int32) < 0 ∨ cl171.slots.size ≤ ((1 : Int32)).toNatClampNeg) := inb_of S171 ⟨by decide, by decide⟩
    obtain ⟨T172, h172, X172, e172, W172, st172⟩ := stI X169 hx hZ e169 Ar171 (j := (1 : Int32)) hin171 (g := (mkF m 144 #[.val (.int p1), .val (.int p2), .val (.int p3), .val (.int (2 : Int32)), .val (.int f0), .val (.int f1), .val (.int f2), .val (.int v0), .val (.int v1), .val (.int v2), .val (.ref b143), .val (.ref b161), .val (.ref b163), .unset, .unset] [(.int f1), (.int (1 : Int32)), (.ref b161)])) rfl rfl (hb hby at_144)
    have V_b161_172 : Arv Z h172 b161 k161 .int (2 : Int32) [(.int f0), (.int f1)] (.int (0 : Int32)) := Arv.set Ar171 q171 S171 N171n H171 G171 rfl W172 1 rfl (Nat.le_of_ble_eq_true rfl)
    have Z173 : n0 ≤ h172.size := Nat.le_trans Z170 (Keep.of_wr W172).1
    have N172 := Fr.snoc X172 N169 g_b161
    obtain ⟨cl174, Ar174, q174, S174, N174n, H174, G174⟩ := id ((V_b163_169.other W172 (Ne.symm ne_b161_b163)))
    have hin174 : ¬ ((1 : Int32) < 0 ∨ cl174.slots.size ≤ ((1 : Int32)).toNatClampNeg) := inb_of S174 ⟨by decide, by decide⟩
    obtain ⟨T175, h175, X175, e175, W175, st175⟩ := stI X172 hx hZ e172 Ar174 (j := (1 : Int32)) hin174 (g := (mkF m 150 #[.val (.int p1), .val (.int p2), .val (.int p3), .val (.int (2 : Int32)), .val (.int f0), .val (.int f1), .val (.int f2), .val (.int v0), .val (.int v1), .val (.int v2), .val (.ref b143), .val (.ref b161), .val (.ref b163), .unset, .unset] [(.int v1), (.int (1 : Int32)), (.ref b163)])) rfl rfl (hb hby at_150)
    have V_b163_175 : Arv Z h175 b163 k163 .int (2 : Int32) [(.int v0), (.int v1)] (.int (0 : Int32)) := Arv.set Ar174 q174 S174 N174n H174 G174 rfl W175 1 rfl (Nat.le_of_ble_eq_true rfl)
    have Z176 : n0 ≤ h175.size := Nat.le_trans Z173 (Keep.of_wr W175).1
    have N175 := Fr.snoc X175 N172 g_b163
    obtain ⟨cl177, Ar177, q177, S177, N177n, H177, G177⟩ := id (((((((V_b143_159.ext E161).ext E163).other W166 ne_b143_b161).other W169 ne_b143_b163).other W172 ne_b143_b161).other W175 ne_b143_b163))
    have hin177 : ¬ (f0 < 0 ∨ cl177.slots.size ≤ (f0).toNatClampNeg) := inb_of S177 hb_f0
    have hat177 : cl177.slots[(f0).toNatClampNeg]? = some (.int (own_sel4 f0 ea eb ec ed)) := H177.at hin177 (own_at4 hb_f0)
    have pre179 : ∀ t, Steps p.tables e below (T175.setTop (mkF m 180 #[.val (.int p1), .val (.int p2), .val (.int p3), .val (.int (2 : Int32)), .val (.int f0), .val (.int f1), .val (.int f2), .val (.int v0), .val (.int v1), .val (.int v2), .val (.ref b143), .val (.ref b161), .val (.ref b163), .unset, .unset] [(.int v0), (.int (own_sel4 f0 ea eb ec ed))])) t → Steps p.tables e below (s₁.setTop (entryFrame m #[(.int p1), (.int p2), (.int p3)] maxLocals)) t := by
      intro t kt
      refine pre157 _ ?_
      show Steps p.tables e below (T155.setTop (mkF m 107 #[.val (.int p1), .val (.int p2), .val (.int p3), .val (.int (2 : Int32)), .val (.int f0), .val (.int f1), .val (.int f2), .val (.int v0), .val (.int v1), .val (.int v2), .val (.ref b143), .unset, .unset, .unset, .unset] [(.int ed), (.int (3 : Int32)), (.ref b143)])) _
      refine st159 _ ?_
      refine XS.iloadN X159.here hx rfl (hb hby at_108) rfl ?_
      refine st161 _ ?_
      refine XS.astore X161.here hx rfl (hb hby at_111) rfl rfl (l' := #[.val (.int p1), .val (.int p2), .val (.int p3), .val (.int (2 : Int32)), .val (.int f0), .val (.int f1), .val (.int f2), .val (.int v0), .val (.int v1), .val (.int v2), .val (.ref b143), .val (.ref b161), .unset, .unset, .unset]) rfl ?_
      show Steps p.tables e below (T161.setTop (mkF m 113 #[.val (.int p1), .val (.int p2), .val (.int p3), .val (.int (2 : Int32)), .val (.int f0), .val (.int f1), .val (.int f2), .val (.int v0), .val (.int v1), .val (.int v2), .val (.ref b143), .val (.ref b161), .unset, .unset, .unset] [])) _
      refine XS.iloadN X161.here hx rfl (hb hby at_113) rfl ?_
      refine st163 _ ?_
      refine XS.astore X163.here hx rfl (hb hby at_116) rfl rfl (l' := #[.val (.int p1), .val (.int p2), .val (.int p3), .val (.int (2 : Int32)), .val (.int f0), .val (.int f1), .val (.int f2), .val (.int v0), .val (.int v1), .val (.int v2), .val (.ref b143), .val (.ref b161), .val (.ref b163), .unset, .unset]) rfl ?_
      refine XS.iloadN X163.here hx rfl (hb hby at_118) rfl ?_
      show Steps p.tables e below (T163.setTop (mkF m 119 #[.val (.int p1), .val (.int p2), .val (.int p3), .val (.int (2 : Int32)), .val (.int f0), .val (.int f1), .val (.int f2), .val (.int v0), .val (.int v1), .val (.int v2), .val (.ref b143), .val (.ref b161), .val (.ref b163), .unset, .unset] [(.int (2 : Int32))])) _
      refine XS.ifNo X163.here hx rfl (hb hby at_119) rfl ((if0 _ _).trans (tlt (by decide)).2.2.2) ?_
      refine XS.aload X163.here hx rfl (hb hby at_122) rfl rfl ?_
      refine XS.iconst X163.here hx rfl (hb hby at_124) ?_
      refine XS.iload X163.here hx rfl (hb hby at_125) rfl ?_
      show Steps p.tables e below (T163.setTop (mkF m 127 #[.val (.int p1), .val (.int p2), .val (.int p3), .val (.int (2 : Int32)), .val (.int f0), .val (.int f1), .val (.int f2), .val (.int v0), .val (.int v1), .val (.int v2), .val (.ref b143), .val (.ref b161), .val (.ref b163), .unset, .unset] [(.int f0), (.int (0 : Int32)), (.ref b161)])) _
      refine st166 _ ?_
      refine XS.aload X166.here hx rfl (hb hby at_128) rfl rfl ?_
      refine XS.iconst X166.here hx rfl (hb hby at_130) ?_
      refine XS.iload X166.here hx rfl (hb hby at_131) rfl ?_
      show Steps p.tables e below (T166.setTop (mkF m 133 #[.val (.int p1), .val (.int p2), .val (.int p3), .val (.int (2 : Int32)), .val (.int f0), .val (.int f1), .val (.int f2), .val (.int v0), .val (.int v1), .val (.int v2), .val (.ref b143), .val (.ref b161), .val (.ref b163), .unset, .unset] [(.int v0), (.int (0 : Int32)), (.ref b163)])) _
      refine st169 _ ?_
      refine XS.iloadN X169.here hx rfl (hb hby at_134) rfl ?_
      refine XS.iconst X169.here hx rfl (hb hby at_135) ?_
      refine XS.icmpNo X169.here hx rfl (hb hby at_136) rfl (tlt (by decide)).2.2.2 ?_
      show Steps p.tables e below (T169.setTop (mkF m 139 #[.val (.int p1), .val (.int p2), .val (.int p3), .val (.int (2 : Int32)), .val (.int f0), .val (.int f1), .val (.int f2), .val (.int v0), .val (.int v1), .val (.int v2), .val (.ref b143), .val (.ref b161), .val (.ref b163), .unset, .unset] [])) _
      refine XS.aload X169.here hx rfl (hb hby at_139) rfl rfl ?_
      refine XS.iconst X169.here hx rfl (hb hby at_141) ?_
      refine XS.iload X169.here hx rfl (hb hby at_142) rfl ?_
      refine st172 _ ?_
      show Steps p.tables e below (T172.setTop (mkF m 145 #[.val (.int p1), .val (.int p2), .val (.int p3), .val (.int (2 : Int32)), .val (.int f0), .val (.int f1), .val (.int f2), .val (.int v0), .val (.int v1), .val (.int v2), .val (.ref b143), .val (.ref b161), .val (.ref b163), .unset, .unset] [])) _
      refine XS.aload X172.here hx rfl (hb hby at_145) rfl rfl ?_
      refine XS.iconst X172.here hx rfl (hb hby at_147) ?_
      refine XS.iload X172.here hx rfl (hb hby at_148) rfl ?_
      refine st175 _ ?_
      show Steps p.tables e below (T175.setTop (mkF m 151 #[.val (.int p1), .val (.int p2), .val (.int p3), .val (.int (2 : Int32)), .val (.int f0), .val (.int f1), .val (.int f2), .val (.int v0), .val (.int v1), .val (.int v2), .val (.ref b143), .val (.ref b161), .val (.ref b163), .unset, .unset] [])) _
      refine XS.iloadN X175.here hx rfl (hb hby at_151) rfl ?_
      refine XS.iconst X175.here hx rfl (hb hby at_152) ?_
      refine XS.icmpYes X175.here hx rfl (pc0 := 153) (pc' := 168) rfl (hb hby at_153) rfl (flt (by decide)).2.2.2 (by decide) (by decide) ?_
      refine XS.iloadN X175.here hx rfl (hb hby at_168) rfl ?_
      show Steps p.tables e below (T175.setTop (mkF m 169 #[.val (.int p1), .val (.int p2), .val (.int p3), .val (.int (2 : Int32)), .val (.int f0), .val (.int f1), .val (.int f2), .val (.int v0), .val (.int v1), .val (.int v2), .val (.ref b143), .val (.ref b161), .val (.ref b163), .unset, .unset] [(.int (2 : Int32))])) _
      refine XS.iconst X175.here hx rfl (hb hby at_169) ?_
      refine XS.icmpNo X175.here hx rfl (hb hby at_170) rfl (flt (by decide)).1 ?_
      refine XS.aload X175.here hx rfl (hb hby at_173) rfl rfl ?_
      refine XS.iload X175.here hx rfl (hb hby at_175) rfl ?_
      show Steps p.tables e below (T175.setTop (mkF m 177 #[.val (.int p1), .val (.int p2), .val (.int p3), .val (.int (2 : Int32)), .val (.int f0), .val (.int f1), .val (.int f2), .val (.int v0), .val (.int v1), .val (.int v2), .val (.ref b143), .val (.ref b161), .val (.ref b163), .unset, .unset] [(.int f0), (.ref b143)])) _
      refine X175.iaload hx (j := f0) (v := (.int (own_sel4 f0 ea eb ec ed))) (by rw [e175]; exact Ar177.1) (State.isArrayOf_alike hZ.alike Ar177.2.1) Ar177.2.2 hin177 hat177 (g := (mkF m 177 #[.val (.int p1), .val (.int p2), .val (.int p3), .val (.int (2 : Int32)), .val (.int f0), .val (.int f1), .val (.int f2), .val (.int v0), .val (.int v1), .val (.int v2), .val (.ref b143), .val (.ref b161), .val (.ref b163), .unset, .unset] [(.int f0), (.ref b143)])) rfl rfl (hb hby at_177) _ ?_
      refine XS.iload X175.here hx rfl (hb hby at_178) rfl ?_
      exact kt
    by_cases hc180_178 : (own_sel4 f0 ea eb ec ed) = v0
    · obtain ⟨cl180, Ar180, q180, S180, N180n, H180, G180⟩ := id (((((((V_b143_159.ext E161).ext E163).other W166 ne_b143_b161).other W169 ne_b143_b163).other W172 ne_b143_b161).other W175 ne_b143_b163))
      have hin180 : ¬ (f1 < 0 ∨ cl180.slots.size ≤ (f1).toNatClampNeg) := inb_of S180 hb_f1
      have hat180 : cl180.slots[(f1).toNatClampNeg]? = some (.int (own_sel4 f1 ea eb ec ed)) := H180.at hin180 (own_at4 hb_f1)
      have pre182 : ∀ t, Steps p.tables e below (T175.setTop (mkF m 195 #[.val (.int p1), .val (.int p2), .val (.int p3), .val (.int (2 : Int32)), .val (.int f0), .val (.int f1), .val (.int f2), .val (.int v0), .val (.int v1), .val (.int v2), .val (.ref b143), .val (.ref b161), .val (.ref b163), .unset, .unset] [(.int v1), (.int (own_sel4 f1 ea eb ec ed))])) t → Steps p.tables e below (s₁.setTop (entryFrame m #[(.int p1), (.int p2), (.int p3)] maxLocals)) t := by
        intro t kt
        refine pre179 _ ?_
        show Steps p.tables e below (T175.setTop (mkF m 180 #[.val (.int p1), .val (.int p2), .val (.int p3), .val (.int (2 : Int32)), .val (.int f0), .val (.int f1), .val (.int f2), .val (.int v0), .val (.int v1), .val (.int v2), .val (.ref b143), .val (.ref b161), .val (.ref b163), .unset, .unset] [(.int v0), (.int (own_sel4 f0 ea eb ec ed))])) _
        refine XS.icmpNo X175.here hx rfl (hb hby at_180) rfl (teq hc180_178).2 ?_
        refine XS.iloadN X175.here hx rfl (hb hby at_183) rfl ?_
        show Steps p.tables e below (T175.setTop (mkF m 184 #[.val (.int p1), .val (.int p2), .val (.int p3), .val (.int (2 : Int32)), .val (.int f0), .val (.int f1), .val (.int f2), .val (.int v0), .val (.int v1), .val (.int v2), .val (.ref b143), .val (.ref b161), .val (.ref b163), .unset, .unset] [(.int (2 : Int32))])) _
        refine XS.iconst X175.here hx rfl (hb hby at_184) ?_
        refine XS.icmpNo X175.here hx rfl (hb hby at_185) rfl (flt (by decide)).1 ?_
        refine XS.aload X175.here hx rfl (hb hby at_188) rfl rfl ?_
        refine XS.iload X175.here hx rfl (hb hby at_190) rfl ?_
        show Steps p.tables e below (T175.setTop (mkF m 192 #[.val (.int p1), .val (.int p2), .val (.int p3), .val (.int (2 : Int32)), .val (.int f0), .val (.int f1), .val (.int f2), .val (.int v0), .val (.int v1), .val (.int v2), .val (.ref b143), .val (.ref b161), .val (.ref b163), .unset, .unset] [(.int f1), (.ref b143)])) _
        refine X175.iaload hx (j := f1) (v := (.int (own_sel4 f1 ea eb ec ed))) (by rw [e175]; exact Ar180.1) (State.isArrayOf_alike hZ.alike Ar180.2.1) Ar180.2.2 hin180 hat180 (g := (mkF m 192 #[.val (.int p1), .val (.int p2), .val (.int p3), .val (.int (2 : Int32)), .val (.int f0), .val (.int f1), .val (.int f2), .val (.int v0), .val (.int v1), .val (.int v2), .val (.ref b143), .val (.ref b161), .val (.ref b163), .unset, .unset] [(.int f1), (.ref b143)])) rfl rfl (hb hby at_192) _ ?_
        refine XS.iload X175.here hx rfl (hb hby at_193) rfl ?_
        exact kt
      by_cases hc195_181 : (own_sel4 f1 ea eb ec ed) = v1
      · obtain ⟨T183, h183, X183, e183, E183, A183, D183, -, st183⟩ := newO X175 hx hZ hown (wd_1 hw) (wd_2 hw) (wd_3 hw) e175 (g := (mkF m 220 #[.val (.int p1), .val (.int p2), .val (.int p3), .val (.int (2 : Int32)), .val (.int f0), .val (.int f1), .val (.int f2), .val (.int v0), .val (.int v1), .val (.int v2), .val (.ref b143), .val (.ref b161), .val (.ref b163), .val (.int (1 : Int32)), .unset] [])) rfl (hb hby at_220) (by decide) (by decide)
        obtain ⟨b183, g183⟩ : ∃ z, z = h175.size := ⟨_, rfl⟩
        rw [← g183] at A183 D183 st183
        have g_b183 : n0 ≤ b183 := Nat.le_trans Z176 (Nat.le_of_eq g183.symm)
        have ne_b143_b183 : b143 ≠ b183 := Nat.ne_of_lt (Nat.lt_of_lt_of_le (((((((V_b143_159.ext E161).ext E163).other W166 ne_b143_b161).other W169 ne_b143_b163).other W172 ne_b143_b161).other W175 ne_b143_b163)).lt (Nat.le_of_eq g183.symm))
        have ne_b161_b183 : b161 ≠ b183 := Nat.ne_of_lt (Nat.lt_of_lt_of_le ((V_b161_172.other W175 ne_b161_b163)).lt (Nat.le_of_eq g183.symm))
        have ne_b163_b183 : b163 ≠ b183 := Nat.ne_of_lt (Nat.lt_of_lt_of_le (V_b163_175).lt (Nat.le_of_eq g183.symm))
        have Z184 : n0 ≤ h183.size := Nat.le_trans Z176 E183.1
        have F_features_b183 : Fld Z h183 b183 "com/example/counterlens/counterlens/Rules$Forbidden" "features" "[I" .null := D183 (Or.inr (wd_16 hw)) (ty := (.array .int)) (by decide)
        have F_values_b183 : Fld Z h183 b183 "com/example/counterlens/counterlens/Rules$Forbidden" "values" "[I" .null := D183 (Or.inr (wd_18 hw)) (ty := (.array .int)) (by decide)
        obtain ⟨_, _, ⟨T185, L185, k185, n185⟩, -, X185, ⟨Lc185, hQ185, l185, y185, z185⟩, st185⟩ := X183.specialBack hx (y := (⟨"com/example/counterlens/counterlens/Rules$Forbidden", "<init>", "([I[I)V"⟩ : MethodName)) rfl hown (mvT hZ (wd_4 hw)) (mvT hZ (wd_5 hw)) (mvT hZ (wd_6 hw)) (by decide) (backOf (W := 1) (rm1 l Z a0 hw [] b183 b161 b163 .null .null h183 n0 Z184 F_features_b183 F_values_b183 A183 g_b183) hZ (wd_6 hw) (wd_3 hw) (by decide) (by decide)) (g := (mkF m 228 #[.val (.int p1), .val (.int p2), .val (.int p3), .val (.int (2 : Int32)), .val (.int f0), .val (.int f1), .val (.int f2), .val (.int v0), .val (.int v1), .val (.int v2), .val (.ref b143), .val (.ref b161), .val (.ref b163), .val (.int (1 : Int32)), .unset] [(.ref b163), (.ref b161), (.ref b183), (.ref b183)])) rfl (by rw [hml]; rfl) (Steps.refl _) (a := b183) (argsL := [(.ref b161), (.ref b163)]) (rest := [(.ref b183)]) (lenOf pd___I_I_V rfl) rfl (by show 2 * 0 + _ ≤ _; exact Nat.le_of_eq rfl) (hb hby at_228) (fun _ _ => ⟨rfl, e183, (by decide : 4 + 0 ≤ _), (by decide : 10 + 0 ≤ _)⟩)
        dsimp only [Pt.U, Pt.locs, Pt.cells, Pt.slots] at X185 l185 y185 z185 st185 hQ185
        subst l185 y185 z185
        obtain ⟨rfl, N185q, K185q, g185_0, g185_1, g185_2⟩ := hQ185
        have N185 := Fr.app N175 N185q
        have Z186 : n0 ≤ T185.heap.size := Nat.le_trans Z184 K185q.1
        obtain ⟨cq187, kq187, q187a, q187b, q187c⟩ := isOf hZ rfl (g185_0)
        obtain ⟨_, _, ⟨T187, L187, k187, n187⟩, -, X187, ⟨Lc187, hQ187, l187, y187, z187⟩, st187⟩ := X185.virtualBack hx (y := (⟨"com/example/counterlens/counterlens/Rules$Forbidden", "matches", "([I)Z"⟩ : MethodName)) (z := (⟨"com/example/counterlens/counterlens/Rules$Forbidden", "matches", "([I)Z"⟩ : MethodName)) hown (mvT hZ (wd_19 hw)) (mvT hZ (wd_20 hw)) (notFace_of_selects (args := #[]) (mvT hZ (wd_22 hw))) (mvT hZ (wd_22 hw)) (mvT hZ (wd_21 hw)) (by decide) (backOf (W := 0) (rmm2 l Z a0 hw [] b183 b143 b161 b163 k161 k163 k143 f0 f1 v0 v1 ea eb ec ed T185.heap n0 Z186 g185_1 g185_2 (((V_b161_172.other W175 ne_b161_b163).ext E183).keep K185q (ninS ne_b161_b183 nin0)) ((V_b163_175.ext E183).keep K185q (ninS ne_b163_b183 nin0)) ((((((((V_b143_159.ext E161).ext E163).other W166 ne_b143_b161).other W169 ne_b143_b163).other W172 ne_b143_b161).other W175 ne_b143_b163).ext E183).keep K185q (ninS ne_b143_b183 nin0)) hb_f0 hb_f1) hZ (wd_23 hw) (wd_3 hw) (by decide) (by decide)) q187a q187c (g := (mkF m 237 #[.val (.int p1), .val (.int p2), .val (.int p3), .val (.int (2 : Int32)), .val (.int f0), .val (.int f1), .val (.int f2), .val (.int v0), .val (.int v1), .val (.int v2), .val (.ref b143), .val (.ref b161), .val (.ref b163), .val (.int (1 : Int32)), .val (.ref b183)] [(.ref b143), (.ref b183)])) rfl (by rw [hml]; rfl) (Steps.refl _) (argsL := [(.ref b143)]) (rest := []) (lenOf pd___I_Z rfl) rfl (by show 2 * 0 + _ ≤ _; exact Nat.le_of_eq rfl) (hb hby at_237) (fun _ _ => ⟨rfl, rfl, (by decide : 4 + 0 ≤ _), (by decide : 10 + 0 ≤ _)⟩)
        dsimp only [Pt.U, Pt.locs, Pt.cells, Pt.slots] at X187 l187 y187 z187 st187 hQ187
        subst l187 y187 z187
        obtain ⟨rfl, N187q, e187⟩ := hQ187
        have N187 := Fr.app N185 N187q
        obtain ⟨fs, hr, hrun, hended, hW, hsame⟩ := X187.leave (v := some (.int (1 : Int32))) (fun h => by rw [Bd.returns] at h; cases h)
        refine ⟨_, _, pre182 _ ?_, hrun, hended, _, _, rfl, ?_, ⟨_, rfl⟩, hW, hsame.mono (by decide) (by decide)⟩
        · show Steps p.tables e below (T175.setTop (mkF m 195 #[.val (.int p1), .val (.int p2), .val (.int p3), .val (.int (2 : Int32)), .val (.int f0), .val (.int f1), .val (.int f2), .val (.int v0), .val (.int v1), .val (.int v2), .val (.ref b143), .val (.ref b161), .val (.ref b163), .unset, .unset] [(.int v1), (.int (own_sel4 f1 ea eb ec ed))])) _
          refine XS.icmpNo X175.here hx rfl (hb hby at_195) rfl (teq hc195_181).2 ?_
          refine XS.iloadN X175.here hx rfl (hb hby at_198) rfl ?_
          show Steps p.tables e below (T175.setTop (mkF m 199 #[.val (.int p1), .val (.int p2), .val (.int p3), .val (.int (2 : Int32)), .val (.int f0), .val (.int f1), .val (.int f2), .val (.int v0), .val (.int v1), .val (.int v2), .val (.ref b143), .val (.ref b161), .val (.ref b163), .unset, .unset] [(.int (2 : Int32))])) _
          refine XS.iconst X175.here hx rfl (hb hby at_199) ?_
          refine XS.icmpYes X175.here hx rfl (pc0 := 200) (pc' := 213) rfl (hb hby at_200) rfl (tlt (by decide)).1 (by decide) (by decide) ?_
          refine XS.iconst X175.here hx rfl (hb hby at_213) ?_
          refine XS.goto X175.here hx rfl (pc0 := 214) (pc' := 218) rfl (hb hby at_214) (by decide) (by decide) ?_
          show Steps p.tables e below (T175.setTop (mkF m 218 #[.val (.int p1), .val (.int p2), .val (.int p3), .val (.int (2 : Int32)), .val (.int f0), .val (.int f1), .val (.int f2), .val (.int v0), .val (.int v1), .val (.int v2), .val (.ref b143), .val (.ref b161), .val (.ref b163), .unset, .unset] [(.int (1 : Int32))])) _
          refine XS.istore X175.here hx rfl (hb hby at_218) rfl (l' := #[.val (.int p1), .val (.int p2), .val (.int p3), .val (.int (2 : Int32)), .val (.int f0), .val (.int f1), .val (.int f2), .val (.int v0), .val (.int v1), .val (.int v2), .val (.ref b143), .val (.ref b161), .val (.ref b163), .val (.int (1 : Int32)), .unset]) rfl ?_
          refine st183 _ ?_
          refine XS.dup X183.here hx rfl (hb hby at_223) rfl rfl ?_
          refine XS.aload X183.here hx rfl (hb hby at_224) rfl rfl ?_
          show Steps p.tables e below (T183.setTop (mkF m 226 #[.val (.int p1), .val (.int p2), .val (.int p3), .val (.int (2 : Int32)), .val (.int f0), .val (.int f1), .val (.int f2), .val (.int v0), .val (.int v1), .val (.int v2), .val (.ref b143), .val (.ref b161), .val (.ref b163), .val (.int (1 : Int32)), .unset] [(.ref b161), (.ref b183), (.ref b183)])) _
          refine XS.aload X183.here hx rfl (hb hby at_226) rfl rfl ?_
          refine st185.trans ?_
          refine XS.astore X185.here hx rfl (hb hby at_231) rfl rfl (l' := #[.val (.int p1), .val (.int p2), .val (.int p3), .val (.int (2 : Int32)), .val (.int f0), .val (.int f1), .val (.int f2), .val (.int v0), .val (.int v1), .val (.int v2), .val (.ref b143), .val (.ref b161), .val (.ref b163), .val (.int (1 : Int32)), .val (.ref b183)]) rfl ?_
          refine XS.aload X185.here hx rfl (hb hby at_233) rfl rfl ?_
          show Steps p.tables e below (T185.setTop (mkF m 235 #[.val (.int p1), .val (.int p2), .val (.int p3), .val (.int (2 : Int32)), .val (.int f0), .val (.int f1), .val (.int f2), .val (.int v0), .val (.int v1), .val (.int v2), .val (.ref b143), .val (.ref b161), .val (.ref b163), .val (.int (1 : Int32)), .val (.ref b183)] [(.ref b183)])) _
          refine XS.aload X185.here hx rfl (hb hby at_235) rfl rfl ?_
          refine st187.trans ?_
          refine XS.iload X187.here hx rfl (hb hby at_240) rfl ?_
          refine XS.icmpNo X187.here hx rfl (hb hby at_242) rfl (teq (by simp only [if_pos hc180_178, if_pos hc195_181])).2 ?_
          show Steps p.tables e below (T187.setTop (mkF m 245 #[.val (.int p1), .val (.int p2), .val (.int p3), .val (.int (2 : Int32)), .val (.int f0), .val (.int f1), .val (.int f2), .val (.int v0), .val (.int v1), .val (.int v2), .val (.ref b143), .val (.ref b161), .val (.ref b163), .val (.int (1 : Int32)), .val (.ref b183)] [])) _
          refine XS.iconst X187.here hx rfl (hb hby at_245) ?_
          refine XS.goto X187.here hx rfl (pc0 := 246) (pc' := 250) rfl (hb hby at_246) (by decide) (by decide) ?_
          exact retN X187 hx (t := .boolean) Bd.returns (by simp) (hb hby at_250) hr
        · show Q_rm0 Z p1 p2 p3 h0 n0 _ T187.heap _
          rw [e187]
          exact ⟨rfl, N187, trivial⟩
      · obtain ⟨T188, h188, X188, e188, E188, A188, D188, -, st188⟩ := newO X175 hx hZ hown (wd_1 hw) (wd_2 hw) (wd_3 hw) e175 (g := (mkF m 220 #[.val (.int p1), .val (.int p2), .val (.int p3), .val (.int (2 : Int32)), .val (.int f0), .val (.int f1), .val (.int f2), .val (.int v0), .val (.int v1), .val (.int v2), .val (.ref b143), .val (.ref b161), .val (.ref b163), .val (.int (0 : Int32)), .unset] [])) rfl (hb hby at_220) (by decide) (by decide)
        obtain ⟨b188, g188⟩ : ∃ z, z = h175.size := ⟨_, rfl⟩
        rw [← g188] at A188 D188 st188
        have g_b188 : n0 ≤ b188 := Nat.le_trans Z176 (Nat.le_of_eq g188.symm)
        have ne_b143_b188 : b143 ≠ b188 := Nat.ne_of_lt (Nat.lt_of_lt_of_le (((((((V_b143_159.ext E161).ext E163).other W166 ne_b143_b161).other W169 ne_b143_b163).other W172 ne_b143_b161).other W175 ne_b143_b163)).lt (Nat.le_of_eq g188.symm))
        have ne_b161_b188 : b161 ≠ b188 := Nat.ne_of_lt (Nat.lt_of_lt_of_le ((V_b161_172.other W175 ne_b161_b163)).lt (Nat.le_of_eq g188.symm))
        have ne_b163_b188 : b163 ≠ b188 := Nat.ne_of_lt (Nat.lt_of_lt_of_le (V_b163_175).lt (Nat.le_of_eq g188.symm))
        have Z189 : n0 ≤ h188.size := Nat.le_trans Z176 E188.1
        have F_features_b188 : Fld Z h188 b188 "com/example/counterlens/counterlens/Rules$Forbidden" "features" "[I" .null := D188 (Or.inr (wd_16 hw)) (ty := (.array .int)) (by decide)
        have F_values_b188 : Fld Z h188 b188 "com/example/counterlens/counterlens/Rules$Forbidden" "values" "[I" .null := D188 (Or.inr (wd_18 hw)) (ty := (.array .int)) (by decide)
        obtain ⟨_, _, ⟨T190, L190, k190, n190⟩, -, X190, ⟨Lc190, hQ190, l190, y190, z190⟩, st190⟩ := X188.specialBack hx (y := (⟨"com/example/counterlens/counterlens/Rules$Forbidden", "<init>", "([I[I)V"⟩ : MethodName)) rfl hown (mvT hZ (wd_4 hw)) (mvT hZ (wd_5 hw)) (mvT hZ (wd_6 hw)) (by decide) (backOf (W := 1) (rm1 l Z a0 hw [] b188 b161 b163 .null .null h188 n0 Z189 F_features_b188 F_values_b188 A188 g_b188) hZ (wd_6 hw) (wd_3 hw) (by decide) (by decide)) (g := (mkF m 228 #[.val (.int p1), .val (.int p2), .val (.int p3), .val (.int (2 : Int32)), .val (.int f0), .val (.int f1), .val (.int f2), .val (.int v0), .val (.int v1), .val (.int v2), .val (.ref b143), .val (.ref b161), .val (.ref b163), .val (.int (0 : Int32)), .unset] [(.ref b163), (.ref b161), (.ref b188), (.ref b188)])) rfl (by rw [hml]; rfl) (Steps.refl _) (a := b188) (argsL := [(.ref b161), (.ref b163)]) (rest := [(.ref b188)]) (lenOf pd___I_I_V rfl) rfl (by show 2 * 0 + _ ≤ _; exact Nat.le_of_eq rfl) (hb hby at_228) (fun _ _ => ⟨rfl, e188, (by decide : 4 + 0 ≤ _), (by decide : 10 + 0 ≤ _)⟩)
        dsimp only [Pt.U, Pt.locs, Pt.cells, Pt.slots] at X190 l190 y190 z190 st190 hQ190
        subst l190 y190 z190
        obtain ⟨rfl, N190q, K190q, g190_0, g190_1, g190_2⟩ := hQ190
        have N190 := Fr.app N175 N190q
        have Z191 : n0 ≤ T190.heap.size := Nat.le_trans Z189 K190q.1
        obtain ⟨cq192, kq192, q192a, q192b, q192c⟩ := isOf hZ rfl (g190_0)
        obtain ⟨_, _, ⟨T192, L192, k192, n192⟩, -, X192, ⟨Lc192, hQ192, l192, y192, z192⟩, st192⟩ := X190.virtualBack hx (y := (⟨"com/example/counterlens/counterlens/Rules$Forbidden", "matches", "([I)Z"⟩ : MethodName)) (z := (⟨"com/example/counterlens/counterlens/Rules$Forbidden", "matches", "([I)Z"⟩ : MethodName)) hown (mvT hZ (wd_19 hw)) (mvT hZ (wd_20 hw)) (notFace_of_selects (args := #[]) (mvT hZ (wd_22 hw))) (mvT hZ (wd_22 hw)) (mvT hZ (wd_21 hw)) (by decide) (backOf (W := 0) (rmm2 l Z a0 hw [] b188 b143 b161 b163 k161 k163 k143 f0 f1 v0 v1 ea eb ec ed T190.heap n0 Z191 g190_1 g190_2 (((V_b161_172.other W175 ne_b161_b163).ext E188).keep K190q (ninS ne_b161_b188 nin0)) ((V_b163_175.ext E188).keep K190q (ninS ne_b163_b188 nin0)) ((((((((V_b143_159.ext E161).ext E163).other W166 ne_b143_b161).other W169 ne_b143_b163).other W172 ne_b143_b161).other W175 ne_b143_b163).ext E188).keep K190q (ninS ne_b143_b188 nin0)) hb_f0 hb_f1) hZ (wd_23 hw) (wd_3 hw) (by decide) (by decide)) q192a q192c (g := (mkF m 237 #[.val (.int p1), .val (.int p2), .val (.int p3), .val (.int (2 : Int32)), .val (.int f0), .val (.int f1), .val (.int f2), .val (.int v0), .val (.int v1), .val (.int v2), .val (.ref b143), .val (.ref b161), .val (.ref b163), .val (.int (0 : Int32)), .val (.ref b188)] [(.ref b143), (.ref b188)])) rfl (by rw [hml]; rfl) (Steps.refl _) (argsL := [(.ref b143)]) (rest := []) (lenOf pd___I_Z rfl) rfl (by show 2 * 0 + _ ≤ _; exact Nat.le_of_eq rfl) (hb hby at_237) (fun _ _ => ⟨rfl, rfl, (by decide : 4 + 0 ≤ _), (by decide : 10 + 0 ≤ _)⟩)
        dsimp only [Pt.U, Pt.locs, Pt.cells, Pt.slots] at X192 l192 y192 z192 st192 hQ192
        subst l192 y192 z192
        obtain ⟨rfl, N192q, e192⟩ := hQ192
        have N192 := Fr.app N190 N192q
        obtain ⟨fs, hr, hrun, hended, hW, hsame⟩ := X192.leave (v := some (.int (1 : Int32))) (fun h => by rw [Bd.returns] at h; cases h)
        refine ⟨_, _, pre182 _ ?_, hrun, hended, _, _, rfl, ?_, ⟨_, rfl⟩, hW, hsame.mono (by decide) (by decide)⟩
        · show Steps p.tables e below (T175.setTop (mkF m 195 #[.val (.int p1), .val (.int p2), .val (.int p3), .val (.int (2 : Int32)), .val (.int f0), .val (.int f1), .val (.int f2), .val (.int v0), .val (.int v1), .val (.int v2), .val (.ref b143), .val (.ref b161), .val (.ref b163), .unset, .unset] [(.int v1), (.int (own_sel4 f1 ea eb ec ed))])) _
          refine XS.icmpYes X175.here hx rfl (pc0 := 195) (pc' := 217) rfl (hb hby at_195) rfl (feq hc195_181).2 (by decide) (by decide) ?_
          refine XS.iconst X175.here hx rfl (hb hby at_217) ?_
          show Steps p.tables e below (T175.setTop (mkF m 218 #[.val (.int p1), .val (.int p2), .val (.int p3), .val (.int (2 : Int32)), .val (.int f0), .val (.int f1), .val (.int f2), .val (.int v0), .val (.int v1), .val (.int v2), .val (.ref b143), .val (.ref b161), .val (.ref b163), .unset, .unset] [(.int (0 : Int32))])) _
          refine XS.istore X175.here hx rfl (hb hby at_218) rfl (l' := #[.val (.int p1), .val (.int p2), .val (.int p3), .val (.int (2 : Int32)), .val (.int f0), .val (.int f1), .val (.int f2), .val (.int v0), .val (.int v1), .val (.int v2), .val (.ref b143), .val (.ref b161), .val (.ref b163), .val (.int (0 : Int32)), .unset]) rfl ?_
          refine st188 _ ?_
          refine XS.dup X188.here hx rfl (hb hby at_223) rfl rfl ?_
          refine XS.aload X188.here hx rfl (hb hby at_224) rfl rfl ?_
          show Steps p.tables e below (T188.setTop (mkF m 226 #[.val (.int p1), .val (.int p2), .val (.int p3), .val (.int (2 : Int32)), .val (.int f0), .val (.int f1), .val (.int f2), .val (.int v0), .val (.int v1), .val (.int v2), .val (.ref b143), .val (.ref b161), .val (.ref b163), .val (.int (0 : Int32)), .unset] [(.ref b161), (.ref b188), (.ref b188)])) _
          refine XS.aload X188.here hx rfl (hb hby at_226) rfl rfl ?_
          refine st190.trans ?_
          refine XS.astore X190.here hx rfl (hb hby at_231) rfl rfl (l' := #[.val (.int p1), .val (.int p2), .val (.int p3), .val (.int (2 : Int32)), .val (.int f0), .val (.int f1), .val (.int f2), .val (.int v0), .val (.int v1), .val (.int v2), .val (.ref b143), .val (.ref b161), .val (.ref b163), .val (.int (0 : Int32)), .val (.ref b188)]) rfl ?_
          refine XS.aload X190.here hx rfl (hb hby at_233) rfl rfl ?_
          show Steps p.tables e below (T190.setTop (mkF m 235 #[.val (.int p1), .val (.int p2), .val (.int p3), .val (.int (2 : Int32)), .val (.int f0), .val (.int f1), .val (.int f2), .val (.int v0), .val (.int v1), .val (.int v2), .val (.ref b143), .val (.ref b161), .val (.ref b163), .val (.int (0 : Int32)), .val (.ref b188)] [(.ref b188)])) _
          refine XS.aload X190.here hx rfl (hb hby at_235) rfl rfl ?_
          refine st192.trans ?_
          refine XS.iload X192.here hx rfl (hb hby at_240) rfl ?_
          refine XS.icmpNo X192.here hx rfl (hb hby at_242) rfl (teq (by simp only [if_pos hc180_178, if_neg hc195_181])).2 ?_
          show Steps p.tables e below (T192.setTop (mkF m 245 #[.val (.int p1), .val (.int p2), .val (.int p3), .val (.int (2 : Int32)), .val (.int f0), .val (.int f1), .val (.int f2), .val (.int v0), .val (.int v1), .val (.int v2), .val (.ref b143), .val (.ref b161), .val (.ref b163), .val (.int (0 : Int32)), .val (.ref b188)] [])) _
          refine XS.iconst X192.here hx rfl (hb hby at_245) ?_
          refine XS.goto X192.here hx rfl (pc0 := 246) (pc' := 250) rfl (hb hby at_246) (by decide) (by decide) ?_
          exact retN X192 hx (t := .boolean) Bd.returns (by simp) (hb hby at_250) hr
        · show Q_rm0 Z p1 p2 p3 h0 n0 _ T192.heap _
          rw [e192]
          exact ⟨rfl, N192, trivial⟩
    · obtain ⟨T193, h193, X193, e193, E193, A193, D193, -, st193⟩ := newO X175 hx hZ hown (wd_1 hw) (wd_2 hw) (wd_3 hw) e175 (g := (mkF m 220 #[.val (.int p1), .val (.int p2), .val (.int p3), .val (.int (2 : Int32)), .val (.int f0), .val (.int f1), .val (.int f2), .val (.int v0), .val (.int v1), .val (.int v2), .val (.ref b143), .val (.ref b161), .val (.ref b163), .val (.int (0 : Int32)), .unset] [])) rfl (hb hby at_220) (by decide) (by decide)
      obtain ⟨b193, g193⟩ : ∃ z, z = h175.size := ⟨_, rfl⟩
      rw [← g193] at A193 D193 st193
      have g_b193 : n0 ≤ b193 := Nat.le_trans Z176 (Nat.le_of_eq g193.symm)
      have ne_b143_b193 : b143 ≠ b193 := Nat.ne_of_lt (Nat.lt_of_lt_of_le (((((((V_b143_159.ext E161).ext E163).other W166 ne_b143_b161).other W169 ne_b143_b163).other W172 ne_b143_b161).other W175 ne_b143_b163)).lt (Nat.le_of_eq g193.symm))
      have ne_b161_b193 : b161 ≠ b193 := Nat.ne_of_lt (Nat.lt_of_lt_of_le ((V_b161_172.other W175 ne_b161_b163)).lt (Nat.le_of_eq g193.symm))
      have ne_b163_b193 : b163 ≠ b193 := Nat.ne_of_lt (Nat.lt_of_lt_of_le (V_b163_175).lt (Nat.le_of_eq g193.symm))
      have Z194 : n0 ≤ h193.size := Nat.le_trans Z176 E193.1
      have F_features_b193 : Fld Z h193 b193 "com/example/counterlens/counterlens/Rules$Forbidden" "features" "[I" .null := D193 (Or.inr (wd_16 hw)) (ty := (.array .int)) (by decide)
      have F_values_b193 : Fld Z h193 b193 "com/example/counterlens/counterlens/Rules$Forbidden" "values" "[I" .null := D193 (Or.inr (wd_18 hw)) (ty := (.array .int)) (by decide)
      obtain ⟨_, _, ⟨T195, L195, k195, n195⟩, -, X195, ⟨Lc195, hQ195, l195, y195, z195⟩, st195⟩ := X193.specialBack hx (y := (⟨"com/example/counterlens/counterlens/Rules$Forbidden", "<init>", "([I[I)V"⟩ : MethodName)) rfl hown (mvT hZ (wd_4 hw)) (mvT hZ (wd_5 hw)) (mvT hZ (wd_6 hw)) (by decide) (backOf (W := 1) (rm1 l Z a0 hw [] b193 b161 b163 .null .null h193 n0 Z194 F_features_b193 F_values_b193 A193 g_b193) hZ (wd_6 hw) (wd_3 hw) (by decide) (by decide)) (g := (mkF m 228 #[.val (.int p1), .val (.int p2), .val (.int p3), .val (.int (2 : Int32)), .val (.int f0), .val (.int f1), .val (.int f2), .val (.int v0), .val (.int v1), .val (.int v2), .val (.ref b143), .val (.ref b161), .val (.ref b163), .val (.int (0 : Int32)), .unset] [(.ref b163), (.ref b161), (.ref b193), (.ref b193)])) rfl (by rw [hml]; rfl) (Steps.refl _) (a := b193) (argsL := [(.ref b161), (.ref b163)]) (rest := [(.ref b193)]) (lenOf pd___I_I_V rfl) rfl (by show 2 * 0 + _ ≤ _; exact Nat.le_of_eq rfl) (hb hby at_228) (fun _ _ => ⟨rfl, e193, (by decide : 4 + 0 ≤ _), (by decide : 10 + 0 ≤ _)⟩)
      dsimp only [Pt.U, Pt.locs, Pt.cells, Pt.slots] at X195 l195 y195 z195 st195 hQ195
      subst l195 y195 z195
      obtain ⟨rfl, N195q, K195q, g195_0, g195_1, g195_2⟩ := hQ195
      have N195 := Fr.app N175 N195q
      have Z196 : n0 ≤ T195.heap.size := Nat.le_trans Z194 K195q.1
      obtain ⟨cq197, kq197, q197a, q197b, q197c⟩ := isOf hZ rfl (g195_0)
      obtain ⟨_, _, ⟨T197, L197, k197, n197⟩, -, X197, ⟨Lc197, hQ197, l197, y197, z197⟩, st197⟩ := X195.virtualBack hx (y := (⟨"com/example/counterlens/counterlens/Rules$Forbidden", "matches", "([I)Z"⟩ : MethodName)) (z := (⟨"com/example/counterlens/counterlens/Rules$Forbidden", "matches", "([I)Z"⟩ : MethodName)) hown (mvT hZ (wd_19 hw)) (mvT hZ (wd_20 hw)) (notFace_of_selects (args := #[]) (mvT hZ (wd_22 hw))) (mvT hZ (wd_22 hw)) (mvT hZ (wd_21 hw)) (by decide) (backOf (W := 0) (rmm2 l Z a0 hw [] b193 b143 b161 b163 k161 k163 k143 f0 f1 v0 v1 ea eb ec ed T195.heap n0 Z196 g195_1 g195_2 (((V_b161_172.other W175 ne_b161_b163).ext E193).keep K195q (ninS ne_b161_b193 nin0)) ((V_b163_175.ext E193).keep K195q (ninS ne_b163_b193 nin0)) ((((((((V_b143_159.ext E161).ext E163).other W166 ne_b143_b161).other W169 ne_b143_b163).other W172 ne_b143_b161).other W175 ne_b143_b163).ext E193).keep K195q (ninS ne_b143_b193 nin0)) hb_f0 hb_f1) hZ (wd_23 hw) (wd_3 hw) (by decide) (by decide)) q197a q197c (g := (mkF m 237 #[.val (.int p1), .val (.int p2), .val (.int p3), .val (.int (2 : Int32)), .val (.int f0), .val (.int f1), .val (.int f2), .val (.int v0), .val (.int v1), .val (.int v2), .val (.ref b143), .val (.ref b161), .val (.ref b163), .val (.int (0 : Int32)), .val (.ref b193)] [(.ref b143), (.ref b193)])) rfl (by rw [hml]; rfl) (Steps.refl _) (argsL := [(.ref b143)]) (rest := []) (lenOf pd___I_Z rfl) rfl (by show 2 * 0 + _ ≤ _; exact Nat.le_of_eq rfl) (hb hby at_237) (fun _ _ => ⟨rfl, rfl, (by decide : 4 + 0 ≤ _), (by decide : 10 + 0 ≤ _)⟩)
      dsimp only [Pt.U, Pt.locs, Pt.cells, Pt.slots] at X197 l197 y197 z197 st197 hQ197
      subst l197 y197 z197
      obtain ⟨rfl, N197q, e197⟩ := hQ197
      have N197 := Fr.app N195 N197q
      obtain ⟨fs, hr, hrun, hended, hW, hsame⟩ := X197.leave (v := some (.int (1 : Int32))) (fun h => by rw [Bd.returns] at h; cases h)
      refine ⟨_, _, pre179 _ ?_, hrun, hended, _, _, rfl, ?_, ⟨_, rfl⟩, hW, hsame.mono (by decide) (by decide)⟩
      · show Steps p.tables e below (T175.setTop (mkF m 180 #[.val (.int p1), .val (.int p2), .val (.int p3), .val (.int (2 : Int32)), .val (.int f0), .val (.int f1), .val (.int f2), .val (.int v0), .val (.int v1), .val (.int v2), .val (.ref b143), .val (.ref b161), .val (.ref b163), .unset, .unset] [(.int v0), (.int (own_sel4 f0 ea eb ec ed))])) _
        refine XS.icmpYes X175.here hx rfl (pc0 := 180) (pc' := 217) rfl (hb hby at_180) rfl (feq hc180_178).2 (by decide) (by decide) ?_
        refine XS.iconst X175.here hx rfl (hb hby at_217) ?_
        show Steps p.tables e below (T175.setTop (mkF m 218 #[.val (.int p1), .val (.int p2), .val (.int p3), .val (.int (2 : Int32)), .val (.int f0), .val (.int f1), .val (.int f2), .val (.int v0), .val (.int v1), .val (.int v2), .val (.ref b143), .val (.ref b161), .val (.ref b163), .unset, .unset] [(.int (0 : Int32))])) _
        refine XS.istore X175.here hx rfl (hb hby at_218) rfl (l' := #[.val (.int p1), .val (.int p2), .val (.int p3), .val (.int (2 : Int32)), .val (.int f0), .val (.int f1), .val (.int f2), .val (.int v0), .val (.int v1), .val (.int v2), .val (.ref b143), .val (.ref b161), .val (.ref b163), .val (.int (0 : Int32)), .unset]) rfl ?_
        refine st193 _ ?_
        refine XS.dup X193.here hx rfl (hb hby at_223) rfl rfl ?_
        refine XS.aload X193.here hx rfl (hb hby at_224) rfl rfl ?_
        show Steps p.tables e below (T193.setTop (mkF m 226 #[.val (.int p1), .val (.int p2), .val (.int p3), .val (.int (2 : Int32)), .val (.int f0), .val (.int f1), .val (.int f2), .val (.int v0), .val (.int v1), .val (.int v2), .val (.ref b143), .val (.ref b161), .val (.ref b163), .val (.int (0 : Int32)), .unset] [(.ref b161), (.ref b193), (.ref b193)])) _
        refine XS.aload X193.here hx rfl (hb hby at_226) rfl rfl ?_
        refine st195.trans ?_
        refine XS.astore X195.here hx rfl (hb hby at_231) rfl rfl (l' := #[.val (.int p1), .val (.int p2), .val (.int p3), .val (.int (2 : Int32)), .val (.int f0), .val (.int f1), .val (.int f2), .val (.int v0), .val (.int v1), .val (.int v2), .val (.ref b143), .val (.ref b161), .val (.ref b163), .val (.int (0 : Int32)), .val (.ref b193)]) rfl ?_
        refine XS.aload X195.here hx rfl (hb hby at_233) rfl rfl ?_
        show Steps p.tables e below (T195.setTop (mkF m 235 #[.val (.int p1), .val (.int p2), .val (.int p3), .val (.int (2 : Int32)), .val (.int f0), .val (.int f1), .val (.int f2), .val (.int v0), .val (.int v1), .val (.int v2), .val (.ref b143), .val (.ref b161), .val (.ref b163), .val (.int (0 : Int32)), .val (.ref b193)] [(.ref b193)])) _
        refine XS.aload X195.here hx rfl (hb hby at_235) rfl rfl ?_
        refine st197.trans ?_
        refine XS.iload X197.here hx rfl (hb hby at_240) rfl ?_
        refine XS.icmpNo X197.here hx rfl (hb hby at_242) rfl (teq (by simp only [if_neg hc180_178])).2 ?_
        show Steps p.tables e below (T197.setTop (mkF m 245 #[.val (.int p1), .val (.int p2), .val (.int p3), .val (.int (2 : Int32)), .val (.int f0), .val (.int f1), .val (.int f2), .val (.int v0), .val (.int v1), .val (.int v2), .val (.ref b143), .val (.ref b161), .val (.ref b163), .val (.int (0 : Int32)), .val (.ref b193)] [])) _
        refine XS.iconst X197.here hx rfl (hb hby at_245) ?_
        refine XS.goto X197.here hx rfl (pc0 := 246) (pc' := 250) rfl (hb hby at_246) (by decide) (by decide) ?_
        exact retN X197 hx (t := .boolean) Bd.returns (by simp) (hb hby at_250) hr
      · show Q_rm0 Z p1 p2 p3 h0 n0 _ T197.heap _
        rw [e197]
        exact ⟨rfl, N197, trivial⟩
  · obtain ⟨f0, hf0⟩ : ∃ z : Int32, z = (((p1.toUInt32 >>> ((2 : Int32) &&& 31).toUInt32).toInt32) &&& (3 : Int32)) := ⟨_, rfl⟩
    obtain ⟨f1, hf1⟩ : ∃ z : Int32, z = (((p1.toUInt32 >>> ((4 : Int32) &&& 31).toUInt32).toInt32) &&& (3 : Int32)) := ⟨_, rfl⟩
    obtain ⟨f2, hf2⟩ : ∃ z : Int32, z = (((p1.toUInt32 >>> ((6 : Int32) &&& 31).toUInt32).toInt32) &&& (3 : Int32)) := ⟨_, rfl⟩
    obtain ⟨v0, hv0⟩ : ∃ z : Int32, z = ((p2 &&& (7 : Int32)) - (3 : Int32)) := ⟨_, rfl⟩
    obtain ⟨v1, hv1⟩ : ∃ z : Int32, z = ((((p2.toUInt32 >>> ((3 : Int32) &&& 31).toUInt32).toInt32) &&& (7 : Int32)) - (3 : Int32)) := ⟨_, rfl⟩
    obtain ⟨v2, hv2⟩ : ∃ z : Int32, z = ((((p2.toUInt32 >>> ((6 : Int32) &&& 31).toUInt32).toInt32) &&& (7 : Int32)) - (3 : Int32)) := ⟨_, rfl⟩
    have pre198 : ∀ t, Steps p.tables e below (s₁.setTop (mkF m 55 #[.val (.int p1), .val (.int p2), .val (.int p3), .val (.int (3 : Int32)), .val (.int f0), .val (.int f1), .val (.int f2), .val (.int v0), .val (.int v1), .val (.int v2), .unset, .unset, .unset, .unset, .unset] [])) t → Steps p.tables e below (s₁.setTop (entryFrame m #[(.int p1), (.int p2), (.int p3)] maxLocals)) t := by
      intro t kt
      rw [hf0, hf1, hf2, hv0, hv1, hv2] at kt
      refine pre71 _ ?_
      show Steps p.tables e below (s₁.setTop (mkF m 4 #[.val (.int p1), .val (.int p2), .val (.int p3), .val (.int (3 : Int32)), .unset, .unset, .unset, .unset, .unset, .unset, .unset, .unset, .unset, .unset, .unset] [])) _
      refine XS.iloadN X0.here hx rfl (hb hby at_4) rfl ?_
      refine XS.iconst X0.here hx rfl (hb hby at_5) ?_
      refine XS.iushr X0.here hx rfl (hb hby at_6) rfl ?_
      refine XS.iconst X0.here hx rfl (hb hby at_7) ?_
      show Steps p.tables e below (s₁.setTop (mkF m 8 #[.val (.int p1), .val (.int p2), .val (.int p3), .val (.int (3 : Int32)), .unset, .unset, .unset, .unset, .unset, .unset, .unset, .unset, .unset, .unset, .unset] [(.int (3 : Int32)), (.int ((p1.toUInt32 >>> ((2 : Int32) &&& 31).toUInt32).toInt32))])) _
      refine XS.iand X0.here hx rfl (hb hby at_8) rfl ?_
      refine XS.istore X0.here hx rfl (hb hby at_9) rfl (l' := #[.val (.int p1), .val (.int p2), .val (.int p3), .val (.int (3 : Int32)), .val (.int (((p1.toUInt32 >>> ((2 : Int32) &&& 31).toUInt32).toInt32) &&& (3 : Int32))), .unset, .unset, .unset, .unset, .unset, .unset, .unset, .unset, .unset, .unset]) rfl ?_
      refine XS.iloadN X0.here hx rfl (hb hby at_11) rfl ?_
      refine XS.iconst X0.here hx rfl (hb hby at_12) ?_
      show Steps p.tables e below (s₁.setTop (mkF m 13 #[.val (.int p1), .val (.int p2), .val (.int p3), .val (.int (3 : Int32)), .val (.int (((p1.toUInt32 >>> ((2 : Int32) &&& 31).toUInt32).toInt32) &&& (3 : Int32))), .unset, .unset, .unset, .unset, .unset, .unset, .unset, .unset, .unset, .unset] [(.int (4 : Int32)), (.int p1)])) _
      refine XS.iushr X0.here hx rfl (hb hby at_13) rfl ?_
      refine XS.iconst X0.here hx rfl (hb hby at_14) ?_
      refine XS.iand X0.here hx rfl (hb hby at_15) rfl ?_
      refine XS.istore X0.here hx rfl (hb hby at_16) rfl (l' := #[.val (.int p1), .val (.int p2), .val (.int p3), .val (.int (3 : Int32)), .val (.int (((p1.toUInt32 >>> ((2 : Int32) &&& 31).toUInt32).toInt32) &&& (3 : Int32))), .val (.int (((p1.toUInt32 >>> ((4 : Int32) &&& 31).toUInt32).toInt32) &&& (3 : Int32))), .unset, .unset, .unset, .unset, .unset, .unset, .unset, .unset, .unset]) rfl ?_
      show Steps p.tables e below (s₁.setTop (mkF m 18 #[.val (.int p1), .val (.int p2), .val (.int p3), .val (.int (3 : Int32)), .val (.int (((p1.toUInt32 >>> ((2 : Int32) &&& 31).toUInt32).toInt32) &&& (3 : Int32))), .val (.int (((p1.toUInt32 >>> ((4 : Int32) &&& 31).toUInt32).toInt32) &&& (3 : Int32))), .unset, .unset, .unset, .unset, .unset, .unset, .unset, .unset, .unset] [])) _
      refine XS.iloadN X0.here hx rfl (hb hby at_18) rfl ?_
      refine XS.bipush X0.here hx rfl (hb hby at_19) ?_
      refine XS.iushr X0.here hx rfl (hb hby at_21) rfl ?_
      refine XS.iconst X0.here hx rfl (hb hby at_22) ?_
      show Steps p.tables e below (s₁.setTop (mkF m 23 #[.val (.int p1), .val (.int p2), .val (.int p3), .val (.int (3 : Int32)), .val (.int (((p1.toUInt32 >>> ((2 : Int32) &&& 31).toUInt32).toInt32) &&& (3 : Int32))), .val (.int (((p1.toUInt32 >>> ((4 : Int32) &&& 31).toUInt32).toInt32) &&& (3 : Int32))), .unset, .unset, .unset, .unset, .unset, .unset, .unset, .unset, .unset] [(.int (3 : Int32)), (.int ((p1.toUInt32 >>> ((6 : Int32) &&& 31).toUInt32).toInt32))])) _
      refine XS.iand X0.here hx rfl (hb hby at_23) rfl ?_
      refine XS.istore X0.here hx rfl (hb hby at_24) rfl (l' := #[.val (.int p1), .val (.int p2), .val (.int p3), .val (.int (3 : Int32)), .val (.int (((p1.toUInt32 >>> ((2 : Int32) &&& 31).toUInt32).toInt32) &&& (3 : Int32))), .val (.int (((p1.toUInt32 >>> ((4 : Int32) &&& 31).toUInt32).toInt32) &&& (3 : Int32))), .val (.int (((p1.toUInt32 >>> ((6 : Int32) &&& 31).toUInt32).toInt32) &&& (3 : Int32))), .unset, .unset, .unset, .unset, .unset, .unset, .unset, .unset]) rfl ?_
      refine XS.iloadN X0.here hx rfl (hb hby at_26) rfl ?_
      refine XS.bipush X0.here hx rfl (hb hby at_27) ?_
      show Steps p.tables e below (s₁.setTop (mkF m 29 #[.val (.int p1), .val (.int p2), .val (.int p3), .val (.int (3 : Int32)), .val (.int (((p1.toUInt32 >>> ((2 : Int32) &&& 31).toUInt32).toInt32) &&& (3 : Int32))), .val (.int (((p1.toUInt32 >>> ((4 : Int32) &&& 31).toUInt32).toInt32) &&& (3 : Int32))), .val (.int (((p1.toUInt32 >>> ((6 : Int32) &&& 31).toUInt32).toInt32) &&& (3 : Int32))), .unset, .unset, .unset, .unset, .unset, .unset, .unset, .unset] [(.int (7 : Int32)), (.int p2)])) _
      refine XS.iand X0.here hx rfl (hb hby at_29) rfl ?_
      refine XS.iconst X0.here hx rfl (hb hby at_30) ?_
      refine XS.isub X0.here hx rfl (hb hby at_31) rfl ?_
      refine XS.istore X0.here hx rfl (hb hby at_32) rfl (l' := #[.val (.int p1), .val (.int p2), .val (.int p3), .val (.int (3 : Int32)), .val (.int (((p1.toUInt32 >>> ((2 : Int32) &&& 31).toUInt32).toInt32) &&& (3 : Int32))), .val (.int (((p1.toUInt32 >>> ((4 : Int32) &&& 31).toUInt32).toInt32) &&& (3 : Int32))), .val (.int (((p1.toUInt32 >>> ((6 : Int32) &&& 31).toUInt32).toInt32) &&& (3 : Int32))), .val (.int ((p2 &&& (7 : Int32)) - (3 : Int32))), .unset, .unset, .unset, .unset, .unset, .unset, .unset]) rfl ?_
      show Steps p.tables e below (s₁.setTop (mkF m 34 #[.val (.int p1), .val (.int p2), .val (.int p3), .val (.int (3 : Int32)), .val (.int (((p1.toUInt32 >>> ((2 : Int32) &&& 31).toUInt32).toInt32) &&& (3 : Int32))), .val (.int (((p1.toUInt32 >>> ((4 : Int32) &&& 31).toUInt32).toInt32) &&& (3 : Int32))), .val (.int (((p1.toUInt32 >>> ((6 : Int32) &&& 31).toUInt32).toInt32) &&& (3 : Int32))), .val (.int ((p2 &&& (7 : Int32)) - (3 : Int32))), .unset, .unset, .unset, .unset, .unset, .unset, .unset] [])) _
      refine XS.iloadN X0.here hx rfl (hb hby at_34) rfl ?_
      refine XS.iconst X0.here hx rfl (hb hby at_35) ?_
      refine XS.iushr X0.here hx rfl (hb hby at_36) rfl ?_
      refine XS.bipush X0.here hx rfl (hb hby at_37) ?_
      show Steps p.tables e below (s₁.setTop (mkF m 39 #[.val (.int p1), .val (.int p2), .val (.int p3), .val (.int (3 : Int32)), .val (.int (((p1.toUInt32 >>> ((2 : Int32) &&& 31).toUInt32).toInt32) &&& (3 : Int32))), .val (.int (((p1.toUInt32 >>> ((4 : Int32) &&& 31).toUInt32).toInt32) &&& (3 : Int32))), .val (.int (((p1.toUInt32 >>> ((6 : Int32) &&& 31).toUInt32).toInt32) &&& (3 : Int32))), .val (.int ((p2 &&& (7 : Int32)) - (3 : Int32))), .unset, .unset, .unset, .unset, .unset, .unset, .unset] [(.int (7 : Int32)), (.int ((p2.toUInt32 >>> ((3 : Int32) &&& 31).toUInt32).toInt32))])) _
      refine XS.iand X0.here hx rfl (hb hby at_39) rfl ?_
      refine XS.iconst X0.here hx rfl (hb hby at_40) ?_
      refine XS.isub X0.here hx rfl (hb hby at_41) rfl ?_
      refine XS.istore X0.here hx rfl (hb hby at_42) rfl (l' := #[.val (.int p1), .val (.int p2), .val (.int p3), .val (.int (3 : Int32)), .val (.int (((p1.toUInt32 >>> ((2 : Int32) &&& 31).toUInt32).toInt32) &&& (3 : Int32))), .val (.int (((p1.toUInt32 >>> ((4 : Int32) &&& 31).toUInt32).toInt32) &&& (3 : Int32))), .val (.int (((p1.toUInt32 >>> ((6 : Int32) &&& 31).toUInt32).toInt32) &&& (3 : Int32))), .val (.int ((p2 &&& (7 : Int32)) - (3 : Int32))), .val (.int ((((p2.toUInt32 >>> ((3 : Int32) &&& 31).toUInt32).toInt32) &&& (7 : Int32)) - (3 : Int32))), .unset, .unset, .unset, .unset, .unset, .unset]) rfl ?_
      show Steps p.tables e below (s₁.setTop (mkF m 44 #[.val (.int p1), .val (.int p2), .val (.int p3), .val (.int (3 : Int32)), .val (.int (((p1.toUInt32 >>> ((2 : Int32) &&& 31).toUInt32).toInt32) &&& (3 : Int32))), .val (.int (((p1.toUInt32 >>> ((4 : Int32) &&& 31).toUInt32).toInt32) &&& (3 : Int32))), .val (.int (((p1.toUInt32 >>> ((6 : Int32) &&& 31).toUInt32).toInt32) &&& (3 : Int32))), .val (.int ((p2 &&& (7 : Int32)) - (3 : Int32))), .val (.int ((((p2.toUInt32 >>> ((3 : Int32) &&& 31).toUInt32).toInt32) &&& (7 : Int32)) - (3 : Int32))), .unset, .unset, .unset, .unset, .unset, .unset] [])) _
      refine XS.iloadN X0.here hx rfl (hb hby at_44) rfl ?_
      refine XS.bipush X0.here hx rfl (hb hby at_45) ?_
      refine XS.iushr X0.here hx rfl (hb hby at_47) rfl ?_
      refine XS.bipush X0.here hx rfl (hb hby at_48) ?_
      show Steps p.tables e below (s₁.setTop (mkF m 50 #[.val (.int p1), .val (.int p2), .val (.int p3), .val (.int (3 : Int32)), .val (.int (((p1.toUInt32 >>> ((2 : Int32) &&& 31).toUInt32).toInt32) &&& (3 : Int32))), .val (.int (((p1.toUInt32 >>> ((4 : Int32) &&& 31).toUInt32).toInt32) &&& (3 : Int32))), .val (.int (((p1.toUInt32 >>> ((6 : Int32) &&& 31).toUInt32).toInt32) &&& (3 : Int32))), .val (.int ((p2 &&& (7 : Int32)) - (3 : Int32))), .val (.int ((((p2.toUInt32 >>> ((3 : Int32) &&& 31).toUInt32).toInt32) &&& (7 : Int32)) - (3 : Int32))), .unset, .unset, .unset, .unset, .unset, .unset] [(.int (7 : Int32)), (.int ((p2.toUInt32 >>> ((6 : Int32) &&& 31).toUInt32).toInt32))])) _
      refine XS.iand X0.here hx rfl (hb hby at_50) rfl ?_
      refine XS.iconst X0.here hx rfl (hb hby at_51) ?_
      refine XS.isub X0.here hx rfl (hb hby at_52) rfl ?_
      refine XS.istore X0.here hx rfl (hb hby at_53) rfl (l' := #[.val (.int p1), .val (.int p2), .val (.int p3), .val (.int (3 : Int32)), .val (.int (((p1.toUInt32 >>> ((2 : Int32) &&& 31).toUInt32).toInt32) &&& (3 : Int32))), .val (.int (((p1.toUInt32 >>> ((4 : Int32) &&& 31).toUInt32).toInt32) &&& (3 : Int32))), .val (.int (((p1.toUInt32 >>> ((6 : Int32) &&& 31).toUInt32).toInt32) &&& (3 : Int32))), .val (.int ((p2 &&& (7 : Int32)) - (3 : Int32))), .val (.int ((((p2.toUInt32 >>> ((3 : Int32) &&& 31).toUInt32).toInt32) &&& (7 : Int32)) - (3 : Int32))), .val (.int ((((p2.toUInt32 >>> ((6 : Int32) &&& 31).toUInt32).toInt32) &&& (7 : Int32)) - (3 : Int32))), .unset, .unset, .unset, .unset, .unset]) rfl ?_
      show Steps p.tables e below (s₁.setTop (mkF m 55 #[.val (.int p1), .val (.int p2), .val (.int p3), .val (.int (3 : Int32)), .val (.int (((p1.toUInt32 >>> ((2 : Int32) &&& 31).toUInt32).toInt32) &&& (3 : Int32))), .val (.int (((p1.toUInt32 >>> ((4 : Int32) &&& 31).toUInt32).toInt32) &&& (3 : Int32))), .val (.int (((p1.toUInt32 >>> ((6 : Int32) &&& 31).toUInt32).toInt32) &&& (3 : Int32))), .val (.int ((p2 &&& (7 : Int32)) - (3 : Int32))), .val (.int ((((p2.toUInt32 >>> ((3 : Int32) &&& 31).toUInt32).toInt32) &&& (7 : Int32)) - (3 : Int32))), .val (.int ((((p2.toUInt32 >>> ((6 : Int32) &&& 31).toUInt32).toInt32) &&& (7 : Int32)) - (3 : Int32))), .unset, .unset, .unset, .unset, .unset] [])) _
      exact kt
    have hb_f0 : ¬ f0 < 0 ∧ f0 < (4 : Int32) := by rw [hf0]; exact own_and3 _
    have hb_f1 : ¬ f1 < 0 ∧ f1 < (4 : Int32) := by rw [hf1]; exact own_and3 _
    have hb_f2 : ¬ f2 < 0 ∧ f2 < (4 : Int32) := by rw [hf2]; exact own_and3 _
    obtain ⟨T199, h199, k199, X199, e199, E199, A199, st199⟩ := newP (aty := .int) X0 hx hZ (wd_0 hw) e0 (g := (mkF m 56 #[.val (.int p1), .val (.int p2), .val (.int p3), .val (.int (3 : Int32)), .val (.int f0), .val (.int f1), .val (.int f2), .val (.int v0), .val (.int v1), .val (.int v2), .unset, .unset, .unset, .unset, .unset] [(.int (4 : Int32))])) rfl (hb hby at_56) rfl (by decide) (cap := 4) (by decide) (by decide) (by decide) (by decide)
    obtain ⟨b199, g199⟩ : ∃ z, z = h0.size := ⟨_, rfl⟩
    rw [← g199] at A199 st199
    have g_b199 : n0 ≤ b199 := Nat.le_trans Z0 (Nat.le_of_eq g199.symm)
    have Z200 : n0 ≤ h199.size := Nat.le_trans Z0 E199.1
    have V0_b199 := (Arv.new A199 (by decide)).pad (pad_rep [] (.int (0 : Int32)) 4)
    have V_b199 : Arv Z h199 b199 k199 .int (4 : Int32) [(.int (0 : Int32)), (.int (0 : Int32)), (.int (0 : Int32)), (.int (0 : Int32))] (.int (0 : Int32)) := V0_b199
    obtain ⟨ea, hea⟩ : ∃ z : Int32, z = ((p3 &&& (7 : Int32)) - (3 : Int32)) := ⟨_, rfl⟩
    have pre201 : ∀ t, Steps p.tables e below (T199.setTop (mkF m 69 #[.val (.int p1), .val (.int p2), .val (.int p3), .val (.int (3 : Int32)), .val (.int f0), .val (.int f1), .val (.int f2), .val (.int v0), .val (.int v1), .val (.int v2), .val (.ref b199), .unset, .unset, .unset, .unset] [(.int ea), (.int (0 : Int32)), (.ref b199)])) t → Steps p.tables e below (s₁.setTop (entryFrame m #[(.int p1), (.int p2), (.int p3)] maxLocals)) t := by
      intro t kt
      rw [hea] at kt
      refine pre198 _ ?_
      show Steps p.tables e below (s₁.setTop (mkF m 55 #[.val (.int p1), .val (.int p2), .val (.int p3), .val (.int (3 : Int32)), .val (.int f0), .val (.int f1), .val (.int f2), .val (.int v0), .val (.int v1), .val (.int v2), .unset, .unset, .unset, .unset, .unset] [])) _
      refine XS.iconst X0.here hx rfl (hb hby at_55) ?_
      refine st199 _ ?_
      refine XS.astore X199.here hx rfl (hb hby at_58) rfl rfl (l' := #[.val (.int p1), .val (.int p2), .val (.int p3), .val (.int (3 : Int32)), .val (.int f0), .val (.int f1), .val (.int f2), .val (.int v0), .val (.int v1), .val (.int v2), .val (.ref b199), .unset, .unset, .unset, .unset]) rfl ?_
      refine XS.aload X199.here hx rfl (hb hby at_60) rfl rfl ?_
      show Steps p.tables e below (T199.setTop (mkF m 62 #[.val (.int p1), .val (.int p2), .val (.int p3), .val (.int (3 : Int32)), .val (.int f0), .val (.int f1), .val (.int f2), .val (.int v0), .val (.int v1), .val (.int v2), .val (.ref b199), .unset, .unset, .unset, .unset] [(.ref b199)])) _
      refine XS.iconst X199.here hx rfl (hb hby at_62) ?_
      refine XS.iloadN X199.here hx rfl (hb hby at_63) rfl ?_
      refine XS.bipush X199.here hx rfl (hb hby at_64) ?_
      refine XS.iand X199.here hx rfl (hb hby at_66) rfl ?_
      show Steps p.tables e below (T199.setTop (mkF m 67 #[.val (.int p1), .val (.int p2), .val (.int p3), .val (.int (3 : Int32)), .val (.int f0), .val (.int f1), .val (.int f2), .val (.int v0), .val (.int v1), .val (.int v2), .val (.ref b199), .unset, .unset, .unset, .unset] [(.int (p3 &&& (7 : Int32))), (.int (0 : Int32)), (.ref b199)])) _
      refine XS.iconst X199.here hx rfl (hb hby at_67) ?_
      refine XS.isub X199.here hx rfl (hb hby at_68) rfl ?_
      exact kt
    obtain ⟨cl202, Ar202, q202, S202, N202n, H202, G202⟩ := id (V_b199)
    have hin202 : ¬ ((0 : Int32) < 0 ∨ cl202.slots.size ≤ ((0 : Int32)).toNatClampNeg) := inb_of S202 ⟨by decide, by decide⟩
    obtain ⟨T203, h203, X203, e203, W203, st203⟩ := stI X199 hx hZ e199 Ar202 (j := (0 : Int32)) hin202 (g := (mkF m 69 #[.val (.int p1), .val (.int p2), .val (.int p3), .val (.int (3 : Int32)), .val (.int f0), .val (.int f1), .val (.int f2), .val (.int v0), .val (.int v1), .val (.int v2), .val (.ref b199), .unset, .unset, .unset, .unset] [(.int ea), (.int (0 : Int32)), (.ref b199)])) rfl rfl (hb hby at_69)
    have V_b199_203 : Arv Z h203 b199 k199 .int (4 : Int32) [(.int ea), (.int (0 : Int32)), (.int (0 : Int32)), (.int (0 : Int32))] (.int (0 : Int32)) := Arv.set Ar202 q202 S202 N202n H202 G202 rfl W203 0 rfl (Nat.le_of_ble_eq_true rfl)
    have Z204 : n0 ≤ h203.size := Nat.le_trans Z200 (Keep.of_wr W203).1
    have N203 := Fr.snoc X203 N0 g_b199
    obtain ⟨eb, heb⟩ : ∃ z : Int32, z = ((((p3.toUInt32 >>> ((3 : Int32) &&& 31).toUInt32).toInt32) &&& (7 : Int32)) - (3 : Int32)) := ⟨_, rfl⟩
    have pre205 : ∀ t, Steps p.tables e below (T203.setTop (mkF m 81 #[.val (.int p1), .val (.int p2), .val (.int p3), .val (.int (3 : Int32)), .val (.int f0), .val (.int f1), .val (.int f2), .val (.int v0), .val (.int v1), .val (.int v2), .val (.ref b199), .unset, .unset, .unset, .unset] [(.int eb), (.int (1 : Int32)), (.ref b199)])) t → Steps p.tables e below (s₁.setTop (entryFrame m #[(.int p1), (.int p2), (.int p3)] maxLocals)) t := by
      intro t kt
      rw [heb] at kt
      refine pre201 _ ?_
      show Steps p.tables e below (T199.setTop (mkF m 69 #[.val (.int p1), .val (.int p2), .val (.int p3), .val (.int (3 : Int32)), .val (.int f0), .val (.int f1), .val (.int f2), .val (.int v0), .val (.int v1), .val (.int v2), .val (.ref b199), .unset, .unset, .unset, .unset] [(.int ea), (.int (0 : Int32)), (.ref b199)])) _
      refine st203 _ ?_
      refine XS.aload X203.here hx rfl (hb hby at_70) rfl rfl ?_
      refine XS.iconst X203.here hx rfl (hb hby at_72) ?_
      refine XS.iloadN X203.here hx rfl (hb hby at_73) rfl ?_
      show Steps p.tables e below (T203.setTop (mkF m 74 #[.val (.int p1), .val (.int p2), .val (.int p3), .val (.int (3 : Int32)), .val (.int f0), .val (.int f1), .val (.int f2), .val (.int v0), .val (.int v1), .val (.int v2), .val (.ref b199), .unset, .unset, .unset, .unset] [(.int p3), (.int (1 : Int32)), (.ref b199)])) _
      refine XS.iconst X203.here hx rfl (hb hby at_74) ?_
      refine XS.iushr X203.here hx rfl (hb hby at_75) rfl ?_
      refine XS.bipush X203.here hx rfl (hb hby at_76) ?_
      refine XS.iand X203.here hx rfl (hb hby at_78) rfl ?_
      show Steps p.tables e below (T203.setTop (mkF m 79 #[.val (.int p1), .val (.int p2), .val (.int p3), .val (.int (3 : Int32)), .val (.int f0), .val (.int f1), .val (.int f2), .val (.int v0), .val (.int v1), .val (.int v2), .val (.ref b199), .unset, .unset, .unset, .unset] [(.int (((p3.toUInt32 >>> ((3 : Int32) &&& 31).toUInt32).toInt32) &&& (7 : Int32))), (.int (1 : Int32)), (.ref b199)])) _
      refine XS.iconst X203.here hx rfl (hb hby at_79) ?_
      refine XS.isub X203.here hx rfl (hb hby at_80) rfl ?_
      exact kt
    obtain ⟨cl206, Ar206, q206, S206, N206n, H206, G206⟩ := id (V_b199_203)
    have hin206 : ¬ ((1 : Int32) < 0 ∨ cl206.slots.size ≤ ((1 : Int32)).toNatClampNeg) := inb_of S206 ⟨by decide, by decide⟩
    obtain ⟨T207, h207, X207, e207, W207, st207⟩ := stI X203 hx hZ e203 Ar206 (j := (1 : Int32)) hin206 (g := (mkF m 81 #[.val (.int p1), .val (.int p2), .val (.int p3), .val (.int (3 : Int32)), .val (.int f0), .val (.int f1), .val (.int f2), .val (.int v0), .val (.int v1), .val (.int v2), .val (.ref b199), .unset, .unset, .unset, .unset] [(.int eb), (.int (1 : Int32)), (.ref b199)])) rfl rfl (hb hby at_81)
    have V_b199_207 : Arv Z h207 b199 k199 .int (4 : Int32) [(.int ea), (.int eb), (.int (0 : Int32)), (.int (0 : Int32))] (.int (0 : Int32)) := Arv.set Ar206 q206 S206 N206n H206 G206 rfl W207 1 rfl (Nat.le_of_ble_eq_true rfl)
    have Z208 : n0 ≤ h207.size := Nat.le_trans Z204 (Keep.of_wr W207).1
    have N207 := Fr.snoc X207 N203 g_b199
    obtain ⟨ec, hec⟩ : ∃ z : Int32, z = ((((p3.toUInt32 >>> ((6 : Int32) &&& 31).toUInt32).toInt32) &&& (7 : Int32)) - (3 : Int32)) := ⟨_, rfl⟩
    have pre209 : ∀ t, Steps p.tables e below (T207.setTop (mkF m 94 #[.val (.int p1), .val (.int p2), .val (.int p3), .val (.int (3 : Int32)), .val (.int f0), .val (.int f1), .val (.int f2), .val (.int v0), .val (.int v1), .val (.int v2), .val (.ref b199), .unset, .unset, .unset, .unset] [(.int ec), (.int (2 : Int32)), (.ref b199)])) t → Steps p.tables e below (s₁.setTop (entryFrame m #[(.int p1), (.int p2), (.int p3)] maxLocals)) t := by
      intro t kt
      rw [hec] at kt
      refine pre205 _ ?_
      show Steps p.tables e below (T203.setTop (mkF m 81 #[.val (.int p1), .val (.int p2), .val (.int p3), .val (.int (3 : Int32)), .val (.int f0), .val (.int f1), .val (.int f2), .val (.int v0), .val (.int v1), .val (.int v2), .val (.ref b199), .unset, .unset, .unset, .unset] [(.int eb), (.int (1 : Int32)), (.ref b199)])) _
      refine st207 _ ?_
      refine XS.aload X207.here hx rfl (hb hby at_82) rfl rfl ?_
      refine XS.iconst X207.here hx rfl (hb hby at_84) ?_
      refine XS.iloadN X207.here hx rfl (hb hby at_85) rfl ?_
      show Steps p.tables e below (T207.setTop (mkF m 86 #[.val (.int p1), .val (.int p2), .val (.int p3), .val (.int (3 : Int32)), .val (.int f0), .val (.int f1), .val (.int f2), .val (.int v0), .val (.int v1), .val (.int v2), .val (.ref b199), .unset, .unset, .unset, .unset] [(.int p3), (.int (2 : Int32)), (.ref b199)])) _
      refine XS.bipush X207.here hx rfl (hb hby at_86) ?_
      refine XS.iushr X207.here hx rfl (hb hby at_88) rfl ?_
      refine XS.bipush X207.here hx rfl (hb hby at_89) ?_
      refine XS.iand X207.here hx rfl (hb hby at_91) rfl ?_
      show Steps p.tables e below (T207.setTop (mkF m 92 #[.val (.int p1), .val (.int p2), .val (.int p3), .val (.int (3 : Int32)), .val (.int f0), .val (.int f1), .val (.int f2), .val (.int v0), .val (.int v1), .val (.int v2), .val (.ref b199), .unset, .unset, .unset, .unset] [(.int (((p3.toUInt32 >>> ((6 : Int32) &&& 31).toUInt32).toInt32) &&& (7 : Int32))), (.int (2 : Int32)), (.ref b199)])) _
      refine XS.iconst X207.here hx rfl (hb hby at_92) ?_
      refine XS.isub X207.here hx rfl (hb hby at_93) rfl ?_
      exact kt
    obtain ⟨cl210, Ar210, q210, S210, N210n, H210, G210⟩ := id (V_b199_207)
    have hin210 : ¬ ((2 : Int32) < 0 ∨ cl210.slots.size ≤ ((2 : Int32)).toNatClampNeg) := inb_of S210 ⟨by decide, by decide⟩
    obtain ⟨T211, h211, X211, e211, W211, st211⟩ := stI X207 hx hZ e207 Ar210 (j := (2 : Int32)) hin210 (g := (mkF m 94 #[.val (.int p1), .val (.int p2), .val (.int p3), .val (.int (3 : Int32)), .val (.int f0), .val (.int f1), .val (.int f2), .val (.int v0), .val (.int v1), .val (.int v2), .val (.ref b199), .unset, .unset, .unset, .unset] [(.int ec), (.int (2 : Int32)), (.ref b199)])) rfl rfl (hb hby at_94)
    have V_b199_211 : Arv Z h211 b199 k199 .int (4 : Int32) [(.int ea), (.int eb), (.int ec), (.int (0 : Int32))] (.int (0 : Int32)) := Arv.set Ar210 q210 S210 N210n H210 G210 rfl W211 2 rfl (Nat.le_of_ble_eq_true rfl)
    have Z212 : n0 ≤ h211.size := Nat.le_trans Z208 (Keep.of_wr W211).1
    have N211 := Fr.snoc X211 N207 g_b199
    obtain ⟨ed, hed⟩ : ∃ z : Int32, z = ((((p3.toUInt32 >>> ((9 : Int32) &&& 31).toUInt32).toInt32) &&& (7 : Int32)) - (3 : Int32)) := ⟨_, rfl⟩
    have pre213 : ∀ t, Steps p.tables e below (T211.setTop (mkF m 107 #[.val (.int p1), .val (.int p2), .val (.int p3), .val (.int (3 : Int32)), .val (.int f0), .val (.int f1), .val (.int f2), .val (.int v0), .val (.int v1), .val (.int v2), .val (.ref b199), .unset, .unset, .unset, .unset] [(.int ed), (.int (3 : Int32)), (.ref b199)])) t → Steps p.tables e below (s₁.setTop (entryFrame m #[(.int p1), (.int p2), (.int p3)] maxLocals)) t := by
      intro t kt
      rw [hed] at kt
      refine pre209 _ ?_
      show Steps p.tables e below (T207.setTop (mkF m 94 #[.val (.int p1), .val (.int p2), .val (.int p3), .val (.int (3 : Int32)), .val (.int f0), .val (.int f1), .val (.int f2), .val (.int v0), .val (.int v1), .val (.int v2), .val (.ref b199), .unset, .unset, .unset, .unset] [(.int ec), (.int (2 : Int32)), (.ref b199)])) _
      refine st211 _ ?_
      refine XS.aload X211.here hx rfl (hb hby at_95) rfl rfl ?_
      refine XS.iconst X211.here hx rfl (hb hby at_97) ?_
      refine XS.iloadN X211.here hx rfl (hb hby at_98) rfl ?_
      show Steps p.tables e below (T211.setTop (mkF m 99 #[.val (.int p1), .val (.int p2), .val (.int p3), .val (.int (3 : Int32)), .val (.int f0), .val (.int f1), .val (.int f2), .val (.int v0), .val (.int v1), .val (.int v2), .val (.ref b199), .unset, .unset, .unset, .unset] [(.int p3), (.int (3 : Int32)), (.ref b199)])) _
      refine XS.bipush X211.here hx rfl (hb hby at_99) ?_
      refine XS.iushr X211.here hx rfl (hb hby at_101) rfl ?_
      refine XS.bipush X211.here hx rfl (hb hby at_102) ?_
      refine XS.iand X211.here hx rfl (hb hby at_104) rfl ?_
      show Steps p.tables e below (T211.setTop (mkF m 105 #[.val (.int p1), .val (.int p2), .val (.int p3), .val (.int (3 : Int32)), .val (.int f0), .val (.int f1), .val (.int f2), .val (.int v0), .val (.int v1), .val (.int v2), .val (.ref b199), .unset, .unset, .unset, .unset] [(.int (((p3.toUInt32 >>> ((9 : Int32) &&& 31).toUInt32).toInt32) &&& (7 : Int32))), (.int (3 : Int32)), (.ref b199)])) _
      refine XS.iconst X211.here hx rfl (hb hby at_105) ?_
      refine XS.isub X211.here hx rfl (hb hby at_106) rfl ?_
      exact kt
    obtain ⟨cl214, Ar214, q214, S214, N214n, H214, G214⟩ := id (V_b199_211)
    have hin214 : ¬ ((3 : Int32) < 0 ∨ cl214.slots.size ≤ ((3 : Int32)).toNatClampNeg) := inb_of S214 ⟨by decide, by decide⟩
    obtain ⟨T215, h215, X215, e215, W215, st215⟩ := stI X211 hx hZ e211 Ar214 (j := (3 : Int32)) hin214 (g := (mkF m 107 #[.val (.int p1), .val (.int p2), .val (.int p3), .val (.int (3 : Int32)), .val (.int f0), .val (.int f1), .val (.int f2), .val (.int v0), .val (.int v1), .val (.int v2), .val (.ref b199), .unset, .unset, .unset, .unset] [(.int ed), (.int (3 : Int32)), (.ref b199)])) rfl rfl (hb hby at_107)
    have V_b199_215 : Arv Z h215 b199 k199 .int (4 : Int32) [(.int ea), (.int eb), (.int ec), (.int ed)] (.int (0 : Int32)) := Arv.set Ar214 q214 S214 N214n H214 G214 rfl W215 3 rfl (Nat.le_of_ble_eq_true rfl)
    have Z216 : n0 ≤ h215.size := Nat.le_trans Z212 (Keep.of_wr W215).1
    have N215 := Fr.snoc X215 N211 g_b199
    obtain ⟨T217, h217, k217, X217, e217, E217, A217, st217⟩ := newP (aty := .int) X215 hx hZ (wd_0 hw) e215 (g := (mkF m 109 #[.val (.int p1), .val (.int p2), .val (.int p3), .val (.int (3 : Int32)), .val (.int f0), .val (.int f1), .val (.int f2), .val (.int v0), .val (.int v1), .val (.int v2), .val (.ref b199), .unset, .unset, .unset, .unset] [(.int (3 : Int32))])) rfl (hb hby at_109) rfl (by decide) (cap := 3) (by decide) (by decide) (by decide) (by decide)
    obtain ⟨b217, g217⟩ : ∃ z, z = h215.size := ⟨_, rfl⟩
    rw [← g217] at A217 st217
    have g_b217 : n0 ≤ b217 := Nat.le_trans Z216 (Nat.le_of_eq g217.symm)
    have ne_b199_b217 : b199 ≠ b217 := Nat.ne_of_lt (Nat.lt_of_lt_of_le (V_b199_215).lt (Nat.le_of_eq g217.symm))
    have Z218 : n0 ≤ h217.size := Nat.le_trans Z216 E217.1
    have V0_b217 := (Arv.new A217 (by decide)).pad (pad_rep [] (.int (0 : Int32)) 3)
    have V_b217 : Arv Z h217 b217 k217 .int (3 : Int32) [(.int (0 : Int32)), (.int (0 : Int32)), (.int (0 : Int32))] (.int (0 : Int32)) := V0_b217
    obtain ⟨T219, h219, k219, X219, e219, E219, A219, st219⟩ := newP (aty := .int) X217 hx hZ (wd_0 hw) e217 (g := (mkF m 114 #[.val (.int p1), .val (.int p2), .val (.int p3), .val (.int (3 : Int32)), .val (.int f0), .val (.int f1), .val (.int f2), .val (.int v0), .val (.int v1), .val (.int v2), .val (.ref b199), .val (.ref b217), .unset, .unset, .unset] [(.int (3 : Int32))])) rfl (hb hby at_114) rfl (by decide) (cap := 3) (by decide) (by decide) (by decide) (by decide)
    obtain ⟨b219, g219⟩ : ∃ z, z = h217.size := ⟨_, rfl⟩
    rw [← g219] at A219 st219
    have g_b219 : n0 ≤ b219 := Nat.le_trans Z218 (Nat.le_of_eq g219.symm)
    have ne_b199_b219 : b199 ≠ b219 := Nat.ne_of_lt (Nat.lt_of_lt_of_le ((V_b199_215.ext E217)).lt (Nat.le_of_eq g219.symm))
    have ne_b217_b219 : b217 ≠ b219 := Nat.ne_of_lt (Nat.lt_of_lt_of_le (V_b217).lt (Nat.le_of_eq g219.symm))
    have Z220 : n0 ≤ h219.size := Nat.le_trans Z218 E219.1
    have V0_b219 := (Arv.new A219 (by decide)).pad (pad_rep [] (.int (0 : Int32)) 3)
    have V_b219 : Arv Z h219 b219 k219 .int (3 : Int32) [(.int (0 : Int32)), (.int (0 : Int32)), (.int (0 : Int32))] (.int (0 : Int32)) := V0_b219
    obtain ⟨cl221, Ar221, q221, S221, N221n, H221, G221⟩ := id ((V_b217.ext E219))
    have hin221 : ¬ ((0 : Int32) < 0 ∨ cl221.slots.size ≤ ((0 : Int32)).toNatClampNeg) := inb_of S221 ⟨by decide, by decide⟩
    obtain ⟨T222, h222, X222, e222, W222, st222⟩ := stI X219 hx hZ e219 Ar221 (j := (0 : Int32)) hin221 (g := (mkF m 127 #[.val (.int p1), .val (.int p2), .val (.int p3), .val (.int (3 : Int32)), .val (.int f0), .val (.int f1), .val (.int f2), .val (.int v0), .val (.int v1), .val (.int v2), .val (.ref b199), .val (.ref b217), .val (.ref b219), .unset, .unset] [(.int f0), (.int (0 : Int32)), (.ref b217)])) rfl rfl (hb hby at_127)
    have V_b217_222 : Arv Z h222 b217 k217 .int (3 : Int32) [(.int f0), (.int (0 : Int32)), (.int (0 : Int32))] (.int (0 : Int32)) := Arv.set Ar221 q221 S221 N221n H221 G221 rfl W222 0 rfl (Nat.le_of_ble_eq_true rfl)
    have Z223 : n0 ≤ h222.size := Nat.le_trans Z220 (Keep.of_wr W222).1
    have N222 := Fr.snoc X222 N215 g_b217
    obtain ⟨cl224, Ar224, q224, S224, N224n, H224, G224⟩ := id ((V_b219.other W222 (Ne.symm ne_b217_b219)))
    have hin224 : ¬ ((0 : Int32) < 0 ∨ cl224.slots.size ≤ ((0 : Int32)).toNatClampNeg) := inb_of S224 ⟨by decide, by decide⟩
    obtain ⟨T225, h225, X225, e225, W225, st225⟩ := stI X222 hx hZ e222 Ar224 (j := (0 : Int32)) hin224 (g := (mkF m 133 #[.val (.int p1), .val (.int p2), .val (.int p3), .val (.int (3 : Int32)), .val (.int f0), .val (.int f1), .val (.int f2), .val (.int v0), .val (.int v1), .val (.int v2), .val (.ref b199), .val (.ref b217), .val (.ref b219), .unset, .unset] [(.int v0), (.int (0 : Int32)), (.ref b219)])) rfl rfl (hb hby at_133)
    have V_b219_225 : Arv Z h225 b219 k219 .int (3 : Int32) [(.int v0), (.int (0 : Int32)), (.int (0 : Int32))] (.int (0 : Int32)) := Arv.set Ar224 q224 S224 N224n H224 G224 rfl W225 0 rfl (Nat.le_of_ble_eq_true rfl)
    have Z226 : n0 ≤ h225.size := Nat.le_trans Z223 (Keep.of_wr W225).1
    have N225 := Fr.snoc X225 N222 g_b219
    obtain ⟨cl227, Ar227, q227, S227, N227n, H227, G227⟩ := id ((V_b217_222.other W225 ne_b217_b219))
    have hin227 : ¬ ((1 : Int32) < 0 ∨ cl227.slots.size ≤ ((1 : Int32)).toNatClampNeg) := inb_of S227 ⟨by decide, by decide⟩
    obtain ⟨T228, h228, X228, e228, W228, st228⟩ := stI X225 hx hZ e225 Ar227 (j := (1 : Int32)) hin227 (g := (mkF m 144 #[.val (.int p1), .val (.int p2), .val (.int p3), .val (.int (3 : Int32)), .val (.int f0), .val (.int f1), .val (.int f2), .val (.int v0), .val (.int v1), .val (.int v2), .val (.ref b199), .val (.ref b217), .val (.ref b219), .unset, .unset] [(.int f1), (.int (1 : Int32)), (.ref b217)])) rfl rfl (hb hby at_144)
    have V_b217_228 : Arv Z h228 b217 k217 .int (3 : Int32) [(.int f0), (.int f1), (.int (0 : Int32))] (.int (0 : Int32)) := Arv.set Ar227 q227 S227 N227n H227 G227 rfl W228 1 rfl (Nat.le_of_ble_eq_true rfl)
    have Z229 : n0 ≤ h228.size := Nat.le_trans Z226 (Keep.of_wr W228).1
    have N228 := Fr.snoc X228 N225 g_b217
    obtain ⟨cl230, Ar230, q230, S230, N230n, H230, G230⟩ := id ((V_b219_225.other W228 (Ne.symm ne_b217_b219)))
    have hin230 : ¬ ((1 : Int32) < 0 ∨ cl230.slots.size ≤ ((1 : Int32)).toNatClampNeg) := inb_of S230 ⟨by decide, by decide⟩
    obtain ⟨T231, h231, X231, e231, W231, st231⟩ := stI X228 hx hZ e228 Ar230 (j := (1 : Int32)) hin230 (g := (mkF m 150 #[.val (.int p1), .val (.int p2), .val (.int p3), .val (.int (3 : Int32)), .val (.int f0), .val (.int f1), .val (.int f2), .val (.int v0), .val (.int v1), .val (.int v2), .val (.ref b199), .val (.ref b217), .val (.ref b219), .unset, .unset] [(.int v1), (.int (1 : Int32)), (.ref b219)])) rfl rfl (hb hby at_150)
    have V_b219_231 : Arv Z h231 b219 k219 .int (3 : Int32) [(.int v0), (.int v1), (.int (0 : Int32))] (.int (0 : Int32)) := Arv.set Ar230 q230 S230 N230n H230 G230 rfl W231 1 rfl (Nat.le_of_ble_eq_true rfl)
    have Z232 : n0 ≤ h231.size := Nat.le_trans Z229 (Keep.of_wr W231).1
    have N231 := Fr.snoc X231 N228 g_b219
    obtain ⟨cl233, Ar233, q233, S233, N233n, H233, G233⟩ := id ((V_b217_228.other W231 ne_b217_b219))
    have hin233 : ¬ ((2 : Int32) < 0 ∨ cl233.slots.size ≤ ((2 : Int32)).toNatClampNeg) := inb_of S233 ⟨by decide, by decide⟩
    obtain ⟨T234, h234, X234, e234, W234, st234⟩ := stI X231 hx hZ e231 Ar233 (j := (2 : Int32)) hin233 (g := (mkF m 161 #[.val (.int p1), .val (.int p2), .val (.int p3), .val (.int (3 : Int32)), .val (.int f0), .val (.int f1), .val (.int f2), .val (.int v0), .val (.int v1), .val (.int v2), .val (.ref b199), .val (.ref b217), .val (.ref b219), .unset, .unset] [(.int f2), (.int (2 : Int32)), (.ref b217)])) rfl rfl (hb hby at_161)
    have V_b217_234 : Arv Z h234 b217 k217 .int (3 : Int32) [(.int f0), (.int f1), (.int f2)] (.int (0 : Int32)) := Arv.set Ar233 q233 S233 N233n H233 G233 rfl W234 2 rfl (Nat.le_of_ble_eq_true rfl)
    have Z235 : n0 ≤ h234.size := Nat.le_trans Z232 (Keep.of_wr W234).1
    have N234 := Fr.snoc X234 N231 g_b217
    obtain ⟨cl236, Ar236, q236, S236, N236n, H236, G236⟩ := id ((V_b219_231.other W234 (Ne.symm ne_b217_b219)))
    have hin236 : ¬ ((2 : Int32) < 0 ∨ cl236.slots.size ≤ ((2 : Int32)).toNatClampNeg) := inb_of S236 ⟨by decide, by decide⟩
    obtain ⟨T237, h237, X237, e237, W237, st237⟩ := stI X234 hx hZ e234 Ar236 (j := (2 : Int32)) hin236 (g := (mkF m 167 #[.val (.int p1), .val (.int p2), .val (.int p3), .val (.int (3 : Int32)), .val (.int f0), .val (.int f1), .val (.int f2), .val (.int v0), .val (.int v1), .val (.int v2), .val (.ref b199), .val (.ref b217), .val (.ref b219), .unset, .unset] [(.int v2), (.int (2 : Int32)), (.ref b219)])) rfl rfl (hb hby at_167)
    have V_b219_237 : Arv Z h237 b219 k219 .int (3 : Int32) [(.int v0), (.int v1), (.int v2)] (.int (0 : Int32)) := Arv.set Ar236 q236 S236 N236n H236 G236 rfl W237 2 rfl (Nat.le_of_ble_eq_true rfl)
    have Z238 : n0 ≤ h237.size := Nat.le_trans Z235 (Keep.of_wr W237).1
    have N237 := Fr.snoc X237 N234 g_b219
    obtain ⟨cl239, Ar239, q239, S239, N239n, H239, G239⟩ := id (((((((((V_b199_215.ext E217).ext E219).other W222 ne_b199_b217).other W225 ne_b199_b219).other W228 ne_b199_b217).other W231 ne_b199_b219).other W234 ne_b199_b217).other W237 ne_b199_b219))
    have hin239 : ¬ (f0 < 0 ∨ cl239.slots.size ≤ (f0).toNatClampNeg) := inb_of S239 hb_f0
    have hat239 : cl239.slots[(f0).toNatClampNeg]? = some (.int (own_sel4 f0 ea eb ec ed)) := H239.at hin239 (own_at4 hb_f0)
    have pre241 : ∀ t, Steps p.tables e below (T237.setTop (mkF m 180 #[.val (.int p1), .val (.int p2), .val (.int p3), .val (.int (3 : Int32)), .val (.int f0), .val (.int f1), .val (.int f2), .val (.int v0), .val (.int v1), .val (.int v2), .val (.ref b199), .val (.ref b217), .val (.ref b219), .unset, .unset] [(.int v0), (.int (own_sel4 f0 ea eb ec ed))])) t → Steps p.tables e below (s₁.setTop (entryFrame m #[(.int p1), (.int p2), (.int p3)] maxLocals)) t := by
      intro t kt
      refine pre213 _ ?_
      show Steps p.tables e below (T211.setTop (mkF m 107 #[.val (.int p1), .val (.int p2), .val (.int p3), .val (.int (3 : Int32)), .val (.int f0), .val (.int f1), .val (.int f2), .val (.int v0), .val (.int v1), .val (.int v2), .val (.ref b199), .unset, .unset, .unset, .unset] [(.int ed), (.int (3 : Int32)), (.ref b199)])) _
      refine st215 _ ?_
      refine XS.iloadN X215.here hx rfl (hb hby at_108) rfl ?_
      refine st217 _ ?_
      refine XS.astore X217.here hx rfl (hb hby at_111) rfl rfl (l' := #[.val (.int p1), .val (.int p2), .val (.int p3), .val (.int (3 : Int32)), .val (.int f0), .val (.int f1), .val (.int f2), .val (.int v0), .val (.int v1), .val (.int v2), .val (.ref b199), .val (.ref b217), .unset, .unset, .unset]) rfl ?_
      show Steps p.tables e below (T217.setTop (mkF m 113 #[.val (.int p1), .val (.int p2), .val (.int p3), .val (.int (3 : Int32)), .val (.int f0), .val (.int f1), .val (.int f2), .val (.int v0), .val (.int v1), .val (.int v2), .val (.ref b199), .val (.ref b217), .unset, .unset, .unset] [])) _
      refine XS.iloadN X217.here hx rfl (hb hby at_113) rfl ?_
      refine st219 _ ?_
      refine XS.astore X219.here hx rfl (hb hby at_116) rfl rfl (l' := #[.val (.int p1), .val (.int p2), .val (.int p3), .val (.int (3 : Int32)), .val (.int f0), .val (.int f1), .val (.int f2), .val (.int v0), .val (.int v1), .val (.int v2), .val (.ref b199), .val (.ref b217), .val (.ref b219), .unset, .unset]) rfl ?_
      refine XS.iloadN X219.here hx rfl (hb hby at_118) rfl ?_
      show Steps p.tables e below (T219.setTop (mkF m 119 #[.val (.int p1), .val (.int p2), .val (.int p3), .val (.int (3 : Int32)), .val (.int f0), .val (.int f1), .val (.int f2), .val (.int v0), .val (.int v1), .val (.int v2), .val (.ref b199), .val (.ref b217), .val (.ref b219), .unset, .unset] [(.int (3 : Int32))])) _
      refine XS.ifNo X219.here hx rfl (hb hby at_119) rfl ((if0 _ _).trans (tlt (by decide)).2.2.2) ?_
      refine XS.aload X219.here hx rfl (hb hby at_122) rfl rfl ?_
      refine XS.iconst X219.here hx rfl (hb hby at_124) ?_
      refine XS.iload X219.here hx rfl (hb hby at_125) rfl ?_
      show Steps p.tables e below (T219.setTop (mkF m 127 #[.val (.int p1), .val (.int p2), .val (.int p3), .val (.int (3 : Int32)), .val (.int f0), .val (.int f1), .val (.int f2), .val (.int v0), .val (.int v1), .val (.int v2), .val (.ref b199), .val (.ref b217), .val (.ref b219), .unset, .unset] [(.int f0), (.int (0 : Int32)), (.ref b217)])) _
      refine st222 _ ?_
      refine XS.aload X222.here hx rfl (hb hby at_128) rfl rfl ?_
      refine XS.iconst X222.here hx rfl (hb hby at_130) ?_
      refine XS.iload X222.here hx rfl (hb hby at_131) rfl ?_
      show Steps p.tables e below (T222.setTop (mkF m 133 #[.val (.int p1), .val (.int p2), .val (.int p3), .val (.int (3 : Int32)), .val (.int f0), .val (.int f1), .val (.int f2), .val (.int v0), .val (.int v1), .val (.int v2), .val (.ref b199), .val (.ref b217), .val (.ref b219), .unset, .unset] [(.int v0), (.int (0 : Int32)), (.ref b219)])) _
      refine st225 _ ?_
      refine XS.iloadN X225.here hx rfl (hb hby at_134) rfl ?_
      refine XS.iconst X225.here hx rfl (hb hby at_135) ?_
      refine XS.icmpNo X225.here hx rfl (hb hby at_136) rfl (tlt (by decide)).2.2.2 ?_
      show Steps p.tables e below (T225.setTop (mkF m 139 #[.val (.int p1), .val (.int p2), .val (.int p3), .val (.int (3 : Int32)), .val (.int f0), .val (.int f1), .val (.int f2), .val (.int v0), .val (.int v1), .val (.int v2), .val (.ref b199), .val (.ref b217), .val (.ref b219), .unset, .unset] [])) _
      refine XS.aload X225.here hx rfl (hb hby at_139) rfl rfl ?_
      refine XS.iconst X225.here hx rfl (hb hby at_141) ?_
      refine XS.iload X225.here hx rfl (hb hby at_142) rfl ?_
      refine st228 _ ?_
      show Steps p.tables e below (T228.setTop (mkF m 145 #[.val (.int p1), .val (.int p2), .val (.int p3), .val (.int (3 : Int32)), .val (.int f0), .val (.int f1), .val (.int f2), .val (.int v0), .val (.int v1), .val (.int v2), .val (.ref b199), .val (.ref b217), .val (.ref b219), .unset, .unset] [])) _
      refine XS.aload X228.here hx rfl (hb hby at_145) rfl rfl ?_
      refine XS.iconst X228.here hx rfl (hb hby at_147) ?_
      refine XS.iload X228.here hx rfl (hb hby at_148) rfl ?_
      refine st231 _ ?_
      show Steps p.tables e below (T231.setTop (mkF m 151 #[.val (.int p1), .val (.int p2), .val (.int p3), .val (.int (3 : Int32)), .val (.int f0), .val (.int f1), .val (.int f2), .val (.int v0), .val (.int v1), .val (.int v2), .val (.ref b199), .val (.ref b217), .val (.ref b219), .unset, .unset] [])) _
      refine XS.iloadN X231.here hx rfl (hb hby at_151) rfl ?_
      refine XS.iconst X231.here hx rfl (hb hby at_152) ?_
      refine XS.icmpNo X231.here hx rfl (hb hby at_153) rfl (tlt (by decide)).2.2.2 ?_
      refine XS.aload X231.here hx rfl (hb hby at_156) rfl rfl ?_
      show Steps p.tables e below (T231.setTop (mkF m 158 #[.val (.int p1), .val (.int p2), .val (.int p3), .val (.int (3 : Int32)), .val (.int f0), .val (.int f1), .val (.int f2), .val (.int v0), .val (.int v1), .val (.int v2), .val (.ref b199), .val (.ref b217), .val (.ref b219), .unset, .unset] [(.ref b217)])) _
      refine XS.iconst X231.here hx rfl (hb hby at_158) ?_
      refine XS.iload X231.here hx rfl (hb hby at_159) rfl ?_
      refine st234 _ ?_
      refine XS.aload X234.here hx rfl (hb hby at_162) rfl rfl ?_
      show Steps p.tables e below (T234.setTop (mkF m 164 #[.val (.int p1), .val (.int p2), .val (.int p3), .val (.int (3 : Int32)), .val (.int f0), .val (.int f1), .val (.int f2), .val (.int v0), .val (.int v1), .val (.int v2), .val (.ref b199), .val (.ref b217), .val (.ref b219), .unset, .unset] [(.ref b219)])) _
      refine XS.iconst X234.here hx rfl (hb hby at_164) ?_
      refine XS.iload X234.here hx rfl (hb hby at_165) rfl ?_
      refine st237 _ ?_
      refine XS.iloadN X237.here hx rfl (hb hby at_168) rfl ?_
      show Steps p.tables e below (T237.setTop (mkF m 169 #[.val (.int p1), .val (.int p2), .val (.int p3), .val (.int (3 : Int32)), .val (.int f0), .val (.int f1), .val (.int f2), .val (.int v0), .val (.int v1), .val (.int v2), .val (.ref b199), .val (.ref b217), .val (.ref b219), .unset, .unset] [(.int (3 : Int32))])) _
      refine XS.iconst X237.here hx rfl (hb hby at_169) ?_
      refine XS.icmpNo X237.here hx rfl (hb hby at_170) rfl (flt (by decide)).1 ?_
      refine XS.aload X237.here hx rfl (hb hby at_173) rfl rfl ?_
      refine XS.iload X237.here hx rfl (hb hby at_175) rfl ?_
      show Steps p.tables e below (T237.setTop (mkF m 177 #[.val (.int p1), .val (.int p2), .val (.int p3), .val (.int (3 : Int32)), .val (.int f0), .val (.int f1), .val (.int f2), .val (.int v0), .val (.int v1), .val (.int v2), .val (.ref b199), .val (.ref b217), .val (.ref b219), .unset, .unset] [(.int f0), (.ref b199)])) _
      refine X237.iaload hx (j := f0) (v := (.int (own_sel4 f0 ea eb ec ed))) (by rw [e237]; exact Ar239.1) (State.isArrayOf_alike hZ.alike Ar239.2.1) Ar239.2.2 hin239 hat239 (g := (mkF m 177 #[.val (.int p1), .val (.int p2), .val (.int p3), .val (.int (3 : Int32)), .val (.int f0), .val (.int f1), .val (.int f2), .val (.int v0), .val (.int v1), .val (.int v2), .val (.ref b199), .val (.ref b217), .val (.ref b219), .unset, .unset] [(.int f0), (.ref b199)])) rfl rfl (hb hby at_177) _ ?_
      refine XS.iload X237.here hx rfl (hb hby at_178) rfl ?_
      exact kt
    by_cases hc180_240 : (own_sel4 f0 ea eb ec ed) = v0
    · obtain ⟨cl242, Ar242, q242, S242, N242n, H242, G242⟩ := id (((((((((V_b199_215.ext E217).ext E219).other W222 ne_b199_b217).other W225 ne_b199_b219).other W228 ne_b199_b217).other W231 ne_b199_b219).other W234 ne_b199_b217).other W237 ne_b199_b219))
      have hin242 : ¬ (f1 < 0 ∨ cl242.slots.size ≤ (f1).toNatClampNeg) := inb_of S242 hb_f1
      have hat242 : cl242.slots[(f1).toNatClampNeg]? = some (.int (own_sel4 f1 ea eb ec ed)) := H242.at hin242 (own_at4 hb_f1)
      have pre244 : ∀ t, Steps p.tables e below (T237.setTop (mkF m 195 #[.val (.int p1), .val (.int p2), .val (.int p3), .val (.int (3 : Int32)), .val (.int f0), .val (.int f1), .val (.int f2), .val (.int v0), .val (.int v1), .val (.int v2), .val (.ref b199), .val (.ref b217), .val (.ref b219), .unset, .unset] [(.int v1), (.int (own_sel4 f1 ea eb ec ed))])) t → Steps p.tables e below (s₁.setTop (entryFrame m #[(.int p1), (.int p2), (.int p3)] maxLocals)) t := by
        intro t kt
        refine pre241 _ ?_
        show Steps p.tables e below (T237.setTop (mkF m 180 #[.val (.int p1), .val (.int p2), .val (.int p3), .val (.int (3 : Int32)), .val (.int f0), .val (.int f1), .val (.int f2), .val (.int v0), .val (.int v1), .val (.int v2), .val (.ref b199), .val (.ref b217), .val (.ref b219), .unset, .unset] [(.int v0), (.int (own_sel4 f0 ea eb ec ed))])) _
        refine XS.icmpNo X237.here hx rfl (hb hby at_180) rfl (teq hc180_240).2 ?_
        refine XS.iloadN X237.here hx rfl (hb hby at_183) rfl ?_
        show Steps p.tables e below (T237.setTop (mkF m 184 #[.val (.int p1), .val (.int p2), .val (.int p3), .val (.int (3 : Int32)), .val (.int f0), .val (.int f1), .val (.int f2), .val (.int v0), .val (.int v1), .val (.int v2), .val (.ref b199), .val (.ref b217), .val (.ref b219), .unset, .unset] [(.int (3 : Int32))])) _
        refine XS.iconst X237.here hx rfl (hb hby at_184) ?_
        refine XS.icmpNo X237.here hx rfl (hb hby at_185) rfl (flt (by decide)).1 ?_
        refine XS.aload X237.here hx rfl (hb hby at_188) rfl rfl ?_
        refine XS.iload X237.here hx rfl (hb hby at_190) rfl ?_
        show Steps p.tables e below (T237.setTop (mkF m 192 #[.val (.int p1), .val (.int p2), .val (.int p3), .val (.int (3 : Int32)), .val (.int f0), .val (.int f1), .val (.int f2), .val (.int v0), .val (.int v1), .val (.int v2), .val (.ref b199), .val (.ref b217), .val (.ref b219), .unset, .unset] [(.int f1), (.ref b199)])) _
        refine X237.iaload hx (j := f1) (v := (.int (own_sel4 f1 ea eb ec ed))) (by rw [e237]; exact Ar242.1) (State.isArrayOf_alike hZ.alike Ar242.2.1) Ar242.2.2 hin242 hat242 (g := (mkF m 192 #[.val (.int p1), .val (.int p2), .val (.int p3), .val (.int (3 : Int32)), .val (.int f0), .val (.int f1), .val (.int f2), .val (.int v0), .val (.int v1), .val (.int v2), .val (.ref b199), .val (.ref b217), .val (.ref b219), .unset, .unset] [(.int f1), (.ref b199)])) rfl rfl (hb hby at_192) _ ?_
        refine XS.iload X237.here hx rfl (hb hby at_193) rfl ?_
        exact kt
      by_cases hc195_243 : (own_sel4 f1 ea eb ec ed) = v1
      · obtain ⟨cl245, Ar245, q245, S245, N245n, H245, G245⟩ := id (((((((((V_b199_215.ext E217).ext E219).other W222 ne_b199_b217).other W225 ne_b199_b219).other W228 ne_b199_b217).other W231 ne_b199_b219).other W234 ne_b199_b217).other W237 ne_b199_b219))
        have hin245 : ¬ (f2 < 0 ∨ cl245.slots.size ≤ (f2).toNatClampNeg) := inb_of S245 hb_f2
        have hat245 : cl245.slots[(f2).toNatClampNeg]? = some (.int (own_sel4 f2 ea eb ec ed)) := H245.at hin245 (own_at4 hb_f2)
        have pre247 : ∀ t, Steps p.tables e below (T237.setTop (mkF m 210 #[.val (.int p1), .val (.int p2), .val (.int p3), .val (.int (3 : Int32)), .val (.int f0), .val (.int f1), .val (.int f2), .val (.int v0), .val (.int v1), .val (.int v2), .val (.ref b199), .val (.ref b217), .val (.ref b219), .unset, .unset] [(.int v2), (.int (own_sel4 f2 ea eb ec ed))])) t → Steps p.tables e below (s₁.setTop (entryFrame m #[(.int p1), (.int p2), (.int p3)] maxLocals)) t := by
          intro t kt
          refine pre244 _ ?_
          show Steps p.tables e below (T237.setTop (mkF m 195 #[.val (.int p1), .val (.int p2), .val (.int p3), .val (.int (3 : Int32)), .val (.int f0), .val (.int f1), .val (.int f2), .val (.int v0), .val (.int v1), .val (.int v2), .val (.ref b199), .val (.ref b217), .val (.ref b219), .unset, .unset] [(.int v1), (.int (own_sel4 f1 ea eb ec ed))])) _
          refine XS.icmpNo X237.here hx rfl (hb hby at_195) rfl (teq hc195_243).2 ?_
          refine XS.iloadN X237.here hx rfl (hb hby at_198) rfl ?_
          show Steps p.tables e below (T237.setTop (mkF m 199 #[.val (.int p1), .val (.int p2), .val (.int p3), .val (.int (3 : Int32)), .val (.int f0), .val (.int f1), .val (.int f2), .val (.int v0), .val (.int v1), .val (.int v2), .val (.ref b199), .val (.ref b217), .val (.ref b219), .unset, .unset] [(.int (3 : Int32))])) _
          refine XS.iconst X237.here hx rfl (hb hby at_199) ?_
          refine XS.icmpNo X237.here hx rfl (hb hby at_200) rfl (flt (by decide)).1 ?_
          refine XS.aload X237.here hx rfl (hb hby at_203) rfl rfl ?_
          refine XS.iload X237.here hx rfl (hb hby at_205) rfl ?_
          show Steps p.tables e below (T237.setTop (mkF m 207 #[.val (.int p1), .val (.int p2), .val (.int p3), .val (.int (3 : Int32)), .val (.int f0), .val (.int f1), .val (.int f2), .val (.int v0), .val (.int v1), .val (.int v2), .val (.ref b199), .val (.ref b217), .val (.ref b219), .unset, .unset] [(.int f2), (.ref b199)])) _
          refine X237.iaload hx (j := f2) (v := (.int (own_sel4 f2 ea eb ec ed))) (by rw [e237]; exact Ar245.1) (State.isArrayOf_alike hZ.alike Ar245.2.1) Ar245.2.2 hin245 hat245 (g := (mkF m 207 #[.val (.int p1), .val (.int p2), .val (.int p3), .val (.int (3 : Int32)), .val (.int f0), .val (.int f1), .val (.int f2), .val (.int v0), .val (.int v1), .val (.int v2), .val (.ref b199), .val (.ref b217), .val (.ref b219), .unset, .unset] [(.int f2), (.ref b199)])) rfl rfl (hb hby at_207) _ ?_
          refine XS.iload X237.here hx rfl (hb hby at_208) rfl ?_
          exact kt
        by_cases hc210_246 : (own_sel4 f2 ea eb ec ed) = v2
        · obtain ⟨T248, h248, X248, e248, E248, A248, D248, -, st248⟩ := newO X237 hx hZ hown (wd_1 hw) (wd_2 hw) (wd_3 hw) e237 (g := (mkF m 220 #[.val (.int p1), .val (.int p2), .val (.int p3), .val (.int (3 : Int32)), .val (.int f0), .val (.int f1), .val (.int f2), .val (.int v0), .val (.int v1), .val (.int v2), .val (.ref b199), .val (.ref b217), .val (.ref b219), .val (.int (1 : Int32)), .unset] [])) rfl (hb hby at_220) (by decide) (by decide)
          obtain ⟨b248, g248⟩ : ∃ z, z = h237.size := ⟨_, rfl⟩
          rw [← g248] at A248 D248 st248
          have g_b248 : n0 ≤ b248 := Nat.le_trans Z238 (Nat.le_of_eq g248.symm)
          have ne_b199_b248 : b199 ≠ b248 := Nat.ne_of_lt (Nat.lt_of_lt_of_le (((((((((V_b199_215.ext E217).ext E219).other W222 ne_b199_b217).other W225 ne_b199_b219).other W228 ne_b199_b217).other W231 ne_b199_b219).other W234 ne_b199_b217).other W237 ne_b199_b219)).lt (Nat.le_of_eq g248.symm))
          have ne_b217_b248 : b217 ≠ b248 := Nat.ne_of_lt (Nat.lt_of_lt_of_le ((V_b217_234.other W237 ne_b217_b219)).lt (Nat.le_of_eq g248.symm))
          have ne_b219_b248 : b219 ≠ b248 := Nat.ne_of_lt (Nat.lt_of_lt_of_le (V_b219_237).lt (Nat.le_of_eq g248.symm))
          have Z249 : n0 ≤ h248.size := Nat.le_trans Z238 E248.1
          have F_features_b248 : Fld Z h248 b248 "com/example/counterlens/counterlens/Rules$Forbidden" "features" "[I" .null := D248 (Or.inr (wd_16 hw)) (ty := (.array .int)) (by decide)
          have F_values_b248 : Fld Z h248 b248 "com/example/counterlens/counterlens/Rules$Forbidden" "values" "[I" .null := D248 (Or.inr (wd_18 hw)) (ty := (.array .int)) (by decide)
          obtain ⟨_, _, ⟨T250, L250, k250, n250⟩, -, X250, ⟨Lc250, hQ250, l250, y250, z250⟩, st250⟩ := X248.specialBack hx (y := (⟨"com/example/counterlens/counterlens/Rules$Forbidden", "<init>", "([I[I)V"⟩ : MethodName)) rfl hown (mvT hZ (wd_4 hw)) (mvT hZ (wd_5 hw)) (mvT hZ (wd_6 hw)) (by decide) (backOf (W := 1) (rm1 l Z a0 hw [] b248 b217 b219 .null .null h248 n0 Z249 F_features_b248 F_values_b248 A248 g_b248) hZ (wd_6 hw) (wd_3 hw) (by decide) (by decide)) (g := (mkF m 228 #[.val (.int p1), .val (.int p2), .val (.int p3), .val (.int (3 : Int32)), .val (.int f0), .val (.int f1), .val (.int f2), .val (.int v0), .val (.int v1), .val (.int v2), .val (.ref b199), .val (.ref b217), .val (.ref b219), .val (.int (1 : Int32)), .unset] [(.ref b219), (.ref b217), (.ref b248), (.ref b248)])) rfl (by rw [hml]; rfl) (Steps.refl _) (a := b248) (argsL := [(.ref b217), (.ref b219)]) (rest := [(.ref b248)]) (lenOf pd___I_I_V rfl) rfl (by show 2 * 0 + _ ≤ _; exact Nat.le_of_eq rfl) (hb hby at_228) (fun _ _ => ⟨rfl, e248, (by decide : 4 + 0 ≤ _), (by decide : 12 + 0 ≤ _)⟩)
          dsimp only [Pt.U, Pt.locs, Pt.cells, Pt.slots] at X250 l250 y250 z250 st250 hQ250
          subst l250 y250 z250
          obtain ⟨rfl, N250q, K250q, g250_0, g250_1, g250_2⟩ := hQ250
          have N250 := Fr.app N237 N250q
          have Z251 : n0 ≤ T250.heap.size := Nat.le_trans Z249 K250q.1
          obtain ⟨cq252, kq252, q252a, q252b, q252c⟩ := isOf hZ rfl (g250_0)
          obtain ⟨_, _, ⟨T252, L252, k252, n252⟩, -, X252, ⟨Lc252, hQ252, l252, y252, z252⟩, st252⟩ := X250.virtualBack hx (y := (⟨"com/example/counterlens/counterlens/Rules$Forbidden", "matches", "([I)Z"⟩ : MethodName)) (z := (⟨"com/example/counterlens/counterlens/Rules$Forbidden", "matches", "([I)Z"⟩ : MethodName)) hown (mvT hZ (wd_19 hw)) (mvT hZ (wd_20 hw)) (notFace_of_selects (args := #[]) (mvT hZ (wd_22 hw))) (mvT hZ (wd_22 hw)) (mvT hZ (wd_21 hw)) (by decide) (backOf (W := 0) (rmm3 l Z a0 hw [] b248 b199 b217 b219 k217 k219 k199 f0 f1 f2 v0 v1 v2 ea eb ec ed T250.heap n0 Z251 g250_1 g250_2 (((V_b217_234.other W237 ne_b217_b219).ext E248).keep K250q (ninS ne_b217_b248 nin0)) ((V_b219_237.ext E248).keep K250q (ninS ne_b219_b248 nin0)) ((((((((((V_b199_215.ext E217).ext E219).other W222 ne_b199_b217).other W225 ne_b199_b219).other W228 ne_b199_b217).other W231 ne_b199_b219).other W234 ne_b199_b217).other W237 ne_b199_b219).ext E248).keep K250q (ninS ne_b199_b248 nin0)) hb_f0 hb_f1 hb_f2) hZ (wd_23 hw) (wd_3 hw) (by decide) (by decide)) q252a q252c (g := (mkF m 237 #[.val (.int p1), .val (.int p2), .val (.int p3), .val (.int (3 : Int32)), .val (.int f0), .val (.int f1), .val (.int f2), .val (.int v0), .val (.int v1), .val (.int v2), .val (.ref b199), .val (.ref b217), .val (.ref b219), .val (.int (1 : Int32)), .val (.ref b248)] [(.ref b199), (.ref b248)])) rfl (by rw [hml]; rfl) (Steps.refl _) (argsL := [(.ref b199)]) (rest := []) (lenOf pd___I_Z rfl) rfl (by show 2 * 0 + _ ≤ _; exact Nat.le_of_eq rfl) (hb hby at_237) (fun _ _ => ⟨rfl, rfl, (by decide : 4 + 0 ≤ _), (by decide : 12 + 0 ≤ _)⟩)
          dsimp only [Pt.U, Pt.locs, Pt.cells, Pt.slots] at X252 l252 y252 z252 st252 hQ252
          subst l252 y252 z252
          obtain ⟨rfl, N252q, e252⟩ := hQ252
          have N252 := Fr.app N250 N252q
          obtain ⟨fs, hr, hrun, hended, hW, hsame⟩ := X252.leave (v := some (.int (1 : Int32))) (fun h => by rw [Bd.returns] at h; cases h)
          refine ⟨_, _, pre247 _ ?_, hrun, hended, _, _, rfl, ?_, ⟨_, rfl⟩, hW, hsame.mono (by decide) (by decide)⟩
          · show Steps p.tables e below (T237.setTop (mkF m 210 #[.val (.int p1), .val (.int p2), .val (.int p3), .val (.int (3 : Int32)), .val (.int f0), .val (.int f1), .val (.int f2), .val (.int v0), .val (.int v1), .val (.int v2), .val (.ref b199), .val (.ref b217), .val (.ref b219), .unset, .unset] [(.int v2), (.int (own_sel4 f2 ea eb ec ed))])) _
            refine XS.icmpNo X237.here hx rfl (hb hby at_210) rfl (teq hc210_246).2 ?_
            refine XS.iconst X237.here hx rfl (hb hby at_213) ?_
            show Steps p.tables e below (T237.setTop (mkF m 214 #[.val (.int p1), .val (.int p2), .val (.int p3), .val (.int (3 : Int32)), .val (.int f0), .val (.int f1), .val (.int f2), .val (.int v0), .val (.int v1), .val (.int v2), .val (.ref b199), .val (.ref b217), .val (.ref b219), .unset, .unset] [(.int (1 : Int32))])) _
            refine XS.goto X237.here hx rfl (pc0 := 214) (pc' := 218) rfl (hb hby at_214) (by decide) (by decide) ?_
            refine XS.istore X237.here hx rfl (hb hby at_218) rfl (l' := #[.val (.int p1), .val (.int p2), .val (.int p3), .val (.int (3 : Int32)), .val (.int f0), .val (.int f1), .val (.int f2), .val (.int v0), .val (.int v1), .val (.int v2), .val (.ref b199), .val (.ref b217), .val (.ref b219), .val (.int (1 : Int32)), .unset]) rfl ?_
            refine st248 _ ?_
            refine XS.dup X248.here hx rfl (hb hby at_223) rfl rfl ?_
            show Steps p.tables e below (T248.setTop (mkF m 224 #[.val (.int p1), .val (.int p2), .val (.int p3), .val (.int (3 : Int32)), .val (.int f0), .val (.int f1), .val (.int f2), .val (.int v0), .val (.int v1), .val (.int v2), .val (.ref b199), .val (.ref b217), .val (.ref b219), .val (.int (1 : Int32)), .unset] [(.ref b248), (.ref b248)])) _
            refine XS.aload X248.here hx rfl (hb hby at_224) rfl rfl ?_
            refine XS.aload X248.here hx rfl (hb hby at_226) rfl rfl ?_
            refine st250.trans ?_
            refine XS.astore X250.here hx rfl (hb hby at_231) rfl rfl (l' := #[.val (.int p1), .val (.int p2), .val (.int p3), .val (.int (3 : Int32)), .val (.int f0), .val (.int f1), .val (.int f2), .val (.int v0), .val (.int v1), .val (.int v2), .val (.ref b199), .val (.ref b217), .val (.ref b219), .val (.int (1 : Int32)), .val (.ref b248)]) rfl ?_
            show Steps p.tables e below (T250.setTop (mkF m 233 #[.val (.int p1), .val (.int p2), .val (.int p3), .val (.int (3 : Int32)), .val (.int f0), .val (.int f1), .val (.int f2), .val (.int v0), .val (.int v1), .val (.int v2), .val (.ref b199), .val (.ref b217), .val (.ref b219), .val (.int (1 : Int32)), .val (.ref b248)] [])) _
            refine XS.aload X250.here hx rfl (hb hby at_233) rfl rfl ?_
            refine XS.aload X250.here hx rfl (hb hby at_235) rfl rfl ?_
            refine st252.trans ?_
            refine XS.iload X252.here hx rfl (hb hby at_240) rfl ?_
            show Steps p.tables e below (T252.setTop (mkF m 242 #[.val (.int p1), .val (.int p2), .val (.int p3), .val (.int (3 : Int32)), .val (.int f0), .val (.int f1), .val (.int f2), .val (.int v0), .val (.int v1), .val (.int v2), .val (.ref b199), .val (.ref b217), .val (.ref b219), .val (.int (1 : Int32)), .val (.ref b248)] [(.int (1 : Int32)), (.int (if (own_sel4 f0 ea eb ec ed) = v0 then (if (own_sel4 f1 ea eb ec ed) = v1 then (if (own_sel4 f2 ea eb ec ed) = v2 then (1 : Int32) else (0 : Int32)) else (0 : Int32)) else (0 : Int32)))])) _
            refine XS.icmpNo X252.here hx rfl (hb hby at_242) rfl (teq (by simp only [if_pos hc180_240, if_pos hc195_243, if_pos hc210_246])).2 ?_
            refine XS.iconst X252.here hx rfl (hb hby at_245) ?_
            refine XS.goto X252.here hx rfl (pc0 := 246) (pc' := 250) rfl (hb hby at_246) (by decide) (by decide) ?_
            exact retN X252 hx (t := .boolean) Bd.returns (by simp) (hb hby at_250) hr
          · show Q_rm0 Z p1 p2 p3 h0 n0 _ T252.heap _
            rw [e252]
            exact ⟨rfl, N252, trivial⟩
        · obtain ⟨T253, h253, X253, e253, E253, A253, D253, -, st253⟩ := newO X237 hx hZ hown (wd_1 hw) (wd_2 hw) (wd_3 hw) e237 (g := (mkF m 220 #[.val (.int p1), .val (.int p2), .val (.int p3), .val (.int (3 : Int32)), .val (.int f0), .val (.int f1), .val (.int f2), .val (.int v0), .val (.int v1), .val (.int v2), .val (.ref b199), .val (.ref b217), .val (.ref b219), .val (.int (0 : Int32)), .unset] [])) rfl (hb hby at_220) (by decide) (by decide)
          obtain ⟨b253, g253⟩ : ∃ z, z = h237.size := ⟨_, rfl⟩
          rw [← g253] at A253 D253 st253
          have g_b253 : n0 ≤ b253 := Nat.le_trans Z238 (Nat.le_of_eq g253.symm)
          have ne_b199_b253 : b199 ≠ b253 := Nat.ne_of_lt (Nat.lt_of_lt_of_le (((((((((V_b199_215.ext E217).ext E219).other W222 ne_b199_b217).other W225 ne_b199_b219).other W228 ne_b199_b217).other W231 ne_b199_b219).other W234 ne_b199_b217).other W237 ne_b199_b219)).lt (Nat.le_of_eq g253.symm))
          have ne_b217_b253 : b217 ≠ b253 := Nat.ne_of_lt (Nat.lt_of_lt_of_le ((V_b217_234.other W237 ne_b217_b219)).lt (Nat.le_of_eq g253.symm))
          have ne_b219_b253 : b219 ≠ b253 := Nat.ne_of_lt (Nat.lt_of_lt_of_le (V_b219_237).lt (Nat.le_of_eq g253.symm))
          have Z254 : n0 ≤ h253.size := Nat.le_trans Z238 E253.1
          have F_features_b253 : Fld Z h253 b253 "com/example/counterlens/counterlens/Rules$Forbidden" "features" "[I" .null := D253 (Or.inr (wd_16 hw)) (ty := (.array .int)) (by decide)
          have F_values_b253 : Fld Z h253 b253 "com/example/counterlens/counterlens/Rules$Forbidden" "values" "[I" .null := D253 (Or.inr (wd_18 hw)) (ty := (.array .int)) (by decide)
          obtain ⟨_, _, ⟨T255, L255, k255, n255⟩, -, X255, ⟨Lc255, hQ255, l255, y255, z255⟩, st255⟩ := X253.specialBack hx (y := (⟨"com/example/counterlens/counterlens/Rules$Forbidden", "<init>", "([I[I)V"⟩ : MethodName)) rfl hown (mvT hZ (wd_4 hw)) (mvT hZ (wd_5 hw)) (mvT hZ (wd_6 hw)) (by decide) (backOf (W := 1) (rm1 l Z a0 hw [] b253 b217 b219 .null .null h253 n0 Z254 F_features_b253 F_values_b253 A253 g_b253) hZ (wd_6 hw) (wd_3 hw) (by decide) (by decide)) (g := (mkF m 228 #[.val (.int p1), .val (.int p2), .val (.int p3), .val (.int (3 : Int32)), .val (.int f0), .val (.int f1), .val (.int f2), .val (.int v0), .val (.int v1), .val (.int v2), .val (.ref b199), .val (.ref b217), .val (.ref b219), .val (.int (0 : Int32)), .unset] [(.ref b219), (.ref b217), (.ref b253), (.ref b253)])) rfl (by rw [hml]; rfl) (Steps.refl _) (a := b253) (argsL := [(.ref b217), (.ref b219)]) (rest := [(.ref b253)]) (lenOf pd___I_I_V rfl) rfl (by show 2 * 0 + _ ≤ _; exact Nat.le_of_eq rfl) (hb hby at_228) (fun _ _ => ⟨rfl, e253, (by decide : 4 + 0 ≤ _), (by decide : 12 + 0 ≤ _)⟩)
          dsimp only [Pt.U, Pt.locs, Pt.cells, Pt.slots] at X255 l255 y255 z255 st255 hQ255
          subst l255 y255 z255
          obtain ⟨rfl, N255q, K255q, g255_0, g255_1, g255_2⟩ := hQ255
          have N255 := Fr.app N237 N255q
          have Z256 : n0 ≤ T255.heap.size := Nat.le_trans Z254 K255q.1
          obtain ⟨cq257, kq257, q257a, q257b, q257c⟩ := isOf hZ rfl (g255_0)
          obtain ⟨_, _, ⟨T257, L257, k257, n257⟩, -, X257, ⟨Lc257, hQ257, l257, y257, z257⟩, st257⟩ := X255.virtualBack hx (y := (⟨"com/example/counterlens/counterlens/Rules$Forbidden", "matches", "([I)Z"⟩ : MethodName)) (z := (⟨"com/example/counterlens/counterlens/Rules$Forbidden", "matches", "([I)Z"⟩ : MethodName)) hown (mvT hZ (wd_19 hw)) (mvT hZ (wd_20 hw)) (notFace_of_selects (args := #[]) (mvT hZ (wd_22 hw))) (mvT hZ (wd_22 hw)) (mvT hZ (wd_21 hw)) (by decide) (backOf (W := 0) (rmm3 l Z a0 hw [] b253 b199 b217 b219 k217 k219 k199 f0 f1 f2 v0 v1 v2 ea eb ec ed T255.heap n0 Z256 g255_1 g255_2 (((V_b217_234.other W237 ne_b217_b219).ext E253).keep K255q (ninS ne_b217_b253 nin0)) ((V_b219_237.ext E253).keep K255q (ninS ne_b219_b253 nin0)) ((((((((((V_b199_215.ext E217).ext E219).other W222 ne_b199_b217).other W225 ne_b199_b219).other W228 ne_b199_b217).other W231 ne_b199_b219).other W234 ne_b199_b217).other W237 ne_b199_b219).ext E253).keep K255q (ninS ne_b199_b253 nin0)) hb_f0 hb_f1 hb_f2) hZ (wd_23 hw) (wd_3 hw) (by decide) (by decide)) q257a q257c (g := (mkF m 237 #[.val (.int p1), .val (.int p2), .val (.int p3), .val (.int (3 : Int32)), .val (.int f0), .val (.int f1), .val (.int f2), .val (.int v0), .val (.int v1), .val (.int v2), .val (.ref b199), .val (.ref b217), .val (.ref b219), .val (.int (0 : Int32)), .val (.ref b253)] [(.ref b199), (.ref b253)])) rfl (by rw [hml]; rfl) (Steps.refl _) (argsL := [(.ref b199)]) (rest := []) (lenOf pd___I_Z rfl) rfl (by show 2 * 0 + _ ≤ _; exact Nat.le_of_eq rfl) (hb hby at_237) (fun _ _ => ⟨rfl, rfl, (by decide : 4 + 0 ≤ _), (by decide : 12 + 0 ≤ _)⟩)
          dsimp only [Pt.U, Pt.locs, Pt.cells, Pt.slots] at X257 l257 y257 z257 st257 hQ257
          subst l257 y257 z257
          obtain ⟨rfl, N257q, e257⟩ := hQ257
          have N257 := Fr.app N255 N257q
          obtain ⟨fs, hr, hrun, hended, hW, hsame⟩ := X257.leave (v := some (.int (1 : Int32))) (fun h => by rw [Bd.returns] at h; cases h)
          refine ⟨_, _, pre247 _ ?_, hrun, hended, _, _, rfl, ?_, ⟨_, rfl⟩, hW, hsame.mono (by decide) (by decide)⟩
          · show Steps p.tables e below (T237.setTop (mkF m 210 #[.val (.int p1), .val (.int p2), .val (.int p3), .val (.int (3 : Int32)), .val (.int f0), .val (.int f1), .val (.int f2), .val (.int v0), .val (.int v1), .val (.int v2), .val (.ref b199), .val (.ref b217), .val (.ref b219), .unset, .unset] [(.int v2), (.int (own_sel4 f2 ea eb ec ed))])) _
            refine XS.icmpYes X237.here hx rfl (pc0 := 210) (pc' := 217) rfl (hb hby at_210) rfl (feq hc210_246).2 (by decide) (by decide) ?_
            refine XS.iconst X237.here hx rfl (hb hby at_217) ?_
            show Steps p.tables e below (T237.setTop (mkF m 218 #[.val (.int p1), .val (.int p2), .val (.int p3), .val (.int (3 : Int32)), .val (.int f0), .val (.int f1), .val (.int f2), .val (.int v0), .val (.int v1), .val (.int v2), .val (.ref b199), .val (.ref b217), .val (.ref b219), .unset, .unset] [(.int (0 : Int32))])) _
            refine XS.istore X237.here hx rfl (hb hby at_218) rfl (l' := #[.val (.int p1), .val (.int p2), .val (.int p3), .val (.int (3 : Int32)), .val (.int f0), .val (.int f1), .val (.int f2), .val (.int v0), .val (.int v1), .val (.int v2), .val (.ref b199), .val (.ref b217), .val (.ref b219), .val (.int (0 : Int32)), .unset]) rfl ?_
            refine st253 _ ?_
            refine XS.dup X253.here hx rfl (hb hby at_223) rfl rfl ?_
            refine XS.aload X253.here hx rfl (hb hby at_224) rfl rfl ?_
            show Steps p.tables e below (T253.setTop (mkF m 226 #[.val (.int p1), .val (.int p2), .val (.int p3), .val (.int (3 : Int32)), .val (.int f0), .val (.int f1), .val (.int f2), .val (.int v0), .val (.int v1), .val (.int v2), .val (.ref b199), .val (.ref b217), .val (.ref b219), .val (.int (0 : Int32)), .unset] [(.ref b217), (.ref b253), (.ref b253)])) _
            refine XS.aload X253.here hx rfl (hb hby at_226) rfl rfl ?_
            refine st255.trans ?_
            refine XS.astore X255.here hx rfl (hb hby at_231) rfl rfl (l' := #[.val (.int p1), .val (.int p2), .val (.int p3), .val (.int (3 : Int32)), .val (.int f0), .val (.int f1), .val (.int f2), .val (.int v0), .val (.int v1), .val (.int v2), .val (.ref b199), .val (.ref b217), .val (.ref b219), .val (.int (0 : Int32)), .val (.ref b253)]) rfl ?_
            refine XS.aload X255.here hx rfl (hb hby at_233) rfl rfl ?_
            show Steps p.tables e below (T255.setTop (mkF m 235 #[.val (.int p1), .val (.int p2), .val (.int p3), .val (.int (3 : Int32)), .val (.int f0), .val (.int f1), .val (.int f2), .val (.int v0), .val (.int v1), .val (.int v2), .val (.ref b199), .val (.ref b217), .val (.ref b219), .val (.int (0 : Int32)), .val (.ref b253)] [(.ref b253)])) _
            refine XS.aload X255.here hx rfl (hb hby at_235) rfl rfl ?_
            refine st257.trans ?_
            refine XS.iload X257.here hx rfl (hb hby at_240) rfl ?_
            refine XS.icmpNo X257.here hx rfl (hb hby at_242) rfl (teq (by simp only [if_pos hc180_240, if_pos hc195_243, if_neg hc210_246])).2 ?_
            show Steps p.tables e below (T257.setTop (mkF m 245 #[.val (.int p1), .val (.int p2), .val (.int p3), .val (.int (3 : Int32)), .val (.int f0), .val (.int f1), .val (.int f2), .val (.int v0), .val (.int v1), .val (.int v2), .val (.ref b199), .val (.ref b217), .val (.ref b219), .val (.int (0 : Int32)), .val (.ref b253)] [])) _
            refine XS.iconst X257.here hx rfl (hb hby at_245) ?_
            refine XS.goto X257.here hx rfl (pc0 := 246) (pc' := 250) rfl (hb hby at_246) (by decide) (by decide) ?_
            exact retN X257 hx (t := .boolean) Bd.returns (by simp) (hb hby at_250) hr
          · show Q_rm0 Z p1 p2 p3 h0 n0 _ T257.heap _
            rw [e257]
            exact ⟨rfl, N257, trivial⟩
      · obtain ⟨T258, h258, X258, e258, E258, A258, D258, -, st258⟩ := newO X237 hx hZ hown (wd_1 hw) (wd_2 hw) (wd_3 hw) e237 (g := (mkF m 220 #[.val (.int p1), .val (.int p2), .val (.int p3), .val (.int (3 : Int32)), .val (.int f0), .val (.int f1), .val (.int f2), .val (.int v0), .val (.int v1), .val (.int v2), .val (.ref b199), .val (.ref b217), .val (.ref b219), .val (.int (0 : Int32)), .unset] [])) rfl (hb hby at_220) (by decide) (by decide)
        obtain ⟨b258, g258⟩ : ∃ z, z = h237.size := ⟨_, rfl⟩
        rw [← g258] at A258 D258 st258
        have g_b258 : n0 ≤ b258 := Nat.le_trans Z238 (Nat.le_of_eq g258.symm)
        have ne_b199_b258 : b199 ≠ b258 := Nat.ne_of_lt (Nat.lt_of_lt_of_le (((((((((V_b199_215.ext E217).ext E219).other W222 ne_b199_b217).other W225 ne_b199_b219).other W228 ne_b199_b217).other W231 ne_b199_b219).other W234 ne_b199_b217).other W237 ne_b199_b219)).lt (Nat.le_of_eq g258.symm))
        have ne_b217_b258 : b217 ≠ b258 := Nat.ne_of_lt (Nat.lt_of_lt_of_le ((V_b217_234.other W237 ne_b217_b219)).lt (Nat.le_of_eq g258.symm))
        have ne_b219_b258 : b219 ≠ b258 := Nat.ne_of_lt (Nat.lt_of_lt_of_le (V_b219_237).lt (Nat.le_of_eq g258.symm))
        have Z259 : n0 ≤ h258.size := Nat.le_trans Z238 E258.1
        have F_features_b258 : Fld Z h258 b258 "com/example/counterlens/counterlens/Rules$Forbidden" "features" "[I" .null := D258 (Or.inr (wd_16 hw)) (ty := (.array .int)) (by decide)
        have F_values_b258 : Fld Z h258 b258 "com/example/counterlens/counterlens/Rules$Forbidden" "values" "[I" .null := D258 (Or.inr (wd_18 hw)) (ty := (.array .int)) (by decide)
        obtain ⟨_, _, ⟨T260, L260, k260, n260⟩, -, X260, ⟨Lc260, hQ260, l260, y260, z260⟩, st260⟩ := X258.specialBack hx (y := (⟨"com/example/counterlens/counterlens/Rules$Forbidden", "<init>", "([I[I)V"⟩ : MethodName)) rfl hown (mvT hZ (wd_4 hw)) (mvT hZ (wd_5 hw)) (mvT hZ (wd_6 hw)) (by decide) (backOf (W := 1) (rm1 l Z a0 hw [] b258 b217 b219 .null .null h258 n0 Z259 F_features_b258 F_values_b258 A258 g_b258) hZ (wd_6 hw) (wd_3 hw) (by decide) (by decide)) (g := (mkF m 228 #[.val (.int p1), .val (.int p2), .val (.int p3), .val (.int (3 : Int32)), .val (.int f0), .val (.int f1), .val (.int f2), .val (.int v0), .val (.int v1), .val (.int v2), .val (.ref b199), .val (.ref b217), .val (.ref b219), .val (.int (0 : Int32)), .unset] [(.ref b219), (.ref b217), (.ref b258), (.ref b258)])) rfl (by rw [hml]; rfl) (Steps.refl _) (a := b258) (argsL := [(.ref b217), (.ref b219)]) (rest := [(.ref b258)]) (lenOf pd___I_I_V rfl) rfl (by show 2 * 0 + _ ≤ _; exact Nat.le_of_eq rfl) (hb hby at_228) (fun _ _ => ⟨rfl, e258, (by decide : 4 + 0 ≤ _), (by decide : 12 + 0 ≤ _)⟩)
        dsimp only [Pt.U, Pt.locs, Pt.cells, Pt.slots] at X260 l260 y260 z260 st260 hQ260
        subst l260 y260 z260
        obtain ⟨rfl, N260q, K260q, g260_0, g260_1, g260_2⟩ := hQ260
        have N260 := Fr.app N237 N260q
        have Z261 : n0 ≤ T260.heap.size := Nat.le_trans Z259 K260q.1
        obtain ⟨cq262, kq262, q262a, q262b, q262c⟩ := isOf hZ rfl (g260_0)
        obtain ⟨_, _, ⟨T262, L262, k262, n262⟩, -, X262, ⟨Lc262, hQ262, l262, y262, z262⟩, st262⟩ := X260.virtualBack hx (y := (⟨"com/example/counterlens/counterlens/Rules$Forbidden", "matches", "([I)Z"⟩ : MethodName)) (z := (⟨"com/example/counterlens/counterlens/Rules$Forbidden", "matches", "([I)Z"⟩ : MethodName)) hown (mvT hZ (wd_19 hw)) (mvT hZ (wd_20 hw)) (notFace_of_selects (args := #[]) (mvT hZ (wd_22 hw))) (mvT hZ (wd_22 hw)) (mvT hZ (wd_21 hw)) (by decide) (backOf (W := 0) (rmm3 l Z a0 hw [] b258 b199 b217 b219 k217 k219 k199 f0 f1 f2 v0 v1 v2 ea eb ec ed T260.heap n0 Z261 g260_1 g260_2 (((V_b217_234.other W237 ne_b217_b219).ext E258).keep K260q (ninS ne_b217_b258 nin0)) ((V_b219_237.ext E258).keep K260q (ninS ne_b219_b258 nin0)) ((((((((((V_b199_215.ext E217).ext E219).other W222 ne_b199_b217).other W225 ne_b199_b219).other W228 ne_b199_b217).other W231 ne_b199_b219).other W234 ne_b199_b217).other W237 ne_b199_b219).ext E258).keep K260q (ninS ne_b199_b258 nin0)) hb_f0 hb_f1 hb_f2) hZ (wd_23 hw) (wd_3 hw) (by decide) (by decide)) q262a q262c (g := (mkF m 237 #[.val (.int p1), .val (.int p2), .val (.int p3), .val (.int (3 : Int32)), .val (.int f0), .val (.int f1), .val (.int f2), .val (.int v0), .val (.int v1), .val (.int v2), .val (.ref b199), .val (.ref b217), .val (.ref b219), .val (.int (0 : Int32)), .val (.ref b258)] [(.ref b199), (.ref b258)])) rfl (by rw [hml]; rfl) (Steps.refl _) (argsL := [(.ref b199)]) (rest := []) (lenOf pd___I_Z rfl) rfl (by show 2 * 0 + _ ≤ _; exact Nat.le_of_eq rfl) (hb hby at_237) (fun _ _ => ⟨rfl, rfl, (by decide : 4 + 0 ≤ _), (by decide : 12 + 0 ≤ _)⟩)
        dsimp only [Pt.U, Pt.locs, Pt.cells, Pt.slots] at X262 l262 y262 z262 st262 hQ262
        subst l262 y262 z262
        obtain ⟨rfl, N262q, e262⟩ := hQ262
        have N262 := Fr.app N260 N262q
        obtain ⟨fs, hr, hrun, hended, hW, hsame⟩ := X262.leave (v := some (.int (1 : Int32))) (fun h => by rw [Bd.returns] at h; cases h)
        refine ⟨_, _, pre244 _ ?_, hrun, hended, _, _, rfl, ?_, ⟨_, rfl⟩, hW, hsame.mono (by decide) (by decide)⟩
        · show Steps p.tables e below (T237.setTop (mkF m 195 #[.val (.int p1), .val (.int p2), .val (.int p3), .val (.int (3 : Int32)), .val (.int f0), .val (.int f1), .val (.int f2), .val (.int v0), .val (.int v1), .val (.int v2), .val (.ref b199), .val (.ref b217), .val (.ref b219), .unset, .unset] [(.int v1), (.int (own_sel4 f1 ea eb ec ed))])) _
          refine XS.icmpYes X237.here hx rfl (pc0 := 195) (pc' := 217) rfl (hb hby at_195) rfl (feq hc195_243).2 (by decide) (by decide) ?_
          refine XS.iconst X237.here hx rfl (hb hby at_217) ?_
          show Steps p.tables e below (T237.setTop (mkF m 218 #[.val (.int p1), .val (.int p2), .val (.int p3), .val (.int (3 : Int32)), .val (.int f0), .val (.int f1), .val (.int f2), .val (.int v0), .val (.int v1), .val (.int v2), .val (.ref b199), .val (.ref b217), .val (.ref b219), .unset, .unset] [(.int (0 : Int32))])) _
          refine XS.istore X237.here hx rfl (hb hby at_218) rfl (l' := #[.val (.int p1), .val (.int p2), .val (.int p3), .val (.int (3 : Int32)), .val (.int f0), .val (.int f1), .val (.int f2), .val (.int v0), .val (.int v1), .val (.int v2), .val (.ref b199), .val (.ref b217), .val (.ref b219), .val (.int (0 : Int32)), .unset]) rfl ?_
          refine st258 _ ?_
          refine XS.dup X258.here hx rfl (hb hby at_223) rfl rfl ?_
          refine XS.aload X258.here hx rfl (hb hby at_224) rfl rfl ?_
          show Steps p.tables e below (T258.setTop (mkF m 226 #[.val (.int p1), .val (.int p2), .val (.int p3), .val (.int (3 : Int32)), .val (.int f0), .val (.int f1), .val (.int f2), .val (.int v0), .val (.int v1), .val (.int v2), .val (.ref b199), .val (.ref b217), .val (.ref b219), .val (.int (0 : Int32)), .unset] [(.ref b217), (.ref b258), (.ref b258)])) _
          refine XS.aload X258.here hx rfl (hb hby at_226) rfl rfl ?_
          refine st260.trans ?_
          refine XS.astore X260.here hx rfl (hb hby at_231) rfl rfl (l' := #[.val (.int p1), .val (.int p2), .val (.int p3), .val (.int (3 : Int32)), .val (.int f0), .val (.int f1), .val (.int f2), .val (.int v0), .val (.int v1), .val (.int v2), .val (.ref b199), .val (.ref b217), .val (.ref b219), .val (.int (0 : Int32)), .val (.ref b258)]) rfl ?_
          refine XS.aload X260.here hx rfl (hb hby at_233) rfl rfl ?_
          show Steps p.tables e below (T260.setTop (mkF m 235 #[.val (.int p1), .val (.int p2), .val (.int p3), .val (.int (3 : Int32)), .val (.int f0), .val (.int f1), .val (.int f2), .val (.int v0), .val (.int v1), .val (.int v2), .val (.ref b199), .val (.ref b217), .val (.ref b219), .val (.int (0 : Int32)), .val (.ref b258)] [(.ref b258)])) _
          refine XS.aload X260.here hx rfl (hb hby at_235) rfl rfl ?_
          refine st262.trans ?_
          refine XS.iload X262.here hx rfl (hb hby at_240) rfl ?_
          refine XS.icmpNo X262.here hx rfl (hb hby at_242) rfl (teq (by simp only [if_pos hc180_240, if_neg hc195_243])).2 ?_
          show Steps p.tables e below (T262.setTop (mkF m 245 #[.val (.int p1), .val (.int p2), .val (.int p3), .val (.int (3 : Int32)), .val (.int f0), .val (.int f1), .val (.int f2), .val (.int v0), .val (.int v1), .val (.int v2), .val (.ref b199), .val (.ref b217), .val (.ref b219), .val (.int (0 : Int32)), .val (.ref b258)] [])) _
          refine XS.iconst X262.here hx rfl (hb hby at_245) ?_
          refine XS.goto X262.here hx rfl (pc0 := 246) (pc' := 250) rfl (hb hby at_246) (by decide) (by decide) ?_
          exact retN X262 hx (t := .boolean) Bd.returns (by simp) (hb hby at_250) hr
        · show Q_rm0 Z p1 p2 p3 h0 n0 _ T262.heap _
          rw [e262]
          exact ⟨rfl, N262, trivial⟩
    · obtain ⟨T263, h263, X263, e263, E263, A263, D263, -, st263⟩ := newO X237 hx hZ hown (wd_1 hw) (wd_2 hw) (wd_3 hw) e237 (g := (mkF m 220 #[.val (.int p1), .val (.int p2), .val (.int p3), .val (.int (3 : Int32)), .val (.int f0), .val (.int f1), .val (.int f2), .val (.int v0), .val (.int v1), .val (.int v2), .val (.ref b199), .val (.ref b217), .val (.ref b219), .val (.int (0 : Int32)), .unset] [])) rfl (hb hby at_220) (by decide) (by decide)
      obtain ⟨b263, g263⟩ : ∃ z, z = h237.size := ⟨_, rfl⟩
      rw [← g263] at A263 D263 st263
      have g_b263 : n0 ≤ b263 := Nat.le_trans Z238 (Nat.le_of_eq g263.symm)
      have ne_b199_b263 : b199 ≠ b263 := Nat.ne_of_lt (Nat.lt_of_lt_of_le (((((((((V_b199_215.ext E217).ext E219).other W222 ne_b199_b217).other W225 ne_b199_b219).other W228 ne_b199_b217).other W231 ne_b199_b219).other W234 ne_b199_b217).other W237 ne_b199_b219)).lt (Nat.le_of_eq g263.symm))
      have ne_b217_b263 : b217 ≠ b263 := Nat.ne_of_lt (Nat.lt_of_lt_of_le ((V_b217_234.other W237 ne_b217_b219)).lt (Nat.le_of_eq g263.symm))
      have ne_b219_b263 : b219 ≠ b263 := Nat.ne_of_lt (Nat.lt_of_lt_of_le (V_b219_237).lt (Nat.le_of_eq g263.symm))
      have Z264 : n0 ≤ h263.size := Nat.le_trans Z238 E263.1
      have F_features_b263 : Fld Z h263 b263 "com/example/counterlens/counterlens/Rules$Forbidden" "features" "[I" .null := D263 (Or.inr (wd_16 hw)) (ty := (.array .int)) (by decide)
      have F_values_b263 : Fld Z h263 b263 "com/example/counterlens/counterlens/Rules$Forbidden" "values" "[I" .null := D263 (Or.inr (wd_18 hw)) (ty := (.array .int)) (by decide)
      obtain ⟨_, _, ⟨T265, L265, k265, n265⟩, -, X265, ⟨Lc265, hQ265, l265, y265, z265⟩, st265⟩ := X263.specialBack hx (y := (⟨"com/example/counterlens/counterlens/Rules$Forbidden", "<init>", "([I[I)V"⟩ : MethodName)) rfl hown (mvT hZ (wd_4 hw)) (mvT hZ (wd_5 hw)) (mvT hZ (wd_6 hw)) (by decide) (backOf (W := 1) (rm1 l Z a0 hw [] b263 b217 b219 .null .null h263 n0 Z264 F_features_b263 F_values_b263 A263 g_b263) hZ (wd_6 hw) (wd_3 hw) (by decide) (by decide)) (g := (mkF m 228 #[.val (.int p1), .val (.int p2), .val (.int p3), .val (.int (3 : Int32)), .val (.int f0), .val (.int f1), .val (.int f2), .val (.int v0), .val (.int v1), .val (.int v2), .val (.ref b199), .val (.ref b217), .val (.ref b219), .val (.int (0 : Int32)), .unset] [(.ref b219), (.ref b217), (.ref b263), (.ref b263)])) rfl (by rw [hml]; rfl) (Steps.refl _) (a := b263) (argsL := [(.ref b217), (.ref b219)]) (rest := [(.ref b263)]) (lenOf pd___I_I_V rfl) rfl (by show 2 * 0 + _ ≤ _; exact Nat.le_of_eq rfl) (hb hby at_228) (fun _ _ => ⟨rfl, e263, (by decide : 4 + 0 ≤ _), (by decide : 12 + 0 ≤ _)⟩)
      dsimp only [Pt.U, Pt.locs, Pt.cells, Pt.slots] at X265 l265 y265 z265 st265 hQ265
      subst l265 y265 z265
      obtain ⟨rfl, N265q, K265q, g265_0, g265_1, g265_2⟩ := hQ265
      have N265 := Fr.app N237 N265q
      have Z266 : n0 ≤ T265.heap.size := Nat.le_trans Z264 K265q.1
      obtain ⟨cq267, kq267, q267a, q267b, q267c⟩ := isOf hZ rfl (g265_0)
      obtain ⟨_, _, ⟨T267, L267, k267, n267⟩, -, X267, ⟨Lc267, hQ267, l267, y267, z267⟩, st267⟩ := X265.virtualBack hx (y := (⟨"com/example/counterlens/counterlens/Rules$Forbidden", "matches", "([I)Z"⟩ : MethodName)) (z := (⟨"com/example/counterlens/counterlens/Rules$Forbidden", "matches", "([I)Z"⟩ : MethodName)) hown (mvT hZ (wd_19 hw)) (mvT hZ (wd_20 hw)) (notFace_of_selects (args := #[]) (mvT hZ (wd_22 hw))) (mvT hZ (wd_22 hw)) (mvT hZ (wd_21 hw)) (by decide) (backOf (W := 0) (rmm3 l Z a0 hw [] b263 b199 b217 b219 k217 k219 k199 f0 f1 f2 v0 v1 v2 ea eb ec ed T265.heap n0 Z266 g265_1 g265_2 (((V_b217_234.other W237 ne_b217_b219).ext E263).keep K265q (ninS ne_b217_b263 nin0)) ((V_b219_237.ext E263).keep K265q (ninS ne_b219_b263 nin0)) ((((((((((V_b199_215.ext E217).ext E219).other W222 ne_b199_b217).other W225 ne_b199_b219).other W228 ne_b199_b217).other W231 ne_b199_b219).other W234 ne_b199_b217).other W237 ne_b199_b219).ext E263).keep K265q (ninS ne_b199_b263 nin0)) hb_f0 hb_f1 hb_f2) hZ (wd_23 hw) (wd_3 hw) (by decide) (by decide)) q267a q267c (g := (mkF m 237 #[.val (.int p1), .val (.int p2), .val (.int p3), .val (.int (3 : Int32)), .val (.int f0), .val (.int f1), .val (.int f2), .val (.int v0), .val (.int v1), .val (.int v2), .val (.ref b199), .val (.ref b217), .val (.ref b219), .val (.int (0 : Int32)), .val (.ref b263)] [(.ref b199), (.ref b263)])) rfl (by rw [hml]; rfl) (Steps.refl _) (argsL := [(.ref b199)]) (rest := []) (lenOf pd___I_Z rfl) rfl (by show 2 * 0 + _ ≤ _; exact Nat.le_of_eq rfl) (hb hby at_237) (fun _ _ => ⟨rfl, rfl, (by decide : 4 + 0 ≤ _), (by decide : 12 + 0 ≤ _)⟩)
      dsimp only [Pt.U, Pt.locs, Pt.cells, Pt.slots] at X267 l267 y267 z267 st267 hQ267
      subst l267 y267 z267
      obtain ⟨rfl, N267q, e267⟩ := hQ267
      have N267 := Fr.app N265 N267q
      obtain ⟨fs, hr, hrun, hended, hW, hsame⟩ := X267.leave (v := some (.int (1 : Int32))) (fun h => by rw [Bd.returns] at h; cases h)
      refine ⟨_, _, pre241 _ ?_, hrun, hended, _, _, rfl, ?_, ⟨_, rfl⟩, hW, hsame.mono (by decide) (by decide)⟩
      · show Steps p.tables e below (T237.setTop (mkF m 180 #[.val (.int p1), .val (.int p2), .val (.int p3), .val (.int (3 : Int32)), .val (.int f0), .val (.int f1), .val (.int f2), .val (.int v0), .val (.int v1), .val (.int v2), .val (.ref b199), .val (.ref b217), .val (.ref b219), .unset, .unset] [(.int v0), (.int (own_sel4 f0 ea eb ec ed))])) _
        refine XS.icmpYes X237.here hx rfl (pc0 := 180) (pc' := 217) rfl (hb hby at_180) rfl (feq hc180_240).2 (by decide) (by decide) ?_
        refine XS.iconst X237.here hx rfl (hb hby at_217) ?_
        show Steps p.tables e below (T237.setTop (mkF m 218 #[.val (.int p1), .val (.int p2), .val (.int p3), .val (.int (3 : Int32)), .val (.int f0), .val (.int f1), .val (.int f2), .val (.int v0), .val (.int v1), .val (.int v2), .val (.ref b199), .val (.ref b217), .val (.ref b219), .unset, .unset] [(.int (0 : Int32))])) _
        refine XS.istore X237.here hx rfl (hb hby at_218) rfl (l' := #[.val (.int p1), .val (.int p2), .val (.int p3), .val (.int (3 : Int32)), .val (.int f0), .val (.int f1), .val (.int f2), .val (.int v0), .val (.int v1), .val (.int v2), .val (.ref b199), .val (.ref b217), .val (.ref b219), .val (.int (0 : Int32)), .unset]) rfl ?_
        refine st263 _ ?_
        refine XS.dup X263.here hx rfl (hb hby at_223) rfl rfl ?_
        refine XS.aload X263.here hx rfl (hb hby at_224) rfl rfl ?_
        show Steps p.tables e below (T263.setTop (mkF m 226 #[.val (.int p1), .val (.int p2), .val (.int p3), .val (.int (3 : Int32)), .val (.int f0), .val (.int f1), .val (.int f2), .val (.int v0), .val (.int v1), .val (.int v2), .val (.ref b199), .val (.ref b217), .val (.ref b219), .val (.int (0 : Int32)), .unset] [(.ref b217), (.ref b263), (.ref b263)])) _
        refine XS.aload X263.here hx rfl (hb hby at_226) rfl rfl ?_
        refine st265.trans ?_
        refine XS.astore X265.here hx rfl (hb hby at_231) rfl rfl (l' := #[.val (.int p1), .val (.int p2), .val (.int p3), .val (.int (3 : Int32)), .val (.int f0), .val (.int f1), .val (.int f2), .val (.int v0), .val (.int v1), .val (.int v2), .val (.ref b199), .val (.ref b217), .val (.ref b219), .val (.int (0 : Int32)), .val (.ref b263)]) rfl ?_
        refine XS.aload X265.here hx rfl (hb hby at_233) rfl rfl ?_
        show Steps p.tables e below (T265.setTop (mkF m 235 #[.val (.int p1), .val (.int p2), .val (.int p3), .val (.int (3 : Int32)), .val (.int f0), .val (.int f1), .val (.int f2), .val (.int v0), .val (.int v1), .val (.int v2), .val (.ref b199), .val (.ref b217), .val (.ref b219), .val (.int (0 : Int32)), .val (.ref b263)] [(.ref b263)])) _
        refine XS.aload X265.here hx rfl (hb hby at_235) rfl rfl ?_
        refine st267.trans ?_
        refine XS.iload X267.here hx rfl (hb hby at_240) rfl ?_
        refine XS.icmpNo X267.here hx rfl (hb hby at_242) rfl (teq (by simp only [if_neg hc180_240])).2 ?_
        show Steps p.tables e below (T267.setTop (mkF m 245 #[.val (.int p1), .val (.int p2), .val (.int p3), .val (.int (3 : Int32)), .val (.int f0), .val (.int f1), .val (.int f2), .val (.int v0), .val (.int v1), .val (.int v2), .val (.ref b199), .val (.ref b217), .val (.ref b219), .val (.int (0 : Int32)), .val (.ref b263)] [])) _
        refine XS.iconst X267.here hx rfl (hb hby at_245) ?_
        refine XS.goto X267.here hx rfl (pc0 := 246) (pc' := 250) rfl (hb hby at_246) (by decide) (by decide) ?_
        exact retN X267 hx (t := .boolean) Bd.returns (by simp) (hb hby at_250) hr
      · show Q_rm0 Z p1 p2 p3 h0 n0 _ T267.heap _
        rw [e267]
        exact ⟨rfl, N267, trivial⟩
set_option maxRecDepth 65536 in
set_option maxHeartbeats 40000000 in
theorem comes_1 {Post : Tables → Env → Array Value → State → Outcome → State → Prop} (hpost : ∀ tb e args s v u, (limb_1_1.after args s (.returned v) u = true ∧ limb_1_2.after args s (.returned v) u = true ∧ True) → FrameEnd s (.returned v) u (Jvm.fieldLocs frame_1_writes args s ++ Jvm.arrayLocs frame_1_arrays args s ++ Jvm.staticLocs frame_1_statics s) 16 128 → Post tb e args s (.returned v) u) :
    ArmFor flags0 classFile x code maxLocals ret World_1 tables_1 room_1 Calls_1 rest_1 Pre_1 Post := by
  intro l hfl _ _ p e ha hc hk s m args below hf hA hF happ hP
  obtain ⟨hcalls, hrest, hpre⟩ := hP
  obtain ⟨-, -, -, hnamed, -, -, -, hat⟩ := (Spec.applies_iff hf).mp happ
  obtain ⟨hg, hn⟩ := and_e (Cond.before_iff.mp (show (Jvm.Cond.and given_1 narrow_1).before args s = true from hpre))
  obtain ⟨g268, g269⟩ := and_e hg
  obtain ⟨g270, g271⟩ := and_e g269
  obtain ⟨g272, g273⟩ := and_e g271
  obtain ⟨w0, w1, w2, rfl⟩ : ∃ w0 w1 w2 : Value, args = #[w0, w1, w2] := by
    have hs : args.size = 3 := by simpa [Cond.value, given_1] using g268
    obtain ⟨L⟩ := args
    match L, hs with
    | [w0, w1, w2], _ => exact ⟨w0, w1, w2, rfl⟩
  have hw := fun d (hd : d ∈ tables_1) => atoms_spec (ws := Jvm.Cond.code x code maxLocals ret :: tables_1) hat d (List.mem_cons_of_mem _ hd)
  have hfit : Fit s := fun {y c} hc i hi => by
    obtain ⟨ha, rfl⟩ := Array.getElem?_eq_some_iff.mp hc
    have q := List.all_eq_true.mp ((Array.all_eq_true_iff_forall_mem.mp hF) _ (Array.getElem_mem ha)) i (List.mem_range.mpr hi)
    simpa [Array.getElem?_eq_getElem hi] using q
  obtain ⟨i0, ei0⟩ := is_v g270
  obtain rfl : w0 = (.int i0) := Option.some.inj ei0
  obtain ⟨i1, ei1⟩ := is_v g272
  obtain rfl : w1 = (.int i1) := Option.some.inj ei1
  obtain ⟨i2, ei2⟩ := is_v g273
  obtain rfl : w2 = (.int i2) := Option.some.inj ei2
  obtain ⟨n, o, h1, h2, h3, _, L, rfl, ⟨rfl, N, -⟩, hq⟩ := rm0 l s _ hw tables_1 i0 i1 i2 s.heap s.heap.size (Nat.le_refl _) p e ha hc hk s m _ below hf ((Spec.applies_iff_loose hf).mp happ).1 ⟨rfl, State.Warmed39.refl s, rfl⟩ trivial
  refine ⟨n, _, h1, h2, h3, hpost _ _ _ _ _ _ ⟨Cond.after_iff.mpr rfl, Cond.after_iff.mpr (eq_i res_at (Term.int_eval (1)) rfl), trivial⟩ ⟨hq.1, hq.2.1, (hq.2.2.sift fun y hy => Or.inr (N y hy)).mono (by decide) (by decide)⟩⟩
theorem main_1_1 : Claimed_1_1 := comes_1 fun _ _ _ _ _ _ h hF => ⟨h.1, hF⟩
theorem main_1_2 : Claimed_1_2 := comes_1 fun _ _ _ _ _ _ h hF => ⟨h.2.1, hF⟩
end Jvm.Pilot.@@N@@
namespace Jvm.Pilot.@@N@@
open Jvm Jvm.ClassFile Sem Op Lib Jvm.Free Jvm.Stand Jvm.Pilot.@@N@@.Jvm.D
/-! MADE BY PROGRAM (witnessworld.py) out of the Statement's table words and the real class files: 10 classes; the members and pool entries that the words name. The judged class is class 1, her method 1. -/
namespace start1
open Jvm.ClassFile
def u (s : String) : CpInfo := .utf8 (stringToUtf16 s)
/-- a pool by its gaps: so many unusable entries, then the entry; so many at the end -/
def gap : Nat → List CpInfo → List CpInfo
  | 0, r => r
  | n + 1, r => .unusable :: gap n r
def poolList (es : List (Nat × CpInfo)) (last : Nat) : List CpInfo := es.foldr (fun e r => gap e.1 (e.2 :: r)) (gap last [])
def pool (es : List (Nat × CpInfo)) (last : Nat) : Array CpInfo := ⟨poolList es last⟩
def fileOf (pool : Array CpInfo) (this : Nat) (attrs : Array Attribute := #[]) (ms : Array MethodInfo := #[]) (fl : Nat := 33) (sup : Nat := 0) (ifs : Array Nat := #[]) (fds : Array FieldInfo := #[]) : ClassFile where
  minorVersion := 0
  majorVersion := 65
  constantPool := pool
  accessFlags := fl
  thisClass := this
  superClass := sup
  interfaces := ifs
  fields := fds
  methods := ms
  attributes := attrs
def plain (name : String) (sup : Option ClassId) : Class where
  name := name
  kind := .ordinary
  loader := none
  accessFlags := 33
  super := sup
  interfaces := #[]
  cf := none
  fields := #[]
  methods := #[]
  instanceTypes := #[]
  staticTypes := #[]
  resolved := #[]
  callSites := []
  init := .initialized
  statics := none
  mirror := none

def pool0 : Array CpInfo := pool [(5, u "<init>"), (0, u "()V"), (1, .class_ 10), (1, u "java/lang/Object")] 113

def k0c0 : Code := { maxStack := 0, maxLocals := 1, code := object_method_1_code, exceptionTable := #[], attributes := #[] }
def k0m0 : Method := { name := "<init>", desc := "()V", sig := { parameters := [], returnType := none }, accessFlags := 1, code := some k0c0 }
/-- java/lang/Object -/
def k0 : Class := { plain "java/lang/Object" none with
  accessFlags := 33
  interfaces := #[]
  cf := some (fileOf pool0 8 #[] #[{ accessFlags := 1, nameIndex := 5, descriptorIndex := 6, attributes := #[] }] 33 0 #[] #[])
  fields := #[]
  methods := #[k0m0]
  instanceTypes := #[]
  staticTypes := #[]
  resolved := Array.replicate 124 none
  statics := none }

def pool1 : Array CpInfo := pool [(2, .class_ 4), (1, u "java/lang/Object"), (0, u "<init>"), (0, u "()V"), (0, .class_ 8), (0, u "com/example/counterlens/counterlens/Rules$Forbidden"), (0, .methodref 7 10), (0, .nameAndType 5 11), (0, u "([I[I)V"), (0, .methodref 7 13), (0, .nameAndType 14 15), (0, u "matches"), (0, u "([I)Z"), (0, .class_ 17), (0, u "com/example/counterlens/counterlens/ForbiddenMatchesPinLaw"), (2, u "law"), (0, u "(III)Z")] 9

def k1m0 : Method := { name := "<init>", desc := "()V", sig := { parameters := [], returnType := none }, accessFlags := 1, code := none }
def k1c1 : Code := { maxStack := 4, maxLocals := 15, code := code, exceptionTable := #[], attributes := #[] }
def k1m1 : Method := { name := "law", desc := "(III)Z", sig := { parameters := [.int, .int, .int], returnType := some .boolean }, accessFlags := 9, code := some k1c1 }
/-- com/example/counterlens/counterlens/ForbiddenMatchesPinLaw -/
def k1 : Class := { plain "com/example/counterlens/counterlens/ForbiddenMatchesPinLaw" (some 0) with
  accessFlags := 49
  interfaces := #[]
  cf := some (fileOf pool1 16 #[] #[{ accessFlags := 1, nameIndex := 5, descriptorIndex := 6, attributes := #[] }, { accessFlags := 9, nameIndex := 20, descriptorIndex := 21, attributes := #[] }] 49 2 #[] #[])
  fields := #[]
  methods := #[k1m0, k1m1]
  instanceTypes := #[]
  staticTypes := #[]
  resolved := Array.replicate 31 none
  statics := none }

def pool2 : Array CpInfo := pool [(1, .methodref 2 3), (0, .class_ 4), (0, .nameAndType 5 6), (0, u "java/lang/Object"), (0, u "<init>"), (0, u "()V"), (0, .class_ 8), (0, u "java/lang/Record")] 13

def k2c0 : Code := { maxStack := 1, maxLocals := 1, code := jdk_30_method_1_code, exceptionTable := #[], attributes := #[] }
def k2m0 : Method := { name := "<init>", desc := "()V", sig := { parameters := [], returnType := none }, accessFlags := 4, code := some k2c0 }
/-- java/lang/Record -/
def k2 : Class := { plain "java/lang/Record" (some 0) with
  accessFlags := 1057
  interfaces := #[]
  cf := some (fileOf pool2 7 #[] #[{ accessFlags := 4, nameIndex := 5, descriptorIndex := 6, attributes := #[] }] 1057 2 #[] #[])
  fields := #[]
  methods := #[k2m0]
  instanceTypes := #[]
  staticTypes := #[]
  resolved := Array.replicate 22 none
  statics := none }

def pool3 : Array CpInfo := pool [(1, .methodref 2 3), (0, .class_ 4), (0, .nameAndType 5 6), (0, u "java/lang/Record"), (0, u "<init>"), (0, u "()V"), (0, .fieldref 8 9), (0, .class_ 10), (0, .nameAndType 11 12), (0, u "com/example/counterlens/counterlens/Rules$Forbidden"), (0, u "features"), (0, u "[I"), (0, .fieldref 8 14), (0, .nameAndType 15 12), (0, u "values"), (12, u "([I[I)V"), (3, u "matches"), (0, u "([I)Z"), (8, .class_ 43), (0, u "com/example/counterlens/counterlens/Rules")] 20

def k3c0 : Code := { maxStack := 2, maxLocals := 3, code := prog_64_method_1_code, exceptionTable := #[], attributes := #[] }
def k3m0 : Method := { name := "<init>", desc := "([I[I)V", sig := { parameters := [(.array .int), (.array .int)], returnType := none }, accessFlags := 0, code := some k3c0 }
def k3c1 : Code := { maxStack := 3, maxLocals := 3, code := prog_64_method_2_code, exceptionTable := #[], attributes := #[] }
def k3m1 : Method := { name := "matches", desc := "([I)Z", sig := { parameters := [(.array .int)], returnType := some .boolean }, accessFlags := 0, code := some k3c1 }
/-- com/example/counterlens/counterlens/Rules$Forbidden -/
def k3 : Class := { plain "com/example/counterlens/counterlens/Rules$Forbidden" (some 2) with
  accessFlags := 48
  interfaces := #[]
  cf := some (fileOf pool3 8 #[.nestHost 42] #[{ accessFlags := 0, nameIndex := 5, descriptorIndex := 28, attributes := #[] }, { accessFlags := 0, nameIndex := 32, descriptorIndex := 33, attributes := #[] }] 48 2 #[] #[{ accessFlags := 18, nameIndex := 11, descriptorIndex := 12, attributes := #[] }, { accessFlags := 18, nameIndex := 15, descriptorIndex := 12, attributes := #[] }])
  fields := #[{ name := "features", type := (.array .int), accessFlags := 18, slot := 0, constantValue := 0 }, { name := "values", type := (.array .int), accessFlags := 18, slot := 1, constantValue := 0 }]
  methods := #[k3m0, k3m1]
  instanceTypes := #[(.array .int), (.array .int)]
  staticTypes := #[]
  resolved := Array.replicate 64 none
  statics := none }

def pool4 : Array CpInfo := pool [(1, u "java/lang/Cloneable"), (0, .class_ 1), (0, u "java/lang/Object"), (0, .class_ 3)] 3

/-- java/lang/Cloneable -/
def k4 : Class := { plain "java/lang/Cloneable" (some 0) with
  accessFlags := 1537
  interfaces := #[]
  cf := some (fileOf pool4 2 #[] #[] 1537 4 #[] #[])
  fields := #[]
  methods := #[]
  instanceTypes := #[]
  staticTypes := #[]
  resolved := Array.replicate 8 none
  statics := none }

def pool5 : Array CpInfo := pool [(1, u "java/io/Serializable"), (0, .class_ 1), (0, u "java/lang/Object"), (0, .class_ 3)] 3

/-- java/io/Serializable -/
def k5 : Class := { plain "java/io/Serializable" (some 0) with
  accessFlags := 1537
  interfaces := #[]
  cf := some (fileOf pool5 2 #[] #[] 1537 4 #[] #[])
  fields := #[]
  methods := #[]
  instanceTypes := #[]
  staticTypes := #[]
  resolved := Array.replicate 8 none
  statics := none }

/-- the primitive byte -/
def k6 : Class := { plain "byte" none with kind := .primitive 'B', accessFlags := 0x411 }
/-- [B -/
def k7 : Class := { plain "[B" (some 0) with kind := .array 6 .byte, interfaces := #[4, 5], accessFlags := 1041 }

/-- the primitive int -/
def k8 : Class := { plain "int" none with kind := .primitive 'I', accessFlags := 0x411 }
/-- [I -/
def k9 : Class := { plain "[I" (some 0) with kind := .array 8 .int, interfaces := #[4, 5], accessFlags := 1041 }

def heap : Heap := #[]
def classes : Array Class := #[k0, k1, k2, k3, k4, k5, k6, k7, k8, k9]
def interned : List (Array UInt16 × Addr) := []
def slotsUsed : Nat := 0
def theMethod : MethodId := ⟨1, 1⟩
def args0 : Array Value := #[.int 5, .int 5, .int 5]
def aboutOver (below : List Frame) : State where
  vm := { classes := classes, interned := interned.toArray }
  heap := heap
  slotsUsed := slotsUsed
  threads := #[{ frames := .invoking theMethod args0 :: below }]
def below0 : List Frame := [.native { method := ⟨0, 0⟩, args := #[] }]
def about1 : State := aboutOver below0
def p0 : Program := .bare "" "" ""
def e0 : Env := launch0.env 0 0 0
theorem w_frames : about1.frames = Frame.invoking theMethod args0 :: below0 := rfl
set_option maxRecDepth 65536 in
theorem w_args : argsFit about1.vm theMethod args0 = true := by decide +kernel
set_option maxRecDepth 65536 in
theorem w_heap : heapFits about1 = true := by decide +kernel
set_option maxRecDepth 65536 in
theorem w_runnable : about1.curStatus? = some .runnable := by decide +kernel
set_option maxRecDepth 65536 in
theorem w_alone : about1.alone = true := by decide +kernel
set_option maxRecDepth 65536 in
theorem w_named : about1.methodNamed? x = some theMethod := by decide +kernel
set_option maxRecDepth 65536 in
theorem w_hears : about1.hears theMethod below0 = true := by decide +kernel
set_option maxRecDepth 65536 in
theorem w_ripe : about1.ripe theMethod args0 below0 = true := by decide +kernel
theorem w_running : about1.status = .running := rfl
set_option maxRecDepth 65536 in
theorem w_room : about1.hasRoom e0.platform room_1 = true :=
  launch0.hasRoom_least _ room_1 (by decide +kernel) (by decide +kernel) (by decide +kernel) (by decide +kernel) (by decide +kernel) (by decide +kernel)
theorem allAtoms_all (ts : List Jvm.Cond) (a : Array Jvm.Value) (st : Jvm.State) : (allAtoms ts).before a st = ts.all (fun c => c.before a st) := by
  induction ts with
  | nil => rfl
  | cons c t ih =>
    show (Jvm.Cond.and c (allAtoms t)).before a st = _
    rw [Jvm.Cond.before_and, ih, List.all_cons]
def words1 : List Jvm.Cond := Jvm.Cond.code x code maxLocals ret :: tables_1
/-- a 'code' word, met by the world's own term for the bytes: nothing is compared byte by byte -/
theorem code_word {y : MethodName} {bytes : ByteArray} {mx : Nat} {rt : Option FieldType} {a : Array Value} {s : State} {m : MethodId} {meth : Method} {c : Code} (h1 : s.methodNamed? y = some m) (h2 : s.vm.method? m = some meth) (h3 : meth.code = some c) (h4 : c.code = bytes)
    (h5 : (c.maxLocals == mx && c.exceptionTable.isEmpty && decide (c.maxStack ≤ mostOperands) && decide (meth.sig.returnType = rt) && !meth.locks && decide (parseMethodDescriptor y.desc = some meth.sig)) = true) : (Jvm.Cond.code y bytes mx rt).before a s = true := by
  simp only [Bool.and_eq_true, beq_iff_eq, Bool.not_eq_true', decide_eq_true_eq] at h5
  obtain ⟨⟨⟨⟨⟨g1, g2⟩, g3⟩, g4⟩, g5⟩, g6⟩ := h5
  simp [Cond.before, Cond.holds, Cond.value, h1, h2, h3, h4, g1, g2, g3, g4, g5, g6]
def isCode : Jvm.Cond → Bool
  | .code _ _ _ _ => true
  | _ => false
theorem all_split {L : List Jvm.Cond} {P : Jvm.Cond → Bool} (h1 : L.all (fun c => isCode c || P c) = true) (h2 : ∀ c ∈ L.filter isCode, P c = true) : L.all P = true := by
  refine List.all_eq_true.mpr fun c hc => ?_
  have h := List.all_eq_true.mp h1 c hc
  rcases Bool.eq_false_or_eq_true (isCode c) with hi | hi
  · exact h2 c (List.mem_filter.mpr ⟨hc, hi⟩)
  · simpa [hi] using h
set_option maxRecDepth 65536 in
theorem w_c0 : (Jvm.Cond.code x code maxLocals ret).before args0 about1 = true := code_word (m := ⟨1, 1⟩) (meth := k1m1) (c := k1c1) (by decide +kernel) rfl rfl rfl (by decide +kernel)
set_option maxRecDepth 65536 in
theorem w_c1 : (Jvm.Cond.code ({ cls := "com/example/counterlens/counterlens/Rules$Forbidden", name := "<init>", desc := "([I[I)V" } : Jvm.MethodName) prog_64_method_1_code (3 : Nat) (Option.none : Option Jvm.ClassFile.FieldType)).before args0 about1 = true := code_word (m := ⟨3, 0⟩) (meth := k3m0) (c := k3c0) (by decide +kernel) rfl rfl rfl (by decide +kernel)
set_option maxRecDepth 65536 in
theorem w_c2 : (Jvm.Cond.code ({ cls := "java/lang/Record", name := "<init>", desc := "()V" } : Jvm.MethodName) jdk_30_method_1_code (1 : Nat) (Option.none : Option Jvm.ClassFile.FieldType)).before args0 about1 = true := code_word (m := ⟨2, 0⟩) (meth := k2m0) (c := k2c0) (by decide +kernel) rfl rfl rfl (by decide +kernel)
set_option maxRecDepth 65536 in
theorem w_c3 : (Jvm.Cond.code ({ cls := "java/lang/Object", name := "<init>", desc := "()V" } : Jvm.MethodName) object_method_1_code (1 : Nat) (Option.none : Option Jvm.ClassFile.FieldType)).before args0 about1 = true := code_word (m := ⟨0, 0⟩) (meth := k0m0) (c := k0c0) (by decide +kernel) rfl rfl rfl (by decide +kernel)
set_option maxRecDepth 65536 in
theorem w_c4 : (Jvm.Cond.code ({ cls := "com/example/counterlens/counterlens/Rules$Forbidden", name := "matches", desc := "([I)Z" } : Jvm.MethodName) prog_64_method_2_code (3 : Nat) (Option.some Jvm.ClassFile.FieldType.boolean)).before args0 about1 = true := code_word (m := ⟨3, 1⟩) (meth := k3m1) (c := k3c1) (by decide +kernel) rfl rfl rfl (by decide +kernel)
def codes1 : List Jvm.Cond := [Jvm.Cond.code x code maxLocals ret, Jvm.Cond.code ({ cls := "com/example/counterlens/counterlens/Rules$Forbidden", name := "<init>", desc := "([I[I)V" } : Jvm.MethodName) prog_64_method_1_code (3 : Nat) (Option.none : Option Jvm.ClassFile.FieldType), Jvm.Cond.code ({ cls := "java/lang/Record", name := "<init>", desc := "()V" } : Jvm.MethodName) jdk_30_method_1_code (1 : Nat) (Option.none : Option Jvm.ClassFile.FieldType), Jvm.Cond.code ({ cls := "java/lang/Object", name := "<init>", desc := "()V" } : Jvm.MethodName) object_method_1_code (1 : Nat) (Option.none : Option Jvm.ClassFile.FieldType), Jvm.Cond.code ({ cls := "com/example/counterlens/counterlens/Rules$Forbidden", name := "matches", desc := "([I)Z" } : Jvm.MethodName) prog_64_method_2_code (3 : Nat) (Option.some Jvm.ClassFile.FieldType.boolean)]
set_option maxRecDepth 65536 in
theorem codes_eq : words1.filter isCode = codes1 := rfl
theorem w_codes : ∀ c ∈ words1.filter isCode, c.before args0 about1 = true := by
  rw [codes_eq]
  intro c hc
  simp only [codes1, List.mem_cons, List.not_mem_nil, or_false] at hc
  rcases hc with rfl | rfl | rfl | rfl | rfl
  · exact w_c0
  · exact w_c1
  · exact w_c2
  · exact w_c3
  · exact w_c4
set_option maxRecDepth 65536 in
theorem w_t1 : (words1.take 24).all (fun c => isCode c || c.before args0 about1) = true := by decide +kernel
set_option maxRecDepth 65536 in
theorem w_t2 : (words1.drop 24).all (fun c => isCode c || c.before args0 about1) = true := by decide +kernel
theorem w_tables : (allAtoms (Jvm.Cond.code x code maxLocals ret :: tables_1)).before args0 about1 = true := by
  rw [allAtoms_all]
  show words1.all (fun c => c.before args0 about1) = true
  refine all_split ?_ w_codes
  rw [← List.take_append_drop 24 words1, List.all_append, w_t1, w_t2]
  rfl
set_option maxRecDepth 65536 in
theorem w_case : (Jvm.Cond.and given_1 narrow_1).before args0 about1 = true := by decide +kernel
theorem w_applies : (headSpec (Jvm.Cond.code x code maxLocals ret :: tables_1) room_1).applies x e0.platform about1 = true :=
  (Spec.applies_iff w_frames).mpr ⟨w_running, w_runnable, w_alone, w_named, w_hears, w_ripe, w_room, w_tables⟩
theorem atStart : AtStart classFile x code maxLocals ret World_1 tables_1 room_1 Calls_1 rest_1 Pre_1 launch0 p0 e0 about1 theMethod args0 below0 :=
  ⟨lists_1, trivial, launch0.admits_env _ _ _, launch0.least_env, fairChoices_fair.cas, fairChoices_fair.clock, w_frames, w_args, w_heap, w_applies, trivial, trivial, w_case⟩
end start1
theorem witness_1 : WitnessClaimed_1 := ⟨start1.p0, start1.e0, start1.about1, start1.theMethod, start1.args0, start1.below0, start1.atStart⟩
end Jvm.Pilot.@@N@@
