import JvmDerived
import JvmDerived.Pilot.@@N@@Statement
import JvmDerived.Pilot.@@N@@Code
set_option linter.unusedVariables false
set_option linter.unusedSimpArgs false
namespace Jvm.RoadKit
open Sem ClassFile Op Lib Jvm.Stand Jvm.Free Jvm.LawKit
section New
variable {p : Program} {l : Launch} {e : Env} {R : Room} {s : State} {m : MethodId} {args : Array Value} {below : List Frame} {meth : Method} {c : Code} {T : State} {locs : List Loc} {cells slots : Nat}
theorem retI (X : Stand p l e R s m args below meth c T locs cells slots) (hx : p.tables.exec = Jvm.exec) {pc : Nat} {Ls : Array Slot} {z : Int32} {rest : List Value} (hret : meth.sig.returnType = some .int) (hd : decode c.code pc = .ok (.ireturn, 1)) {fs : List Frame}
    (hl : ∀ (f : JFrame) (acts : List Action), f.method = m → f.locked = none → f.entered = [] → (doReturn e (T.setTop f) acts (some (.int z))).1 = T.setFrames fs) : Steps p.tables e below (T.setTop (mkF m pc Ls (.int z :: rest))) (T.setFrames fs) := by
  have hm' : T.vm.method? m = some meth := X.method'
  have hn : narrow .int (.int z) = .int z := rfl
  show Steps p.tables e below (T.setTop { method := m, pc := pc, locals := Ls, stack := _ :: rest, locked := none }) _
  jvm_step X.here [X.here.top, hx, hd, hm', hret, hn]
  first | (intro acts; rw [hl _ acts rfl rfl rfl]) | rw [hl _ _ rfl rfl rfl]
  exact Steps.refl _
end New
end Jvm.RoadKit
namespace Jvm.Pilot.@@N@@
open Jvm Jvm.ClassFile Sem Op Lib Jvm.Free Jvm.Stand Jvm.LawKit Jvm.RoadKit Bundle Jvm.Pilot.@@N@@.Jvm.D
theorem own_lt {x y : Int32} {a b : Int} (h : x < y) (hx : x.toInt = a) (hy : y.toInt = b) : a < b := by rw [← hx, ← hy]; exact Int32.lt_iff_toInt_lt.mp h
theorem own_nlt {x y : Int32} {a b : Int} (h : ¬ x < y) (hx : x.toInt = a) (hy : y.toInt = b) : b ≤ a := by rw [← hx, ← hy]; exact Int.not_lt.mp fun q => h (Int32.lt_iff_toInt_lt.mpr q)
theorem own_eq {x y : Int32} {a b : Int} (h : x = y) (hx : x.toInt = a) (hy : y.toInt = b) : a = b := by rw [← hx, ← hy, h]
theorem own_ne {x y : Int32} {a b : Int} (h : ¬ x = y) (hx : x.toInt = a) (hy : y.toInt = b) : a ≠ b := by rw [← hx, ← hy]; exact fun q => h (Int32.toInt_inj.mp q)
theorem own_mx {a b : Int32} : (if a < b then b else a).toInt = if a.toInt < b.toInt then b.toInt else a.toInt := by
  by_cases h : a < b
  · rw [if_pos h, if_pos (Int32.lt_iff_toInt_lt.mp h)]
  · rw [if_neg h, if_neg (mt Int32.lt_iff_toInt_lt.mpr h)]
theorem own_last2 {a b r : Int32} (h : r.toInt = a.toInt ∨ r.toInt = b.toInt) (h1 : a.toInt ≤ r.toInt) (h2 : b.toInt ≤ r.toInt) : r = (if a < b then b else a) := by
  apply Int32.toInt_inj.mp; rw [own_mx]; split <;> omega
theorem own_last3 {a b c r : Int32} (h : r.toInt = a.toInt ∨ r.toInt = b.toInt ∨ r.toInt = c.toInt) (h1 : a.toInt ≤ r.toInt) (h2 : b.toInt ≤ r.toInt) (h3 : c.toInt ≤ r.toInt) : r = (if a < (if b < c then c else b) then (if b < c then c else b) else a) := by
  apply Int32.toInt_inj.mp; rw [own_mx, own_mx]; split <;> split <;> omega
theorem own_three (x : Int32) : (x &&& (3 : Int32)) = 0 ∨ (x &&& (3 : Int32)) = 1 ∨ (x &&& (3 : Int32)) = 2 ∨ (x &&& (3 : Int32)) = 3 := by
  have h1 := c_mask x 3 2 (by decide) rfl
  rw [show (((2 : Nat) ^ 2 : Nat) : Int) = 4 from rfl] at h1
  have e : ∀ (i : Int32) (n : Int), i.toInt = n → (x &&& (3 : Int32)).toInt = n → (x &&& (3 : Int32)) = i := fun i n a b => Int32.toInt_inj.mp (b.trans a.symm)
  have h3 : (x &&& (3 : Int32)).toInt = 0 ∨ (x &&& (3 : Int32)).toInt = 1 ∨ (x &&& (3 : Int32)).toInt = 2 ∨ (x &&& (3 : Int32)).toInt = 3 := by omega
  rcases h3 with q | q | q | q
  · exact Or.inl (e 0 0 rfl q)
  · exact Or.inr (Or.inl (e 1 1 rfl q))
  · exact Or.inr (Or.inr (Or.inl (e 2 2 rfl q)))
  · exact Or.inr (Or.inr (Or.inr (e 3 3 rfl q)))
theorem d8_0 : decode jdk_29_method_65_code 0 = .ok (.iload_n 0, 1) := by decide +kernel
theorem d8_1 : decode jdk_29_method_65_code 1 = .ok (.iload_n 1, 1) := by decide +kernel
theorem d8_2 : decode jdk_29_method_65_code 2 = .ok (.if_icmp .lt 7, 3) := by decide +kernel
theorem d8_9 : decode jdk_29_method_65_code 9 = .ok (.iload_n 1, 1) := by decide +kernel
theorem d8_10 : decode jdk_29_method_65_code 10 = .ok (.ireturn, 1) := by decide +kernel
theorem d8_5 : decode jdk_29_method_65_code 5 = .ok (.iload_n 0, 1) := by decide +kernel
theorem d8_6 : decode jdk_29_method_65_code 6 = .ok (.goto 4, 3) := by decide +kernel
theorem ef_8 (m : MethodId) (x0 : Int32) (x1 : Int32) : entryFrame m #[(.int x0), (.int x1)] 2 = mkF m 0 #[.val (.int x0), .val (.int x1)] [] := by first | (simp [entryFrame, mkF, argsToLocals, Value.category]; done) | rfl
def Q_rm8 (Z : State) (p1 : Int32) (p2 : Int32) (h0 : Heap) (n0 : Nat) (v : Option Value) (h : Heap) (L : List Loc) : Prop := v = some (.int (if p1 < p2 then p2 else p1)) ∧ Fr n0 L ∧ h = h0
set_option maxRecDepth 65536 in
set_option maxHeartbeats 40000000 in
theorem rm8 (l : Launch) (Z : State) (a0 : Array Value) (hw : ∀ d ∈ tables_1, d.before a0 Z = true) (ws : List Jvm.Cond) (p1 : Int32) (p2 : Int32) (h0 : Heap) (n0 : Nat) (Z0 : n0 ≤ h0.size) :
    MetFree l (⟨"java/lang/Math", "max", "(II)I"⟩ : MethodName) (head1 (Jvm.Cond.code (⟨"java/lang/Math", "max", "(II)I"⟩ : MethodName) jdk_29_method_65_code 2 (some .int) :: ws) ({ frames := 0, cells := 0, slots := 0, locals := 0 } : Room)) (fun a U => a = #[(.int p1), (.int p2)] ∧ Z.Warmed39 U.vm ∧ U.heap = h0) (fun _ _ _ _ _ => True) (fun _ U o U' => ∃ v L, o = .returned v ∧ Q_rm8 Z p1 p2 h0 n0 v U'.heap L ∧ FrameEnd U o U' L ({ frames := 0, cells := 0, slots := 0, locals := 0 } : Room).cells ({ frames := 0, cells := 0, slots := 0, locals := 0 } : Room).slots) := by
  refine MetFree.of_bodySF (Jvm.Free.JP.mathPlain rfl (by decide +kernel)) hisR ?_
  intro p e s m args below meth c s₁ Bd hml0 hP hK
  obtain ⟨rfl, hZ, hh⟩ := hP
  have hx := Bd.exec
  have hby := Bd.bytes
  have hml : c.maxLocals = 2 := hml0
  have hown : s.vm.findClass "java/lang/Math" = some m.cls := findClass_of_methodNamed Bd.named
  have hnm := (name_of_methodNamed Bd.named Bd.method).1
  have X0 : Stand p l e ({ frames := 0, cells := 0, slots := 0, locals := 0 } : Room) s m #[(.int p1), (.int p2)] below meth c s₁ [] 0 0 := Stand.of_body Bd
  have e0 : s₁.heap = h0 := by rw [← hh, Bd.state]; rfl
  have N0 := Fr.nil n0
  have pre0 : ∀ t, Steps p.tables e below (s₁.setTop (mkF m 0 #[.val (.int p1), .val (.int p2)] [])) t → Steps p.tables e below (s₁.setTop (entryFrame m #[(.int p1), (.int p2)] 2)) t := fun t k => castTop (ef_8 m p1 p2) k
  have pre2 : ∀ t, Steps p.tables e below (s₁.setTop (mkF m 2 #[.val (.int p1), .val (.int p2)] [(.int p2), (.int p1)])) t → Steps p.tables e below (s₁.setTop (entryFrame m #[(.int p1), (.int p2)] 2)) t := by
    intro t kt
    refine pre0 _ ?_
    show Steps p.tables e below (s₁.setTop (mkF m 0 #[.val (.int p1), .val (.int p2)] [])) _
    refine XS.iloadN X0.here hx rfl (hb hby d8_0) rfl ?_
    refine XS.iloadN X0.here hx rfl (hb hby d8_1) rfl ?_
    exact kt
  by_cases hc2_1 : p1 < p2
  · obtain ⟨fs, hr, hrun, hended, hW, hsame⟩ := X0.leave (v := some (.int p2)) (fun h => by rw [Bd.returns] at h; cases h)
    refine ⟨_, _, pre2 _ ?_, hrun, hended, _, _, rfl, ?_, ⟨_, rfl⟩, hW, hsame.mono (by decide) (by decide)⟩
    · show Steps p.tables e below (s₁.setTop (mkF m 2 #[.val (.int p1), .val (.int p2)] [(.int p2), (.int p1)])) _
      refine XS.icmpYes X0.here hx rfl (pc0 := 2) (pc' := 9) rfl (hb hby d8_2) rfl (tlt hc2_1).1 (by decide) (by decide) ?_
      refine XS.iloadN X0.here hx rfl (hb hby d8_9) rfl ?_
      show Steps p.tables e below (s₁.setTop (mkF m 10 #[.val (.int p1), .val (.int p2)] [(.int p2)])) _
      exact retI X0 hx Bd.returns (hb hby d8_10) hr
    · show Q_rm8 Z p1 p2 h0 n0 _ s₁.heap _
      rw [e0]
      exact ⟨(by simp only [if_pos hc2_1]), N0, rfl⟩
  · obtain ⟨fs, hr, hrun, hended, hW, hsame⟩ := X0.leave (v := some (.int p1)) (fun h => by rw [Bd.returns] at h; cases h)
    refine ⟨_, _, pre2 _ ?_, hrun, hended, _, _, rfl, ?_, ⟨_, rfl⟩, hW, hsame.mono (by decide) (by decide)⟩
    · show Steps p.tables e below (s₁.setTop (mkF m 2 #[.val (.int p1), .val (.int p2)] [(.int p2), (.int p1)])) _
      refine XS.icmpNo X0.here hx rfl (hb hby d8_2) rfl (flt hc2_1).1 ?_
      refine XS.iloadN X0.here hx rfl (hb hby d8_5) rfl ?_
      show Steps p.tables e below (s₁.setTop (mkF m 6 #[.val (.int p1), .val (.int p2)] [(.int p1)])) _
      refine XS.goto X0.here hx rfl (pc0 := 6) (pc' := 10) rfl (hb hby d8_6) (by decide) (by decide) ?_
      exact retI X0 hx Bd.returns (hb hby d8_10) hr
    · show Q_rm8 Z p1 p2 h0 n0 _ s₁.heap _
      rw [e0]
      exact ⟨(by simp only [if_neg hc2_1]), N0, rfl⟩
theorem d10_0 : decode jdk_29_method_69_code 0 = .ok (.iload_n 0, 1) := by decide +kernel
theorem d10_1 : decode jdk_29_method_69_code 1 = .ok (.iload_n 1, 1) := by decide +kernel
theorem d10_2 : decode jdk_29_method_69_code 2 = .ok (.if_icmp .gt 7, 3) := by decide +kernel
theorem d10_9 : decode jdk_29_method_69_code 9 = .ok (.iload_n 1, 1) := by decide +kernel
theorem d10_10 : decode jdk_29_method_69_code 10 = .ok (.ireturn, 1) := by decide +kernel
theorem d10_5 : decode jdk_29_method_69_code 5 = .ok (.iload_n 0, 1) := by decide +kernel
theorem d10_6 : decode jdk_29_method_69_code 6 = .ok (.goto 4, 3) := by decide +kernel
theorem ef_10 (m : MethodId) (x0 : Int32) (x1 : Int32) : entryFrame m #[(.int x0), (.int x1)] 2 = mkF m 0 #[.val (.int x0), .val (.int x1)] [] := by first | (simp [entryFrame, mkF, argsToLocals, Value.category]; done) | rfl
def Q_rm10 (Z : State) (p1 : Int32) (p2 : Int32) (h0 : Heap) (n0 : Nat) (v : Option Value) (h : Heap) (L : List Loc) : Prop := v = some (.int (if p2 < p1 then p2 else p1)) ∧ Fr n0 L ∧ h = h0
set_option maxRecDepth 65536 in
set_option maxHeartbeats 40000000 in
theorem rm10 (l : Launch) (Z : State) (a0 : Array Value) (hw : ∀ d ∈ tables_1, d.before a0 Z = true) (ws : List Jvm.Cond) (p1 : Int32) (p2 : Int32) (h0 : Heap) (n0 : Nat) (Z0 : n0 ≤ h0.size) :
    MetFree l (⟨"java/lang/Math", "min", "(II)I"⟩ : MethodName) (head1 (Jvm.Cond.code (⟨"java/lang/Math", "min", "(II)I"⟩ : MethodName) jdk_29_method_69_code 2 (some .int) :: ws) ({ frames := 0, cells := 0, slots := 0, locals := 0 } : Room)) (fun a U => a = #[(.int p1), (.int p2)] ∧ Z.Warmed39 U.vm ∧ U.heap = h0) (fun _ _ _ _ _ => True) (fun _ U o U' => ∃ v L, o = .returned v ∧ Q_rm10 Z p1 p2 h0 n0 v U'.heap L ∧ FrameEnd U o U' L ({ frames := 0, cells := 0, slots := 0, locals := 0 } : Room).cells ({ frames := 0, cells := 0, slots := 0, locals := 0 } : Room).slots) := by
  refine MetFree.of_bodySF (Jvm.Free.JP.mathPlain rfl (by decide +kernel)) hisR ?_
  intro p e s m args below meth c s₁ Bd hml0 hP hK
  obtain ⟨rfl, hZ, hh⟩ := hP
  have hx := Bd.exec
  have hby := Bd.bytes
  have hml : c.maxLocals = 2 := hml0
  have hown : s.vm.findClass "java/lang/Math" = some m.cls := findClass_of_methodNamed Bd.named
  have hnm := (name_of_methodNamed Bd.named Bd.method).1
  have X0 : Stand p l e ({ frames := 0, cells := 0, slots := 0, locals := 0 } : Room) s m #[(.int p1), (.int p2)] below meth c s₁ [] 0 0 := Stand.of_body Bd
  have e0 : s₁.heap = h0 := by rw [← hh, Bd.state]; rfl
  have N0 := Fr.nil n0
  have pre0 : ∀ t, Steps p.tables e below (s₁.setTop (mkF m 0 #[.val (.int p1), .val (.int p2)] [])) t → Steps p.tables e below (s₁.setTop (entryFrame m #[(.int p1), (.int p2)] 2)) t := fun t k => castTop (ef_10 m p1 p2) k
  have pre4 : ∀ t, Steps p.tables e below (s₁.setTop (mkF m 2 #[.val (.int p1), .val (.int p2)] [(.int p2), (.int p1)])) t → Steps p.tables e below (s₁.setTop (entryFrame m #[(.int p1), (.int p2)] 2)) t := by
    intro t kt
    refine pre0 _ ?_
    show Steps p.tables e below (s₁.setTop (mkF m 0 #[.val (.int p1), .val (.int p2)] [])) _
    refine XS.iloadN X0.here hx rfl (hb hby d10_0) rfl ?_
    refine XS.iloadN X0.here hx rfl (hb hby d10_1) rfl ?_
    exact kt
  by_cases hc2_3 : p2 < p1
  · obtain ⟨fs, hr, hrun, hended, hW, hsame⟩ := X0.leave (v := some (.int p2)) (fun h => by rw [Bd.returns] at h; cases h)
    refine ⟨_, _, pre4 _ ?_, hrun, hended, _, _, rfl, ?_, ⟨_, rfl⟩, hW, hsame.mono (by decide) (by decide)⟩
    · show Steps p.tables e below (s₁.setTop (mkF m 2 #[.val (.int p1), .val (.int p2)] [(.int p2), (.int p1)])) _
      refine XS.icmpYes X0.here hx rfl (pc0 := 2) (pc' := 9) rfl (hb hby d10_2) rfl (tlt hc2_3).2.2.1 (by decide) (by decide) ?_
      refine XS.iloadN X0.here hx rfl (hb hby d10_9) rfl ?_
      show Steps p.tables e below (s₁.setTop (mkF m 10 #[.val (.int p1), .val (.int p2)] [(.int p2)])) _
      exact retI X0 hx Bd.returns (hb hby d10_10) hr
    · show Q_rm10 Z p1 p2 h0 n0 _ s₁.heap _
      rw [e0]
      exact ⟨(by simp only [if_pos hc2_3]), N0, rfl⟩
  · obtain ⟨fs, hr, hrun, hended, hW, hsame⟩ := X0.leave (v := some (.int p1)) (fun h => by rw [Bd.returns] at h; cases h)
    refine ⟨_, _, pre4 _ ?_, hrun, hended, _, _, rfl, ?_, ⟨_, rfl⟩, hW, hsame.mono (by decide) (by decide)⟩
    · show Steps p.tables e below (s₁.setTop (mkF m 2 #[.val (.int p1), .val (.int p2)] [(.int p2), (.int p1)])) _
      refine XS.icmpNo X0.here hx rfl (hb hby d10_2) rfl (flt hc2_3).2.2.1 ?_
      refine XS.iloadN X0.here hx rfl (hb hby d10_5) rfl ?_
      show Steps p.tables e below (s₁.setTop (mkF m 6 #[.val (.int p1), .val (.int p2)] [(.int p1)])) _
      refine XS.goto X0.here hx rfl (pc0 := 6) (pc' := 10) rfl (hb hby d10_6) (by decide) (by decide) ?_
      exact retI X0 hx Bd.returns (hb hby d10_10) hr
    · show Q_rm10 Z p1 p2 h0 n0 _ s₁.heap _
      rw [e0]
      exact ⟨(by simp only [if_neg hc2_3]), N0, rfl⟩
theorem d3_0 : decode jdk_22_method_1_code 0 = .ok (.aload_n 0, 1) := by decide +kernel
theorem d3_1 : decode jdk_22_method_1_code 1 = .ok (.invokespecial 1, 3) := by decide +kernel
theorem wd_21 {a0 : Array Value} {Z : State} (hw : ∀ d ∈ tables_1, d.before a0 Z = true) : (Jvm.Cond.methodLink "java/util/AbstractCollection" (1 : Nat) ({ cls := "java/lang/Object", name := "<init>", desc := "()V" } : Jvm.MethodName)).before a0 Z = true := hw _ (List.mem_of_getElem? (i := 21) rfl)
theorem wd_22 {a0 : Array Value} {Z : State} (hw : ∀ d ∈ tables_1, d.before a0 Z = true) : (Jvm.Cond.instanceMethod ({ cls := "java/lang/Object", name := "<init>", desc := "()V" } : Jvm.MethodName)).before a0 Z = true := hw _ (List.mem_of_getElem? (i := 22) rfl)
theorem wd_23 {a0 : Array Value} {Z : State} (hw : ∀ d ∈ tables_1, d.before a0 Z = true) : (Jvm.Cond.code ({ cls := "java/lang/Object", name := "<init>", desc := "()V" } : Jvm.MethodName) object_method_1_code (1 : Nat) (Option.none : Option Jvm.ClassFile.FieldType)).before a0 Z = true := hw _ (List.mem_of_getElem? (i := 23) rfl)
theorem d3_4 : decode jdk_22_method_1_code 4 = .ok (.return_, 1) := by decide +kernel
theorem ef_3 (m : MethodId) (x0 : Addr) : entryFrame m #[(.ref x0)] 1 = mkF m 0 #[.val (.ref x0)] [] := by first | (simp [entryFrame, mkF, argsToLocals, Value.category]; done) | rfl
theorem pn_java_util_AbstractCollection : plainName "java/util/AbstractCollection" = true := by first | (simp [plainName, overriddenIn]; done) | decide +kernel
def Q_rm3 (Z : State) (a1 : Addr) (h0 : Heap) (n0 : Nat) (v : Option Value) (h : Heap) (L : List Loc) : Prop := v = none ∧ Fr n0 L ∧ h = h0
set_option maxRecDepth 65536 in
set_option maxHeartbeats 40000000 in
theorem rm3 (l : Launch) (Z : State) (a0 : Array Value) (hw : ∀ d ∈ tables_1, d.before a0 Z = true) (ws : List Jvm.Cond) (a1 : Addr) (h0 : Heap) (n0 : Nat) (Z0 : n0 ≤ h0.size) :
    MetFree l (⟨"java/util/AbstractCollection", "<init>", "()V"⟩ : MethodName) (head1 (Jvm.Cond.code (⟨"java/util/AbstractCollection", "<init>", "()V"⟩ : MethodName) jdk_22_method_1_code 1 none :: ws) ({ frames := 1, cells := 0, slots := 0, locals := 12 } : Room)) (fun a U => a = #[(.ref a1)] ∧ Z.Warmed39 U.vm ∧ U.heap = h0) (fun _ _ _ _ _ => True) (fun _ U o U' => ∃ v L, o = .returned v ∧ Q_rm3 Z a1 h0 n0 v U'.heap L ∧ FrameEnd U o U' L ({ frames := 1, cells := 0, slots := 0, locals := 12 } : Room).cells ({ frames := 1, cells := 0, slots := 0, locals := 12 } : Room).slots) := by
  refine MetFree.of_bodySF (plainFor_of_name pn_java_util_AbstractCollection) hisR ?_
  intro p e s m args below meth c s₁ Bd hml0 hP hK
  obtain ⟨rfl, hZ, hh⟩ := hP
  have hx := Bd.exec
  have hby := Bd.bytes
  have hml : c.maxLocals = 1 := hml0
  have hown : s.vm.findClass "java/util/AbstractCollection" = some m.cls := findClass_of_methodNamed Bd.named
  have hnm := (name_of_methodNamed Bd.named Bd.method).1
  have X0 : Stand p l e ({ frames := 1, cells := 0, slots := 0, locals := 12 } : Room) s m #[(.ref a1)] below meth c s₁ [] 0 0 := Stand.of_body Bd
  have e0 : s₁.heap = h0 := by rw [← hh, Bd.state]; rfl
  have N0 := Fr.nil n0
  have pre0 : ∀ t, Steps p.tables e below (s₁.setTop (mkF m 0 #[.val (.ref a1)] [])) t → Steps p.tables e below (s₁.setTop (entryFrame m #[(.ref a1)] 1)) t := fun t k => castTop (ef_3 m a1) k
  obtain ⟨T5, X5, e5, st5⟩ := initO X0 hx hZ hown (wd_21 hw) (wd_22 hw) (wd_23 hw) e0 (g := (mkF m 1 #[.val (.ref a1)] [(.ref a1)])) rfl (by rw [hml]; rfl) rfl (hb hby d3_1) (by decide) (W := 0) (by show 2 * 0 + _ ≤ _; exact Nat.le_of_eq rfl) (by decide)
  obtain ⟨fs, hr, hrun, hended, hW, hsame⟩ := X5.leave (v := none) (fun _ => rfl)
  refine ⟨_, _, pre0 _ ?_, hrun, hended, _, _, rfl, ?_, ⟨_, rfl⟩, hW, hsame.mono (by decide) (by decide)⟩
  · show Steps p.tables e below (s₁.setTop (mkF m 0 #[.val (.ref a1)] [])) _
    refine XS.aloadN X0.here hx rfl (hb hby d3_0) rfl rfl ?_
    refine st5 _ ?_
    exact X5.returnOut hx Bd.returns (hb hby d3_4) hr
  · show Q_rm3 Z a1 h0 n0 _ T5.heap _
    rw [e5]
    exact ⟨rfl, N0, rfl⟩
theorem d2_0 : decode jdk_39_method_1_code 0 = .ok (.aload_n 0, 1) := by decide +kernel
theorem d2_1 : decode jdk_39_method_1_code 1 = .ok (.invokespecial 1, 3) := by decide +kernel
theorem wd_15 {a0 : Array Value} {Z : State} (hw : ∀ d ∈ tables_1, d.before a0 Z = true) : (Jvm.Cond.methodLink "java/util/AbstractList" (1 : Nat) ({ cls := "java/util/AbstractCollection", name := "<init>", desc := "()V" } : Jvm.MethodName)).before a0 Z = true := hw _ (List.mem_of_getElem? (i := 15) rfl)
theorem wd_20 {a0 : Array Value} {Z : State} (hw : ∀ d ∈ tables_1, d.before a0 Z = true) : (Jvm.Cond.code ({ cls := "java/util/AbstractCollection", name := "<init>", desc := "()V" } : Jvm.MethodName) jdk_22_method_1_code (1 : Nat) (Option.none : Option Jvm.ClassFile.FieldType)).before a0 Z = true := hw _ (List.mem_of_getElem? (i := 20) rfl)
theorem wd_19 {a0 : Array Value} {Z : State} (hw : ∀ d ∈ tables_1, d.before a0 Z = true) : (Jvm.Cond.initialized "java/util/AbstractCollection").before a0 Z = true := hw _ (List.mem_of_getElem? (i := 19) rfl)
theorem pd___V : parseMethodDescriptor "()V" = some ⟨[], none⟩ := by decide +kernel
theorem wd_16 {a0 : Array Value} {Z : State} (hw : ∀ d ∈ tables_1, d.before a0 Z = true) : (Jvm.Cond.instanceMethod ({ cls := "java/util/AbstractCollection", name := "<init>", desc := "()V" } : Jvm.MethodName)).before a0 Z = true := hw _ (List.mem_of_getElem? (i := 16) rfl)
theorem d2_4 : decode jdk_39_method_1_code 4 = .ok (.aload_n 0, 1) := by decide +kernel
theorem d2_5 : decode jdk_39_method_1_code 5 = .ok (.iconst 0, 1) := by decide +kernel
theorem d2_6 : decode jdk_39_method_1_code 6 = .ok (.putfield 7, 3) := by decide +kernel
theorem wd_24 {a0 : Array Value} {Z : State} (hw : ∀ d ∈ tables_1, d.before a0 Z = true) : (Jvm.Cond.fieldLink "java/util/AbstractList" (7 : Nat) "java/util/AbstractList" "modCount" "I").before a0 Z = true := hw _ (List.mem_of_getElem? (i := 24) rfl)
theorem wd_25 {a0 : Array Value} {Z : State} (hw : ∀ d ∈ tables_1, d.before a0 Z = true) : (Jvm.Cond.lays "java/util/ArrayList" "java/util/AbstractList" "modCount" "I").before a0 Z = true := hw _ (List.mem_of_getElem? (i := 25) rfl)
theorem wd_4 {a0 : Array Value} {Z : State} (hw : ∀ d ∈ tables_1, d.before a0 Z = true) : (Jvm.Cond.instantiable "java/util/ArrayList" (3 : Nat)).before a0 Z = true := hw _ (List.mem_of_getElem? (i := 4) rfl)
theorem d2_9 : decode jdk_39_method_1_code 9 = .ok (.return_, 1) := by decide +kernel
theorem wd_28 {a0 : Array Value} {Z : State} (hw : ∀ d ∈ tables_1, d.before a0 Z = true) : (Jvm.Cond.lays "java/util/ArrayList" "java/util/ArrayList" "elementData" "[Ljava/lang/Object;").before a0 Z = true := hw _ (List.mem_of_getElem? (i := 28) rfl)
theorem ef_2 (m : MethodId) (x0 : Addr) : entryFrame m #[(.ref x0)] 1 = mkF m 0 #[.val (.ref x0)] [] := by first | (simp [entryFrame, mkF, argsToLocals, Value.category]; done) | rfl
theorem pn_java_util_AbstractList : plainName "java/util/AbstractList" = true := by first | (simp [plainName, overriddenIn]; done) | decide +kernel
def Q_rmab1 (Z : State) (a1 : Addr) (u1 : Value) (u2 : Value) (h0 : Heap) (n0 : Nat) (v : Option Value) (h : Heap) (L : List Loc) : Prop := v = none ∧ Fr n0 L ∧ Keep h0 h [a1] ∧ (Fld Z h a1 "java/util/ArrayList" "elementData" "[Ljava/lang/Object;" u1)
set_option maxRecDepth 65536 in
set_option maxHeartbeats 40000000 in
theorem rmab1 (l : Launch) (Z : State) (a0 : Array Value) (hw : ∀ d ∈ tables_1, d.before a0 Z = true) (ws : List Jvm.Cond) (a1 : Addr) (u1 : Value) (u2 : Value) (h0 : Heap) (n0 : Nat) (Z0 : n0 ≤ h0.size) (F_elementData_a1 : Fld Z h0 a1 "java/util/ArrayList" "elementData" "[Ljava/lang/Object;" u1) (F_modCount_a1 : Fld Z h0 a1 "java/util/AbstractList" "modCount" "I" u2) (E_a1 : Exa Z h0 a1 "java/util/ArrayList") (g_a1 : n0 ≤ a1) :
    MetFree l (⟨"java/util/AbstractList", "<init>", "()V"⟩ : MethodName) (head1 (Jvm.Cond.code (⟨"java/util/AbstractList", "<init>", "()V"⟩ : MethodName) jdk_39_method_1_code 1 none :: ws) ({ frames := 2, cells := 0, slots := 0, locals := 24 } : Room)) (fun a U => a = #[(.ref a1)] ∧ Z.Warmed39 U.vm ∧ U.heap = h0) (fun _ _ _ _ _ => True) (fun _ U o U' => ∃ v L, o = .returned v ∧ Q_rmab1 Z a1 u1 u2 h0 n0 v U'.heap L ∧ FrameEnd U o U' L ({ frames := 2, cells := 0, slots := 0, locals := 24 } : Room).cells ({ frames := 2, cells := 0, slots := 0, locals := 24 } : Room).slots) := by
  refine MetFree.of_bodySF (plainFor_of_name pn_java_util_AbstractList) hisR ?_
  intro p e s m args below meth c s₁ Bd hml0 hP hK
  obtain ⟨rfl, hZ, hh⟩ := hP
  have hx := Bd.exec
  have hby := Bd.bytes
  have hml : c.maxLocals = 1 := hml0
  have hown : s.vm.findClass "java/util/AbstractList" = some m.cls := findClass_of_methodNamed Bd.named
  have hnm := (name_of_methodNamed Bd.named Bd.method).1
  have X0 : Stand p l e ({ frames := 2, cells := 0, slots := 0, locals := 24 } : Room) s m #[(.ref a1)] below meth c s₁ [] 0 0 := Stand.of_body Bd
  have e0 : s₁.heap = h0 := by rw [← hh, Bd.state]; rfl
  have N0 := Fr.nil n0
  have pre0 : ∀ t, Steps p.tables e below (s₁.setTop (mkF m 0 #[.val (.ref a1)] [])) t → Steps p.tables e below (s₁.setTop (entryFrame m #[(.ref a1)] 1)) t := fun t k => castTop (ef_2 m a1) k
  obtain ⟨_, _, ⟨T6, L6, k6, n6⟩, -, X6, ⟨Lc6, hQ6, l6, y6, z6⟩, st6⟩ := X0.specialBack hx (y := (⟨"java/util/AbstractCollection", "<init>", "()V"⟩ : MethodName)) rfl hown (mvT hZ (wd_15 hw)) (mvT hZ (wd_16 hw)) (mvT hZ (wd_20 hw)) (by decide) (backOf (W := 0) (rm3 l Z a0 hw [] a1 h0 n0 Z0) hZ (wd_20 hw) (wd_19 hw) (by decide) (by decide)) (g := (mkF m 1 #[.val (.ref a1)] [(.ref a1)])) rfl (by rw [hml]; rfl) (Steps.refl _) (a := a1) (argsL := []) (rest := []) (lenOf pd___V rfl) rfl (by show 2 * 0 + _ ≤ _; exact Nat.le_of_eq rfl) (hb hby d2_1) (fun _ _ => ⟨rfl, e0, (by decide : 0 + 0 ≤ _), (by decide : 0 + 0 ≤ _)⟩)
  dsimp only [Pt.U, Pt.locs, Pt.cells, Pt.slots] at X6 l6 y6 z6 st6 hQ6
  subst l6 y6 z6
  obtain ⟨rfl, N6q, e6⟩ := hQ6
  have N6 := Fr.app N0 N6q
  obtain ⟨T7, h7, X7, e7, W7, st7⟩ := putF X6 hx hZ hown (host := "") (Or.inl (wd_24 hw)) Via.refl e6 F_modCount_a1 E_a1 (Or.inl (wd_25 hw)) (wd_4 hw) (ty := .int) (by decide) rfl rfl (g := (mkF m 6 #[.val (.ref a1)] [(.int (0 : Int32)), (.ref a1)])) rfl rfl (hb hby d2_6)
  have Fw7 := F_modCount_a1.same W7
  have Z8 : n0 ≤ h7.size := Nat.le_trans Z0 (Keep.of_wr W7).1
  have K9 : Keep h0 h7 [a1] := Keep.wr (Keep.refl h0 [a1]) W7 (Or.inl (List.mem_of_getElem? (i := 0) rfl))
  have N7 := Fr.snoc X7 N6 g_a1
  obtain ⟨fs, hr, hrun, hended, hW, hsame⟩ := X7.leave (v := none) (fun _ => rfl)
  refine ⟨_, _, pre0 _ ?_, hrun, hended, _, _, rfl, ?_, ⟨_, rfl⟩, hW, hsame.mono (by decide) (by decide)⟩
  · show Steps p.tables e below (s₁.setTop (mkF m 0 #[.val (.ref a1)] [])) _
    refine XS.aloadN X0.here hx rfl (hb hby d2_0) rfl rfl ?_
    refine st6.trans ?_
    refine XS.aloadN X6.here hx rfl (hb hby d2_4) rfl rfl ?_
    refine XS.iconst X6.here hx rfl (hb hby d2_5) ?_
    show Steps p.tables e below (T6.setTop (mkF m 6 #[.val (.ref a1)] [(.int (0 : Int32)), (.ref a1)])) _
    refine st7 _ ?_
    exact X7.returnOut hx Bd.returns (hb hby d2_9) hr
  · show Q_rmab1 Z a1 u1 u2 h0 n0 _ T7.heap _
    rw [e7]
    exact ⟨rfl, N7, K9, (F_elementData_a1.other W7 (Or.inr (slot_ne (Or.inl (wd_28 hw)) (Or.inl (wd_25 hw)) (by decide) (t := (.array (.object "java/lang/Object"))) (t' := .int) (by decide) (by decide))))⟩
theorem wd_34 {a0 : Array Value} {Z : State} (hw : ∀ d ∈ tables_1, d.before a0 Z = true) : (Jvm.Cond.lays "com/example/kawi/kawi/OrderedNames" "java/util/AbstractList" "modCount" "I").before a0 Z = true := hw _ (List.mem_of_getElem? (i := 34) rfl)
theorem wd_1 {a0 : Array Value} {Z : State} (hw : ∀ d ∈ tables_1, d.before a0 Z = true) : (Jvm.Cond.instantiable "com/example/kawi/kawi/OrderedNames" (5 : Nat)).before a0 Z = true := hw _ (List.mem_of_getElem? (i := 1) rfl)
theorem wd_38 {a0 : Array Value} {Z : State} (hw : ∀ d ∈ tables_1, d.before a0 Z = true) : (Jvm.Cond.lays "com/example/kawi/kawi/OrderedNames" "com/example/kawi/kawi/OrderedNames" "places" "[I").before a0 Z = true := hw _ (List.mem_of_getElem? (i := 38) rfl)
theorem wd_40 {a0 : Array Value} {Z : State} (hw : ∀ d ∈ tables_1, d.before a0 Z = true) : (Jvm.Cond.lays "com/example/kawi/kawi/OrderedNames" "com/example/kawi/kawi/OrderedNames" "ordered" "Z").before a0 Z = true := hw _ (List.mem_of_getElem? (i := 40) rfl)
theorem wd_49 {a0 : Array Value} {Z : State} (hw : ∀ d ∈ tables_1, d.before a0 Z = true) : (Jvm.Cond.lays "com/example/kawi/kawi/OrderedNames" "com/example/kawi/kawi/OrderedNames" "size" "I").before a0 Z = true := hw _ (List.mem_of_getElem? (i := 49) rfl)
theorem wd_42 {a0 : Array Value} {Z : State} (hw : ∀ d ∈ tables_1, d.before a0 Z = true) : (Jvm.Cond.laysFinal "com/example/kawi/kawi/OrderedNames" "com/example/kawi/kawi/OrderedNames" "beans" "Ljava/util/List;").before a0 Z = true := hw _ (List.mem_of_getElem? (i := 42) rfl)
def Q_rmab2 (Z : State) (a1 : Addr) (u0 : Value) (u1 : Value) (u2 : Value) (u3 : Value) (u4 : Value) (h0 : Heap) (n0 : Nat) (v : Option Value) (h : Heap) (L : List Loc) : Prop := v = none ∧ Fr n0 L ∧ Keep h0 h [a1] ∧ (Fld Z h a1 "com/example/kawi/kawi/OrderedNames" "places" "[I" u0) ∧ (Fld Z h a1 "com/example/kawi/kawi/OrderedNames" "ordered" "Z" u1) ∧ (Fld Z h a1 "com/example/kawi/kawi/OrderedNames" "size" "I" u2) ∧ (Fld Z h a1 "com/example/kawi/kawi/OrderedNames" "beans" "Ljava/util/List;" u3) ∧ (Fld Z h a1 "java/util/AbstractList" "modCount" "I" (.int (0 : Int32)))
set_option maxRecDepth 65536 in
set_option maxHeartbeats 40000000 in
theorem rmab2 (l : Launch) (Z : State) (a0 : Array Value) (hw : ∀ d ∈ tables_1, d.before a0 Z = true) (ws : List Jvm.Cond) (a1 : Addr) (u0 : Value) (u1 : Value) (u2 : Value) (u3 : Value) (u4 : Value) (h0 : Heap) (n0 : Nat) (Z0 : n0 ≤ h0.size) (F_places_a1 : Fld Z h0 a1 "com/example/kawi/kawi/OrderedNames" "places" "[I" u0) (F_ordered_a1 : Fld Z h0 a1 "com/example/kawi/kawi/OrderedNames" "ordered" "Z" u1) (F_size_a1 : Fld Z h0 a1 "com/example/kawi/kawi/OrderedNames" "size" "I" u2) (F_beans_a1 : Fld Z h0 a1 "com/example/kawi/kawi/OrderedNames" "beans" "Ljava/util/List;" u3) (F_modCount_a1 : Fld Z h0 a1 "java/util/AbstractList" "modCount" "I" u4) (E_a1 : Exa Z h0 a1 "com/example/kawi/kawi/OrderedNames") (g_a1 : n0 ≤ a1) :
    MetFree l (⟨"java/util/AbstractList", "<init>", "()V"⟩ : MethodName) (head1 (Jvm.Cond.code (⟨"java/util/AbstractList", "<init>", "()V"⟩ : MethodName) jdk_39_method_1_code 1 none :: ws) ({ frames := 2, cells := 0, slots := 0, locals := 24 } : Room)) (fun a U => a = #[(.ref a1)] ∧ Z.Warmed39 U.vm ∧ U.heap = h0) (fun _ _ _ _ _ => True) (fun _ U o U' => ∃ v L, o = .returned v ∧ Q_rmab2 Z a1 u0 u1 u2 u3 u4 h0 n0 v U'.heap L ∧ FrameEnd U o U' L ({ frames := 2, cells := 0, slots := 0, locals := 24 } : Room).cells ({ frames := 2, cells := 0, slots := 0, locals := 24 } : Room).slots) := by
  refine MetFree.of_bodySF (plainFor_of_name pn_java_util_AbstractList) hisR ?_
  intro p e s m args below meth c s₁ Bd hml0 hP hK
  obtain ⟨rfl, hZ, hh⟩ := hP
  have hx := Bd.exec
  have hby := Bd.bytes
  have hml : c.maxLocals = 1 := hml0
  have hown : s.vm.findClass "java/util/AbstractList" = some m.cls := findClass_of_methodNamed Bd.named
  have hnm := (name_of_methodNamed Bd.named Bd.method).1
  have X0 : Stand p l e ({ frames := 2, cells := 0, slots := 0, locals := 24 } : Room) s m #[(.ref a1)] below meth c s₁ [] 0 0 := Stand.of_body Bd
  have e0 : s₁.heap = h0 := by rw [← hh, Bd.state]; rfl
  have N0 := Fr.nil n0
  have pre0 : ∀ t, Steps p.tables e below (s₁.setTop (mkF m 0 #[.val (.ref a1)] [])) t → Steps p.tables e below (s₁.setTop (entryFrame m #[(.ref a1)] 1)) t := fun t k => castTop (ef_2 m a1) k
  obtain ⟨_, _, ⟨T10, L10, k10, n10⟩, -, X10, ⟨Lc10, hQ10, l10, y10, z10⟩, st10⟩ := X0.specialBack hx (y := (⟨"java/util/AbstractCollection", "<init>", "()V"⟩ : MethodName)) rfl hown (mvT hZ (wd_15 hw)) (mvT hZ (wd_16 hw)) (mvT hZ (wd_20 hw)) (by decide) (backOf (W := 0) (rm3 l Z a0 hw [] a1 h0 n0 Z0) hZ (wd_20 hw) (wd_19 hw) (by decide) (by decide)) (g := (mkF m 1 #[.val (.ref a1)] [(.ref a1)])) rfl (by rw [hml]; rfl) (Steps.refl _) (a := a1) (argsL := []) (rest := []) (lenOf pd___V rfl) rfl (by show 2 * 0 + _ ≤ _; exact Nat.le_of_eq rfl) (hb hby d2_1) (fun _ _ => ⟨rfl, e0, (by decide : 0 + 0 ≤ _), (by decide : 0 + 0 ≤ _)⟩)
  dsimp only [Pt.U, Pt.locs, Pt.cells, Pt.slots] at X10 l10 y10 z10 st10 hQ10
  subst l10 y10 z10
  obtain ⟨rfl, N10q, e10⟩ := hQ10
  have N10 := Fr.app N0 N10q
  obtain ⟨T11, h11, X11, e11, W11, st11⟩ := putF X10 hx hZ hown (host := "") (Or.inl (wd_24 hw)) Via.refl e10 F_modCount_a1 E_a1 (Or.inl (wd_34 hw)) (wd_1 hw) (ty := .int) (by decide) rfl rfl (g := (mkF m 6 #[.val (.ref a1)] [(.int (0 : Int32)), (.ref a1)])) rfl rfl (hb hby d2_6)
  have Fw11 := F_modCount_a1.same W11
  have Z12 : n0 ≤ h11.size := Nat.le_trans Z0 (Keep.of_wr W11).1
  have K13 : Keep h0 h11 [a1] := Keep.wr (Keep.refl h0 [a1]) W11 (Or.inl (List.mem_of_getElem? (i := 0) rfl))
  have N11 := Fr.snoc X11 N10 g_a1
  obtain ⟨fs, hr, hrun, hended, hW, hsame⟩ := X11.leave (v := none) (fun _ => rfl)
  refine ⟨_, _, pre0 _ ?_, hrun, hended, _, _, rfl, ?_, ⟨_, rfl⟩, hW, hsame.mono (by decide) (by decide)⟩
  · show Steps p.tables e below (s₁.setTop (mkF m 0 #[.val (.ref a1)] [])) _
    refine XS.aloadN X0.here hx rfl (hb hby d2_0) rfl rfl ?_
    refine st10.trans ?_
    refine XS.aloadN X10.here hx rfl (hb hby d2_4) rfl rfl ?_
    refine XS.iconst X10.here hx rfl (hb hby d2_5) ?_
    show Steps p.tables e below (T10.setTop (mkF m 6 #[.val (.ref a1)] [(.int (0 : Int32)), (.ref a1)])) _
    refine st11 _ ?_
    exact X11.returnOut hx Bd.returns (hb hby d2_9) hr
  · show Q_rmab2 Z a1 u0 u1 u2 u3 u4 h0 n0 _ T11.heap _
    rw [e11]
    exact ⟨rfl, N11, K13, (F_places_a1.other W11 (Or.inr (slot_ne (Or.inl (wd_38 hw)) (Or.inl (wd_34 hw)) (by decide) (t := (.array .int)) (t' := .int) (by decide) (by decide)))), (F_ordered_a1.other W11 (Or.inr (slot_ne (Or.inl (wd_40 hw)) (Or.inl (wd_34 hw)) (by decide) (t := .boolean) (t' := .int) (by decide) (by decide)))), (F_size_a1.other W11 (Or.inr (slot_ne (Or.inl (wd_49 hw)) (Or.inl (wd_34 hw)) (by decide) (t := .int) (t' := .int) (by decide) (by decide)))), (F_beans_a1.other W11 (Or.inr (slot_ne (Or.inr (wd_42 hw)) (Or.inl (wd_34 hw)) (by decide) (t := (.object "java/util/List")) (t' := .int) (by decide) (by decide)))), Fw11⟩
theorem d1_0 : decode jdk_38_method_2_code 0 = .ok (.aload_n 0, 1) := by decide +kernel
theorem d1_1 : decode jdk_38_method_2_code 1 = .ok (.invokespecial 1, 3) := by decide +kernel
theorem wd_9 {a0 : Array Value} {Z : State} (hw : ∀ d ∈ tables_1, d.before a0 Z = true) : (Jvm.Cond.methodLink "java/util/ArrayList" (1 : Nat) ({ cls := "java/util/AbstractList", name := "<init>", desc := "()V" } : Jvm.MethodName)).before a0 Z = true := hw _ (List.mem_of_getElem? (i := 9) rfl)
theorem wd_14 {a0 : Array Value} {Z : State} (hw : ∀ d ∈ tables_1, d.before a0 Z = true) : (Jvm.Cond.code ({ cls := "java/util/AbstractList", name := "<init>", desc := "()V" } : Jvm.MethodName) jdk_39_method_1_code (1 : Nat) (Option.none : Option Jvm.ClassFile.FieldType)).before a0 Z = true := hw _ (List.mem_of_getElem? (i := 14) rfl)
theorem wd_13 {a0 : Array Value} {Z : State} (hw : ∀ d ∈ tables_1, d.before a0 Z = true) : (Jvm.Cond.initialized "java/util/AbstractList").before a0 Z = true := hw _ (List.mem_of_getElem? (i := 13) rfl)
theorem wd_10 {a0 : Array Value} {Z : State} (hw : ∀ d ∈ tables_1, d.before a0 Z = true) : (Jvm.Cond.instanceMethod ({ cls := "java/util/AbstractList", name := "<init>", desc := "()V" } : Jvm.MethodName)).before a0 Z = true := hw _ (List.mem_of_getElem? (i := 10) rfl)
theorem d1_4 : decode jdk_38_method_2_code 4 = .ok (.aload_n 0, 1) := by decide +kernel
theorem d1_5 : decode jdk_38_method_2_code 5 = .ok (.getstatic 39, 3) := by decide +kernel
theorem wd_26 {a0 : Array Value} {Z : State} (hw : ∀ d ∈ tables_1, d.before a0 Z = true) : (Jvm.Cond.fieldLink "java/util/ArrayList" (39 : Nat) "java/util/ArrayList" "DEFAULTCAPACITY_EMPTY_ELEMENTDATA" "[Ljava/lang/Object;").before a0 Z = true := hw _ (List.mem_of_getElem? (i := 26) rfl)
theorem d1_8 : decode jdk_38_method_2_code 8 = .ok (.putfield 9, 3) := by decide +kernel
theorem wd_27 {a0 : Array Value} {Z : State} (hw : ∀ d ∈ tables_1, d.before a0 Z = true) : (Jvm.Cond.fieldLink "java/util/ArrayList" (9 : Nat) "java/util/ArrayList" "elementData" "[Ljava/lang/Object;").before a0 Z = true := hw _ (List.mem_of_getElem? (i := 27) rfl)
theorem d1_11 : decode jdk_38_method_2_code 11 = .ok (.return_, 1) := by decide +kernel
theorem ef_1 (m : MethodId) (x0 : Addr) : entryFrame m #[(.ref x0)] 1 = mkF m 0 #[.val (.ref x0)] [] := by first | (simp [entryFrame, mkF, argsToLocals, Value.category]; done) | rfl
theorem pn_java_util_ArrayList : plainName "java/util/ArrayList" = true := by first | (simp [plainName, overriddenIn]; done) | decide +kernel
def Q_rm1 (Z : State) (a1 : Addr) (u1 : Value) (u2 : Value) (wD : Addr) (h0 : Heap) (n0 : Nat) (v : Option Value) (h : Heap) (L : List Loc) : Prop := v = none ∧ Fr n0 L ∧ Keep h0 h [a1]
set_option maxRecDepth 65536 in
set_option maxHeartbeats 40000000 in
theorem rm1 (l : Launch) (Z : State) (a0 : Array Value) (hw : ∀ d ∈ tables_1, d.before a0 Z = true) (ws : List Jvm.Cond) (a1 : Addr) (u1 : Value) (u2 : Value) (wD : Addr) (h0 : Heap) (n0 : Nat) (Z0 : n0 ≤ h0.size) (F_elementData_a1 : Fld Z h0 a1 "java/util/ArrayList" "elementData" "[Ljava/lang/Object;" u1) (F_modCount_a1 : Fld Z h0 a1 "java/util/AbstractList" "modCount" "I" u2) (E_a1 : Exa Z h0 a1 "java/util/ArrayList") (g_a1 : n0 ≤ a1) (Old0 : Old Z n0 h0) (S_DEFAULTCAPACITY_EMPTY_ELEMENTDATA : Sta Z Z.heap "java/util/ArrayList" "DEFAULTCAPACITY_EMPTY_ELEMENTDATA" "[Ljava/lang/Object;" (.ref wD)) :
    MetFree l (⟨"java/util/ArrayList", "<init>", "()V"⟩ : MethodName) (head1 (Jvm.Cond.code (⟨"java/util/ArrayList", "<init>", "()V"⟩ : MethodName) jdk_38_method_2_code 1 none :: ws) ({ frames := 3, cells := 0, slots := 0, locals := 36 } : Room)) (fun a U => a = #[(.ref a1)] ∧ Z.Warmed39 U.vm ∧ U.heap = h0) (fun _ _ _ _ _ => True) (fun _ U o U' => ∃ v L, o = .returned v ∧ Q_rm1 Z a1 u1 u2 wD h0 n0 v U'.heap L ∧ FrameEnd U o U' L ({ frames := 3, cells := 0, slots := 0, locals := 36 } : Room).cells ({ frames := 3, cells := 0, slots := 0, locals := 36 } : Room).slots) := by
  refine MetFree.of_bodySF (plainFor_of_name pn_java_util_ArrayList) hisR ?_
  intro p e s m args below meth c s₁ Bd hml0 hP hK
  obtain ⟨rfl, hZ, hh⟩ := hP
  have hx := Bd.exec
  have hby := Bd.bytes
  have hml : c.maxLocals = 1 := hml0
  have hown : s.vm.findClass "java/util/ArrayList" = some m.cls := findClass_of_methodNamed Bd.named
  have hnm := (name_of_methodNamed Bd.named Bd.method).1
  have X0 : Stand p l e ({ frames := 3, cells := 0, slots := 0, locals := 36 } : Room) s m #[(.ref a1)] below meth c s₁ [] 0 0 := Stand.of_body Bd
  have e0 : s₁.heap = h0 := by rw [← hh, Bd.state]; rfl
  have N0 := Fr.nil n0
  have pre0 : ∀ t, Steps p.tables e below (s₁.setTop (mkF m 0 #[.val (.ref a1)] [])) t → Steps p.tables e below (s₁.setTop (entryFrame m #[(.ref a1)] 1)) t := fun t k => castTop (ef_1 m a1) k
  obtain ⟨_, _, ⟨T14, L14, k14, n14⟩, -, X14, ⟨Lc14, hQ14, l14, y14, z14⟩, st14⟩ := X0.specialBack hx (y := (⟨"java/util/AbstractList", "<init>", "()V"⟩ : MethodName)) rfl hown (mvT hZ (wd_9 hw)) (mvT hZ (wd_10 hw)) (mvT hZ (wd_14 hw)) (by decide) (backOf (W := 0) (rmab1 l Z a0 hw [] a1 u1 u2 h0 n0 Z0 F_elementData_a1 F_modCount_a1 E_a1 g_a1) hZ (wd_14 hw) (wd_13 hw) (by decide) (by decide)) (g := (mkF m 1 #[.val (.ref a1)] [(.ref a1)])) rfl (by rw [hml]; rfl) (Steps.refl _) (a := a1) (argsL := []) (rest := []) (lenOf pd___V rfl) rfl (by show 2 * 0 + _ ≤ _; exact Nat.le_of_eq rfl) (hb hby d1_1) (fun _ _ => ⟨rfl, e0, (by decide : 0 + 0 ≤ _), (by decide : 0 + 0 ≤ _)⟩)
  dsimp only [Pt.U, Pt.locs, Pt.cells, Pt.slots] at X14 l14 y14 z14 st14 hQ14
  subst l14 y14 z14
  obtain ⟨rfl, N14q, K14q, g14_0⟩ := hQ14
  have N14 := Fr.app N0 N14q
  have Z15 : n0 ≤ T14.heap.size := Nat.le_trans Z0 K14q.1
  have K16 : Keep h0 T14.heap [a1] := Keep.trans (Keep.refl h0 [a1]) K14q (allS (Or.inl (List.mem_of_getElem? (i := 0) rfl)) all0)
  obtain ⟨T17, X17, e17, st17⟩ := getS2 X14 hx hZ hown (host := "") (Or.inl (wd_26 hw)) Via.refl rfl (S_DEFAULTCAPACITY_EMPTY_ELEMENTDATA.ext ((Old0.keep K14q (allS g_a1 all0))).2) (g := (mkF m 5 #[.val (.ref a1)] [(.ref a1)])) rfl (hb hby d1_5)
  obtain ⟨T18, h18, X18, e18, W18, st18⟩ := putF X17 hx hZ hown (host := "") (Or.inl (wd_27 hw)) Via.refl e17 g14_0 (E_a1.keep K14q) (Or.inl (wd_28 hw)) (wd_4 hw) (ty := (.array (.object "java/lang/Object"))) (by decide) rfl rfl (g := (mkF m 8 #[.val (.ref a1)] [(.ref wD), (.ref a1)])) rfl rfl (hb hby d1_8)
  have Fw18 := g14_0.same W18
  have Z19 : n0 ≤ h18.size := Nat.le_trans Z15 (Keep.of_wr W18).1
  have K20 : Keep h0 h18 [a1] := Keep.wr K16 W18 (Or.inl (List.mem_of_getElem? (i := 0) rfl))
  have N18 := Fr.snoc X18 N14 g_a1
  obtain ⟨fs, hr, hrun, hended, hW, hsame⟩ := X18.leave (v := none) (fun _ => rfl)
  refine ⟨_, _, pre0 _ ?_, hrun, hended, _, _, rfl, ?_, ⟨_, rfl⟩, hW, hsame.mono (by decide) (by decide)⟩
  · show Steps p.tables e below (s₁.setTop (mkF m 0 #[.val (.ref a1)] [])) _
    refine XS.aloadN X0.here hx rfl (hb hby d1_0) rfl rfl ?_
    refine st14.trans ?_
    refine XS.aloadN X14.here hx rfl (hb hby d1_4) rfl rfl ?_
    refine st17 _ ?_
    show Steps p.tables e below (T17.setTop (mkF m 8 #[.val (.ref a1)] [(.ref wD), (.ref a1)])) _
    refine st18 _ ?_
    exact X18.returnOut hx Bd.returns (hb hby d1_11) hr
  · show Q_rm1 Z a1 u1 u2 wD h0 n0 _ T18.heap _
    rw [e18]
    exact ⟨rfl, N18, K20⟩
theorem d5_0 : decode prog_68_method_1_code 0 = .ok (.aload_n 0, 1) := by decide +kernel
theorem d5_1 : decode prog_68_method_1_code 1 = .ok (.invokespecial 1, 3) := by decide +kernel
theorem wd_32 {a0 : Array Value} {Z : State} (hw : ∀ d ∈ tables_1, d.before a0 Z = true) : (Jvm.Cond.methodLink "com/example/kawi/kawi/OrderedNames" (1 : Nat) ({ cls := "java/util/AbstractList", name := "<init>", desc := "()V" } : Jvm.MethodName)).before a0 Z = true := hw _ (List.mem_of_getElem? (i := 32) rfl)
theorem d5_4 : decode prog_68_method_1_code 4 = .ok (.aload_n 0, 1) := by decide +kernel
theorem d5_5 : decode prog_68_method_1_code 5 = .ok (.getstatic 7, 3) := by decide +kernel
theorem wd_35 {a0 : Array Value} {Z : State} (hw : ∀ d ∈ tables_1, d.before a0 Z = true) : (Jvm.Cond.fieldLink "com/example/kawi/kawi/OrderedNames" (7 : Nat) "com/example/kawi/kawi/OrderedNames" "NONE" "[I").before a0 Z = true := hw _ (List.mem_of_getElem? (i := 35) rfl)
theorem d5_8 : decode prog_68_method_1_code 8 = .ok (.putfield 13, 3) := by decide +kernel
theorem wd_37 {a0 : Array Value} {Z : State} (hw : ∀ d ∈ tables_1, d.before a0 Z = true) : (Jvm.Cond.fieldLink "com/example/kawi/kawi/OrderedNames" (13 : Nat) "com/example/kawi/kawi/OrderedNames" "places" "[I").before a0 Z = true := hw _ (List.mem_of_getElem? (i := 37) rfl)
theorem d5_11 : decode prog_68_method_1_code 11 = .ok (.aload_n 0, 1) := by decide +kernel
theorem d5_12 : decode prog_68_method_1_code 12 = .ok (.iconst 1, 1) := by decide +kernel
theorem d5_13 : decode prog_68_method_1_code 13 = .ok (.putfield 16, 3) := by decide +kernel
theorem wd_39 {a0 : Array Value} {Z : State} (hw : ∀ d ∈ tables_1, d.before a0 Z = true) : (Jvm.Cond.fieldLink "com/example/kawi/kawi/OrderedNames" (16 : Nat) "com/example/kawi/kawi/OrderedNames" "ordered" "Z").before a0 Z = true := hw _ (List.mem_of_getElem? (i := 39) rfl)
theorem d5_16 : decode prog_68_method_1_code 16 = .ok (.aload_n 0, 1) := by decide +kernel
theorem d5_17 : decode prog_68_method_1_code 17 = .ok (.aload_n 1, 1) := by decide +kernel
theorem d5_18 : decode prog_68_method_1_code 18 = .ok (.putfield 20, 3) := by decide +kernel
theorem wd_41 {a0 : Array Value} {Z : State} (hw : ∀ d ∈ tables_1, d.before a0 Z = true) : (Jvm.Cond.fieldLink "com/example/kawi/kawi/OrderedNames" (20 : Nat) "com/example/kawi/kawi/OrderedNames" "beans" "Ljava/util/List;").before a0 Z = true := hw _ (List.mem_of_getElem? (i := 41) rfl)
theorem d5_21 : decode prog_68_method_1_code 21 = .ok (.return_, 1) := by decide +kernel
theorem ef_5 (m : MethodId) (x0 : Addr) (x1 : Addr) : entryFrame m #[(.ref x0), (.ref x1)] 2 = mkF m 0 #[.val (.ref x0), .val (.ref x1)] [] := by first | (simp [entryFrame, mkF, argsToLocals, Value.category]; done) | rfl
theorem pn_com_example_kawi_kawi_OrderedNames : plainName "com/example/kawi/kawi/OrderedNames" = true := by first | (simp [plainName, overriddenIn]; done) | decide +kernel
def Q_rm5 (Z : State) (a1 : Addr) (a2 : Addr) (u0 : Value) (u1 : Value) (u2 : Value) (u3 : Value) (u4 : Value) (wN : Addr) (h0 : Heap) (n0 : Nat) (v : Option Value) (h : Heap) (L : List Loc) : Prop := v = none ∧ Fr n0 L ∧ Keep h0 h [a1] ∧ (Fld Z h a1 "com/example/kawi/kawi/OrderedNames" "places" "[I" (.ref wN)) ∧ (Fld Z h a1 "com/example/kawi/kawi/OrderedNames" "ordered" "Z" (.int (1 : Int32))) ∧ (Fld Z h a1 "com/example/kawi/kawi/OrderedNames" "size" "I" u2) ∧ (Fld Z h a1 "java/util/AbstractList" "modCount" "I" (.int (0 : Int32)))
set_option maxRecDepth 65536 in
set_option maxHeartbeats 40000000 in
theorem rm5 (l : Launch) (Z : State) (a0 : Array Value) (hw : ∀ d ∈ tables_1, d.before a0 Z = true) (ws : List Jvm.Cond) (a1 : Addr) (a2 : Addr) (u0 : Value) (u1 : Value) (u2 : Value) (u3 : Value) (u4 : Value) (wN : Addr) (h0 : Heap) (n0 : Nat) (Z0 : n0 ≤ h0.size) (F_places_a1 : Fld Z h0 a1 "com/example/kawi/kawi/OrderedNames" "places" "[I" u0) (F_ordered_a1 : Fld Z h0 a1 "com/example/kawi/kawi/OrderedNames" "ordered" "Z" u1) (F_size_a1 : Fld Z h0 a1 "com/example/kawi/kawi/OrderedNames" "size" "I" u2) (F_beans_a1 : Fld Z h0 a1 "com/example/kawi/kawi/OrderedNames" "beans" "Ljava/util/List;" u3) (F_modCount_a1 : Fld Z h0 a1 "java/util/AbstractList" "modCount" "I" u4) (E_a1 : Exa Z h0 a1 "com/example/kawi/kawi/OrderedNames") (g_a1 : n0 ≤ a1) (Old0 : Old Z n0 h0) (S_NONE : Sta Z Z.heap "com/example/kawi/kawi/OrderedNames" "NONE" "[I" (.ref wN)) :
    MetFree l (⟨"com/example/kawi/kawi/OrderedNames", "<init>", "(Ljava/util/List;)V"⟩ : MethodName) (head1 (Jvm.Cond.code (⟨"com/example/kawi/kawi/OrderedNames", "<init>", "(Ljava/util/List;)V"⟩ : MethodName) prog_68_method_1_code 2 none :: ws) ({ frames := 3, cells := 0, slots := 0, locals := 36 } : Room)) (fun a U => a = #[(.ref a1), (.ref a2)] ∧ Z.Warmed39 U.vm ∧ U.heap = h0) (fun _ _ _ _ _ => True) (fun _ U o U' => ∃ v L, o = .returned v ∧ Q_rm5 Z a1 a2 u0 u1 u2 u3 u4 wN h0 n0 v U'.heap L ∧ FrameEnd U o U' L ({ frames := 3, cells := 0, slots := 0, locals := 36 } : Room).cells ({ frames := 3, cells := 0, slots := 0, locals := 36 } : Room).slots) := by
  refine MetFree.of_bodySF (plainFor_of_name pn_com_example_kawi_kawi_OrderedNames) hisR ?_
  intro p e s m args below meth c s₁ Bd hml0 hP hK
  obtain ⟨rfl, hZ, hh⟩ := hP
  have hx := Bd.exec
  have hby := Bd.bytes
  have hml : c.maxLocals = 2 := hml0
  have hown : s.vm.findClass "com/example/kawi/kawi/OrderedNames" = some m.cls := findClass_of_methodNamed Bd.named
  have hnm := (name_of_methodNamed Bd.named Bd.method).1
  have X0 : Stand p l e ({ frames := 3, cells := 0, slots := 0, locals := 36 } : Room) s m #[(.ref a1), (.ref a2)] below meth c s₁ [] 0 0 := Stand.of_body Bd
  have e0 : s₁.heap = h0 := by rw [← hh, Bd.state]; rfl
  have N0 := Fr.nil n0
  have pre0 : ∀ t, Steps p.tables e below (s₁.setTop (mkF m 0 #[.val (.ref a1), .val (.ref a2)] [])) t → Steps p.tables e below (s₁.setTop (entryFrame m #[(.ref a1), (.ref a2)] 2)) t := fun t k => castTop (ef_5 m a1 a2) k
  obtain ⟨_, _, ⟨T21, L21, k21, n21⟩, -, X21, ⟨Lc21, hQ21, l21, y21, z21⟩, st21⟩ := X0.specialBack hx (y := (⟨"java/util/AbstractList", "<init>", "()V"⟩ : MethodName)) rfl hown (mvT hZ (wd_32 hw)) (mvT hZ (wd_10 hw)) (mvT hZ (wd_14 hw)) (by decide) (backOf (W := 0) (rmab2 l Z a0 hw [] a1 u0 u1 u2 u3 u4 h0 n0 Z0 F_places_a1 F_ordered_a1 F_size_a1 F_beans_a1 F_modCount_a1 E_a1 g_a1) hZ (wd_14 hw) (wd_13 hw) (by decide) (by decide)) (g := (mkF m 1 #[.val (.ref a1), .val (.ref a2)] [(.ref a1)])) rfl (by rw [hml]; rfl) (Steps.refl _) (a := a1) (argsL := []) (rest := []) (lenOf pd___V rfl) rfl (by show 2 * 0 + _ ≤ _; exact Nat.le_of_eq rfl) (hb hby d5_1) (fun _ _ => ⟨rfl, e0, (by decide : 0 + 0 ≤ _), (by decide : 0 + 0 ≤ _)⟩)
  dsimp only [Pt.U, Pt.locs, Pt.cells, Pt.slots] at X21 l21 y21 z21 st21 hQ21
  subst l21 y21 z21
  obtain ⟨rfl, N21q, K21q, g21_0, g21_1, g21_2, g21_3, g21_4⟩ := hQ21
  have N21 := Fr.app N0 N21q
  have Z22 : n0 ≤ T21.heap.size := Nat.le_trans Z0 K21q.1
  have K23 : Keep h0 T21.heap [a1] := Keep.trans (Keep.refl h0 [a1]) K21q (allS (Or.inl (List.mem_of_getElem? (i := 0) rfl)) all0)
  obtain ⟨T24, X24, e24, st24⟩ := getS2 X21 hx hZ hown (host := "") (Or.inl (wd_35 hw)) Via.refl rfl (S_NONE.ext ((Old0.keep K21q (allS g_a1 all0))).2) (g := (mkF m 5 #[.val (.ref a1), .val (.ref a2)] [(.ref a1)])) rfl (hb hby d5_5)
  obtain ⟨T25, h25, X25, e25, W25, st25⟩ := putF X24 hx hZ hown (host := "") (Or.inl (wd_37 hw)) Via.refl e24 g21_0 (E_a1.keep K21q) (Or.inl (wd_38 hw)) (wd_1 hw) (ty := (.array .int)) (by decide) rfl rfl (g := (mkF m 8 #[.val (.ref a1), .val (.ref a2)] [(.ref wN), (.ref a1)])) rfl rfl (hb hby d5_8)
  have Fw25 := g21_0.same W25
  have Z26 : n0 ≤ h25.size := Nat.le_trans Z22 (Keep.of_wr W25).1
  have K27 : Keep h0 h25 [a1] := Keep.wr K23 W25 (Or.inl (List.mem_of_getElem? (i := 0) rfl))
  have N25 := Fr.snoc X25 N21 g_a1
  obtain ⟨T28, h28, X28, e28, W28, st28⟩ := putFN X25 hx hZ hown (wd_39 hw) Via.refl e25 (g21_1.other W25 (Or.inr (slot_ne (Or.inl (wd_40 hw)) (Or.inl (wd_38 hw)) (by decide) (t := .boolean) (t' := (.array .int)) (by decide) (by decide)))) ((E_a1.keep K21q).wr W25) (Or.inl (wd_40 hw)) (wd_1 hw) (ty := .boolean) (v' := (.int (1 : Int32))) (by decide) rfl rfl (g := (mkF m 13 #[.val (.ref a1), .val (.ref a2)] [(.int (1 : Int32)), (.ref a1)])) rfl rfl (hb hby d5_13)
  have Fw28 := (g21_1.other W25 (Or.inr (slot_ne (Or.inl (wd_40 hw)) (Or.inl (wd_38 hw)) (by decide) (t := .boolean) (t' := (.array .int)) (by decide) (by decide)))).same W28
  have Z29 : n0 ≤ h28.size := Nat.le_trans Z26 (Keep.of_wr W28).1
  have K30 : Keep h0 h28 [a1] := Keep.wr K27 W28 (Or.inl (List.mem_of_getElem? (i := 0) rfl))
  have N28 := Fr.snoc X28 N25 g_a1
  obtain ⟨T31, h31, X31, e31, W31, st31⟩ := putF X28 hx hZ hown (host := "") (Or.inl (wd_41 hw)) Via.refl e28 ((g21_3.other W25 (Or.inr (slot_ne (Or.inr (wd_42 hw)) (Or.inl (wd_38 hw)) (by decide) (t := (.object "java/util/List")) (t' := (.array .int)) (by decide) (by decide)))).other W28 (Or.inr (slot_ne (Or.inr (wd_42 hw)) (Or.inl (wd_40 hw)) (by decide) (t := (.object "java/util/List")) (t' := .boolean) (by decide) (by decide)))) (((E_a1.keep K21q).wr W25).wr W28) (Or.inr ⟨(wd_42 hw), rfl, hnm⟩) (wd_1 hw) (ty := (.object "java/util/List")) (by decide) rfl rfl (g := (mkF m 18 #[.val (.ref a1), .val (.ref a2)] [(.ref a2), (.ref a1)])) rfl rfl (hb hby d5_18)
  have Fw31 := ((g21_3.other W25 (Or.inr (slot_ne (Or.inr (wd_42 hw)) (Or.inl (wd_38 hw)) (by decide) (t := (.object "java/util/List")) (t' := (.array .int)) (by decide) (by decide)))).other W28 (Or.inr (slot_ne (Or.inr (wd_42 hw)) (Or.inl (wd_40 hw)) (by decide) (t := (.object "java/util/List")) (t' := .boolean) (by decide) (by decide)))).same W31
  have Z32 : n0 ≤ h31.size := Nat.le_trans Z29 (Keep.of_wr W31).1
  have K33 : Keep h0 h31 [a1] := Keep.wr K30 W31 (Or.inl (List.mem_of_getElem? (i := 0) rfl))
  have N31 := Fr.snoc X31 N28 g_a1
  obtain ⟨fs, hr, hrun, hended, hW, hsame⟩ := X31.leave (v := none) (fun _ => rfl)
  refine ⟨_, _, pre0 _ ?_, hrun, hended, _, _, rfl, ?_, ⟨_, rfl⟩, hW, hsame.mono (by decide) (by decide)⟩
  · show Steps p.tables e below (s₁.setTop (mkF m 0 #[.val (.ref a1), .val (.ref a2)] [])) _
    refine XS.aloadN X0.here hx rfl (hb hby d5_0) rfl rfl ?_
    refine st21.trans ?_
    refine XS.aloadN X21.here hx rfl (hb hby d5_4) rfl rfl ?_
    refine st24 _ ?_
    show Steps p.tables e below (T24.setTop (mkF m 8 #[.val (.ref a1), .val (.ref a2)] [(.ref wN), (.ref a1)])) _
    refine st25 _ ?_
    refine XS.aloadN X25.here hx rfl (hb hby d5_11) rfl rfl ?_
    refine XS.iconst X25.here hx rfl (hb hby d5_12) ?_
    refine st28 _ ?_
    show Steps p.tables e below (T28.setTop (mkF m 16 #[.val (.ref a1), .val (.ref a2)] [])) _
    refine XS.aloadN X28.here hx rfl (hb hby d5_16) rfl rfl ?_
    refine XS.aloadN X28.here hx rfl (hb hby d5_17) rfl rfl ?_
    refine st31 _ ?_
    exact X31.returnOut hx Bd.returns (hb hby d5_21) hr
  · show Q_rm5 Z a1 a2 u0 u1 u2 u3 u4 wN h0 n0 _ T31.heap _
    rw [e31]
    exact ⟨rfl, N31, K33, ((Fw25.other W28 (Or.inr (slot_ne (Or.inl (wd_38 hw)) (Or.inl (wd_40 hw)) (by decide) (t := (.array .int)) (t' := .boolean) (by decide) (by decide)))).other W31 (Or.inr (slot_ne (Or.inl (wd_38 hw)) (Or.inr (wd_42 hw)) (by decide) (t := (.array .int)) (t' := (.object "java/util/List")) (by decide) (by decide)))), (Fw28.other W31 (Or.inr (slot_ne (Or.inl (wd_40 hw)) (Or.inr (wd_42 hw)) (by decide) (t := .boolean) (t' := (.object "java/util/List")) (by decide) (by decide)))), (((g21_2.other W25 (Or.inr (slot_ne (Or.inl (wd_49 hw)) (Or.inl (wd_38 hw)) (by decide) (t := .int) (t' := (.array .int)) (by decide) (by decide)))).other W28 (Or.inr (slot_ne (Or.inl (wd_49 hw)) (Or.inl (wd_40 hw)) (by decide) (t := .int) (t' := .boolean) (by decide) (by decide)))).other W31 (Or.inr (slot_ne (Or.inl (wd_49 hw)) (Or.inr (wd_42 hw)) (by decide) (t := .int) (t' := (.object "java/util/List")) (by decide) (by decide)))), (((g21_4.other W25 (Or.inr (slot_ne (Or.inl (wd_34 hw)) (Or.inl (wd_38 hw)) (by decide) (t := .int) (t' := (.array .int)) (by decide) (by decide)))).other W28 (Or.inr (slot_ne (Or.inl (wd_34 hw)) (Or.inl (wd_40 hw)) (by decide) (t := .int) (t' := .boolean) (by decide) (by decide)))).other W31 (Or.inr (slot_ne (Or.inl (wd_34 hw)) (Or.inr (wd_42 hw)) (by decide) (t := .int) (t' := (.object "java/util/List")) (by decide) (by decide))))⟩
theorem d9_0 : decode jdk_65_method_123_code 0 = .ok (.iload_n 1, 1) := by decide +kernel
theorem d9_1 : decode jdk_65_method_123_code 1 = .ok (.aload_n 0, 1) := by decide +kernel
theorem d9_2 : decode jdk_65_method_123_code 2 = .ok (.arraylength, 1) := by decide +kernel
theorem d9_3 : decode jdk_65_method_123_code 3 = .ok (.if_icmp .ne 11, 3) := by decide +kernel
theorem d9_14 : decode jdk_65_method_123_code 14 = .ok (.iload_n 1, 1) := by decide +kernel
theorem d9_15 : decode jdk_65_method_123_code 15 = .ok (.newarray .int, 2) := by decide +kernel
theorem wd_63 {a0 : Array Value} {Z : State} (hw : ∀ d ∈ tables_1, d.before a0 Z = true) : (Jvm.Cond.arrayClass Jvm.ClassFile.FieldType.int).before a0 Z = true := hw _ (List.mem_of_getElem? (i := 63) rfl)
theorem d9_17 : decode jdk_65_method_123_code 17 = .ok (.astore_n 2, 1) := by decide +kernel
theorem d9_18 : decode jdk_65_method_123_code 18 = .ok (.aload_n 0, 1) := by decide +kernel
theorem d9_19 : decode jdk_65_method_123_code 19 = .ok (.iconst 0, 1) := by decide +kernel
theorem d9_20 : decode jdk_65_method_123_code 20 = .ok (.aload_n 2, 1) := by decide +kernel
theorem d9_21 : decode jdk_65_method_123_code 21 = .ok (.iconst 0, 1) := by decide +kernel
theorem d9_22 : decode jdk_65_method_123_code 22 = .ok (.aload_n 0, 1) := by decide +kernel
theorem d9_23 : decode jdk_65_method_123_code 23 = .ok (.arraylength, 1) := by decide +kernel
theorem d9_24 : decode jdk_65_method_123_code 24 = .ok (.iload_n 1, 1) := by decide +kernel
theorem d9_25 : decode jdk_65_method_123_code 25 = .ok (.invokestatic 304, 3) := by decide +kernel
theorem wd_64 {a0 : Array Value} {Z : State} (hw : ∀ d ∈ tables_1, d.before a0 Z = true) : (Jvm.Cond.methodLink "java/util/Arrays" (304 : Nat) ({ cls := "java/lang/Math", name := "min", desc := "(II)I" } : Jvm.MethodName)).before a0 Z = true := hw _ (List.mem_of_getElem? (i := 64) rfl)
theorem wd_66 {a0 : Array Value} {Z : State} (hw : ∀ d ∈ tables_1, d.before a0 Z = true) : (Jvm.Cond.code ({ cls := "java/lang/Math", name := "min", desc := "(II)I" } : Jvm.MethodName) jdk_29_method_69_code (2 : Nat) (Option.some Jvm.ClassFile.FieldType.int)).before a0 Z = true := hw _ (List.mem_of_getElem? (i := 66) rfl)
theorem wd_57 {a0 : Array Value} {Z : State} (hw : ∀ d ∈ tables_1, d.before a0 Z = true) : (Jvm.Cond.initialized "java/lang/Math").before a0 Z = true := hw _ (List.mem_of_getElem? (i := 57) rfl)
theorem pd__II_I : parseMethodDescriptor "(II)I" = some ⟨[.int, .int], some .int⟩ := by decide +kernel
theorem wd_65 {a0 : Array Value} {Z : State} (hw : ∀ d ∈ tables_1, d.before a0 Z = true) : (Jvm.Cond.static ({ cls := "java/lang/Math", name := "min", desc := "(II)I" } : Jvm.MethodName)).before a0 Z = true := hw _ (List.mem_of_getElem? (i := 65) rfl)
theorem d9_28 : decode jdk_65_method_123_code 28 = .ok (.invokestatic 150, 3) := by decide +kernel
theorem wd_67 {a0 : Array Value} {Z : State} (hw : ∀ d ∈ tables_1, d.before a0 Z = true) : (Jvm.Cond.methodLink "java/util/Arrays" (150 : Nat) ({ cls := "java/lang/System", name := "arraycopy", desc := "(Ljava/lang/Object;ILjava/lang/Object;II)V" } : Jvm.MethodName)).before a0 Z = true := hw _ (List.mem_of_getElem? (i := 67) rfl)
theorem wd_70 {a0 : Array Value} {Z : State} (hw : ∀ d ∈ tables_1, d.before a0 Z = true) : (Jvm.Cond.native ({ cls := "java/lang/System", name := "arraycopy", desc := "(Ljava/lang/Object;ILjava/lang/Object;II)V" } : Jvm.MethodName)).before a0 Z = true := hw _ (List.mem_of_getElem? (i := 70) rfl)
theorem wd_68 {a0 : Array Value} {Z : State} (hw : ∀ d ∈ tables_1, d.before a0 Z = true) : (Jvm.Cond.static ({ cls := "java/lang/System", name := "arraycopy", desc := "(Ljava/lang/Object;ILjava/lang/Object;II)V" } : Jvm.MethodName)).before a0 Z = true := hw _ (List.mem_of_getElem? (i := 68) rfl)
theorem wd_69 {a0 : Array Value} {Z : State} (hw : ∀ d ∈ tables_1, d.before a0 Z = true) : (Jvm.Cond.initialized "java/lang/System").before a0 Z = true := hw _ (List.mem_of_getElem? (i := 69) rfl)
theorem d9_31 : decode jdk_65_method_123_code 31 = .ok (.aload_n 2, 1) := by decide +kernel
theorem d9_32 : decode jdk_65_method_123_code 32 = .ok (.areturn, 1) := by decide +kernel
theorem ef_9 (m : MethodId) (x0 : Addr) (x1 : Int32) : entryFrame m #[(.ref x0), (.int x1)] 3 = mkF m 0 #[.val (.ref x0), .val (.int x1), .unset] [] := by first | (simp [entryFrame, mkF, argsToLocals, Value.category]; done) | rfl
theorem pn_java_util_Arrays : plainName "java/util/Arrays" = true := by first | (simp [plainName, overriddenIn]; done) | decide +kernel
def Q_rmcp0 (Z : State) (a1 : Addr) (ka : ClassId) (h0 : Heap) (n0 : Nat) (v : Option Value) (h : Heap) (L : List Loc) : Prop := ∃ b : Addr, ∃ kb : ClassId, v = some (.ref b) ∧ Fr n0 L ∧ Keep h0 h [] ∧ (h0.size ≤ b) ∧ (Arv Z h b kb .int (1 : Int32) [(.int (0 : Int32))] (.int (0 : Int32)))
set_option maxRecDepth 65536 in
set_option maxHeartbeats 40000000 in
theorem rmcp0 (l : Launch) (Z : State) (a0 : Array Value) (hw : ∀ d ∈ tables_1, d.before a0 Z = true) (ws : List Jvm.Cond) (a1 : Addr) (ka : ClassId) (h0 : Heap) (n0 : Nat) (Z0 : n0 ≤ h0.size) (V_a1 : Arv Z h0 a1 ka .int (0 : Int32) [] (.int (0 : Int32))) :
    MetFree l (⟨"java/util/Arrays", "copyOf", "([II)[I"⟩ : MethodName) (head1 (Jvm.Cond.code (⟨"java/util/Arrays", "copyOf", "([II)[I"⟩ : MethodName) jdk_65_method_123_code 3 (some (.array .int)) :: ws) ({ frames := 1, cells := 1, slots := 1, locals := 18 } : Room)) (fun a U => a = #[(.ref a1), (.int (1 : Int32))] ∧ Z.Warmed39 U.vm ∧ U.heap = h0) (fun _ _ _ _ _ => True) (fun _ U o U' => ∃ v L, o = .returned v ∧ Q_rmcp0 Z a1 ka h0 n0 v U'.heap L ∧ FrameEnd U o U' L ({ frames := 1, cells := 1, slots := 1, locals := 18 } : Room).cells ({ frames := 1, cells := 1, slots := 1, locals := 18 } : Room).slots) := by
  refine MetFree.of_bodySF (plainFor_of_name pn_java_util_Arrays) hisR ?_
  intro p e s m args below meth c s₁ Bd hml0 hP hK
  obtain ⟨rfl, hZ, hh⟩ := hP
  have hx := Bd.exec
  have hby := Bd.bytes
  have hml : c.maxLocals = 3 := hml0
  have hown : s.vm.findClass "java/util/Arrays" = some m.cls := findClass_of_methodNamed Bd.named
  have hnm := (name_of_methodNamed Bd.named Bd.method).1
  have X0 : Stand p l e ({ frames := 1, cells := 1, slots := 1, locals := 18 } : Room) s m #[(.ref a1), (.int (1 : Int32))] below meth c s₁ [] 0 0 := Stand.of_body Bd
  have e0 : s₁.heap = h0 := by rw [← hh, Bd.state]; rfl
  have N0 := Fr.nil n0
  have pre0 : ∀ t, Steps p.tables e below (s₁.setTop (mkF m 0 #[.val (.ref a1), .val (.int (1 : Int32)), .unset] [])) t → Steps p.tables e below (s₁.setTop (entryFrame m #[(.ref a1), (.int (1 : Int32))] 3)) t := fun t k => castTop (ef_9 m a1 (1 : Int32)) k
  obtain ⟨cl34, Ar34, q34, S34, N34n, H34, G34⟩ := id (V_a1)
  obtain ⟨T35, h35, k35, X35, e35, E35, A35, st35⟩ := newP (aty := .int) X0 hx hZ (wd_63 hw) e0 (g := (mkF m 15 #[.val (.ref a1), .val (.int (1 : Int32)), .unset] [(.int (1 : Int32))])) rfl (hb hby d9_15) rfl (by decide) (cap := 1) (by decide) (by decide) (by decide) (by decide)
  obtain ⟨b35, g35⟩ : ∃ z, z = h0.size := ⟨_, rfl⟩
  rw [← g35] at A35 st35
  have g_b35 : n0 ≤ b35 := Nat.le_trans Z0 (Nat.le_of_eq g35.symm)
  have sz_b35 : h0.size ≤ b35 := Nat.le_trans (And.left (Keep.refl h0 [])) (Nat.le_of_eq g35.symm)
  have ne_a1_b35 : a1 ≠ b35 := Nat.ne_of_lt (Nat.lt_of_lt_of_le (V_a1).lt (Nat.le_of_eq g35.symm))
  have Z36 : n0 ≤ h35.size := Nat.le_trans Z0 E35.1
  have K37 : Keep h0 h35 [] := Keep.ext (Keep.refl h0 []) E35
  have V0_b35 := (Arv.new A35 (by decide)).pad (pad_rep [] (.int (0 : Int32)) 1)
  have V_b35 : Arv Z h35 b35 k35 .int (1 : Int32) [(.int (0 : Int32))] (.int (0 : Int32)) := V0_b35
  obtain ⟨cl38, Ar38, q38, S38, N38n, H38, G38⟩ := id ((V_a1.ext E35))
  obtain ⟨_, _, ⟨T39, L39, k39, n39⟩, -, X39, ⟨Lc39, hQ39, l39, y39, z39⟩, st39⟩ := Jvm.LawKit.callS X35 hx (y := (⟨"java/lang/Math", "min", "(II)I"⟩ : MethodName)) hown (mvT hZ (wd_64 hw)) (mvT hZ (wd_65 hw)) (mvT hZ (wd_57 hw)) (mvT hZ (wd_66 hw)) (by decide) (backOf (W := 4) (rm10 l Z a0 hw [] (0 : Int32) (1 : Int32) h35 n0 Z36) hZ (wd_66 hw) (wd_57 hw) (by decide) (by decide)) (g := (mkF m 25 #[.val (.ref a1), .val (.int (1 : Int32)), .val (.ref b35)] [(.int (1 : Int32)), (.int (0 : Int32)), (.int (0 : Int32)), (.ref b35), (.int (0 : Int32)), (.ref a1)])) rfl (by rw [hml]; rfl) (argsL := [(.int (0 : Int32)), (.int (1 : Int32))]) (rest := [(.int (0 : Int32)), (.ref b35), (.int (0 : Int32)), (.ref a1)]) (lenOf pd__II_I rfl) rfl (by show 2 * 0 + _ ≤ _; exact Nat.le_of_eq rfl) (hb hby d9_25) (fun _ _ => ⟨rfl, e35, (by decide : 1 + 0 ≤ _), (by decide : 1 + 0 ≤ _)⟩)
  dsimp only [Pt.U, Pt.locs, Pt.cells, Pt.slots] at X39 l39 y39 z39 st39 hQ39
  subst l39 y39 z39
  obtain ⟨rfl, N39q, e39⟩ := hQ39
  have N39 := Fr.app N0 N39q
  obtain ⟨T40, h40, L40, X40, e40, N40, K40q, V40, st40⟩ := cpA X39 hx hZ hown (wd_67 hw) (wd_70 hw) (wd_68 hw) (wd_69 hw) e39 (us := []) (V_a1.ext E35) V_b35 (Or.inl ⟨rfl, rfl⟩) (sp := (0 : Int32)) (dp := (0 : Int32)) (nn := (0 : Int32)) (by decide) (by decide) (by decide) (Nat.le_of_ble_eq_true rfl) (Nat.le_of_ble_eq_true rfl) rfl (Nat.le_of_ble_eq_true rfl) N39 g_b35 (g := (mkF m 28 #[.val (.ref a1), .val (.int (1 : Int32)), .val (.ref b35)] [(.int (0 : Int32)), (.int (0 : Int32)), (.ref b35), (.int (0 : Int32)), (.ref a1)])) rfl (by rw [hml]; rfl) rfl (hb hby d9_28) (by decide) (W := 0) (by show 2 * 0 + _ ≤ _; exact Nat.le_of_eq rfl) (by decide)
  have Z41 : n0 ≤ h40.size := Nat.le_trans Z36 K40q.1
  have K42 : Keep h0 h40 [] := Keep.trans K37 K40q (allS (Or.inr sz_b35) all0)
  have Vc40 : Arv Z h40 b35 k35 .int (1 : Int32) [(.int (0 : Int32))] (.int (0 : Int32)) := V40
  obtain ⟨fs, hr, hrun, hended, hW, hsame⟩ := X40.leave (v := some (.ref b35)) (fun h => by rw [Bd.returns] at h; cases h)
  refine ⟨_, _, pre0 _ ?_, hrun, hended, _, _, rfl, ?_, ⟨_, rfl⟩, hW, hsame.mono (by decide) (by decide)⟩
  · show Steps p.tables e below (s₁.setTop (mkF m 0 #[.val (.ref a1), .val (.int (1 : Int32)), .unset] [])) _
    refine XS.iloadN X0.here hx rfl (hb hby d9_0) rfl ?_
    refine XS.aloadN X0.here hx rfl (hb hby d9_1) rfl rfl ?_
    refine X0.arraylength hx (by rw [e0]; exact Ar34.1) (State.isArrayOf_alike hZ.alike Ar34.2.1) (g := (mkF m 2 #[.val (.ref a1), .val (.int (1 : Int32)), .unset] [(.ref a1), (.int (1 : Int32))])) rfl rfl (hb hby d9_2) _ ?_
    rw [len_of S34 N34n]
    refine XS.icmpYes X0.here hx rfl (pc0 := 3) (pc' := 14) rfl (hb hby d9_3) rfl (feq (by decide)).2 (by decide) (by decide) ?_
    show Steps p.tables e below (s₁.setTop (mkF m 14 #[.val (.ref a1), .val (.int (1 : Int32)), .unset] [])) _
    refine XS.iloadN X0.here hx rfl (hb hby d9_14) rfl ?_
    refine st35 _ ?_
    refine XS.astoreN X35.here hx rfl (hb hby d9_17) rfl rfl (l' := #[.val (.ref a1), .val (.int (1 : Int32)), .val (.ref b35)]) rfl ?_
    refine XS.aloadN X35.here hx rfl (hb hby d9_18) rfl rfl ?_
    show Steps p.tables e below (T35.setTop (mkF m 19 #[.val (.ref a1), .val (.int (1 : Int32)), .val (.ref b35)] [(.ref a1)])) _
    refine XS.iconst X35.here hx rfl (hb hby d9_19) ?_
    refine XS.aloadN X35.here hx rfl (hb hby d9_20) rfl rfl ?_
    refine XS.iconst X35.here hx rfl (hb hby d9_21) ?_
    refine XS.aloadN X35.here hx rfl (hb hby d9_22) rfl rfl ?_
    show Steps p.tables e below (T35.setTop (mkF m 23 #[.val (.ref a1), .val (.int (1 : Int32)), .val (.ref b35)] [(.ref a1), (.int (0 : Int32)), (.ref b35), (.int (0 : Int32)), (.ref a1)])) _
    refine X35.arraylength hx (by rw [e35]; exact Ar38.1) (State.isArrayOf_alike hZ.alike Ar38.2.1) (g := (mkF m 23 #[.val (.ref a1), .val (.int (1 : Int32)), .val (.ref b35)] [(.ref a1), (.int (0 : Int32)), (.ref b35), (.int (0 : Int32)), (.ref a1)])) rfl rfl (hb hby d9_23) _ ?_
    rw [len_of S38 N38n]
    refine XS.iloadN X35.here hx rfl (hb hby d9_24) rfl ?_
    refine st39 _ ?_
    show Steps p.tables e below (T39.setTop (mkF m 28 #[.val (.ref a1), .val (.int (1 : Int32)), .val (.ref b35)] [(.int (0 : Int32)), (.int (0 : Int32)), (.ref b35), (.int (0 : Int32)), (.ref a1)])) _
    refine st40 _ ?_
    refine XS.aloadN X40.here hx rfl (hb hby d9_31) rfl rfl ?_
    exact X40.areturnOut hx rfl Bd.returns rfl (hb hby d9_32) hr
  · show Q_rmcp0 Z a1 ka h0 n0 _ T40.heap _
    rw [e40]
    exact ⟨b35, k35, rfl, N40, K42, sz_b35, Vc40⟩
def Q_rmcp1 (Z : State) (a1 : Addr) (ka : ClassId) (x0 : Int32) (h0 : Heap) (n0 : Nat) (v : Option Value) (h : Heap) (L : List Loc) : Prop := ∃ b : Addr, ∃ kb : ClassId, v = some (.ref b) ∧ Fr n0 L ∧ Keep h0 h [] ∧ (h0.size ≤ b) ∧ (Arv Z h b kb .int (2 : Int32) [(.int x0), (.int (0 : Int32))] (.int (0 : Int32)))
set_option maxRecDepth 65536 in
set_option maxHeartbeats 40000000 in
theorem rmcp1 (l : Launch) (Z : State) (a0 : Array Value) (hw : ∀ d ∈ tables_1, d.before a0 Z = true) (ws : List Jvm.Cond) (a1 : Addr) (ka : ClassId) (x0 : Int32) (h0 : Heap) (n0 : Nat) (Z0 : n0 ≤ h0.size) (V_a1 : Arv Z h0 a1 ka .int (1 : Int32) [(.int x0)] (.int (0 : Int32))) :
    MetFree l (⟨"java/util/Arrays", "copyOf", "([II)[I"⟩ : MethodName) (head1 (Jvm.Cond.code (⟨"java/util/Arrays", "copyOf", "([II)[I"⟩ : MethodName) jdk_65_method_123_code 3 (some (.array .int)) :: ws) ({ frames := 1, cells := 1, slots := 2, locals := 18 } : Room)) (fun a U => a = #[(.ref a1), (.int (2 : Int32))] ∧ Z.Warmed39 U.vm ∧ U.heap = h0) (fun _ _ _ _ _ => True) (fun _ U o U' => ∃ v L, o = .returned v ∧ Q_rmcp1 Z a1 ka x0 h0 n0 v U'.heap L ∧ FrameEnd U o U' L ({ frames := 1, cells := 1, slots := 2, locals := 18 } : Room).cells ({ frames := 1, cells := 1, slots := 2, locals := 18 } : Room).slots) := by
  refine MetFree.of_bodySF (plainFor_of_name pn_java_util_Arrays) hisR ?_
  intro p e s m args below meth c s₁ Bd hml0 hP hK
  obtain ⟨rfl, hZ, hh⟩ := hP
  have hx := Bd.exec
  have hby := Bd.bytes
  have hml : c.maxLocals = 3 := hml0
  have hown : s.vm.findClass "java/util/Arrays" = some m.cls := findClass_of_methodNamed Bd.named
  have hnm := (name_of_methodNamed Bd.named Bd.method).1
  have X0 : Stand p l e ({ frames := 1, cells := 1, slots := 2, locals := 18 } : Room) s m #[(.ref a1), (.int (2 : Int32))] below meth c s₁ [] 0 0 := Stand.of_body Bd
  have e0 : s₁.heap = h0 := by rw [← hh, Bd.state]; rfl
  have N0 := Fr.nil n0
  have pre0 : ∀ t, Steps p.tables e below (s₁.setTop (mkF m 0 #[.val (.ref a1), .val (.int (2 : Int32)), .unset] [])) t → Steps p.tables e below (s₁.setTop (entryFrame m #[(.ref a1), (.int (2 : Int32))] 3)) t := fun t k => castTop (ef_9 m a1 (2 : Int32)) k
  obtain ⟨cl43, Ar43, q43, S43, N43n, H43, G43⟩ := id (V_a1)
  obtain ⟨T44, h44, k44, X44, e44, E44, A44, st44⟩ := newP (aty := .int) X0 hx hZ (wd_63 hw) e0 (g := (mkF m 15 #[.val (.ref a1), .val (.int (2 : Int32)), .unset] [(.int (2 : Int32))])) rfl (hb hby d9_15) rfl (by decide) (cap := 2) (by decide) (by decide) (by decide) (by decide)
  obtain ⟨b44, g44⟩ : ∃ z, z = h0.size := ⟨_, rfl⟩
  rw [← g44] at A44 st44
  have g_b44 : n0 ≤ b44 := Nat.le_trans Z0 (Nat.le_of_eq g44.symm)
  have sz_b44 : h0.size ≤ b44 := Nat.le_trans (And.left (Keep.refl h0 [])) (Nat.le_of_eq g44.symm)
  have ne_a1_b44 : a1 ≠ b44 := Nat.ne_of_lt (Nat.lt_of_lt_of_le (V_a1).lt (Nat.le_of_eq g44.symm))
  have Z45 : n0 ≤ h44.size := Nat.le_trans Z0 E44.1
  have K46 : Keep h0 h44 [] := Keep.ext (Keep.refl h0 []) E44
  have V0_b44 := (Arv.new A44 (by decide)).pad (pad_rep [] (.int (0 : Int32)) 2)
  have V_b44 : Arv Z h44 b44 k44 .int (2 : Int32) [(.int (0 : Int32)), (.int (0 : Int32))] (.int (0 : Int32)) := V0_b44
  obtain ⟨cl47, Ar47, q47, S47, N47n, H47, G47⟩ := id ((V_a1.ext E44))
  obtain ⟨_, _, ⟨T48, L48, k48, n48⟩, -, X48, ⟨Lc48, hQ48, l48, y48, z48⟩, st48⟩ := Jvm.LawKit.callS X44 hx (y := (⟨"java/lang/Math", "min", "(II)I"⟩ : MethodName)) hown (mvT hZ (wd_64 hw)) (mvT hZ (wd_65 hw)) (mvT hZ (wd_57 hw)) (mvT hZ (wd_66 hw)) (by decide) (backOf (W := 4) (rm10 l Z a0 hw [] (1 : Int32) (2 : Int32) h44 n0 Z45) hZ (wd_66 hw) (wd_57 hw) (by decide) (by decide)) (g := (mkF m 25 #[.val (.ref a1), .val (.int (2 : Int32)), .val (.ref b44)] [(.int (2 : Int32)), (.int (1 : Int32)), (.int (0 : Int32)), (.ref b44), (.int (0 : Int32)), (.ref a1)])) rfl (by rw [hml]; rfl) (argsL := [(.int (1 : Int32)), (.int (2 : Int32))]) (rest := [(.int (0 : Int32)), (.ref b44), (.int (0 : Int32)), (.ref a1)]) (lenOf pd__II_I rfl) rfl (by show 2 * 0 + _ ≤ _; exact Nat.le_of_eq rfl) (hb hby d9_25) (fun _ _ => ⟨rfl, e44, (by decide : 1 + 0 ≤ _), (by decide : 2 + 0 ≤ _)⟩)
  dsimp only [Pt.U, Pt.locs, Pt.cells, Pt.slots] at X48 l48 y48 z48 st48 hQ48
  subst l48 y48 z48
  obtain ⟨rfl, N48q, e48⟩ := hQ48
  have N48 := Fr.app N0 N48q
  obtain ⟨T49, h49, L49, X49, e49, N49, K49q, V49, st49⟩ := cpA X48 hx hZ hown (wd_67 hw) (wd_70 hw) (wd_68 hw) (wd_69 hw) e48 (us := [(.int x0)]) (V_a1.ext E44) V_b44 (Or.inl ⟨rfl, rfl⟩) (sp := (0 : Int32)) (dp := (0 : Int32)) (nn := (1 : Int32)) (by decide) (by decide) (by decide) (Nat.le_of_ble_eq_true rfl) (Nat.le_of_ble_eq_true rfl) rfl (Nat.le_of_ble_eq_true rfl) N48 g_b44 (g := (mkF m 28 #[.val (.ref a1), .val (.int (2 : Int32)), .val (.ref b44)] [(.int (1 : Int32)), (.int (0 : Int32)), (.ref b44), (.int (0 : Int32)), (.ref a1)])) rfl (by rw [hml]; rfl) rfl (hb hby d9_28) (by decide) (W := 0) (by show 2 * 0 + _ ≤ _; exact Nat.le_of_eq rfl) (by decide)
  have Z50 : n0 ≤ h49.size := Nat.le_trans Z45 K49q.1
  have K51 : Keep h0 h49 [] := Keep.trans K46 K49q (allS (Or.inr sz_b44) all0)
  have Vc49 : Arv Z h49 b44 k44 .int (2 : Int32) [(.int x0), (.int (0 : Int32))] (.int (0 : Int32)) := V49
  obtain ⟨fs, hr, hrun, hended, hW, hsame⟩ := X49.leave (v := some (.ref b44)) (fun h => by rw [Bd.returns] at h; cases h)
  refine ⟨_, _, pre0 _ ?_, hrun, hended, _, _, rfl, ?_, ⟨_, rfl⟩, hW, hsame.mono (by decide) (by decide)⟩
  · show Steps p.tables e below (s₁.setTop (mkF m 0 #[.val (.ref a1), .val (.int (2 : Int32)), .unset] [])) _
    refine XS.iloadN X0.here hx rfl (hb hby d9_0) rfl ?_
    refine XS.aloadN X0.here hx rfl (hb hby d9_1) rfl rfl ?_
    refine X0.arraylength hx (by rw [e0]; exact Ar43.1) (State.isArrayOf_alike hZ.alike Ar43.2.1) (g := (mkF m 2 #[.val (.ref a1), .val (.int (2 : Int32)), .unset] [(.ref a1), (.int (2 : Int32))])) rfl rfl (hb hby d9_2) _ ?_
    rw [len_of S43 N43n]
    refine XS.icmpYes X0.here hx rfl (pc0 := 3) (pc' := 14) rfl (hb hby d9_3) rfl (feq (by decide)).2 (by decide) (by decide) ?_
    show Steps p.tables e below (s₁.setTop (mkF m 14 #[.val (.ref a1), .val (.int (2 : Int32)), .unset] [])) _
    refine XS.iloadN X0.here hx rfl (hb hby d9_14) rfl ?_
    refine st44 _ ?_
    refine XS.astoreN X44.here hx rfl (hb hby d9_17) rfl rfl (l' := #[.val (.ref a1), .val (.int (2 : Int32)), .val (.ref b44)]) rfl ?_
    refine XS.aloadN X44.here hx rfl (hb hby d9_18) rfl rfl ?_
    show Steps p.tables e below (T44.setTop (mkF m 19 #[.val (.ref a1), .val (.int (2 : Int32)), .val (.ref b44)] [(.ref a1)])) _
    refine XS.iconst X44.here hx rfl (hb hby d9_19) ?_
    refine XS.aloadN X44.here hx rfl (hb hby d9_20) rfl rfl ?_
    refine XS.iconst X44.here hx rfl (hb hby d9_21) ?_
    refine XS.aloadN X44.here hx rfl (hb hby d9_22) rfl rfl ?_
    show Steps p.tables e below (T44.setTop (mkF m 23 #[.val (.ref a1), .val (.int (2 : Int32)), .val (.ref b44)] [(.ref a1), (.int (0 : Int32)), (.ref b44), (.int (0 : Int32)), (.ref a1)])) _
    refine X44.arraylength hx (by rw [e44]; exact Ar47.1) (State.isArrayOf_alike hZ.alike Ar47.2.1) (g := (mkF m 23 #[.val (.ref a1), .val (.int (2 : Int32)), .val (.ref b44)] [(.ref a1), (.int (0 : Int32)), (.ref b44), (.int (0 : Int32)), (.ref a1)])) rfl rfl (hb hby d9_23) _ ?_
    rw [len_of S47 N47n]
    refine XS.iloadN X44.here hx rfl (hb hby d9_24) rfl ?_
    refine st48 _ ?_
    show Steps p.tables e below (T48.setTop (mkF m 28 #[.val (.ref a1), .val (.int (2 : Int32)), .val (.ref b44)] [(.int (1 : Int32)), (.int (0 : Int32)), (.ref b44), (.int (0 : Int32)), (.ref a1)])) _
    refine st49 _ ?_
    refine XS.aloadN X49.here hx rfl (hb hby d9_31) rfl rfl ?_
    exact X49.areturnOut hx rfl Bd.returns rfl (hb hby d9_32) hr
  · show Q_rmcp1 Z a1 ka x0 h0 n0 _ T49.heap _
    rw [e49]
    exact ⟨b44, k44, rfl, N49, K51, sz_b44, Vc49⟩
def Q_rmcp2 (Z : State) (a1 : Addr) (ka : ClassId) (x0 : Int32) (x1 : Int32) (h0 : Heap) (n0 : Nat) (v : Option Value) (h : Heap) (L : List Loc) : Prop := ∃ b : Addr, ∃ kb : ClassId, v = some (.ref b) ∧ Fr n0 L ∧ Keep h0 h [] ∧ (h0.size ≤ b) ∧ (Arv Z h b kb .int (4 : Int32) [(.int x0), (.int x1), (.int (0 : Int32)), (.int (0 : Int32))] (.int (0 : Int32)))
set_option maxRecDepth 65536 in
set_option maxHeartbeats 40000000 in
theorem rmcp2 (l : Launch) (Z : State) (a0 : Array Value) (hw : ∀ d ∈ tables_1, d.before a0 Z = true) (ws : List Jvm.Cond) (a1 : Addr) (ka : ClassId) (x0 : Int32) (x1 : Int32) (h0 : Heap) (n0 : Nat) (Z0 : n0 ≤ h0.size) (V_a1 : Arv Z h0 a1 ka .int (2 : Int32) [(.int x0), (.int x1)] (.int (0 : Int32))) :
    MetFree l (⟨"java/util/Arrays", "copyOf", "([II)[I"⟩ : MethodName) (head1 (Jvm.Cond.code (⟨"java/util/Arrays", "copyOf", "([II)[I"⟩ : MethodName) jdk_65_method_123_code 3 (some (.array .int)) :: ws) ({ frames := 1, cells := 1, slots := 4, locals := 18 } : Room)) (fun a U => a = #[(.ref a1), (.int (4 : Int32))] ∧ Z.Warmed39 U.vm ∧ U.heap = h0) (fun _ _ _ _ _ => True) (fun _ U o U' => ∃ v L, o = .returned v ∧ Q_rmcp2 Z a1 ka x0 x1 h0 n0 v U'.heap L ∧ FrameEnd U o U' L ({ frames := 1, cells := 1, slots := 4, locals := 18 } : Room).cells ({ frames := 1, cells := 1, slots := 4, locals := 18 } : Room).slots) := by
  refine MetFree.of_bodySF (plainFor_of_name pn_java_util_Arrays) hisR ?_
  intro p e s m args below meth c s₁ Bd hml0 hP hK
  obtain ⟨rfl, hZ, hh⟩ := hP
  have hx := Bd.exec
  have hby := Bd.bytes
  have hml : c.maxLocals = 3 := hml0
  have hown : s.vm.findClass "java/util/Arrays" = some m.cls := findClass_of_methodNamed Bd.named
  have hnm := (name_of_methodNamed Bd.named Bd.method).1
  have X0 : Stand p l e ({ frames := 1, cells := 1, slots := 4, locals := 18 } : Room) s m #[(.ref a1), (.int (4 : Int32))] below meth c s₁ [] 0 0 := Stand.of_body Bd
  have e0 : s₁.heap = h0 := by rw [← hh, Bd.state]; rfl
  have N0 := Fr.nil n0
  have pre0 : ∀ t, Steps p.tables e below (s₁.setTop (mkF m 0 #[.val (.ref a1), .val (.int (4 : Int32)), .unset] [])) t → Steps p.tables e below (s₁.setTop (entryFrame m #[(.ref a1), (.int (4 : Int32))] 3)) t := fun t k => castTop (ef_9 m a1 (4 : Int32)) k
  obtain ⟨cl52, Ar52, q52, S52, N52n, H52, G52⟩ := id (V_a1)
  obtain ⟨T53, h53, k53, X53, e53, E53, A53, st53⟩ := newP (aty := .int) X0 hx hZ (wd_63 hw) e0 (g := (mkF m 15 #[.val (.ref a1), .val (.int (4 : Int32)), .unset] [(.int (4 : Int32))])) rfl (hb hby d9_15) rfl (by decide) (cap := 4) (by decide) (by decide) (by decide) (by decide)
  obtain ⟨b53, g53⟩ : ∃ z, z = h0.size := ⟨_, rfl⟩
  rw [← g53] at A53 st53
  have g_b53 : n0 ≤ b53 := Nat.le_trans Z0 (Nat.le_of_eq g53.symm)
  have sz_b53 : h0.size ≤ b53 := Nat.le_trans (And.left (Keep.refl h0 [])) (Nat.le_of_eq g53.symm)
  have ne_a1_b53 : a1 ≠ b53 := Nat.ne_of_lt (Nat.lt_of_lt_of_le (V_a1).lt (Nat.le_of_eq g53.symm))
  have Z54 : n0 ≤ h53.size := Nat.le_trans Z0 E53.1
  have K55 : Keep h0 h53 [] := Keep.ext (Keep.refl h0 []) E53
  have V0_b53 := (Arv.new A53 (by decide)).pad (pad_rep [] (.int (0 : Int32)) 4)
  have V_b53 : Arv Z h53 b53 k53 .int (4 : Int32) [(.int (0 : Int32)), (.int (0 : Int32)), (.int (0 : Int32)), (.int (0 : Int32))] (.int (0 : Int32)) := V0_b53
  obtain ⟨cl56, Ar56, q56, S56, N56n, H56, G56⟩ := id ((V_a1.ext E53))
  obtain ⟨_, _, ⟨T57, L57, k57, n57⟩, -, X57, ⟨Lc57, hQ57, l57, y57, z57⟩, st57⟩ := Jvm.LawKit.callS X53 hx (y := (⟨"java/lang/Math", "min", "(II)I"⟩ : MethodName)) hown (mvT hZ (wd_64 hw)) (mvT hZ (wd_65 hw)) (mvT hZ (wd_57 hw)) (mvT hZ (wd_66 hw)) (by decide) (backOf (W := 4) (rm10 l Z a0 hw [] (2 : Int32) (4 : Int32) h53 n0 Z54) hZ (wd_66 hw) (wd_57 hw) (by decide) (by decide)) (g := (mkF m 25 #[.val (.ref a1), .val (.int (4 : Int32)), .val (.ref b53)] [(.int (4 : Int32)), (.int (2 : Int32)), (.int (0 : Int32)), (.ref b53), (.int (0 : Int32)), (.ref a1)])) rfl (by rw [hml]; rfl) (argsL := [(.int (2 : Int32)), (.int (4 : Int32))]) (rest := [(.int (0 : Int32)), (.ref b53), (.int (0 : Int32)), (.ref a1)]) (lenOf pd__II_I rfl) rfl (by show 2 * 0 + _ ≤ _; exact Nat.le_of_eq rfl) (hb hby d9_25) (fun _ _ => ⟨rfl, e53, (by decide : 1 + 0 ≤ _), (by decide : 4 + 0 ≤ _)⟩)
  dsimp only [Pt.U, Pt.locs, Pt.cells, Pt.slots] at X57 l57 y57 z57 st57 hQ57
  subst l57 y57 z57
  obtain ⟨rfl, N57q, e57⟩ := hQ57
  have N57 := Fr.app N0 N57q
  obtain ⟨T58, h58, L58, X58, e58, N58, K58q, V58, st58⟩ := cpA X57 hx hZ hown (wd_67 hw) (wd_70 hw) (wd_68 hw) (wd_69 hw) e57 (us := [(.int x0), (.int x1)]) (V_a1.ext E53) V_b53 (Or.inl ⟨rfl, rfl⟩) (sp := (0 : Int32)) (dp := (0 : Int32)) (nn := (2 : Int32)) (by decide) (by decide) (by decide) (Nat.le_of_ble_eq_true rfl) (Nat.le_of_ble_eq_true rfl) rfl (Nat.le_of_ble_eq_true rfl) N57 g_b53 (g := (mkF m 28 #[.val (.ref a1), .val (.int (4 : Int32)), .val (.ref b53)] [(.int (2 : Int32)), (.int (0 : Int32)), (.ref b53), (.int (0 : Int32)), (.ref a1)])) rfl (by rw [hml]; rfl) rfl (hb hby d9_28) (by decide) (W := 0) (by show 2 * 0 + _ ≤ _; exact Nat.le_of_eq rfl) (by decide)
  have Z59 : n0 ≤ h58.size := Nat.le_trans Z54 K58q.1
  have K60 : Keep h0 h58 [] := Keep.trans K55 K58q (allS (Or.inr sz_b53) all0)
  have Vc58 : Arv Z h58 b53 k53 .int (4 : Int32) [(.int x0), (.int x1), (.int (0 : Int32)), (.int (0 : Int32))] (.int (0 : Int32)) := V58
  obtain ⟨fs, hr, hrun, hended, hW, hsame⟩ := X58.leave (v := some (.ref b53)) (fun h => by rw [Bd.returns] at h; cases h)
  refine ⟨_, _, pre0 _ ?_, hrun, hended, _, _, rfl, ?_, ⟨_, rfl⟩, hW, hsame.mono (by decide) (by decide)⟩
  · show Steps p.tables e below (s₁.setTop (mkF m 0 #[.val (.ref a1), .val (.int (4 : Int32)), .unset] [])) _
    refine XS.iloadN X0.here hx rfl (hb hby d9_0) rfl ?_
    refine XS.aloadN X0.here hx rfl (hb hby d9_1) rfl rfl ?_
    refine X0.arraylength hx (by rw [e0]; exact Ar52.1) (State.isArrayOf_alike hZ.alike Ar52.2.1) (g := (mkF m 2 #[.val (.ref a1), .val (.int (4 : Int32)), .unset] [(.ref a1), (.int (4 : Int32))])) rfl rfl (hb hby d9_2) _ ?_
    rw [len_of S52 N52n]
    refine XS.icmpYes X0.here hx rfl (pc0 := 3) (pc' := 14) rfl (hb hby d9_3) rfl (feq (by decide)).2 (by decide) (by decide) ?_
    show Steps p.tables e below (s₁.setTop (mkF m 14 #[.val (.ref a1), .val (.int (4 : Int32)), .unset] [])) _
    refine XS.iloadN X0.here hx rfl (hb hby d9_14) rfl ?_
    refine st53 _ ?_
    refine XS.astoreN X53.here hx rfl (hb hby d9_17) rfl rfl (l' := #[.val (.ref a1), .val (.int (4 : Int32)), .val (.ref b53)]) rfl ?_
    refine XS.aloadN X53.here hx rfl (hb hby d9_18) rfl rfl ?_
    show Steps p.tables e below (T53.setTop (mkF m 19 #[.val (.ref a1), .val (.int (4 : Int32)), .val (.ref b53)] [(.ref a1)])) _
    refine XS.iconst X53.here hx rfl (hb hby d9_19) ?_
    refine XS.aloadN X53.here hx rfl (hb hby d9_20) rfl rfl ?_
    refine XS.iconst X53.here hx rfl (hb hby d9_21) ?_
    refine XS.aloadN X53.here hx rfl (hb hby d9_22) rfl rfl ?_
    show Steps p.tables e below (T53.setTop (mkF m 23 #[.val (.ref a1), .val (.int (4 : Int32)), .val (.ref b53)] [(.ref a1), (.int (0 : Int32)), (.ref b53), (.int (0 : Int32)), (.ref a1)])) _
    refine X53.arraylength hx (by rw [e53]; exact Ar56.1) (State.isArrayOf_alike hZ.alike Ar56.2.1) (g := (mkF m 23 #[.val (.ref a1), .val (.int (4 : Int32)), .val (.ref b53)] [(.ref a1), (.int (0 : Int32)), (.ref b53), (.int (0 : Int32)), (.ref a1)])) rfl rfl (hb hby d9_23) _ ?_
    rw [len_of S56 N56n]
    refine XS.iloadN X53.here hx rfl (hb hby d9_24) rfl ?_
    refine st57 _ ?_
    show Steps p.tables e below (T57.setTop (mkF m 28 #[.val (.ref a1), .val (.int (4 : Int32)), .val (.ref b53)] [(.int (2 : Int32)), (.int (0 : Int32)), (.ref b53), (.int (0 : Int32)), (.ref a1)])) _
    refine st58 _ ?_
    refine XS.aloadN X58.here hx rfl (hb hby d9_31) rfl rfl ?_
    exact X58.areturnOut hx rfl Bd.returns rfl (hb hby d9_32) hr
  · show Q_rmcp2 Z a1 ka x0 x1 h0 n0 _ T58.heap _
    rw [e58]
    exact ⟨b53, k53, rfl, N58, K60, sz_b53, Vc58⟩
theorem d7_0 : decode prog_68_method_2_code 0 = .ok (.aload_n 0, 1) := by decide +kernel
theorem d7_1 : decode prog_68_method_2_code 1 = .ok (.getfield 16, 3) := by decide +kernel
theorem d7_4 : decode prog_68_method_2_code 4 = .ok (.ifCond .eq 30, 3) := by decide +kernel
theorem d7_7 : decode prog_68_method_2_code 7 = .ok (.aload_n 0, 1) := by decide +kernel
theorem d7_8 : decode prog_68_method_2_code 8 = .ok (.getfield 24, 3) := by decide +kernel
theorem wd_48 {a0 : Array Value} {Z : State} (hw : ∀ d ∈ tables_1, d.before a0 Z = true) : (Jvm.Cond.fieldLink "com/example/kawi/kawi/OrderedNames" (24 : Nat) "com/example/kawi/kawi/OrderedNames" "size" "I").before a0 Z = true := hw _ (List.mem_of_getElem? (i := 48) rfl)
theorem d7_11 : decode prog_68_method_2_code 11 = .ok (.ifCond .le 23, 3) := by decide +kernel
theorem d7_34 : decode prog_68_method_2_code 34 = .ok (.aload_n 0, 1) := by decide +kernel
theorem d7_35 : decode prog_68_method_2_code 35 = .ok (.getfield 24, 3) := by decide +kernel
theorem d7_38 : decode prog_68_method_2_code 38 = .ok (.aload_n 0, 1) := by decide +kernel
theorem d7_39 : decode prog_68_method_2_code 39 = .ok (.getfield 13, 3) := by decide +kernel
theorem d7_42 : decode prog_68_method_2_code 42 = .ok (.arraylength, 1) := by decide +kernel
theorem d7_43 : decode prog_68_method_2_code 43 = .ok (.if_icmp .ne 24, 3) := by decide +kernel
theorem d7_46 : decode prog_68_method_2_code 46 = .ok (.aload_n 0, 1) := by decide +kernel
theorem d7_47 : decode prog_68_method_2_code 47 = .ok (.aload_n 0, 1) := by decide +kernel
theorem d7_48 : decode prog_68_method_2_code 48 = .ok (.getfield 13, 3) := by decide +kernel
theorem d7_51 : decode prog_68_method_2_code 51 = .ok (.iconst 1, 1) := by decide +kernel
theorem d7_52 : decode prog_68_method_2_code 52 = .ok (.aload_n 0, 1) := by decide +kernel
theorem d7_53 : decode prog_68_method_2_code 53 = .ok (.getfield 24, 3) := by decide +kernel
theorem d7_56 : decode prog_68_method_2_code 56 = .ok (.iconst 2, 1) := by decide +kernel
theorem d7_57 : decode prog_68_method_2_code 57 = .ok (.imul, 1) := by decide +kernel
theorem d7_58 : decode prog_68_method_2_code 58 = .ok (.invokestatic 28, 3) := by decide +kernel
theorem wd_55 {a0 : Array Value} {Z : State} (hw : ∀ d ∈ tables_1, d.before a0 Z = true) : (Jvm.Cond.methodLink "com/example/kawi/kawi/OrderedNames" (28 : Nat) ({ cls := "java/lang/Math", name := "max", desc := "(II)I" } : Jvm.MethodName)).before a0 Z = true := hw _ (List.mem_of_getElem? (i := 55) rfl)
theorem wd_58 {a0 : Array Value} {Z : State} (hw : ∀ d ∈ tables_1, d.before a0 Z = true) : (Jvm.Cond.code ({ cls := "java/lang/Math", name := "max", desc := "(II)I" } : Jvm.MethodName) jdk_29_method_65_code (2 : Nat) (Option.some Jvm.ClassFile.FieldType.int)).before a0 Z = true := hw _ (List.mem_of_getElem? (i := 58) rfl)
theorem wd_56 {a0 : Array Value} {Z : State} (hw : ∀ d ∈ tables_1, d.before a0 Z = true) : (Jvm.Cond.static ({ cls := "java/lang/Math", name := "max", desc := "(II)I" } : Jvm.MethodName)).before a0 Z = true := hw _ (List.mem_of_getElem? (i := 56) rfl)
theorem d7_61 : decode prog_68_method_2_code 61 = .ok (.invokestatic 34, 3) := by decide +kernel
theorem wd_59 {a0 : Array Value} {Z : State} (hw : ∀ d ∈ tables_1, d.before a0 Z = true) : (Jvm.Cond.methodLink "com/example/kawi/kawi/OrderedNames" (34 : Nat) ({ cls := "java/util/Arrays", name := "copyOf", desc := "([II)[I" } : Jvm.MethodName)).before a0 Z = true := hw _ (List.mem_of_getElem? (i := 59) rfl)
theorem wd_62 {a0 : Array Value} {Z : State} (hw : ∀ d ∈ tables_1, d.before a0 Z = true) : (Jvm.Cond.code ({ cls := "java/util/Arrays", name := "copyOf", desc := "([II)[I" } : Jvm.MethodName) jdk_65_method_123_code (3 : Nat) (Option.some (Jvm.ClassFile.FieldType.array Jvm.ClassFile.FieldType.int))).before a0 Z = true := hw _ (List.mem_of_getElem? (i := 62) rfl)
theorem wd_61 {a0 : Array Value} {Z : State} (hw : ∀ d ∈ tables_1, d.before a0 Z = true) : (Jvm.Cond.initialized "java/util/Arrays").before a0 Z = true := hw _ (List.mem_of_getElem? (i := 61) rfl)
theorem pd___II__I : parseMethodDescriptor "([II)[I" = some ⟨[(.array .int), .int], some (.array .int)⟩ := by decide +kernel
theorem wd_60 {a0 : Array Value} {Z : State} (hw : ∀ d ∈ tables_1, d.before a0 Z = true) : (Jvm.Cond.static ({ cls := "java/util/Arrays", name := "copyOf", desc := "([II)[I" } : Jvm.MethodName)).before a0 Z = true := hw _ (List.mem_of_getElem? (i := 60) rfl)
theorem d7_64 : decode prog_68_method_2_code 64 = .ok (.putfield 13, 3) := by decide +kernel
theorem d7_67 : decode prog_68_method_2_code 67 = .ok (.aload_n 0, 1) := by decide +kernel
theorem d7_68 : decode prog_68_method_2_code 68 = .ok (.getfield 13, 3) := by decide +kernel
theorem d7_71 : decode prog_68_method_2_code 71 = .ok (.aload_n 0, 1) := by decide +kernel
theorem d7_72 : decode prog_68_method_2_code 72 = .ok (.dup, 1) := by decide +kernel
theorem d7_73 : decode prog_68_method_2_code 73 = .ok (.getfield 24, 3) := by decide +kernel
theorem d7_76 : decode prog_68_method_2_code 76 = .ok (.dup_x1, 1) := by decide +kernel
theorem d7_77 : decode prog_68_method_2_code 77 = .ok (.iconst 1, 1) := by decide +kernel
theorem d7_78 : decode prog_68_method_2_code 78 = .ok (.iadd, 1) := by decide +kernel
theorem d7_79 : decode prog_68_method_2_code 79 = .ok (.putfield 24, 3) := by decide +kernel
theorem d7_82 : decode prog_68_method_2_code 82 = .ok (.iload_n 1, 1) := by decide +kernel
theorem d7_83 : decode prog_68_method_2_code 83 = .ok (.iastore, 1) := by decide +kernel
theorem d7_84 : decode prog_68_method_2_code 84 = .ok (.aload_n 0, 1) := by decide +kernel
theorem d7_85 : decode prog_68_method_2_code 85 = .ok (.dup, 1) := by decide +kernel
theorem d7_86 : decode prog_68_method_2_code 86 = .ok (.getfield 40, 3) := by decide +kernel
theorem wd_71 {a0 : Array Value} {Z : State} (hw : ∀ d ∈ tables_1, d.before a0 Z = true) : (Jvm.Cond.fieldLink "com/example/kawi/kawi/OrderedNames" (40 : Nat) "com/example/kawi/kawi/OrderedNames" "modCount" "I").before a0 Z = true := hw _ (List.mem_of_getElem? (i := 71) rfl)
theorem wd_72 {a0 : Array Value} {Z : State} (hw : ∀ d ∈ tables_1, d.before a0 Z = true) : (Jvm.Cond.sameField "com/example/kawi/kawi/OrderedNames" "java/util/AbstractList" "modCount" "I").before a0 Z = true := hw _ (List.mem_of_getElem? (i := 72) rfl)
theorem d7_89 : decode prog_68_method_2_code 89 = .ok (.iconst 1, 1) := by decide +kernel
theorem d7_90 : decode prog_68_method_2_code 90 = .ok (.iadd, 1) := by decide +kernel
theorem d7_91 : decode prog_68_method_2_code 91 = .ok (.putfield 40, 3) := by decide +kernel
theorem d7_94 : decode prog_68_method_2_code 94 = .ok (.return_, 1) := by decide +kernel
theorem ef_7 (m : MethodId) (x0 : Addr) (x1 : Int32) : entryFrame m #[(.ref x0), (.int x1)] 2 = mkF m 0 #[.val (.ref x0), .val (.int x1)] [] := by first | (simp [entryFrame, mkF, argsToLocals, Value.category]; done) | rfl
def Q_rmap01 (Z : State) (a1 : Addr) (p2 : Int32) (mc : Int32) (pa : Addr) (ka : ClassId) (h0 : Heap) (n0 : Nat) (v : Option Value) (h : Heap) (L : List Loc) : Prop := ∃ b : Addr, ∃ kb : ClassId, v = none ∧ Fr n0 L ∧ Keep h0 h [a1] ∧ (h0.size ≤ b) ∧ (Fld Z h a1 "com/example/kawi/kawi/OrderedNames" "places" "[I" (.ref b)) ∧ (Fld Z h a1 "com/example/kawi/kawi/OrderedNames" "ordered" "Z" (.int (1 : Int32))) ∧ (Fld Z h a1 "com/example/kawi/kawi/OrderedNames" "size" "I" (.int (1 : Int32))) ∧ (Fld Z h a1 "java/util/AbstractList" "modCount" "I" (.int (mc + (1 : Int32)))) ∧ (Arv Z h b kb .int (1 : Int32) [(.int p2)] (.int (0 : Int32)))
set_option maxRecDepth 65536 in
set_option maxHeartbeats 40000000 in
theorem rmap01 (l : Launch) (Z : State) (a0 : Array Value) (hw : ∀ d ∈ tables_1, d.before a0 Z = true) (ws : List Jvm.Cond) (a1 : Addr) (p2 : Int32) (mc : Int32) (pa : Addr) (ka : ClassId) (h0 : Heap) (n0 : Nat) (Z0 : n0 ≤ h0.size) (F_places_a1 : Fld Z h0 a1 "com/example/kawi/kawi/OrderedNames" "places" "[I" (.ref pa)) (F_ordered_a1 : Fld Z h0 a1 "com/example/kawi/kawi/OrderedNames" "ordered" "Z" (.int (1 : Int32))) (F_size_a1 : Fld Z h0 a1 "com/example/kawi/kawi/OrderedNames" "size" "I" (.int (0 : Int32))) (F_modCount_a1 : Fld Z h0 a1 "java/util/AbstractList" "modCount" "I" (.int mc)) (E_a1 : Exa Z h0 a1 "com/example/kawi/kawi/OrderedNames") (g_a1 : n0 ≤ a1) (V_pa : Arv Z h0 pa ka .int (0 : Int32) [] (.int (0 : Int32))) (ne_pa_a1 : pa ≠ a1) :
    MetFree l (⟨"com/example/kawi/kawi/OrderedNames", "append", "(I)V"⟩ : MethodName) (head1 (Jvm.Cond.code (⟨"com/example/kawi/kawi/OrderedNames", "append", "(I)V"⟩ : MethodName) prog_68_method_2_code 2 none :: ws) ({ frames := 2, cells := 1, slots := 1, locals := 33 } : Room)) (fun a U => a = #[(.ref a1), (.int p2)] ∧ Z.Warmed39 U.vm ∧ U.heap = h0) (fun _ _ _ _ _ => True) (fun _ U o U' => ∃ v L, o = .returned v ∧ Q_rmap01 Z a1 p2 mc pa ka h0 n0 v U'.heap L ∧ FrameEnd U o U' L ({ frames := 2, cells := 1, slots := 1, locals := 33 } : Room).cells ({ frames := 2, cells := 1, slots := 1, locals := 33 } : Room).slots) := by
  refine MetFree.of_bodySF (plainFor_of_name pn_com_example_kawi_kawi_OrderedNames) hisR ?_
  intro p e s m args below meth c s₁ Bd hml0 hP hK
  obtain ⟨rfl, hZ, hh⟩ := hP
  have hx := Bd.exec
  have hby := Bd.bytes
  have hml : c.maxLocals = 2 := hml0
  have hown : s.vm.findClass "com/example/kawi/kawi/OrderedNames" = some m.cls := findClass_of_methodNamed Bd.named
  have hnm := (name_of_methodNamed Bd.named Bd.method).1
  have X0 : Stand p l e ({ frames := 2, cells := 1, slots := 1, locals := 33 } : Room) s m #[(.ref a1), (.int p2)] below meth c s₁ [] 0 0 := Stand.of_body Bd
  have e0 : s₁.heap = h0 := by rw [← hh, Bd.state]; rfl
  have N0 := Fr.nil n0
  have pre0 : ∀ t, Steps p.tables e below (s₁.setTop (mkF m 0 #[.val (.ref a1), .val (.int p2)] [])) t → Steps p.tables e below (s₁.setTop (entryFrame m #[(.ref a1), (.int p2)] 2)) t := fun t k => castTop (ef_7 m a1 p2) k
  obtain ⟨T61, X61, e61, st61⟩ := getF X0 hx hZ hown (host := "") (Or.inl (wd_39 hw)) Via.refl e0 F_ordered_a1 (g := (mkF m 1 #[.val (.ref a1), .val (.int p2)] [(.ref a1)])) rfl rfl (hb hby d7_1)
  obtain ⟨T62, X62, e62, st62⟩ := getF X61 hx hZ hown (host := "") (Or.inl (wd_48 hw)) Via.refl e61 F_size_a1 (g := (mkF m 8 #[.val (.ref a1), .val (.int p2)] [(.ref a1)])) rfl rfl (hb hby d7_8)
  obtain ⟨T63, X63, e63, st63⟩ := getF X62 hx hZ hown (host := "") (Or.inl (wd_48 hw)) Via.refl e62 F_size_a1 (g := (mkF m 35 #[.val (.ref a1), .val (.int p2)] [(.ref a1)])) rfl rfl (hb hby d7_35)
  obtain ⟨T64, X64, e64, st64⟩ := getF X63 hx hZ hown (host := "") (Or.inl (wd_37 hw)) Via.refl e63 F_places_a1 (g := (mkF m 39 #[.val (.ref a1), .val (.int p2)] [(.ref a1), (.int (0 : Int32))])) rfl rfl (hb hby d7_39)
  obtain ⟨cl65, Ar65, q65, S65, N65n, H65, G65⟩ := id (V_pa)
  obtain ⟨T66, X66, e66, st66⟩ := getF X64 hx hZ hown (host := "") (Or.inl (wd_37 hw)) Via.refl e64 F_places_a1 (g := (mkF m 48 #[.val (.ref a1), .val (.int p2)] [(.ref a1), (.ref a1)])) rfl rfl (hb hby d7_48)
  obtain ⟨T67, X67, e67, st67⟩ := getF X66 hx hZ hown (host := "") (Or.inl (wd_48 hw)) Via.refl e66 F_size_a1 (g := (mkF m 53 #[.val (.ref a1), .val (.int p2)] [(.ref a1), (.int (1 : Int32)), (.ref pa), (.ref a1)])) rfl rfl (hb hby d7_53)
  obtain ⟨_, _, ⟨T68, L68, k68, n68⟩, -, X68, ⟨Lc68, hQ68, l68, y68, z68⟩, st68⟩ := Jvm.LawKit.callS X67 hx (y := (⟨"java/lang/Math", "max", "(II)I"⟩ : MethodName)) hown (mvT hZ (wd_55 hw)) (mvT hZ (wd_56 hw)) (mvT hZ (wd_57 hw)) (mvT hZ (wd_58 hw)) (by decide) (backOf (W := 2) (rm8 l Z a0 hw [] (1 : Int32) (0 : Int32) h0 n0 Z0) hZ (wd_58 hw) (wd_57 hw) (by decide) (by decide)) (g := (mkF m 58 #[.val (.ref a1), .val (.int p2)] [(.int (0 : Int32)), (.int (1 : Int32)), (.ref pa), (.ref a1)])) rfl (by rw [hml]; rfl) (argsL := [(.int (1 : Int32)), (.int (0 : Int32))]) (rest := [(.ref pa), (.ref a1)]) (lenOf pd__II_I rfl) rfl (by show 2 * 0 + _ ≤ _; exact Nat.le_of_eq rfl) (hb hby d7_58) (fun _ _ => ⟨rfl, e67, (by decide : 0 + 0 ≤ _), (by decide : 0 + 0 ≤ _)⟩)
  dsimp only [Pt.U, Pt.locs, Pt.cells, Pt.slots] at X68 l68 y68 z68 st68 hQ68
  subst l68 y68 z68
  obtain ⟨rfl, N68q, e68⟩ := hQ68
  have N68 := Fr.app N0 N68q
  obtain ⟨_, _, ⟨T69, L69, k69, n69⟩, -, X69, ⟨Lc69, hQ69, l69, y69, z69⟩, st69⟩ := Jvm.LawKit.callS X68 hx (y := (⟨"java/util/Arrays", "copyOf", "([II)[I"⟩ : MethodName)) hown (mvT hZ (wd_59 hw)) (mvT hZ (wd_60 hw)) (mvT hZ (wd_61 hw)) (mvT hZ (wd_62 hw)) (by decide) (backOf (W := 1) (rmcp0 l Z a0 hw [] pa ka h0 n0 Z0 V_pa) hZ (wd_62 hw) (wd_61 hw) (by decide) (by decide)) (g := (mkF m 61 #[.val (.ref a1), .val (.int p2)] [(.int (1 : Int32)), (.ref pa), (.ref a1)])) rfl (by rw [hml]; rfl) (argsL := [(.ref pa), (.int (1 : Int32))]) (rest := [(.ref a1)]) (lenOf pd___II__I rfl) rfl (by show 2 * 0 + _ ≤ _; exact Nat.le_of_eq rfl) (hb hby d7_61) (fun _ _ => ⟨rfl, e68, (by decide : 0 + 1 ≤ _), (by decide : 0 + 1 ≤ _)⟩)
  dsimp only [Pt.U, Pt.locs, Pt.cells, Pt.slots] at X69 l69 y69 z69 st69 hQ69
  subst l69 y69 z69
  obtain ⟨b_69, kb_69, rfl, N69q, K69q, g69_0, g69_1⟩ := hQ69
  have N69 := Fr.app N68 N69q
  have Z70 : n0 ≤ T69.heap.size := Nat.le_trans Z0 K69q.1
  have K71 : Keep h0 T69.heap [a1] := Keep.trans (Keep.refl h0 [a1]) K69q all0
  have ne_a1_b_69 : a1 ≠ b_69 := Nat.ne_of_lt (Nat.lt_of_lt_of_le (F_places_a1).lt g69_0)
  have ne_pa_b_69 : pa ≠ b_69 := Nat.ne_of_lt (Nat.lt_of_lt_of_le (V_pa).lt g69_0)
  have g72 : n0 ≤ b_69 := Nat.le_trans Z0 g69_0
  have sz73 : h0.size ≤ b_69 := Nat.le_trans (And.left (Keep.refl h0 [a1])) g69_0
  obtain ⟨T74, h74, X74, e74, W74, st74⟩ := putF X69 hx hZ hown (host := "") (Or.inl (wd_37 hw)) Via.refl rfl (F_places_a1.keep K69q nin0) (E_a1.keep K69q) (Or.inl (wd_38 hw)) (wd_1 hw) (ty := (.array .int)) (by decide) rfl rfl (g := (mkF m 64 #[.val (.ref a1), .val (.int p2)] [(.ref b_69), (.ref a1)])) rfl rfl (hb hby d7_64)
  have Fw74 := (F_places_a1.keep K69q nin0).same W74
  have Z75 : n0 ≤ h74.size := Nat.le_trans Z70 (Keep.of_wr W74).1
  have K76 : Keep h0 h74 [a1] := Keep.wr K71 W74 (Or.inl (List.mem_of_getElem? (i := 0) rfl))
  have N74 := Fr.snoc X74 N69 g_a1
  obtain ⟨T77, X77, e77, st77⟩ := getF X74 hx hZ hown (host := "") (Or.inl (wd_37 hw)) Via.refl e74 Fw74 (g := (mkF m 68 #[.val (.ref a1), .val (.int p2)] [(.ref a1)])) rfl rfl (hb hby d7_68)
  obtain ⟨T78, X78, e78, st78⟩ := getF X77 hx hZ hown (host := "") (Or.inl (wd_48 hw)) Via.refl e77 ((F_size_a1.keep K69q nin0).other W74 (Or.inr (slot_ne (Or.inl (wd_49 hw)) (Or.inl (wd_38 hw)) (by decide) (t := .int) (t' := (.array .int)) (by decide) (by decide)))) (g := (mkF m 73 #[.val (.ref a1), .val (.int p2)] [(.ref a1), (.ref a1), (.ref b_69)])) rfl rfl (hb hby d7_73)
  obtain ⟨T79, h79, X79, e79, W79, st79⟩ := putF X78 hx hZ hown (host := "") (Or.inl (wd_48 hw)) Via.refl e78 ((F_size_a1.keep K69q nin0).other W74 (Or.inr (slot_ne (Or.inl (wd_49 hw)) (Or.inl (wd_38 hw)) (by decide) (t := .int) (t' := (.array .int)) (by decide) (by decide)))) ((E_a1.keep K69q).wr W74) (Or.inl (wd_49 hw)) (wd_1 hw) (ty := .int) (by decide) rfl rfl (g := (mkF m 79 #[.val (.ref a1), .val (.int p2)] [(.int (1 : Int32)), (.ref a1), (.int (0 : Int32)), (.ref b_69)])) rfl rfl (hb hby d7_79)
  have Fw79 := ((F_size_a1.keep K69q nin0).other W74 (Or.inr (slot_ne (Or.inl (wd_49 hw)) (Or.inl (wd_38 hw)) (by decide) (t := .int) (t' := (.array .int)) (by decide) (by decide)))).same W79
  have Z80 : n0 ≤ h79.size := Nat.le_trans Z75 (Keep.of_wr W79).1
  have K81 : Keep h0 h79 [a1] := Keep.wr K76 W79 (Or.inl (List.mem_of_getElem? (i := 0) rfl))
  have N79 := Fr.snoc X79 N74 g_a1
  obtain ⟨cl82, Ar82, q82, S82, N82n, H82, G82⟩ := id (((g69_1.other W74 (Ne.symm ne_a1_b_69)).other W79 (Ne.symm ne_a1_b_69)))
  have hin82 : ¬ ((0 : Int32) < 0 ∨ cl82.slots.size ≤ ((0 : Int32)).toNatClampNeg) := inb_of S82 ⟨by decide, by decide⟩
  obtain ⟨T83, h83, X83, e83, W83, st83⟩ := stI X79 hx hZ e79 Ar82 (j := (0 : Int32)) hin82 (g := (mkF m 83 #[.val (.ref a1), .val (.int p2)] [(.int p2), (.int (0 : Int32)), (.ref b_69)])) rfl rfl (hb hby d7_83)
  have V_b_69_83 : Arv Z h83 b_69 kb_69 .int (1 : Int32) [(.int p2)] (.int (0 : Int32)) := Arv.set Ar82 q82 S82 N82n H82 G82 rfl W83 0 rfl (Nat.le_of_ble_eq_true rfl)
  have Z84 : n0 ≤ h83.size := Nat.le_trans Z80 (Keep.of_wr W83).1
  have K85 : Keep h0 h83 [a1] := Keep.wr K81 W83 (Or.inr sz73)
  have N83 := Fr.snoc X83 N79 g72
  obtain ⟨T86, X86, e86, st86⟩ := getF X83 hx hZ hown (host := "") (Or.inl (wd_71 hw)) (Via.of (wd_72 hw)) e83 ((((F_modCount_a1.keep K69q nin0).other W74 (Or.inr (slot_ne (Or.inl (wd_34 hw)) (Or.inl (wd_38 hw)) (by decide) (t := .int) (t' := (.array .int)) (by decide) (by decide)))).other W79 (Or.inr (slot_ne (Or.inl (wd_34 hw)) (Or.inl (wd_49 hw)) (by decide) (t := .int) (t' := .int) (by decide) (by decide)))).other W83 (Or.inl ne_a1_b_69)) (g := (mkF m 86 #[.val (.ref a1), .val (.int p2)] [(.ref a1), (.ref a1)])) rfl rfl (hb hby d7_86)
  obtain ⟨T87, h87, X87, e87, W87, st87⟩ := putF X86 hx hZ hown (host := "") (Or.inl (wd_71 hw)) (Via.of (wd_72 hw)) e86 ((((F_modCount_a1.keep K69q nin0).other W74 (Or.inr (slot_ne (Or.inl (wd_34 hw)) (Or.inl (wd_38 hw)) (by decide) (t := .int) (t' := (.array .int)) (by decide) (by decide)))).other W79 (Or.inr (slot_ne (Or.inl (wd_34 hw)) (Or.inl (wd_49 hw)) (by decide) (t := .int) (t' := .int) (by decide) (by decide)))).other W83 (Or.inl ne_a1_b_69)) ((((E_a1.keep K69q).wr W74).wr W79).wr W83) (Or.inl (wd_34 hw)) (wd_1 hw) (ty := .int) (by decide) rfl rfl (g := (mkF m 91 #[.val (.ref a1), .val (.int p2)] [(.int (mc + (1 : Int32))), (.ref a1)])) rfl rfl (hb hby d7_91)
  have Fw87 := ((((F_modCount_a1.keep K69q nin0).other W74 (Or.inr (slot_ne (Or.inl (wd_34 hw)) (Or.inl (wd_38 hw)) (by decide) (t := .int) (t' := (.array .int)) (by decide) (by decide)))).other W79 (Or.inr (slot_ne (Or.inl (wd_34 hw)) (Or.inl (wd_49 hw)) (by decide) (t := .int) (t' := .int) (by decide) (by decide)))).other W83 (Or.inl ne_a1_b_69)).same W87
  have Z88 : n0 ≤ h87.size := Nat.le_trans Z84 (Keep.of_wr W87).1
  have K89 : Keep h0 h87 [a1] := Keep.wr K85 W87 (Or.inl (List.mem_of_getElem? (i := 0) rfl))
  have N87 := Fr.snoc X87 N83 g_a1
  obtain ⟨fs, hr, hrun, hended, hW, hsame⟩ := X87.leave (v := none) (fun _ => rfl)
  refine ⟨_, _, pre0 _ ?_, hrun, hended, _, _, rfl, ?_, ⟨_, rfl⟩, hW, hsame.mono (by decide) (by decide)⟩
  · show Steps p.tables e below (s₁.setTop (mkF m 0 #[.val (.ref a1), .val (.int p2)] [])) _
    refine XS.aloadN X0.here hx rfl (hb hby d7_0) rfl rfl ?_
    refine st61 _ ?_
    refine XS.ifNo X61.here hx rfl (hb hby d7_4) rfl ((if0 _ _).trans (feq (by decide)).1) ?_
    refine XS.aloadN X61.here hx rfl (hb hby d7_7) rfl rfl ?_
    show Steps p.tables e below (T61.setTop (mkF m 8 #[.val (.ref a1), .val (.int p2)] [(.ref a1)])) _
    refine st62 _ ?_
    refine XS.ifYes X62.here hx rfl (pc0 := 11) (pc' := 34) rfl (hb hby d7_11) rfl ((if0 _ _).trans (flt (by decide)).2.2.2) (by decide) (by decide) ?_
    refine XS.aloadN X62.here hx rfl (hb hby d7_34) rfl rfl ?_
    refine st63 _ ?_
    show Steps p.tables e below (T63.setTop (mkF m 38 #[.val (.ref a1), .val (.int p2)] [(.int (0 : Int32))])) _
    refine XS.aloadN X63.here hx rfl (hb hby d7_38) rfl rfl ?_
    refine st64 _ ?_
    refine X64.arraylength hx (by rw [e64]; exact Ar65.1) (State.isArrayOf_alike hZ.alike Ar65.2.1) (g := (mkF m 42 #[.val (.ref a1), .val (.int p2)] [(.ref pa), (.int (0 : Int32))])) rfl rfl (hb hby d7_42) _ ?_
    rw [len_of S65 N65n]
    refine XS.icmpNo X64.here hx rfl (hb hby d7_43) rfl (teq (rfl : (0 : Int32) = (0 : Int32))).2 ?_
    show Steps p.tables e below (T64.setTop (mkF m 46 #[.val (.ref a1), .val (.int p2)] [])) _
    refine XS.aloadN X64.here hx rfl (hb hby d7_46) rfl rfl ?_
    refine XS.aloadN X64.here hx rfl (hb hby d7_47) rfl rfl ?_
    refine st66 _ ?_
    refine XS.iconst X66.here hx rfl (hb hby d7_51) ?_
    show Steps p.tables e below (T66.setTop (mkF m 52 #[.val (.ref a1), .val (.int p2)] [(.int (1 : Int32)), (.ref pa), (.ref a1)])) _
    refine XS.aloadN X66.here hx rfl (hb hby d7_52) rfl rfl ?_
    refine st67 _ ?_
    refine XS.iconst X67.here hx rfl (hb hby d7_56) ?_
    refine XS.imul X67.here hx rfl (hb hby d7_57) rfl ?_
    show Steps p.tables e below (T67.setTop (mkF m 58 #[.val (.ref a1), .val (.int p2)] [(.int (0 : Int32)), (.int (1 : Int32)), (.ref pa), (.ref a1)])) _
    refine st68 _ ?_
    show Steps p.tables e below (T68.setTop (mkF m 61 #[.val (.ref a1), .val (.int p2)] [(.int (1 : Int32)), (.ref pa), (.ref a1)])) _
    refine st69 _ ?_
    refine st74 _ ?_
    refine XS.aloadN X74.here hx rfl (hb hby d7_67) rfl rfl ?_
    refine st77 _ ?_
    show Steps p.tables e below (T77.setTop (mkF m 71 #[.val (.ref a1), .val (.int p2)] [(.ref b_69)])) _
    refine XS.aloadN X77.here hx rfl (hb hby d7_71) rfl rfl ?_
    refine XS.dup X77.here hx rfl (hb hby d7_72) rfl rfl ?_
    refine st78 _ ?_
    refine XS.dupX1 X78.here hx rfl (hb hby d7_76) rfl rfl rfl ?_
    show Steps p.tables e below (T78.setTop (mkF m 77 #[.val (.ref a1), .val (.int p2)] [(.int (0 : Int32)), (.ref a1), (.int (0 : Int32)), (.ref b_69)])) _
    refine XS.iconst X78.here hx rfl (hb hby d7_77) ?_
    refine XS.iadd X78.here hx rfl (hb hby d7_78) rfl ?_
    refine st79 _ ?_
    refine XS.iloadN X79.here hx rfl (hb hby d7_82) rfl ?_
    show Steps p.tables e below (T79.setTop (mkF m 83 #[.val (.ref a1), .val (.int p2)] [(.int p2), (.int (0 : Int32)), (.ref b_69)])) _
    refine st83 _ ?_
    refine XS.aloadN X83.here hx rfl (hb hby d7_84) rfl rfl ?_
    refine XS.dup X83.here hx rfl (hb hby d7_85) rfl rfl ?_
    refine st86 _ ?_
    show Steps p.tables e below (T86.setTop (mkF m 89 #[.val (.ref a1), .val (.int p2)] [(.int mc), (.ref a1)])) _
    refine XS.iconst X86.here hx rfl (hb hby d7_89) ?_
    refine XS.iadd X86.here hx rfl (hb hby d7_90) rfl ?_
    refine st87 _ ?_
    exact X87.returnOut hx Bd.returns (hb hby d7_94) hr
  · show Q_rmap01 Z a1 p2 mc pa ka h0 n0 _ T87.heap _
    rw [e87]
    exact ⟨b_69, kb_69, rfl, N87, K89, sz73, (((Fw74.other W79 (Or.inr (slot_ne (Or.inl (wd_38 hw)) (Or.inl (wd_49 hw)) (by decide) (t := (.array .int)) (t' := .int) (by decide) (by decide)))).other W83 (Or.inl ne_a1_b_69)).other W87 (Or.inr (slot_ne (Or.inl (wd_38 hw)) (Or.inl (wd_34 hw)) (by decide) (t := (.array .int)) (t' := .int) (by decide) (by decide)))), (((((F_ordered_a1.keep K69q nin0).other W74 (Or.inr (slot_ne (Or.inl (wd_40 hw)) (Or.inl (wd_38 hw)) (by decide) (t := .boolean) (t' := (.array .int)) (by decide) (by decide)))).other W79 (Or.inr (slot_ne (Or.inl (wd_40 hw)) (Or.inl (wd_49 hw)) (by decide) (t := .boolean) (t' := .int) (by decide) (by decide)))).other W83 (Or.inl ne_a1_b_69)).other W87 (Or.inr (slot_ne (Or.inl (wd_40 hw)) (Or.inl (wd_34 hw)) (by decide) (t := .boolean) (t' := .int) (by decide) (by decide)))), ((Fw79.other W83 (Or.inl ne_a1_b_69)).other W87 (Or.inr (slot_ne (Or.inl (wd_49 hw)) (Or.inl (wd_34 hw)) (by decide) (t := .int) (t' := .int) (by decide) (by decide)))), Fw87, (V_b_69_83.other W87 (Ne.symm ne_a1_b_69))⟩
theorem d7_14 : decode prog_68_method_2_code 14 = .ok (.aload_n 0, 1) := by decide +kernel
theorem d7_15 : decode prog_68_method_2_code 15 = .ok (.getfield 13, 3) := by decide +kernel
theorem d7_18 : decode prog_68_method_2_code 18 = .ok (.aload_n 0, 1) := by decide +kernel
theorem d7_19 : decode prog_68_method_2_code 19 = .ok (.getfield 24, 3) := by decide +kernel
theorem d7_22 : decode prog_68_method_2_code 22 = .ok (.iconst 1, 1) := by decide +kernel
theorem d7_23 : decode prog_68_method_2_code 23 = .ok (.isub, 1) := by decide +kernel
theorem d7_24 : decode prog_68_method_2_code 24 = .ok (.iaload, 1) := by decide +kernel
theorem d7_25 : decode prog_68_method_2_code 25 = .ok (.iload_n 1, 1) := by decide +kernel
theorem d7_26 : decode prog_68_method_2_code 26 = .ok (.if_icmp .le 8, 3) := by decide +kernel
theorem d7_29 : decode prog_68_method_2_code 29 = .ok (.aload_n 0, 1) := by decide +kernel
theorem d7_30 : decode prog_68_method_2_code 30 = .ok (.iconst 0, 1) := by decide +kernel
theorem d7_31 : decode prog_68_method_2_code 31 = .ok (.putfield 16, 3) := by decide +kernel
def Q_rmap11t (Z : State) (a1 : Addr) (p2 : Int32) (mc : Int32) (pa : Addr) (ka : ClassId) (x0 : Int32) (h0 : Heap) (n0 : Nat) (v : Option Value) (h : Heap) (L : List Loc) : Prop := ∃ b : Addr, ∃ kb : ClassId, v = none ∧ Fr n0 L ∧ Keep h0 h [a1] ∧ (h0.size ≤ b) ∧ (Fld Z h a1 "com/example/kawi/kawi/OrderedNames" "places" "[I" (.ref b)) ∧ (Fld Z h a1 "com/example/kawi/kawi/OrderedNames" "ordered" "Z" (.int (0 : Int32))) ∧ (Fld Z h a1 "com/example/kawi/kawi/OrderedNames" "size" "I" (.int (2 : Int32))) ∧ (Fld Z h a1 "java/util/AbstractList" "modCount" "I" (.int (mc + (1 : Int32)))) ∧ (Arv Z h b kb .int (2 : Int32) [(.int x0), (.int p2)] (.int (0 : Int32)))
set_option maxRecDepth 65536 in
set_option maxHeartbeats 40000000 in
theorem rmap11t (l : Launch) (Z : State) (a0 : Array Value) (hw : ∀ d ∈ tables_1, d.before a0 Z = true) (ws : List Jvm.Cond) (a1 : Addr) (p2 : Int32) (mc : Int32) (pa : Addr) (ka : ClassId) (x0 : Int32) (h0 : Heap) (n0 : Nat) (Z0 : n0 ≤ h0.size) (F_places_a1 : Fld Z h0 a1 "com/example/kawi/kawi/OrderedNames" "places" "[I" (.ref pa)) (F_ordered_a1 : Fld Z h0 a1 "com/example/kawi/kawi/OrderedNames" "ordered" "Z" (.int (1 : Int32))) (F_size_a1 : Fld Z h0 a1 "com/example/kawi/kawi/OrderedNames" "size" "I" (.int (1 : Int32))) (F_modCount_a1 : Fld Z h0 a1 "java/util/AbstractList" "modCount" "I" (.int mc)) (E_a1 : Exa Z h0 a1 "com/example/kawi/kawi/OrderedNames") (g_a1 : n0 ≤ a1) (V_pa : Arv Z h0 pa ka .int (1 : Int32) [(.int x0)] (.int (0 : Int32))) (ne_pa_a1 : pa ≠ a1) (hlt : p2 < x0) :
    MetFree l (⟨"com/example/kawi/kawi/OrderedNames", "append", "(I)V"⟩ : MethodName) (head1 (Jvm.Cond.code (⟨"com/example/kawi/kawi/OrderedNames", "append", "(I)V"⟩ : MethodName) prog_68_method_2_code 2 none :: ws) ({ frames := 2, cells := 1, slots := 2, locals := 33 } : Room)) (fun a U => a = #[(.ref a1), (.int p2)] ∧ Z.Warmed39 U.vm ∧ U.heap = h0) (fun _ _ _ _ _ => True) (fun _ U o U' => ∃ v L, o = .returned v ∧ Q_rmap11t Z a1 p2 mc pa ka x0 h0 n0 v U'.heap L ∧ FrameEnd U o U' L ({ frames := 2, cells := 1, slots := 2, locals := 33 } : Room).cells ({ frames := 2, cells := 1, slots := 2, locals := 33 } : Room).slots) := by
  refine MetFree.of_bodySF (plainFor_of_name pn_com_example_kawi_kawi_OrderedNames) hisR ?_
  intro p e s m args below meth c s₁ Bd hml0 hP hK
  obtain ⟨rfl, hZ, hh⟩ := hP
  have hx := Bd.exec
  have hby := Bd.bytes
  have hml : c.maxLocals = 2 := hml0
  have hown : s.vm.findClass "com/example/kawi/kawi/OrderedNames" = some m.cls := findClass_of_methodNamed Bd.named
  have hnm := (name_of_methodNamed Bd.named Bd.method).1
  have X0 : Stand p l e ({ frames := 2, cells := 1, slots := 2, locals := 33 } : Room) s m #[(.ref a1), (.int p2)] below meth c s₁ [] 0 0 := Stand.of_body Bd
  have e0 : s₁.heap = h0 := by rw [← hh, Bd.state]; rfl
  have N0 := Fr.nil n0
  have pre0 : ∀ t, Steps p.tables e below (s₁.setTop (mkF m 0 #[.val (.ref a1), .val (.int p2)] [])) t → Steps p.tables e below (s₁.setTop (entryFrame m #[(.ref a1), (.int p2)] 2)) t := fun t k => castTop (ef_7 m a1 p2) k
  obtain ⟨T90, X90, e90, st90⟩ := getF X0 hx hZ hown (host := "") (Or.inl (wd_39 hw)) Via.refl e0 F_ordered_a1 (g := (mkF m 1 #[.val (.ref a1), .val (.int p2)] [(.ref a1)])) rfl rfl (hb hby d7_1)
  obtain ⟨T91, X91, e91, st91⟩ := getF X90 hx hZ hown (host := "") (Or.inl (wd_48 hw)) Via.refl e90 F_size_a1 (g := (mkF m 8 #[.val (.ref a1), .val (.int p2)] [(.ref a1)])) rfl rfl (hb hby d7_8)
  obtain ⟨T92, X92, e92, st92⟩ := getF X91 hx hZ hown (host := "") (Or.inl (wd_37 hw)) Via.refl e91 F_places_a1 (g := (mkF m 15 #[.val (.ref a1), .val (.int p2)] [(.ref a1)])) rfl rfl (hb hby d7_15)
  obtain ⟨T93, X93, e93, st93⟩ := getF X92 hx hZ hown (host := "") (Or.inl (wd_48 hw)) Via.refl e92 F_size_a1 (g := (mkF m 19 #[.val (.ref a1), .val (.int p2)] [(.ref a1), (.ref pa)])) rfl rfl (hb hby d7_19)
  obtain ⟨cl94, Ar94, q94, S94, N94n, H94, G94⟩ := id (V_pa)
  have hin94 : ¬ ((0 : Int32) < 0 ∨ cl94.slots.size ≤ ((0 : Int32)).toNatClampNeg) := inb_of S94 ⟨by decide, by decide⟩
  have hat94 : cl94.slots[((0 : Int32)).toNatClampNeg]? = some (.int x0) := H94.at hin94 rfl
  obtain ⟨T95, h95, X95, e95, W95, st95⟩ := putFN X93 hx hZ hown (wd_39 hw) Via.refl e93 F_ordered_a1 E_a1 (Or.inl (wd_40 hw)) (wd_1 hw) (ty := .boolean) (v' := (.int (0 : Int32))) (by decide) rfl rfl (g := (mkF m 31 #[.val (.ref a1), .val (.int p2)] [(.int (0 : Int32)), (.ref a1)])) rfl rfl (hb hby d7_31)
  have Fw95 := F_ordered_a1.same W95
  have Z96 : n0 ≤ h95.size := Nat.le_trans Z0 (Keep.of_wr W95).1
  have K97 : Keep h0 h95 [a1] := Keep.wr (Keep.refl h0 [a1]) W95 (Or.inl (List.mem_of_getElem? (i := 0) rfl))
  have N95 := Fr.snoc X95 N0 g_a1
  obtain ⟨T98, X98, e98, st98⟩ := getF X95 hx hZ hown (host := "") (Or.inl (wd_48 hw)) Via.refl e95 (F_size_a1.other W95 (Or.inr (slot_ne (Or.inl (wd_49 hw)) (Or.inl (wd_40 hw)) (by decide) (t := .int) (t' := .boolean) (by decide) (by decide)))) (g := (mkF m 35 #[.val (.ref a1), .val (.int p2)] [(.ref a1)])) rfl rfl (hb hby d7_35)
  obtain ⟨T99, X99, e99, st99⟩ := getF X98 hx hZ hown (host := "") (Or.inl (wd_37 hw)) Via.refl e98 (F_places_a1.other W95 (Or.inr (slot_ne (Or.inl (wd_38 hw)) (Or.inl (wd_40 hw)) (by decide) (t := (.array .int)) (t' := .boolean) (by decide) (by decide)))) (g := (mkF m 39 #[.val (.ref a1), .val (.int p2)] [(.ref a1), (.int (1 : Int32))])) rfl rfl (hb hby d7_39)
  obtain ⟨cl100, Ar100, q100, S100, N100n, H100, G100⟩ := id ((V_pa.other W95 ne_pa_a1))
  obtain ⟨T101, X101, e101, st101⟩ := getF X99 hx hZ hown (host := "") (Or.inl (wd_37 hw)) Via.refl e99 (F_places_a1.other W95 (Or.inr (slot_ne (Or.inl (wd_38 hw)) (Or.inl (wd_40 hw)) (by decide) (t := (.array .int)) (t' := .boolean) (by decide) (by decide)))) (g := (mkF m 48 #[.val (.ref a1), .val (.int p2)] [(.ref a1), (.ref a1)])) rfl rfl (hb hby d7_48)
  obtain ⟨T102, X102, e102, st102⟩ := getF X101 hx hZ hown (host := "") (Or.inl (wd_48 hw)) Via.refl e101 (F_size_a1.other W95 (Or.inr (slot_ne (Or.inl (wd_49 hw)) (Or.inl (wd_40 hw)) (by decide) (t := .int) (t' := .boolean) (by decide) (by decide)))) (g := (mkF m 53 #[.val (.ref a1), .val (.int p2)] [(.ref a1), (.int (1 : Int32)), (.ref pa), (.ref a1)])) rfl rfl (hb hby d7_53)
  obtain ⟨_, _, ⟨T103, L103, k103, n103⟩, -, X103, ⟨Lc103, hQ103, l103, y103, z103⟩, st103⟩ := Jvm.LawKit.callS X102 hx (y := (⟨"java/lang/Math", "max", "(II)I"⟩ : MethodName)) hown (mvT hZ (wd_55 hw)) (mvT hZ (wd_56 hw)) (mvT hZ (wd_57 hw)) (mvT hZ (wd_58 hw)) (by decide) (backOf (W := 2) (rm8 l Z a0 hw [] (1 : Int32) (2 : Int32) h95 n0 Z96) hZ (wd_58 hw) (wd_57 hw) (by decide) (by decide)) (g := (mkF m 58 #[.val (.ref a1), .val (.int p2)] [(.int (2 : Int32)), (.int (1 : Int32)), (.ref pa), (.ref a1)])) rfl (by rw [hml]; rfl) (argsL := [(.int (1 : Int32)), (.int (2 : Int32))]) (rest := [(.ref pa), (.ref a1)]) (lenOf pd__II_I rfl) rfl (by show 2 * 0 + _ ≤ _; exact Nat.le_of_eq rfl) (hb hby d7_58) (fun _ _ => ⟨rfl, e102, (by decide : 0 + 0 ≤ _), (by decide : 0 + 0 ≤ _)⟩)
  dsimp only [Pt.U, Pt.locs, Pt.cells, Pt.slots] at X103 l103 y103 z103 st103 hQ103
  subst l103 y103 z103
  obtain ⟨rfl, N103q, e103⟩ := hQ103
  have N103 := Fr.app N95 N103q
  obtain ⟨_, _, ⟨T104, L104, k104, n104⟩, -, X104, ⟨Lc104, hQ104, l104, y104, z104⟩, st104⟩ := Jvm.LawKit.callS X103 hx (y := (⟨"java/util/Arrays", "copyOf", "([II)[I"⟩ : MethodName)) hown (mvT hZ (wd_59 hw)) (mvT hZ (wd_60 hw)) (mvT hZ (wd_61 hw)) (mvT hZ (wd_62 hw)) (by decide) (backOf (W := 1) (rmcp1 l Z a0 hw [] pa ka x0 h95 n0 Z96 (V_pa.other W95 ne_pa_a1)) hZ (wd_62 hw) (wd_61 hw) (by decide) (by decide)) (g := (mkF m 61 #[.val (.ref a1), .val (.int p2)] [(.int (2 : Int32)), (.ref pa), (.ref a1)])) rfl (by rw [hml]; rfl) (argsL := [(.ref pa), (.int (2 : Int32))]) (rest := [(.ref a1)]) (lenOf pd___II__I rfl) rfl (by show 2 * 0 + _ ≤ _; exact Nat.le_of_eq rfl) (hb hby d7_61) (fun _ _ => ⟨rfl, e103, (by decide : 0 + 1 ≤ _), (by decide : 0 + 2 ≤ _)⟩)
  dsimp only [Pt.U, Pt.locs, Pt.cells, Pt.slots] at X104 l104 y104 z104 st104 hQ104
  subst l104 y104 z104
  obtain ⟨b_104, kb_104, rfl, N104q, K104q, g104_0, g104_1⟩ := hQ104
  have N104 := Fr.app N103 N104q
  have Z105 : n0 ≤ T104.heap.size := Nat.le_trans Z96 K104q.1
  have K106 : Keep h0 T104.heap [a1] := Keep.trans K97 K104q all0
  have ne_a1_b_104 : a1 ≠ b_104 := Nat.ne_of_lt (Nat.lt_of_lt_of_le ((F_places_a1.other W95 (Or.inr (slot_ne (Or.inl (wd_38 hw)) (Or.inl (wd_40 hw)) (by decide) (t := (.array .int)) (t' := .boolean) (by decide) (by decide))))).lt g104_0)
  have ne_pa_b_104 : pa ≠ b_104 := Nat.ne_of_lt (Nat.lt_of_lt_of_le ((V_pa.other W95 ne_pa_a1)).lt g104_0)
  have g107 : n0 ≤ b_104 := Nat.le_trans Z96 g104_0
  have sz108 : h0.size ≤ b_104 := Nat.le_trans (And.left K97) g104_0
  obtain ⟨T109, h109, X109, e109, W109, st109⟩ := putF X104 hx hZ hown (host := "") (Or.inl (wd_37 hw)) Via.refl rfl ((F_places_a1.other W95 (Or.inr (slot_ne (Or.inl (wd_38 hw)) (Or.inl (wd_40 hw)) (by decide) (t := (.array .int)) (t' := .boolean) (by decide) (by decide)))).keep K104q nin0) ((E_a1.wr W95).keep K104q) (Or.inl (wd_38 hw)) (wd_1 hw) (ty := (.array .int)) (by decide) rfl rfl (g := (mkF m 64 #[.val (.ref a1), .val (.int p2)] [(.ref b_104), (.ref a1)])) rfl rfl (hb hby d7_64)
  have Fw109 := ((F_places_a1.other W95 (Or.inr (slot_ne (Or.inl (wd_38 hw)) (Or.inl (wd_40 hw)) (by decide) (t := (.array .int)) (t' := .boolean) (by decide) (by decide)))).keep K104q nin0).same W109
  have Z110 : n0 ≤ h109.size := Nat.le_trans Z105 (Keep.of_wr W109).1
  have K111 : Keep h0 h109 [a1] := Keep.wr K106 W109 (Or.inl (List.mem_of_getElem? (i := 0) rfl))
  have N109 := Fr.snoc X109 N104 g_a1
  obtain ⟨T112, X112, e112, st112⟩ := getF X109 hx hZ hown (host := "") (Or.inl (wd_37 hw)) Via.refl e109 Fw109 (g := (mkF m 68 #[.val (.ref a1), .val (.int p2)] [(.ref a1)])) rfl rfl (hb hby d7_68)
  obtain ⟨T113, X113, e113, st113⟩ := getF X112 hx hZ hown (host := "") (Or.inl (wd_48 hw)) Via.refl e112 (((F_size_a1.other W95 (Or.inr (slot_ne (Or.inl (wd_49 hw)) (Or.inl (wd_40 hw)) (by decide) (t := .int) (t' := .boolean) (by decide) (by decide)))).keep K104q nin0).other W109 (Or.inr (slot_ne (Or.inl (wd_49 hw)) (Or.inl (wd_38 hw)) (by decide) (t := .int) (t' := (.array .int)) (by decide) (by decide)))) (g := (mkF m 73 #[.val (.ref a1), .val (.int p2)] [(.ref a1), (.ref a1), (.ref b_104)])) rfl rfl (hb hby d7_73)
  obtain ⟨T114, h114, X114, e114, W114, st114⟩ := putF X113 hx hZ hown (host := "") (Or.inl (wd_48 hw)) Via.refl e113 (((F_size_a1.other W95 (Or.inr (slot_ne (Or.inl (wd_49 hw)) (Or.inl (wd_40 hw)) (by decide) (t := .int) (t' := .boolean) (by decide) (by decide)))).keep K104q nin0).other W109 (Or.inr (slot_ne (Or.inl (wd_49 hw)) (Or.inl (wd_38 hw)) (by decide) (t := .int) (t' := (.array .int)) (by decide) (by decide)))) (((E_a1.wr W95).keep K104q).wr W109) (Or.inl (wd_49 hw)) (wd_1 hw) (ty := .int) (by decide) rfl rfl (g := (mkF m 79 #[.val (.ref a1), .val (.int p2)] [(.int (2 : Int32)), (.ref a1), (.int (1 : Int32)), (.ref b_104)])) rfl rfl (hb hby d7_79)
  have Fw114 := (((F_size_a1.other W95 (Or.inr (slot_ne (Or.inl (wd_49 hw)) (Or.inl (wd_40 hw)) (by decide) (t := .int) (t' := .boolean) (by decide) (by decide)))).keep K104q nin0).other W109 (Or.inr (slot_ne (Or.inl (wd_49 hw)) (Or.inl (wd_38 hw)) (by decide) (t := .int) (t' := (.array .int)) (by decide) (by decide)))).same W114
  have Z115 : n0 ≤ h114.size := Nat.le_trans Z110 (Keep.of_wr W114).1
  have K116 : Keep h0 h114 [a1] := Keep.wr K111 W114 (Or.inl (List.mem_of_getElem? (i := 0) rfl))
  have N114 := Fr.snoc X114 N109 g_a1
  obtain ⟨cl117, Ar117, q117, S117, N117n, H117, G117⟩ := id (((g104_1.other W109 (Ne.symm ne_a1_b_104)).other W114 (Ne.symm ne_a1_b_104)))
  have hin117 : ¬ ((1 : Int32) < 0 ∨ cl117.slots.size ≤ ((1 : Int32)).toNatClampNeg) := inb_of S117 ⟨by decide, by decide⟩
  obtain ⟨T118, h118, X118, e118, W118, st118⟩ := stI X114 hx hZ e114 Ar117 (j := (1 : Int32)) hin117 (g := (mkF m 83 #[.val (.ref a1), .val (.int p2)] [(.int p2), (.int (1 : Int32)), (.ref b_104)])) rfl rfl (hb hby d7_83)
  have V_b_104_118 : Arv Z h118 b_104 kb_104 .int (2 : Int32) [(.int x0), (.int p2)] (.int (0 : Int32)) := Arv.set Ar117 q117 S117 N117n H117 G117 rfl W118 1 rfl (Nat.le_of_ble_eq_true rfl)
  have Z119 : n0 ≤ h118.size := Nat.le_trans Z115 (Keep.of_wr W118).1
  have K120 : Keep h0 h118 [a1] := Keep.wr K116 W118 (Or.inr sz108)
  have N118 := Fr.snoc X118 N114 g107
  obtain ⟨T121, X121, e121, st121⟩ := getF X118 hx hZ hown (host := "") (Or.inl (wd_71 hw)) (Via.of (wd_72 hw)) e118 (((((F_modCount_a1.other W95 (Or.inr (slot_ne (Or.inl (wd_34 hw)) (Or.inl (wd_40 hw)) (by decide) (t := .int) (t' := .boolean) (by decide) (by decide)))).keep K104q nin0).other W109 (Or.inr (slot_ne (Or.inl (wd_34 hw)) (Or.inl (wd_38 hw)) (by decide) (t := .int) (t' := (.array .int)) (by decide) (by decide)))).other W114 (Or.inr (slot_ne (Or.inl (wd_34 hw)) (Or.inl (wd_49 hw)) (by decide) (t := .int) (t' := .int) (by decide) (by decide)))).other W118 (Or.inl ne_a1_b_104)) (g := (mkF m 86 #[.val (.ref a1), .val (.int p2)] [(.ref a1), (.ref a1)])) rfl rfl (hb hby d7_86)
  obtain ⟨T122, h122, X122, e122, W122, st122⟩ := putF X121 hx hZ hown (host := "") (Or.inl (wd_71 hw)) (Via.of (wd_72 hw)) e121 (((((F_modCount_a1.other W95 (Or.inr (slot_ne (Or.inl (wd_34 hw)) (Or.inl (wd_40 hw)) (by decide) (t := .int) (t' := .boolean) (by decide) (by decide)))).keep K104q nin0).other W109 (Or.inr (slot_ne (Or.inl (wd_34 hw)) (Or.inl (wd_38 hw)) (by decide) (t := .int) (t' := (.array .int)) (by decide) (by decide)))).other W114 (Or.inr (slot_ne (Or.inl (wd_34 hw)) (Or.inl (wd_49 hw)) (by decide) (t := .int) (t' := .int) (by decide) (by decide)))).other W118 (Or.inl ne_a1_b_104)) (((((E_a1.wr W95).keep K104q).wr W109).wr W114).wr W118) (Or.inl (wd_34 hw)) (wd_1 hw) (ty := .int) (by decide) rfl rfl (g := (mkF m 91 #[.val (.ref a1), .val (.int p2)] [(.int (mc + (1 : Int32))), (.ref a1)])) rfl rfl (hb hby d7_91)
  have Fw122 := (((((F_modCount_a1.other W95 (Or.inr (slot_ne (Or.inl (wd_34 hw)) (Or.inl (wd_40 hw)) (by decide) (t := .int) (t' := .boolean) (by decide) (by decide)))).keep K104q nin0).other W109 (Or.inr (slot_ne (Or.inl (wd_34 hw)) (Or.inl (wd_38 hw)) (by decide) (t := .int) (t' := (.array .int)) (by decide) (by decide)))).other W114 (Or.inr (slot_ne (Or.inl (wd_34 hw)) (Or.inl (wd_49 hw)) (by decide) (t := .int) (t' := .int) (by decide) (by decide)))).other W118 (Or.inl ne_a1_b_104)).same W122
  have Z123 : n0 ≤ h122.size := Nat.le_trans Z119 (Keep.of_wr W122).1
  have K124 : Keep h0 h122 [a1] := Keep.wr K120 W122 (Or.inl (List.mem_of_getElem? (i := 0) rfl))
  have N122 := Fr.snoc X122 N118 g_a1
  obtain ⟨fs, hr, hrun, hended, hW, hsame⟩ := X122.leave (v := none) (fun _ => rfl)
  refine ⟨_, _, pre0 _ ?_, hrun, hended, _, _, rfl, ?_, ⟨_, rfl⟩, hW, hsame.mono (by decide) (by decide)⟩
  · show Steps p.tables e below (s₁.setTop (mkF m 0 #[.val (.ref a1), .val (.int p2)] [])) _
    refine XS.aloadN X0.here hx rfl (hb hby d7_0) rfl rfl ?_
    refine st90 _ ?_
    refine XS.ifNo X90.here hx rfl (hb hby d7_4) rfl ((if0 _ _).trans (feq (by decide)).1) ?_
    refine XS.aloadN X90.here hx rfl (hb hby d7_7) rfl rfl ?_
    show Steps p.tables e below (T90.setTop (mkF m 8 #[.val (.ref a1), .val (.int p2)] [(.ref a1)])) _
    refine st91 _ ?_
    refine XS.ifNo X91.here hx rfl (hb hby d7_11) rfl ((if0 _ _).trans (tlt (by decide)).2.2.2) ?_
    refine XS.aloadN X91.here hx rfl (hb hby d7_14) rfl rfl ?_
    refine st92 _ ?_
    show Steps p.tables e below (T92.setTop (mkF m 18 #[.val (.ref a1), .val (.int p2)] [(.ref pa)])) _
    refine XS.aloadN X92.here hx rfl (hb hby d7_18) rfl rfl ?_
    refine st93 _ ?_
    refine XS.iconst X93.here hx rfl (hb hby d7_22) ?_
    refine XS.isub X93.here hx rfl (hb hby d7_23) rfl ?_
    show Steps p.tables e below (T93.setTop (mkF m 24 #[.val (.ref a1), .val (.int p2)] [(.int (0 : Int32)), (.ref pa)])) _
    refine X93.iaload hx (j := (0 : Int32)) (v := (.int x0)) (by rw [e93]; exact Ar94.1) (State.isArrayOf_alike hZ.alike Ar94.2.1) Ar94.2.2 hin94 hat94 (g := (mkF m 24 #[.val (.ref a1), .val (.int p2)] [(.int (0 : Int32)), (.ref pa)])) rfl rfl (hb hby d7_24) _ ?_
    refine XS.iloadN X93.here hx rfl (hb hby d7_25) rfl ?_
    refine XS.icmpNo X93.here hx rfl (hb hby d7_26) rfl (tlt hlt).2.2.2 ?_
    refine XS.aloadN X93.here hx rfl (hb hby d7_29) rfl rfl ?_
    show Steps p.tables e below (T93.setTop (mkF m 30 #[.val (.ref a1), .val (.int p2)] [(.ref a1)])) _
    refine XS.iconst X93.here hx rfl (hb hby d7_30) ?_
    refine st95 _ ?_
    refine XS.aloadN X95.here hx rfl (hb hby d7_34) rfl rfl ?_
    refine st98 _ ?_
    show Steps p.tables e below (T98.setTop (mkF m 38 #[.val (.ref a1), .val (.int p2)] [(.int (1 : Int32))])) _
    refine XS.aloadN X98.here hx rfl (hb hby d7_38) rfl rfl ?_
    refine st99 _ ?_
    refine X99.arraylength hx (by rw [e99]; exact Ar100.1) (State.isArrayOf_alike hZ.alike Ar100.2.1) (g := (mkF m 42 #[.val (.ref a1), .val (.int p2)] [(.ref pa), (.int (1 : Int32))])) rfl rfl (hb hby d7_42) _ ?_
    rw [len_of S100 N100n]
    refine XS.icmpNo X99.here hx rfl (hb hby d7_43) rfl (teq (rfl : (1 : Int32) = (1 : Int32))).2 ?_
    show Steps p.tables e below (T99.setTop (mkF m 46 #[.val (.ref a1), .val (.int p2)] [])) _
    refine XS.aloadN X99.here hx rfl (hb hby d7_46) rfl rfl ?_
    refine XS.aloadN X99.here hx rfl (hb hby d7_47) rfl rfl ?_
    refine st101 _ ?_
    refine XS.iconst X101.here hx rfl (hb hby d7_51) ?_
    show Steps p.tables e below (T101.setTop (mkF m 52 #[.val (.ref a1), .val (.int p2)] [(.int (1 : Int32)), (.ref pa), (.ref a1)])) _
    refine XS.aloadN X101.here hx rfl (hb hby d7_52) rfl rfl ?_
    refine st102 _ ?_
    refine XS.iconst X102.here hx rfl (hb hby d7_56) ?_
    refine XS.imul X102.here hx rfl (hb hby d7_57) rfl ?_
    show Steps p.tables e below (T102.setTop (mkF m 58 #[.val (.ref a1), .val (.int p2)] [(.int (2 : Int32)), (.int (1 : Int32)), (.ref pa), (.ref a1)])) _
    refine st103 _ ?_
    show Steps p.tables e below (T103.setTop (mkF m 61 #[.val (.ref a1), .val (.int p2)] [(.int (2 : Int32)), (.ref pa), (.ref a1)])) _
    refine st104 _ ?_
    refine st109 _ ?_
    refine XS.aloadN X109.here hx rfl (hb hby d7_67) rfl rfl ?_
    refine st112 _ ?_
    show Steps p.tables e below (T112.setTop (mkF m 71 #[.val (.ref a1), .val (.int p2)] [(.ref b_104)])) _
    refine XS.aloadN X112.here hx rfl (hb hby d7_71) rfl rfl ?_
    refine XS.dup X112.here hx rfl (hb hby d7_72) rfl rfl ?_
    refine st113 _ ?_
    refine XS.dupX1 X113.here hx rfl (hb hby d7_76) rfl rfl rfl ?_
    show Steps p.tables e below (T113.setTop (mkF m 77 #[.val (.ref a1), .val (.int p2)] [(.int (1 : Int32)), (.ref a1), (.int (1 : Int32)), (.ref b_104)])) _
    refine XS.iconst X113.here hx rfl (hb hby d7_77) ?_
    refine XS.iadd X113.here hx rfl (hb hby d7_78) rfl ?_
    refine st114 _ ?_
    refine XS.iloadN X114.here hx rfl (hb hby d7_82) rfl ?_
    show Steps p.tables e below (T114.setTop (mkF m 83 #[.val (.ref a1), .val (.int p2)] [(.int p2), (.int (1 : Int32)), (.ref b_104)])) _
    refine st118 _ ?_
    refine XS.aloadN X118.here hx rfl (hb hby d7_84) rfl rfl ?_
    refine XS.dup X118.here hx rfl (hb hby d7_85) rfl rfl ?_
    refine st121 _ ?_
    show Steps p.tables e below (T121.setTop (mkF m 89 #[.val (.ref a1), .val (.int p2)] [(.int mc), (.ref a1)])) _
    refine XS.iconst X121.here hx rfl (hb hby d7_89) ?_
    refine XS.iadd X121.here hx rfl (hb hby d7_90) rfl ?_
    refine st122 _ ?_
    exact X122.returnOut hx Bd.returns (hb hby d7_94) hr
  · show Q_rmap11t Z a1 p2 mc pa ka x0 h0 n0 _ T122.heap _
    rw [e122]
    exact ⟨b_104, kb_104, rfl, N122, K124, sz108, (((Fw109.other W114 (Or.inr (slot_ne (Or.inl (wd_38 hw)) (Or.inl (wd_49 hw)) (by decide) (t := (.array .int)) (t' := .int) (by decide) (by decide)))).other W118 (Or.inl ne_a1_b_104)).other W122 (Or.inr (slot_ne (Or.inl (wd_38 hw)) (Or.inl (wd_34 hw)) (by decide) (t := (.array .int)) (t' := .int) (by decide) (by decide)))), (((((Fw95.keep K104q nin0).other W109 (Or.inr (slot_ne (Or.inl (wd_40 hw)) (Or.inl (wd_38 hw)) (by decide) (t := .boolean) (t' := (.array .int)) (by decide) (by decide)))).other W114 (Or.inr (slot_ne (Or.inl (wd_40 hw)) (Or.inl (wd_49 hw)) (by decide) (t := .boolean) (t' := .int) (by decide) (by decide)))).other W118 (Or.inl ne_a1_b_104)).other W122 (Or.inr (slot_ne (Or.inl (wd_40 hw)) (Or.inl (wd_34 hw)) (by decide) (t := .boolean) (t' := .int) (by decide) (by decide)))), ((Fw114.other W118 (Or.inl ne_a1_b_104)).other W122 (Or.inr (slot_ne (Or.inl (wd_49 hw)) (Or.inl (wd_34 hw)) (by decide) (t := .int) (t' := .int) (by decide) (by decide)))), Fw122, (V_b_104_118.other W122 (Ne.symm ne_a1_b_104))⟩
def Q_rmap11f (Z : State) (a1 : Addr) (p2 : Int32) (mc : Int32) (pa : Addr) (ka : ClassId) (x0 : Int32) (h0 : Heap) (n0 : Nat) (v : Option Value) (h : Heap) (L : List Loc) : Prop := ∃ b : Addr, ∃ kb : ClassId, v = none ∧ Fr n0 L ∧ Keep h0 h [a1] ∧ (h0.size ≤ b) ∧ (Fld Z h a1 "com/example/kawi/kawi/OrderedNames" "places" "[I" (.ref b)) ∧ (Fld Z h a1 "com/example/kawi/kawi/OrderedNames" "ordered" "Z" (.int (1 : Int32))) ∧ (Fld Z h a1 "com/example/kawi/kawi/OrderedNames" "size" "I" (.int (2 : Int32))) ∧ (Fld Z h a1 "java/util/AbstractList" "modCount" "I" (.int (mc + (1 : Int32)))) ∧ (Arv Z h b kb .int (2 : Int32) [(.int x0), (.int p2)] (.int (0 : Int32)))
set_option maxRecDepth 65536 in
set_option maxHeartbeats 40000000 in
theorem rmap11f (l : Launch) (Z : State) (a0 : Array Value) (hw : ∀ d ∈ tables_1, d.before a0 Z = true) (ws : List Jvm.Cond) (a1 : Addr) (p2 : Int32) (mc : Int32) (pa : Addr) (ka : ClassId) (x0 : Int32) (h0 : Heap) (n0 : Nat) (Z0 : n0 ≤ h0.size) (F_places_a1 : Fld Z h0 a1 "com/example/kawi/kawi/OrderedNames" "places" "[I" (.ref pa)) (F_ordered_a1 : Fld Z h0 a1 "com/example/kawi/kawi/OrderedNames" "ordered" "Z" (.int (1 : Int32))) (F_size_a1 : Fld Z h0 a1 "com/example/kawi/kawi/OrderedNames" "size" "I" (.int (1 : Int32))) (F_modCount_a1 : Fld Z h0 a1 "java/util/AbstractList" "modCount" "I" (.int mc)) (E_a1 : Exa Z h0 a1 "com/example/kawi/kawi/OrderedNames") (g_a1 : n0 ≤ a1) (V_pa : Arv Z h0 pa ka .int (1 : Int32) [(.int x0)] (.int (0 : Int32))) (ne_pa_a1 : pa ≠ a1) (hlt : ¬ (p2 < x0)) :
    MetFree l (⟨"com/example/kawi/kawi/OrderedNames", "append", "(I)V"⟩ : MethodName) (head1 (Jvm.Cond.code (⟨"com/example/kawi/kawi/OrderedNames", "append", "(I)V"⟩ : MethodName) prog_68_method_2_code 2 none :: ws) ({ frames := 2, cells := 1, slots := 2, locals := 33 } : Room)) (fun a U => a = #[(.ref a1), (.int p2)] ∧ Z.Warmed39 U.vm ∧ U.heap = h0) (fun _ _ _ _ _ => True) (fun _ U o U' => ∃ v L, o = .returned v ∧ Q_rmap11f Z a1 p2 mc pa ka x0 h0 n0 v U'.heap L ∧ FrameEnd U o U' L ({ frames := 2, cells := 1, slots := 2, locals := 33 } : Room).cells ({ frames := 2, cells := 1, slots := 2, locals := 33 } : Room).slots) := by
  refine MetFree.of_bodySF (plainFor_of_name pn_com_example_kawi_kawi_OrderedNames) hisR ?_
  intro p e s m args below meth c s₁ Bd hml0 hP hK
  obtain ⟨rfl, hZ, hh⟩ := hP
  have hx := Bd.exec
  have hby := Bd.bytes
  have hml : c.maxLocals = 2 := hml0
  have hown : s.vm.findClass "com/example/kawi/kawi/OrderedNames" = some m.cls := findClass_of_methodNamed Bd.named
  have hnm := (name_of_methodNamed Bd.named Bd.method).1
  have X0 : Stand p l e ({ frames := 2, cells := 1, slots := 2, locals := 33 } : Room) s m #[(.ref a1), (.int p2)] below meth c s₁ [] 0 0 := Stand.of_body Bd
  have e0 : s₁.heap = h0 := by rw [← hh, Bd.state]; rfl
  have N0 := Fr.nil n0
  have pre0 : ∀ t, Steps p.tables e below (s₁.setTop (mkF m 0 #[.val (.ref a1), .val (.int p2)] [])) t → Steps p.tables e below (s₁.setTop (entryFrame m #[(.ref a1), (.int p2)] 2)) t := fun t k => castTop (ef_7 m a1 p2) k
  obtain ⟨T125, X125, e125, st125⟩ := getF X0 hx hZ hown (host := "") (Or.inl (wd_39 hw)) Via.refl e0 F_ordered_a1 (g := (mkF m 1 #[.val (.ref a1), .val (.int p2)] [(.ref a1)])) rfl rfl (hb hby d7_1)
  obtain ⟨T126, X126, e126, st126⟩ := getF X125 hx hZ hown (host := "") (Or.inl (wd_48 hw)) Via.refl e125 F_size_a1 (g := (mkF m 8 #[.val (.ref a1), .val (.int p2)] [(.ref a1)])) rfl rfl (hb hby d7_8)
  obtain ⟨T127, X127, e127, st127⟩ := getF X126 hx hZ hown (host := "") (Or.inl (wd_37 hw)) Via.refl e126 F_places_a1 (g := (mkF m 15 #[.val (.ref a1), .val (.int p2)] [(.ref a1)])) rfl rfl (hb hby d7_15)
  obtain ⟨T128, X128, e128, st128⟩ := getF X127 hx hZ hown (host := "") (Or.inl (wd_48 hw)) Via.refl e127 F_size_a1 (g := (mkF m 19 #[.val (.ref a1), .val (.int p2)] [(.ref a1), (.ref pa)])) rfl rfl (hb hby d7_19)
  obtain ⟨cl129, Ar129, q129, S129, N129n, H129, G129⟩ := id (V_pa)
  have hin129 : ¬ ((0 : Int32) < 0 ∨ cl129.slots.size ≤ ((0 : Int32)).toNatClampNeg) := inb_of S129 ⟨by decide, by decide⟩
  have hat129 : cl129.slots[((0 : Int32)).toNatClampNeg]? = some (.int x0) := H129.at hin129 rfl
  obtain ⟨T130, X130, e130, st130⟩ := getF X128 hx hZ hown (host := "") (Or.inl (wd_48 hw)) Via.refl e128 F_size_a1 (g := (mkF m 35 #[.val (.ref a1), .val (.int p2)] [(.ref a1)])) rfl rfl (hb hby d7_35)
  obtain ⟨T131, X131, e131, st131⟩ := getF X130 hx hZ hown (host := "") (Or.inl (wd_37 hw)) Via.refl e130 F_places_a1 (g := (mkF m 39 #[.val (.ref a1), .val (.int p2)] [(.ref a1), (.int (1 : Int32))])) rfl rfl (hb hby d7_39)
  obtain ⟨cl132, Ar132, q132, S132, N132n, H132, G132⟩ := id (V_pa)
  obtain ⟨T133, X133, e133, st133⟩ := getF X131 hx hZ hown (host := "") (Or.inl (wd_37 hw)) Via.refl e131 F_places_a1 (g := (mkF m 48 #[.val (.ref a1), .val (.int p2)] [(.ref a1), (.ref a1)])) rfl rfl (hb hby d7_48)
  obtain ⟨T134, X134, e134, st134⟩ := getF X133 hx hZ hown (host := "") (Or.inl (wd_48 hw)) Via.refl e133 F_size_a1 (g := (mkF m 53 #[.val (.ref a1), .val (.int p2)] [(.ref a1), (.int (1 : Int32)), (.ref pa), (.ref a1)])) rfl rfl (hb hby d7_53)
  obtain ⟨_, _, ⟨T135, L135, k135, n135⟩, -, X135, ⟨Lc135, hQ135, l135, y135, z135⟩, st135⟩ := Jvm.LawKit.callS X134 hx (y := (⟨"java/lang/Math", "max", "(II)I"⟩ : MethodName)) hown (mvT hZ (wd_55 hw)) (mvT hZ (wd_56 hw)) (mvT hZ (wd_57 hw)) (mvT hZ (wd_58 hw)) (by decide) (backOf (W := 2) (rm8 l Z a0 hw [] (1 : Int32) (2 : Int32) h0 n0 Z0) hZ (wd_58 hw) (wd_57 hw) (by decide) (by decide)) (g := (mkF m 58 #[.val (.ref a1), .val (.int p2)] [(.int (2 : Int32)), (.int (1 : Int32)), (.ref pa), (.ref a1)])) rfl (by rw [hml]; rfl) (argsL := [(.int (1 : Int32)), (.int (2 : Int32))]) (rest := [(.ref pa), (.ref a1)]) (lenOf pd__II_I rfl) rfl (by show 2 * 0 + _ ≤ _; exact Nat.le_of_eq rfl) (hb hby d7_58) (fun _ _ => ⟨rfl, e134, (by decide : 0 + 0 ≤ _), (by decide : 0 + 0 ≤ _)⟩)
  dsimp only [Pt.U, Pt.locs, Pt.cells, Pt.slots] at X135 l135 y135 z135 st135 hQ135
  subst l135 y135 z135
  obtain ⟨rfl, N135q, e135⟩ := hQ135
  have N135 := Fr.app N0 N135q
  obtain ⟨_, _, ⟨T136, L136, k136, n136⟩, -, X136, ⟨Lc136, hQ136, l136, y136, z136⟩, st136⟩ := Jvm.LawKit.callS X135 hx (y := (⟨"java/util/Arrays", "copyOf", "([II)[I"⟩ : MethodName)) hown (mvT hZ (wd_59 hw)) (mvT hZ (wd_60 hw)) (mvT hZ (wd_61 hw)) (mvT hZ (wd_62 hw)) (by decide) (backOf (W := 1) (rmcp1 l Z a0 hw [] pa ka x0 h0 n0 Z0 V_pa) hZ (wd_62 hw) (wd_61 hw) (by decide) (by decide)) (g := (mkF m 61 #[.val (.ref a1), .val (.int p2)] [(.int (2 : Int32)), (.ref pa), (.ref a1)])) rfl (by rw [hml]; rfl) (argsL := [(.ref pa), (.int (2 : Int32))]) (rest := [(.ref a1)]) (lenOf pd___II__I rfl) rfl (by show 2 * 0 + _ ≤ _; exact Nat.le_of_eq rfl) (hb hby d7_61) (fun _ _ => ⟨rfl, e135, (by decide : 0 + 1 ≤ _), (by decide : 0 + 2 ≤ _)⟩)
  dsimp only [Pt.U, Pt.locs, Pt.cells, Pt.slots] at X136 l136 y136 z136 st136 hQ136
  subst l136 y136 z136
  obtain ⟨b_136, kb_136, rfl, N136q, K136q, g136_0, g136_1⟩ := hQ136
  have N136 := Fr.app N135 N136q
  have Z137 : n0 ≤ T136.heap.size := Nat.le_trans Z0 K136q.1
  have K138 : Keep h0 T136.heap [a1] := Keep.trans (Keep.refl h0 [a1]) K136q all0
  have ne_a1_b_136 : a1 ≠ b_136 := Nat.ne_of_lt (Nat.lt_of_lt_of_le (F_places_a1).lt g136_0)
  have ne_pa_b_136 : pa ≠ b_136 := Nat.ne_of_lt (Nat.lt_of_lt_of_le (V_pa).lt g136_0)
  have g139 : n0 ≤ b_136 := Nat.le_trans Z0 g136_0
  have sz140 : h0.size ≤ b_136 := Nat.le_trans (And.left (Keep.refl h0 [a1])) g136_0
  obtain ⟨T141, h141, X141, e141, W141, st141⟩ := putF X136 hx hZ hown (host := "") (Or.inl (wd_37 hw)) Via.refl rfl (F_places_a1.keep K136q nin0) (E_a1.keep K136q) (Or.inl (wd_38 hw)) (wd_1 hw) (ty := (.array .int)) (by decide) rfl rfl (g := (mkF m 64 #[.val (.ref a1), .val (.int p2)] [(.ref b_136), (.ref a1)])) rfl rfl (hb hby d7_64)
  have Fw141 := (F_places_a1.keep K136q nin0).same W141
  have Z142 : n0 ≤ h141.size := Nat.le_trans Z137 (Keep.of_wr W141).1
  have K143 : Keep h0 h141 [a1] := Keep.wr K138 W141 (Or.inl (List.mem_of_getElem? (i := 0) rfl))
  have N141 := Fr.snoc X141 N136 g_a1
  obtain ⟨T144, X144, e144, st144⟩ := getF X141 hx hZ hown (host := "") (Or.inl (wd_37 hw)) Via.refl e141 Fw141 (g := (mkF m 68 #[.val (.ref a1), .val (.int p2)] [(.ref a1)])) rfl rfl (hb hby d7_68)
  obtain ⟨T145, X145, e145, st145⟩ := getF X144 hx hZ hown (host := "") (Or.inl (wd_48 hw)) Via.refl e144 ((F_size_a1.keep K136q nin0).other W141 (Or.inr (slot_ne (Or.inl (wd_49 hw)) (Or.inl (wd_38 hw)) (by decide) (t := .int) (t' := (.array .int)) (by decide) (by decide)))) (g := (mkF m 73 #[.val (.ref a1), .val (.int p2)] [(.ref a1), (.ref a1), (.ref b_136)])) rfl rfl (hb hby d7_73)
  obtain ⟨T146, h146, X146, e146, W146, st146⟩ := putF X145 hx hZ hown (host := "") (Or.inl (wd_48 hw)) Via.refl e145 ((F_size_a1.keep K136q nin0).other W141 (Or.inr (slot_ne (Or.inl (wd_49 hw)) (Or.inl (wd_38 hw)) (by decide) (t := .int) (t' := (.array .int)) (by decide) (by decide)))) ((E_a1.keep K136q).wr W141) (Or.inl (wd_49 hw)) (wd_1 hw) (ty := .int) (by decide) rfl rfl (g := (mkF m 79 #[.val (.ref a1), .val (.int p2)] [(.int (2 : Int32)), (.ref a1), (.int (1 : Int32)), (.ref b_136)])) rfl rfl (hb hby d7_79)
  have Fw146 := ((F_size_a1.keep K136q nin0).other W141 (Or.inr (slot_ne (Or.inl (wd_49 hw)) (Or.inl (wd_38 hw)) (by decide) (t := .int) (t' := (.array .int)) (by decide) (by decide)))).same W146
  have Z147 : n0 ≤ h146.size := Nat.le_trans Z142 (Keep.of_wr W146).1
  have K148 : Keep h0 h146 [a1] := Keep.wr K143 W146 (Or.inl (List.mem_of_getElem? (i := 0) rfl))
  have N146 := Fr.snoc X146 N141 g_a1
  obtain ⟨cl149, Ar149, q149, S149, N149n, H149, G149⟩ := id (((g136_1.other W141 (Ne.symm ne_a1_b_136)).other W146 (Ne.symm ne_a1_b_136)))
  have hin149 : ¬ ((1 : Int32) < 0 ∨ cl149.slots.size ≤ ((1 : Int32)).toNatClampNeg) := inb_of S149 ⟨by decide, by decide⟩
  obtain ⟨T150, h150, X150, e150, W150, st150⟩ := stI X146 hx hZ e146 Ar149 (j := (1 : Int32)) hin149 (g := (mkF m 83 #[.val (.ref a1), .val (.int p2)] [(.int p2), (.int (1 : Int32)), (.ref b_136)])) rfl rfl (hb hby d7_83)
  have V_b_136_150 : Arv Z h150 b_136 kb_136 .int (2 : Int32) [(.int x0), (.int p2)] (.int (0 : Int32)) := Arv.set Ar149 q149 S149 N149n H149 G149 rfl W150 1 rfl (Nat.le_of_ble_eq_true rfl)
  have Z151 : n0 ≤ h150.size := Nat.le_trans Z147 (Keep.of_wr W150).1
  have K152 : Keep h0 h150 [a1] := Keep.wr K148 W150 (Or.inr sz140)
  have N150 := Fr.snoc X150 N146 g139
  obtain ⟨T153, X153, e153, st153⟩ := getF X150 hx hZ hown (host := "") (Or.inl (wd_71 hw)) (Via.of (wd_72 hw)) e150 ((((F_modCount_a1.keep K136q nin0).other W141 (Or.inr (slot_ne (Or.inl (wd_34 hw)) (Or.inl (wd_38 hw)) (by decide) (t := .int) (t' := (.array .int)) (by decide) (by decide)))).other W146 (Or.inr (slot_ne (Or.inl (wd_34 hw)) (Or.inl (wd_49 hw)) (by decide) (t := .int) (t' := .int) (by decide) (by decide)))).other W150 (Or.inl ne_a1_b_136)) (g := (mkF m 86 #[.val (.ref a1), .val (.int p2)] [(.ref a1), (.ref a1)])) rfl rfl (hb hby d7_86)
  obtain ⟨T154, h154, X154, e154, W154, st154⟩ := putF X153 hx hZ hown (host := "") (Or.inl (wd_71 hw)) (Via.of (wd_72 hw)) e153 ((((F_modCount_a1.keep K136q nin0).other W141 (Or.inr (slot_ne (Or.inl (wd_34 hw)) (Or.inl (wd_38 hw)) (by decide) (t := .int) (t' := (.array .int)) (by decide) (by decide)))).other W146 (Or.inr (slot_ne (Or.inl (wd_34 hw)) (Or.inl (wd_49 hw)) (by decide) (t := .int) (t' := .int) (by decide) (by decide)))).other W150 (Or.inl ne_a1_b_136)) ((((E_a1.keep K136q).wr W141).wr W146).wr W150) (Or.inl (wd_34 hw)) (wd_1 hw) (ty := .int) (by decide) rfl rfl (g := (mkF m 91 #[.val (.ref a1), .val (.int p2)] [(.int (mc + (1 : Int32))), (.ref a1)])) rfl rfl (hb hby d7_91)
  have Fw154 := ((((F_modCount_a1.keep K136q nin0).other W141 (Or.inr (slot_ne (Or.inl (wd_34 hw)) (Or.inl (wd_38 hw)) (by decide) (t := .int) (t' := (.array .int)) (by decide) (by decide)))).other W146 (Or.inr (slot_ne (Or.inl (wd_34 hw)) (Or.inl (wd_49 hw)) (by decide) (t := .int) (t' := .int) (by decide) (by decide)))).other W150 (Or.inl ne_a1_b_136)).same W154
  have Z155 : n0 ≤ h154.size := Nat.le_trans Z151 (Keep.of_wr W154).1
  have K156 : Keep h0 h154 [a1] := Keep.wr K152 W154 (Or.inl (List.mem_of_getElem? (i := 0) rfl))
  have N154 := Fr.snoc X154 N150 g_a1
  obtain ⟨fs, hr, hrun, hended, hW, hsame⟩ := X154.leave (v := none) (fun _ => rfl)
  refine ⟨_, _, pre0 _ ?_, hrun, hended, _, _, rfl, ?_, ⟨_, rfl⟩, hW, hsame.mono (by decide) (by decide)⟩
  · show Steps p.tables e below (s₁.setTop (mkF m 0 #[.val (.ref a1), .val (.int p2)] [])) _
    refine XS.aloadN X0.here hx rfl (hb hby d7_0) rfl rfl ?_
    refine st125 _ ?_
    refine XS.ifNo X125.here hx rfl (hb hby d7_4) rfl ((if0 _ _).trans (feq (by decide)).1) ?_
    refine XS.aloadN X125.here hx rfl (hb hby d7_7) rfl rfl ?_
    show Steps p.tables e below (T125.setTop (mkF m 8 #[.val (.ref a1), .val (.int p2)] [(.ref a1)])) _
    refine st126 _ ?_
    refine XS.ifNo X126.here hx rfl (hb hby d7_11) rfl ((if0 _ _).trans (tlt (by decide)).2.2.2) ?_
    refine XS.aloadN X126.here hx rfl (hb hby d7_14) rfl rfl ?_
    refine st127 _ ?_
    show Steps p.tables e below (T127.setTop (mkF m 18 #[.val (.ref a1), .val (.int p2)] [(.ref pa)])) _
    refine XS.aloadN X127.here hx rfl (hb hby d7_18) rfl rfl ?_
    refine st128 _ ?_
    refine XS.iconst X128.here hx rfl (hb hby d7_22) ?_
    refine XS.isub X128.here hx rfl (hb hby d7_23) rfl ?_
    show Steps p.tables e below (T128.setTop (mkF m 24 #[.val (.ref a1), .val (.int p2)] [(.int (0 : Int32)), (.ref pa)])) _
    refine X128.iaload hx (j := (0 : Int32)) (v := (.int x0)) (by rw [e128]; exact Ar129.1) (State.isArrayOf_alike hZ.alike Ar129.2.1) Ar129.2.2 hin129 hat129 (g := (mkF m 24 #[.val (.ref a1), .val (.int p2)] [(.int (0 : Int32)), (.ref pa)])) rfl rfl (hb hby d7_24) _ ?_
    refine XS.iloadN X128.here hx rfl (hb hby d7_25) rfl ?_
    refine XS.icmpYes X128.here hx rfl (pc0 := 26) (pc' := 34) rfl (hb hby d7_26) rfl (flt hlt).2.2.2 (by decide) (by decide) ?_
    refine XS.aloadN X128.here hx rfl (hb hby d7_34) rfl rfl ?_
    show Steps p.tables e below (T128.setTop (mkF m 35 #[.val (.ref a1), .val (.int p2)] [(.ref a1)])) _
    refine st130 _ ?_
    refine XS.aloadN X130.here hx rfl (hb hby d7_38) rfl rfl ?_
    refine st131 _ ?_
    refine X131.arraylength hx (by rw [e131]; exact Ar132.1) (State.isArrayOf_alike hZ.alike Ar132.2.1) (g := (mkF m 42 #[.val (.ref a1), .val (.int p2)] [(.ref pa), (.int (1 : Int32))])) rfl rfl (hb hby d7_42) _ ?_
    rw [len_of S132 N132n]
    show Steps p.tables e below (T131.setTop (mkF m 43 #[.val (.ref a1), .val (.int p2)] [(.int (1 : Int32)), (.int (1 : Int32))])) _
    refine XS.icmpNo X131.here hx rfl (hb hby d7_43) rfl (teq (rfl : (1 : Int32) = (1 : Int32))).2 ?_
    refine XS.aloadN X131.here hx rfl (hb hby d7_46) rfl rfl ?_
    refine XS.aloadN X131.here hx rfl (hb hby d7_47) rfl rfl ?_
    refine st133 _ ?_
    show Steps p.tables e below (T133.setTop (mkF m 51 #[.val (.ref a1), .val (.int p2)] [(.ref pa), (.ref a1)])) _
    refine XS.iconst X133.here hx rfl (hb hby d7_51) ?_
    refine XS.aloadN X133.here hx rfl (hb hby d7_52) rfl rfl ?_
    refine st134 _ ?_
    refine XS.iconst X134.here hx rfl (hb hby d7_56) ?_
    show Steps p.tables e below (T134.setTop (mkF m 57 #[.val (.ref a1), .val (.int p2)] [(.int (2 : Int32)), (.int (1 : Int32)), (.int (1 : Int32)), (.ref pa), (.ref a1)])) _
    refine XS.imul X134.here hx rfl (hb hby d7_57) rfl ?_
    refine st135 _ ?_
    show Steps p.tables e below (T135.setTop (mkF m 61 #[.val (.ref a1), .val (.int p2)] [(.int (2 : Int32)), (.ref pa), (.ref a1)])) _
    refine st136 _ ?_
    refine st141 _ ?_
    refine XS.aloadN X141.here hx rfl (hb hby d7_67) rfl rfl ?_
    refine st144 _ ?_
    show Steps p.tables e below (T144.setTop (mkF m 71 #[.val (.ref a1), .val (.int p2)] [(.ref b_136)])) _
    refine XS.aloadN X144.here hx rfl (hb hby d7_71) rfl rfl ?_
    refine XS.dup X144.here hx rfl (hb hby d7_72) rfl rfl ?_
    refine st145 _ ?_
    refine XS.dupX1 X145.here hx rfl (hb hby d7_76) rfl rfl rfl ?_
    show Steps p.tables e below (T145.setTop (mkF m 77 #[.val (.ref a1), .val (.int p2)] [(.int (1 : Int32)), (.ref a1), (.int (1 : Int32)), (.ref b_136)])) _
    refine XS.iconst X145.here hx rfl (hb hby d7_77) ?_
    refine XS.iadd X145.here hx rfl (hb hby d7_78) rfl ?_
    refine st146 _ ?_
    refine XS.iloadN X146.here hx rfl (hb hby d7_82) rfl ?_
    show Steps p.tables e below (T146.setTop (mkF m 83 #[.val (.ref a1), .val (.int p2)] [(.int p2), (.int (1 : Int32)), (.ref b_136)])) _
    refine st150 _ ?_
    refine XS.aloadN X150.here hx rfl (hb hby d7_84) rfl rfl ?_
    refine XS.dup X150.here hx rfl (hb hby d7_85) rfl rfl ?_
    refine st153 _ ?_
    show Steps p.tables e below (T153.setTop (mkF m 89 #[.val (.ref a1), .val (.int p2)] [(.int mc), (.ref a1)])) _
    refine XS.iconst X153.here hx rfl (hb hby d7_89) ?_
    refine XS.iadd X153.here hx rfl (hb hby d7_90) rfl ?_
    refine st154 _ ?_
    exact X154.returnOut hx Bd.returns (hb hby d7_94) hr
  · show Q_rmap11f Z a1 p2 mc pa ka x0 h0 n0 _ T154.heap _
    rw [e154]
    exact ⟨b_136, kb_136, rfl, N154, K156, sz140, (((Fw141.other W146 (Or.inr (slot_ne (Or.inl (wd_38 hw)) (Or.inl (wd_49 hw)) (by decide) (t := (.array .int)) (t' := .int) (by decide) (by decide)))).other W150 (Or.inl ne_a1_b_136)).other W154 (Or.inr (slot_ne (Or.inl (wd_38 hw)) (Or.inl (wd_34 hw)) (by decide) (t := (.array .int)) (t' := .int) (by decide) (by decide)))), (((((F_ordered_a1.keep K136q nin0).other W141 (Or.inr (slot_ne (Or.inl (wd_40 hw)) (Or.inl (wd_38 hw)) (by decide) (t := .boolean) (t' := (.array .int)) (by decide) (by decide)))).other W146 (Or.inr (slot_ne (Or.inl (wd_40 hw)) (Or.inl (wd_49 hw)) (by decide) (t := .boolean) (t' := .int) (by decide) (by decide)))).other W150 (Or.inl ne_a1_b_136)).other W154 (Or.inr (slot_ne (Or.inl (wd_40 hw)) (Or.inl (wd_34 hw)) (by decide) (t := .boolean) (t' := .int) (by decide) (by decide)))), ((Fw146.other W150 (Or.inl ne_a1_b_136)).other W154 (Or.inr (slot_ne (Or.inl (wd_49 hw)) (Or.inl (wd_34 hw)) (by decide) (t := .int) (t' := .int) (by decide) (by decide)))), Fw154, (V_b_136_150.other W154 (Ne.symm ne_a1_b_136))⟩
def Q_rmap21t (Z : State) (a1 : Addr) (p2 : Int32) (mc : Int32) (pa : Addr) (ka : ClassId) (x0 : Int32) (x1 : Int32) (h0 : Heap) (n0 : Nat) (v : Option Value) (h : Heap) (L : List Loc) : Prop := ∃ b : Addr, ∃ kb : ClassId, v = none ∧ Fr n0 L ∧ Keep h0 h [a1] ∧ (h0.size ≤ b) ∧ (Fld Z h a1 "com/example/kawi/kawi/OrderedNames" "places" "[I" (.ref b)) ∧ (Fld Z h a1 "com/example/kawi/kawi/OrderedNames" "ordered" "Z" (.int (0 : Int32))) ∧ (Fld Z h a1 "com/example/kawi/kawi/OrderedNames" "size" "I" (.int (3 : Int32))) ∧ (Fld Z h a1 "java/util/AbstractList" "modCount" "I" (.int (mc + (1 : Int32)))) ∧ (Arv Z h b kb .int (4 : Int32) [(.int x0), (.int x1), (.int p2), (.int (0 : Int32))] (.int (0 : Int32)))
set_option maxRecDepth 65536 in
set_option maxHeartbeats 40000000 in
theorem rmap21t (l : Launch) (Z : State) (a0 : Array Value) (hw : ∀ d ∈ tables_1, d.before a0 Z = true) (ws : List Jvm.Cond) (a1 : Addr) (p2 : Int32) (mc : Int32) (pa : Addr) (ka : ClassId) (x0 : Int32) (x1 : Int32) (h0 : Heap) (n0 : Nat) (Z0 : n0 ≤ h0.size) (F_places_a1 : Fld Z h0 a1 "com/example/kawi/kawi/OrderedNames" "places" "[I" (.ref pa)) (F_ordered_a1 : Fld Z h0 a1 "com/example/kawi/kawi/OrderedNames" "ordered" "Z" (.int (1 : Int32))) (F_size_a1 : Fld Z h0 a1 "com/example/kawi/kawi/OrderedNames" "size" "I" (.int (2 : Int32))) (F_modCount_a1 : Fld Z h0 a1 "java/util/AbstractList" "modCount" "I" (.int mc)) (E_a1 : Exa Z h0 a1 "com/example/kawi/kawi/OrderedNames") (g_a1 : n0 ≤ a1) (V_pa : Arv Z h0 pa ka .int (2 : Int32) [(.int x0), (.int x1)] (.int (0 : Int32))) (ne_pa_a1 : pa ≠ a1) (hlt : p2 < x1) :
    MetFree l (⟨"com/example/kawi/kawi/OrderedNames", "append", "(I)V"⟩ : MethodName) (head1 (Jvm.Cond.code (⟨"com/example/kawi/kawi/OrderedNames", "append", "(I)V"⟩ : MethodName) prog_68_method_2_code 2 none :: ws) ({ frames := 2, cells := 1, slots := 4, locals := 33 } : Room)) (fun a U => a = #[(.ref a1), (.int p2)] ∧ Z.Warmed39 U.vm ∧ U.heap = h0) (fun _ _ _ _ _ => True) (fun _ U o U' => ∃ v L, o = .returned v ∧ Q_rmap21t Z a1 p2 mc pa ka x0 x1 h0 n0 v U'.heap L ∧ FrameEnd U o U' L ({ frames := 2, cells := 1, slots := 4, locals := 33 } : Room).cells ({ frames := 2, cells := 1, slots := 4, locals := 33 } : Room).slots) := by
  refine MetFree.of_bodySF (plainFor_of_name pn_com_example_kawi_kawi_OrderedNames) hisR ?_
  intro p e s m args below meth c s₁ Bd hml0 hP hK
  obtain ⟨rfl, hZ, hh⟩ := hP
  have hx := Bd.exec
  have hby := Bd.bytes
  have hml : c.maxLocals = 2 := hml0
  have hown : s.vm.findClass "com/example/kawi/kawi/OrderedNames" = some m.cls := findClass_of_methodNamed Bd.named
  have hnm := (name_of_methodNamed Bd.named Bd.method).1
  have X0 : Stand p l e ({ frames := 2, cells := 1, slots := 4, locals := 33 } : Room) s m #[(.ref a1), (.int p2)] below meth c s₁ [] 0 0 := Stand.of_body Bd
  have e0 : s₁.heap = h0 := by rw [← hh, Bd.state]; rfl
  have N0 := Fr.nil n0
  have pre0 : ∀ t, Steps p.tables e below (s₁.setTop (mkF m 0 #[.val (.ref a1), .val (.int p2)] [])) t → Steps p.tables e below (s₁.setTop (entryFrame m #[(.ref a1), (.int p2)] 2)) t := fun t k => castTop (ef_7 m a1 p2) k
  obtain ⟨T157, X157, e157, st157⟩ := getF X0 hx hZ hown (host := "") (Or.inl (wd_39 hw)) Via.refl e0 F_ordered_a1 (g := (mkF m 1 #[.val (.ref a1), .val (.int p2)] [(.ref a1)])) rfl rfl (hb hby d7_1)
  obtain ⟨T158, X158, e158, st158⟩ := getF X157 hx hZ hown (host := "") (Or.inl (wd_48 hw)) Via.refl e157 F_size_a1 (g := (mkF m 8 #[.val (.ref a1), .val (.int p2)] [(.ref a1)])) rfl rfl (hb hby d7_8)
  obtain ⟨T159, X159, e159, st159⟩ := getF X158 hx hZ hown (host := "") (Or.inl (wd_37 hw)) Via.refl e158 F_places_a1 (g := (mkF m 15 #[.val (.ref a1), .val (.int p2)] [(.ref a1)])) rfl rfl (hb hby d7_15)
  obtain ⟨T160, X160, e160, st160⟩ := getF X159 hx hZ hown (host := "") (Or.inl (wd_48 hw)) Via.refl e159 F_size_a1 (g := (mkF m 19 #[.val (.ref a1), .val (.int p2)] [(.ref a1), (.ref pa)])) rfl rfl (hb hby d7_19)
  obtain ⟨cl161, Ar161, q161, S161, N161n, H161, G161⟩ := id (V_pa)
  have hin161 : ¬ ((1 : Int32) < 0 ∨ cl161.slots.size ≤ ((1 : Int32)).toNatClampNeg) := inb_of S161 ⟨by decide, by decide⟩
  have hat161 : cl161.slots[((1 : Int32)).toNatClampNeg]? = some (.int x1) := H161.at hin161 rfl
  obtain ⟨T162, h162, X162, e162, W162, st162⟩ := putFN X160 hx hZ hown (wd_39 hw) Via.refl e160 F_ordered_a1 E_a1 (Or.inl (wd_40 hw)) (wd_1 hw) (ty := .boolean) (v' := (.int (0 : Int32))) (by decide) rfl rfl (g := (mkF m 31 #[.val (.ref a1), .val (.int p2)] [(.int (0 : Int32)), (.ref a1)])) rfl rfl (hb hby d7_31)
  have Fw162 := F_ordered_a1.same W162
  have Z163 : n0 ≤ h162.size := Nat.le_trans Z0 (Keep.of_wr W162).1
  have K164 : Keep h0 h162 [a1] := Keep.wr (Keep.refl h0 [a1]) W162 (Or.inl (List.mem_of_getElem? (i := 0) rfl))
  have N162 := Fr.snoc X162 N0 g_a1
  obtain ⟨T165, X165, e165, st165⟩ := getF X162 hx hZ hown (host := "") (Or.inl (wd_48 hw)) Via.refl e162 (F_size_a1.other W162 (Or.inr (slot_ne (Or.inl (wd_49 hw)) (Or.inl (wd_40 hw)) (by decide) (t := .int) (t' := .boolean) (by decide) (by decide)))) (g := (mkF m 35 #[.val (.ref a1), .val (.int p2)] [(.ref a1)])) rfl rfl (hb hby d7_35)
  obtain ⟨T166, X166, e166, st166⟩ := getF X165 hx hZ hown (host := "") (Or.inl (wd_37 hw)) Via.refl e165 (F_places_a1.other W162 (Or.inr (slot_ne (Or.inl (wd_38 hw)) (Or.inl (wd_40 hw)) (by decide) (t := (.array .int)) (t' := .boolean) (by decide) (by decide)))) (g := (mkF m 39 #[.val (.ref a1), .val (.int p2)] [(.ref a1), (.int (2 : Int32))])) rfl rfl (hb hby d7_39)
  obtain ⟨cl167, Ar167, q167, S167, N167n, H167, G167⟩ := id ((V_pa.other W162 ne_pa_a1))
  obtain ⟨T168, X168, e168, st168⟩ := getF X166 hx hZ hown (host := "") (Or.inl (wd_37 hw)) Via.refl e166 (F_places_a1.other W162 (Or.inr (slot_ne (Or.inl (wd_38 hw)) (Or.inl (wd_40 hw)) (by decide) (t := (.array .int)) (t' := .boolean) (by decide) (by decide)))) (g := (mkF m 48 #[.val (.ref a1), .val (.int p2)] [(.ref a1), (.ref a1)])) rfl rfl (hb hby d7_48)
  obtain ⟨T169, X169, e169, st169⟩ := getF X168 hx hZ hown (host := "") (Or.inl (wd_48 hw)) Via.refl e168 (F_size_a1.other W162 (Or.inr (slot_ne (Or.inl (wd_49 hw)) (Or.inl (wd_40 hw)) (by decide) (t := .int) (t' := .boolean) (by decide) (by decide)))) (g := (mkF m 53 #[.val (.ref a1), .val (.int p2)] [(.ref a1), (.int (1 : Int32)), (.ref pa), (.ref a1)])) rfl rfl (hb hby d7_53)
  obtain ⟨_, _, ⟨T170, L170, k170, n170⟩, -, X170, ⟨Lc170, hQ170, l170, y170, z170⟩, st170⟩ := Jvm.LawKit.callS X169 hx (y := (⟨"java/lang/Math", "max", "(II)I"⟩ : MethodName)) hown (mvT hZ (wd_55 hw)) (mvT hZ (wd_56 hw)) (mvT hZ (wd_57 hw)) (mvT hZ (wd_58 hw)) (by decide) (backOf (W := 2) (rm8 l Z a0 hw [] (1 : Int32) (4 : Int32) h162 n0 Z163) hZ (wd_58 hw) (wd_57 hw) (by decide) (by decide)) (g := (mkF m 58 #[.val (.ref a1), .val (.int p2)] [(.int (4 : Int32)), (.int (1 : Int32)), (.ref pa), (.ref a1)])) rfl (by rw [hml]; rfl) (argsL := [(.int (1 : Int32)), (.int (4 : Int32))]) (rest := [(.ref pa), (.ref a1)]) (lenOf pd__II_I rfl) rfl (by show 2 * 0 + _ ≤ _; exact Nat.le_of_eq rfl) (hb hby d7_58) (fun _ _ => ⟨rfl, e169, (by decide : 0 + 0 ≤ _), (by decide : 0 + 0 ≤ _)⟩)
  dsimp only [Pt.U, Pt.locs, Pt.cells, Pt.slots] at X170 l170 y170 z170 st170 hQ170
  subst l170 y170 z170
  obtain ⟨rfl, N170q, e170⟩ := hQ170
  have N170 := Fr.app N162 N170q
  obtain ⟨_, _, ⟨T171, L171, k171, n171⟩, -, X171, ⟨Lc171, hQ171, l171, y171, z171⟩, st171⟩ := Jvm.LawKit.callS X170 hx (y := (⟨"java/util/Arrays", "copyOf", "([II)[I"⟩ : MethodName)) hown (mvT hZ (wd_59 hw)) (mvT hZ (wd_60 hw)) (mvT hZ (wd_61 hw)) (mvT hZ (wd_62 hw)) (by decide) (backOf (W := 1) (rmcp2 l Z a0 hw [] pa ka x0 x1 h162 n0 Z163 (V_pa.other W162 ne_pa_a1)) hZ (wd_62 hw) (wd_61 hw) (by decide) (by decide)) (g := (mkF m 61 #[.val (.ref a1), .val (.int p2)] [(.int (4 : Int32)), (.ref pa), (.ref a1)])) rfl (by rw [hml]; rfl) (argsL := [(.ref pa), (.int (4 : Int32))]) (rest := [(.ref a1)]) (lenOf pd___II__I rfl) rfl (by show 2 * 0 + _ ≤ _; exact Nat.le_of_eq rfl) (hb hby d7_61) (fun _ _ => ⟨rfl, e170, (by decide : 0 + 1 ≤ _), (by decide : 0 + 4 ≤ _)⟩)
  dsimp only [Pt.U, Pt.locs, Pt.cells, Pt.slots] at X171 l171 y171 z171 st171 hQ171
  subst l171 y171 z171
  obtain ⟨b_171, kb_171, rfl, N171q, K171q, g171_0, g171_1⟩ := hQ171
  have N171 := Fr.app N170 N171q
  have Z172 : n0 ≤ T171.heap.size := Nat.le_trans Z163 K171q.1
  have K173 : Keep h0 T171.heap [a1] := Keep.trans K164 K171q all0
  have ne_a1_b_171 : a1 ≠ b_171 := Nat.ne_of_lt (Nat.lt_of_lt_of_le ((F_places_a1.other W162 (Or.inr (slot_ne (Or.inl (wd_38 hw)) (Or.inl (wd_40 hw)) (by decide) (t := (.array .int)) (t' := .boolean) (by decide) (by decide))))).lt g171_0)
  have ne_pa_b_171 : pa ≠ b_171 := Nat.ne_of_lt (Nat.lt_of_lt_of_le ((V_pa.other W162 ne_pa_a1)).lt g171_0)
  have g174 : n0 ≤ b_171 := Nat.le_trans Z163 g171_0
  have sz175 : h0.size ≤ b_171 := Nat.le_trans (And.left K164) g171_0
  obtain ⟨T176, h176, X176, e176, W176, st176⟩ := putF X171 hx hZ hown (host := "") (Or.inl (wd_37 hw)) Via.refl rfl ((F_places_a1.other W162 (Or.inr (slot_ne (Or.inl (wd_38 hw)) (Or.inl (wd_40 hw)) (by decide) (t := (.array .int)) (t' := .boolean) (by decide) (by decide)))).keep K171q nin0) ((E_a1.wr W162).keep K171q) (Or.inl (wd_38 hw)) (wd_1 hw) (ty := (.array .int)) (by decide) rfl rfl (g := (mkF m 64 #[.val (.ref a1), .val (.int p2)] [(.ref b_171), (.ref a1)])) rfl rfl (hb hby d7_64)
  have Fw176 := ((F_places_a1.other W162 (Or.inr (slot_ne (Or.inl (wd_38 hw)) (Or.inl (wd_40 hw)) (by decide) (t := (.array .int)) (t' := .boolean) (by decide) (by decide)))).keep K171q nin0).same W176
  have Z177 : n0 ≤ h176.size := Nat.le_trans Z172 (Keep.of_wr W176).1
  have K178 : Keep h0 h176 [a1] := Keep.wr K173 W176 (Or.inl (List.mem_of_getElem? (i := 0) rfl))
  have N176 := Fr.snoc X176 N171 g_a1
  obtain ⟨T179, X179, e179, st179⟩ := getF X176 hx hZ hown (host := "") (Or.inl (wd_37 hw)) Via.refl e176 Fw176 (g := (mkF m 68 #[.val (.ref a1), .val (.int p2)] [(.ref a1)])) rfl rfl (hb hby d7_68)
  obtain ⟨T180, X180, e180, st180⟩ := getF X179 hx hZ hown (host := "") (Or.inl (wd_48 hw)) Via.refl e179 (((F_size_a1.other W162 (Or.inr (slot_ne (Or.inl (wd_49 hw)) (Or.inl (wd_40 hw)) (by decide) (t := .int) (t' := .boolean) (by decide) (by decide)))).keep K171q nin0).other W176 (Or.inr (slot_ne (Or.inl (wd_49 hw)) (Or.inl (wd_38 hw)) (by decide) (t := .int) (t' := (.array .int)) (by decide) (by decide)))) (g := (mkF m 73 #[.val (.ref a1), .val (.int p2)] [(.ref a1), (.ref a1), (.ref b_171)])) rfl rfl (hb hby d7_73)
  obtain ⟨T181, h181, X181, e181, W181, st181⟩ := putF X180 hx hZ hown (host := "") (Or.inl (wd_48 hw)) Via.refl e180 (((F_size_a1.other W162 (Or.inr (slot_ne (Or.inl (wd_49 hw)) (Or.inl (wd_40 hw)) (by decide) (t := .int) (t' := .boolean) (by decide) (by decide)))).keep K171q nin0).other W176 (Or.inr (slot_ne (Or.inl (wd_49 hw)) (Or.inl (wd_38 hw)) (by decide) (t := .int) (t' := (.array .int)) (by decide) (by decide)))) (((E_a1.wr W162).keep K171q).wr W176) (Or.inl (wd_49 hw)) (wd_1 hw) (ty := .int) (by decide) rfl rfl (g := (mkF m 79 #[.val (.ref a1), .val (.int p2)] [(.int (3 : Int32)), (.ref a1), (.int (2 : Int32)), (.ref b_171)])) rfl rfl (hb hby d7_79)
  have Fw181 := (((F_size_a1.other W162 (Or.inr (slot_ne (Or.inl (wd_49 hw)) (Or.inl (wd_40 hw)) (by decide) (t := .int) (t' := .boolean) (by decide) (by decide)))).keep K171q nin0).other W176 (Or.inr (slot_ne (Or.inl (wd_49 hw)) (Or.inl (wd_38 hw)) (by decide) (t := .int) (t' := (.array .int)) (by decide) (by decide)))).same W181
  have Z182 : n0 ≤ h181.size := Nat.le_trans Z177 (Keep.of_wr W181).1
  have K183 : Keep h0 h181 [a1] := Keep.wr K178 W181 (Or.inl (List.mem_of_getElem? (i := 0) rfl))
  have N181 := Fr.snoc X181 N176 g_a1
  obtain ⟨cl184, Ar184, q184, S184, N184n, H184, G184⟩ := id (((g171_1.other W176 (Ne.symm ne_a1_b_171)).other W181 (Ne.symm ne_a1_b_171)))
  have hin184 : ¬ ((2 : Int32) < 0 ∨ cl184.slots.size ≤ ((2 : Int32)).toNatClampNeg) := inb_of S184 ⟨by decide, by decide⟩
  obtain ⟨T185, h185, X185, e185, W185, st185⟩ := stI X181 hx hZ e181 Ar184 (j := (2 : Int32)) hin184 (g := (mkF m 83 #[.val (.ref a1), .val (.int p2)] [(.int p2), (.int (2 : Int32)), (.ref b_171)])) rfl rfl (hb hby d7_83)
  have V_b_171_185 : Arv Z h185 b_171 kb_171 .int (4 : Int32) [(.int x0), (.int x1), (.int p2), (.int (0 : Int32))] (.int (0 : Int32)) := Arv.set Ar184 q184 S184 N184n H184 G184 rfl W185 2 rfl (Nat.le_of_ble_eq_true rfl)
  have Z186 : n0 ≤ h185.size := Nat.le_trans Z182 (Keep.of_wr W185).1
  have K187 : Keep h0 h185 [a1] := Keep.wr K183 W185 (Or.inr sz175)
  have N185 := Fr.snoc X185 N181 g174
  obtain ⟨T188, X188, e188, st188⟩ := getF X185 hx hZ hown (host := "") (Or.inl (wd_71 hw)) (Via.of (wd_72 hw)) e185 (((((F_modCount_a1.other W162 (Or.inr (slot_ne (Or.inl (wd_34 hw)) (Or.inl (wd_40 hw)) (by decide) (t := .int) (t' := .boolean) (by decide) (by decide)))).keep K171q nin0).other W176 (Or.inr (slot_ne (Or.inl (wd_34 hw)) (Or.inl (wd_38 hw)) (by decide) (t := .int) (t' := (.array .int)) (by decide) (by decide)))).other W181 (Or.inr (slot_ne (Or.inl (wd_34 hw)) (Or.inl (wd_49 hw)) (by decide) (t := .int) (t' := .int) (by decide) (by decide)))).other W185 (Or.inl ne_a1_b_171)) (g := (mkF m 86 #[.val (.ref a1), .val (.int p2)] [(.ref a1), (.ref a1)])) rfl rfl (hb hby d7_86)
  obtain ⟨T189, h189, X189, e189, W189, st189⟩ := putF X188 hx hZ hown (host := "") (Or.inl (wd_71 hw)) (Via.of (wd_72 hw)) e188 (((((F_modCount_a1.other W162 (Or.inr (slot_ne (Or.inl (wd_34 hw)) (Or.inl (wd_40 hw)) (by decide) (t := .int) (t' := .boolean) (by decide) (by decide)))).keep K171q nin0).other W176 (Or.inr (slot_ne (Or.inl (wd_34 hw)) (Or.inl (wd_38 hw)) (by decide) (t := .int) (t' := (.array .int)) (by decide) (by decide)))).other W181 (Or.inr (slot_ne (Or.inl (wd_34 hw)) (Or.inl (wd_49 hw)) (by decide) (t := .int) (t' := .int) (by decide) (by decide)))).other W185 (Or.inl ne_a1_b_171)) (((((E_a1.wr W162).keep K171q).wr W176).wr W181).wr W185) (Or.inl (wd_34 hw)) (wd_1 hw) (ty := .int) (by decide) rfl rfl (g := (mkF m 91 #[.val (.ref a1), .val (.int p2)] [(.int (mc + (1 : Int32))), (.ref a1)])) rfl rfl (hb hby d7_91)
  have Fw189 := (((((F_modCount_a1.other W162 (Or.inr (slot_ne (Or.inl (wd_34 hw)) (Or.inl (wd_40 hw)) (by decide) (t := .int) (t' := .boolean) (by decide) (by decide)))).keep K171q nin0).other W176 (Or.inr (slot_ne (Or.inl (wd_34 hw)) (Or.inl (wd_38 hw)) (by decide) (t := .int) (t' := (.array .int)) (by decide) (by decide)))).other W181 (Or.inr (slot_ne (Or.inl (wd_34 hw)) (Or.inl (wd_49 hw)) (by decide) (t := .int) (t' := .int) (by decide) (by decide)))).other W185 (Or.inl ne_a1_b_171)).same W189
  have Z190 : n0 ≤ h189.size := Nat.le_trans Z186 (Keep.of_wr W189).1
  have K191 : Keep h0 h189 [a1] := Keep.wr K187 W189 (Or.inl (List.mem_of_getElem? (i := 0) rfl))
  have N189 := Fr.snoc X189 N185 g_a1
  obtain ⟨fs, hr, hrun, hended, hW, hsame⟩ := X189.leave (v := none) (fun _ => rfl)
  refine ⟨_, _, pre0 _ ?_, hrun, hended, _, _, rfl, ?_, ⟨_, rfl⟩, hW, hsame.mono (by decide) (by decide)⟩
  · show Steps p.tables e below (s₁.setTop (mkF m 0 #[.val (.ref a1), .val (.int p2)] [])) _
    refine XS.aloadN X0.here hx rfl (hb hby d7_0) rfl rfl ?_
    refine st157 _ ?_
    refine XS.ifNo X157.here hx rfl (hb hby d7_4) rfl ((if0 _ _).trans (feq (by decide)).1) ?_
    refine XS.aloadN X157.here hx rfl (hb hby d7_7) rfl rfl ?_
    show Steps p.tables e below (T157.setTop (mkF m 8 #[.val (.ref a1), .val (.int p2)] [(.ref a1)])) _
    refine st158 _ ?_
    refine XS.ifNo X158.here hx rfl (hb hby d7_11) rfl ((if0 _ _).trans (tlt (by decide)).2.2.2) ?_
    refine XS.aloadN X158.here hx rfl (hb hby d7_14) rfl rfl ?_
    refine st159 _ ?_
    show Steps p.tables e below (T159.setTop (mkF m 18 #[.val (.ref a1), .val (.int p2)] [(.ref pa)])) _
    refine XS.aloadN X159.here hx rfl (hb hby d7_18) rfl rfl ?_
    refine st160 _ ?_
    refine XS.iconst X160.here hx rfl (hb hby d7_22) ?_
    refine XS.isub X160.here hx rfl (hb hby d7_23) rfl ?_
    show Steps p.tables e below (T160.setTop (mkF m 24 #[.val (.ref a1), .val (.int p2)] [(.int (1 : Int32)), (.ref pa)])) _
    refine X160.iaload hx (j := (1 : Int32)) (v := (.int x1)) (by rw [e160]; exact Ar161.1) (State.isArrayOf_alike hZ.alike Ar161.2.1) Ar161.2.2 hin161 hat161 (g := (mkF m 24 #[.val (.ref a1), .val (.int p2)] [(.int (1 : Int32)), (.ref pa)])) rfl rfl (hb hby d7_24) _ ?_
    refine XS.iloadN X160.here hx rfl (hb hby d7_25) rfl ?_
    refine XS.icmpNo X160.here hx rfl (hb hby d7_26) rfl (tlt hlt).2.2.2 ?_
    refine XS.aloadN X160.here hx rfl (hb hby d7_29) rfl rfl ?_
    show Steps p.tables e below (T160.setTop (mkF m 30 #[.val (.ref a1), .val (.int p2)] [(.ref a1)])) _
    refine XS.iconst X160.here hx rfl (hb hby d7_30) ?_
    refine st162 _ ?_
    refine XS.aloadN X162.here hx rfl (hb hby d7_34) rfl rfl ?_
    refine st165 _ ?_
    show Steps p.tables e below (T165.setTop (mkF m 38 #[.val (.ref a1), .val (.int p2)] [(.int (2 : Int32))])) _
    refine XS.aloadN X165.here hx rfl (hb hby d7_38) rfl rfl ?_
    refine st166 _ ?_
    refine X166.arraylength hx (by rw [e166]; exact Ar167.1) (State.isArrayOf_alike hZ.alike Ar167.2.1) (g := (mkF m 42 #[.val (.ref a1), .val (.int p2)] [(.ref pa), (.int (2 : Int32))])) rfl rfl (hb hby d7_42) _ ?_
    rw [len_of S167 N167n]
    refine XS.icmpNo X166.here hx rfl (hb hby d7_43) rfl (teq (rfl : (2 : Int32) = (2 : Int32))).2 ?_
    show Steps p.tables e below (T166.setTop (mkF m 46 #[.val (.ref a1), .val (.int p2)] [])) _
    refine XS.aloadN X166.here hx rfl (hb hby d7_46) rfl rfl ?_
    refine XS.aloadN X166.here hx rfl (hb hby d7_47) rfl rfl ?_
    refine st168 _ ?_
    refine XS.iconst X168.here hx rfl (hb hby d7_51) ?_
    show Steps p.tables e below (T168.setTop (mkF m 52 #[.val (.ref a1), .val (.int p2)] [(.int (1 : Int32)), (.ref pa), (.ref a1)])) _
    refine XS.aloadN X168.here hx rfl (hb hby d7_52) rfl rfl ?_
    refine st169 _ ?_
    refine XS.iconst X169.here hx rfl (hb hby d7_56) ?_
    refine XS.imul X169.here hx rfl (hb hby d7_57) rfl ?_
    show Steps p.tables e below (T169.setTop (mkF m 58 #[.val (.ref a1), .val (.int p2)] [(.int (4 : Int32)), (.int (1 : Int32)), (.ref pa), (.ref a1)])) _
    refine st170 _ ?_
    show Steps p.tables e below (T170.setTop (mkF m 61 #[.val (.ref a1), .val (.int p2)] [(.int (4 : Int32)), (.ref pa), (.ref a1)])) _
    refine st171 _ ?_
    refine st176 _ ?_
    refine XS.aloadN X176.here hx rfl (hb hby d7_67) rfl rfl ?_
    refine st179 _ ?_
    show Steps p.tables e below (T179.setTop (mkF m 71 #[.val (.ref a1), .val (.int p2)] [(.ref b_171)])) _
    refine XS.aloadN X179.here hx rfl (hb hby d7_71) rfl rfl ?_
    refine XS.dup X179.here hx rfl (hb hby d7_72) rfl rfl ?_
    refine st180 _ ?_
    refine XS.dupX1 X180.here hx rfl (hb hby d7_76) rfl rfl rfl ?_
    show Steps p.tables e below (T180.setTop (mkF m 77 #[.val (.ref a1), .val (.int p2)] [(.int (2 : Int32)), (.ref a1), (.int (2 : Int32)), (.ref b_171)])) _
    refine XS.iconst X180.here hx rfl (hb hby d7_77) ?_
    refine XS.iadd X180.here hx rfl (hb hby d7_78) rfl ?_
    refine st181 _ ?_
    refine XS.iloadN X181.here hx rfl (hb hby d7_82) rfl ?_
    show Steps p.tables e below (T181.setTop (mkF m 83 #[.val (.ref a1), .val (.int p2)] [(.int p2), (.int (2 : Int32)), (.ref b_171)])) _
    refine st185 _ ?_
    refine XS.aloadN X185.here hx rfl (hb hby d7_84) rfl rfl ?_
    refine XS.dup X185.here hx rfl (hb hby d7_85) rfl rfl ?_
    refine st188 _ ?_
    show Steps p.tables e below (T188.setTop (mkF m 89 #[.val (.ref a1), .val (.int p2)] [(.int mc), (.ref a1)])) _
    refine XS.iconst X188.here hx rfl (hb hby d7_89) ?_
    refine XS.iadd X188.here hx rfl (hb hby d7_90) rfl ?_
    refine st189 _ ?_
    exact X189.returnOut hx Bd.returns (hb hby d7_94) hr
  · show Q_rmap21t Z a1 p2 mc pa ka x0 x1 h0 n0 _ T189.heap _
    rw [e189]
    exact ⟨b_171, kb_171, rfl, N189, K191, sz175, (((Fw176.other W181 (Or.inr (slot_ne (Or.inl (wd_38 hw)) (Or.inl (wd_49 hw)) (by decide) (t := (.array .int)) (t' := .int) (by decide) (by decide)))).other W185 (Or.inl ne_a1_b_171)).other W189 (Or.inr (slot_ne (Or.inl (wd_38 hw)) (Or.inl (wd_34 hw)) (by decide) (t := (.array .int)) (t' := .int) (by decide) (by decide)))), (((((Fw162.keep K171q nin0).other W176 (Or.inr (slot_ne (Or.inl (wd_40 hw)) (Or.inl (wd_38 hw)) (by decide) (t := .boolean) (t' := (.array .int)) (by decide) (by decide)))).other W181 (Or.inr (slot_ne (Or.inl (wd_40 hw)) (Or.inl (wd_49 hw)) (by decide) (t := .boolean) (t' := .int) (by decide) (by decide)))).other W185 (Or.inl ne_a1_b_171)).other W189 (Or.inr (slot_ne (Or.inl (wd_40 hw)) (Or.inl (wd_34 hw)) (by decide) (t := .boolean) (t' := .int) (by decide) (by decide)))), ((Fw181.other W185 (Or.inl ne_a1_b_171)).other W189 (Or.inr (slot_ne (Or.inl (wd_49 hw)) (Or.inl (wd_34 hw)) (by decide) (t := .int) (t' := .int) (by decide) (by decide)))), Fw189, (V_b_171_185.other W189 (Ne.symm ne_a1_b_171))⟩
def Q_rmap21f (Z : State) (a1 : Addr) (p2 : Int32) (mc : Int32) (pa : Addr) (ka : ClassId) (x0 : Int32) (x1 : Int32) (h0 : Heap) (n0 : Nat) (v : Option Value) (h : Heap) (L : List Loc) : Prop := ∃ b : Addr, ∃ kb : ClassId, v = none ∧ Fr n0 L ∧ Keep h0 h [a1] ∧ (h0.size ≤ b) ∧ (Fld Z h a1 "com/example/kawi/kawi/OrderedNames" "places" "[I" (.ref b)) ∧ (Fld Z h a1 "com/example/kawi/kawi/OrderedNames" "ordered" "Z" (.int (1 : Int32))) ∧ (Fld Z h a1 "com/example/kawi/kawi/OrderedNames" "size" "I" (.int (3 : Int32))) ∧ (Fld Z h a1 "java/util/AbstractList" "modCount" "I" (.int (mc + (1 : Int32)))) ∧ (Arv Z h b kb .int (4 : Int32) [(.int x0), (.int x1), (.int p2), (.int (0 : Int32))] (.int (0 : Int32)))
set_option maxRecDepth 65536 in
set_option maxHeartbeats 40000000 in
theorem rmap21f (l : Launch) (Z : State) (a0 : Array Value) (hw : ∀ d ∈ tables_1, d.before a0 Z = true) (ws : List Jvm.Cond) (a1 : Addr) (p2 : Int32) (mc : Int32) (pa : Addr) (ka : ClassId) (x0 : Int32) (x1 : Int32) (h0 : Heap) (n0 : Nat) (Z0 : n0 ≤ h0.size) (F_places_a1 : Fld Z h0 a1 "com/example/kawi/kawi/OrderedNames" "places" "[I" (.ref pa)) (F_ordered_a1 : Fld Z h0 a1 "com/example/kawi/kawi/OrderedNames" "ordered" "Z" (.int (1 : Int32))) (F_size_a1 : Fld Z h0 a1 "com/example/kawi/kawi/OrderedNames" "size" "I" (.int (2 : Int32))) (F_modCount_a1 : Fld Z h0 a1 "java/util/AbstractList" "modCount" "I" (.int mc)) (E_a1 : Exa Z h0 a1 "com/example/kawi/kawi/OrderedNames") (g_a1 : n0 ≤ a1) (V_pa : Arv Z h0 pa ka .int (2 : Int32) [(.int x0), (.int x1)] (.int (0 : Int32))) (ne_pa_a1 : pa ≠ a1) (hlt : ¬ (p2 < x1)) :
    MetFree l (⟨"com/example/kawi/kawi/OrderedNames", "append", "(I)V"⟩ : MethodName) (head1 (Jvm.Cond.code (⟨"com/example/kawi/kawi/OrderedNames", "append", "(I)V"⟩ : MethodName) prog_68_method_2_code 2 none :: ws) ({ frames := 2, cells := 1, slots := 4, locals := 33 } : Room)) (fun a U => a = #[(.ref a1), (.int p2)] ∧ Z.Warmed39 U.vm ∧ U.heap = h0) (fun _ _ _ _ _ => True) (fun _ U o U' => ∃ v L, o = .returned v ∧ Q_rmap21f Z a1 p2 mc pa ka x0 x1 h0 n0 v U'.heap L ∧ FrameEnd U o U' L ({ frames := 2, cells := 1, slots := 4, locals := 33 } : Room).cells ({ frames := 2, cells := 1, slots := 4, locals := 33 } : Room).slots) := by
  refine MetFree.of_bodySF (plainFor_of_name pn_com_example_kawi_kawi_OrderedNames) hisR ?_
  intro p e s m args below meth c s₁ Bd hml0 hP hK
  obtain ⟨rfl, hZ, hh⟩ := hP
  have hx := Bd.exec
  have hby := Bd.bytes
  have hml : c.maxLocals = 2 := hml0
  have hown : s.vm.findClass "com/example/kawi/kawi/OrderedNames" = some m.cls := findClass_of_methodNamed Bd.named
  have hnm := (name_of_methodNamed Bd.named Bd.method).1
  have X0 : Stand p l e ({ frames := 2, cells := 1, slots := 4, locals := 33 } : Room) s m #[(.ref a1), (.int p2)] below meth c s₁ [] 0 0 := Stand.of_body Bd
  have e0 : s₁.heap = h0 := by rw [← hh, Bd.state]; rfl
  have N0 := Fr.nil n0
  have pre0 : ∀ t, Steps p.tables e below (s₁.setTop (mkF m 0 #[.val (.ref a1), .val (.int p2)] [])) t → Steps p.tables e below (s₁.setTop (entryFrame m #[(.ref a1), (.int p2)] 2)) t := fun t k => castTop (ef_7 m a1 p2) k
  obtain ⟨T192, X192, e192, st192⟩ := getF X0 hx hZ hown (host := "") (Or.inl (wd_39 hw)) Via.refl e0 F_ordered_a1 (g := (mkF m 1 #[.val (.ref a1), .val (.int p2)] [(.ref a1)])) rfl rfl (hb hby d7_1)
  obtain ⟨T193, X193, e193, st193⟩ := getF X192 hx hZ hown (host := "") (Or.inl (wd_48 hw)) Via.refl e192 F_size_a1 (g := (mkF m 8 #[.val (.ref a1), .val (.int p2)] [(.ref a1)])) rfl rfl (hb hby d7_8)
  obtain ⟨T194, X194, e194, st194⟩ := getF X193 hx hZ hown (host := "") (Or.inl (wd_37 hw)) Via.refl e193 F_places_a1 (g := (mkF m 15 #[.val (.ref a1), .val (.int p2)] [(.ref a1)])) rfl rfl (hb hby d7_15)
  obtain ⟨T195, X195, e195, st195⟩ := getF X194 hx hZ hown (host := "") (Or.inl (wd_48 hw)) Via.refl e194 F_size_a1 (g := (mkF m 19 #[.val (.ref a1), .val (.int p2)] [(.ref a1), (.ref pa)])) rfl rfl (hb hby d7_19)
  obtain ⟨cl196, Ar196, q196, S196, N196n, H196, G196⟩ := id (V_pa)
  have hin196 : ¬ ((1 : Int32) < 0 ∨ cl196.slots.size ≤ ((1 : Int32)).toNatClampNeg) := inb_of S196 ⟨by decide, by decide⟩
  have hat196 : cl196.slots[((1 : Int32)).toNatClampNeg]? = some (.int x1) := H196.at hin196 rfl
  obtain ⟨T197, X197, e197, st197⟩ := getF X195 hx hZ hown (host := "") (Or.inl (wd_48 hw)) Via.refl e195 F_size_a1 (g := (mkF m 35 #[.val (.ref a1), .val (.int p2)] [(.ref a1)])) rfl rfl (hb hby d7_35)
  obtain ⟨T198, X198, e198, st198⟩ := getF X197 hx hZ hown (host := "") (Or.inl (wd_37 hw)) Via.refl e197 F_places_a1 (g := (mkF m 39 #[.val (.ref a1), .val (.int p2)] [(.ref a1), (.int (2 : Int32))])) rfl rfl (hb hby d7_39)
  obtain ⟨cl199, Ar199, q199, S199, N199n, H199, G199⟩ := id (V_pa)
  obtain ⟨T200, X200, e200, st200⟩ := getF X198 hx hZ hown (host := "") (Or.inl (wd_37 hw)) Via.refl e198 F_places_a1 (g := (mkF m 48 #[.val (.ref a1), .val (.int p2)] [(.ref a1), (.ref a1)])) rfl rfl (hb hby d7_48)
  obtain ⟨T201, X201, e201, st201⟩ := getF X200 hx hZ hown (host := "") (Or.inl (wd_48 hw)) Via.refl e200 F_size_a1 (g := (mkF m 53 #[.val (.ref a1), .val (.int p2)] [(.ref a1), (.int (1 : Int32)), (.ref pa), (.ref a1)])) rfl rfl (hb hby d7_53)
  obtain ⟨_, _, ⟨T202, L202, k202, n202⟩, -, X202, ⟨Lc202, hQ202, l202, y202, z202⟩, st202⟩ := Jvm.LawKit.callS X201 hx (y := (⟨"java/lang/Math", "max", "(II)I"⟩ : MethodName)) hown (mvT hZ (wd_55 hw)) (mvT hZ (wd_56 hw)) (mvT hZ (wd_57 hw)) (mvT hZ (wd_58 hw)) (by decide) (backOf (W := 2) (rm8 l Z a0 hw [] (1 : Int32) (4 : Int32) h0 n0 Z0) hZ (wd_58 hw) (wd_57 hw) (by decide) (by decide)) (g := (mkF m 58 #[.val (.ref a1), .val (.int p2)] [(.int (4 : Int32)), (.int (1 : Int32)), (.ref pa), (.ref a1)])) rfl (by rw [hml]; rfl) (argsL := [(.int (1 : Int32)), (.int (4 : Int32))]) (rest := [(.ref pa), (.ref a1)]) (lenOf pd__II_I rfl) rfl (by show 2 * 0 + _ ≤ _; exact Nat.le_of_eq rfl) (hb hby d7_58) (fun _ _ => ⟨rfl, e201, (by decide : 0 + 0 ≤ _), (by decide : 0 + 0 ≤ _)⟩)
  dsimp only [Pt.U, Pt.locs, Pt.cells, Pt.slots] at X202 l202 y202 z202 st202 hQ202
  subst l202 y202 z202
  obtain ⟨rfl, N202q, e202⟩ := hQ202
  have N202 := Fr.app N0 N202q
  obtain ⟨_, _, ⟨T203, L203, k203, n203⟩, -, X203, ⟨Lc203, hQ203, l203, y203, z203⟩, st203⟩ := Jvm.LawKit.callS X202 hx (y := (⟨"java/util/Arrays", "copyOf", "([II)[I"⟩ : MethodName)) hown (mvT hZ (wd_59 hw)) (mvT hZ (wd_60 hw)) (mvT hZ (wd_61 hw)) (mvT hZ (wd_62 hw)) (by decide) (backOf (W := 1) (rmcp2 l Z a0 hw [] pa ka x0 x1 h0 n0 Z0 V_pa) hZ (wd_62 hw) (wd_61 hw) (by decide) (by decide)) (g := (mkF m 61 #[.val (.ref a1), .val (.int p2)] [(.int (4 : Int32)), (.ref pa), (.ref a1)])) rfl (by rw [hml]; rfl) (argsL := [(.ref pa), (.int (4 : Int32))]) (rest := [(.ref a1)]) (lenOf pd___II__I rfl) rfl (by show 2 * 0 + _ ≤ _; exact Nat.le_of_eq rfl) (hb hby d7_61) (fun _ _ => ⟨rfl, e202, (by decide : 0 + 1 ≤ _), (by decide : 0 + 4 ≤ _)⟩)
  dsimp only [Pt.U, Pt.locs, Pt.cells, Pt.slots] at X203 l203 y203 z203 st203 hQ203
  subst l203 y203 z203
  obtain ⟨b_203, kb_203, rfl, N203q, K203q, g203_0, g203_1⟩ := hQ203
  have N203 := Fr.app N202 N203q
  have Z204 : n0 ≤ T203.heap.size := Nat.le_trans Z0 K203q.1
  have K205 : Keep h0 T203.heap [a1] := Keep.trans (Keep.refl h0 [a1]) K203q all0
  have ne_a1_b_203 : a1 ≠ b_203 := Nat.ne_of_lt (Nat.lt_of_lt_of_le (F_places_a1).lt g203_0)
  have ne_pa_b_203 : pa ≠ b_203 := Nat.ne_of_lt (Nat.lt_of_lt_of_le (V_pa).lt g203_0)
  have g206 : n0 ≤ b_203 := Nat.le_trans Z0 g203_0
  have sz207 : h0.size ≤ b_203 := Nat.le_trans (And.left (Keep.refl h0 [a1])) g203_0
  obtain ⟨T208, h208, X208, e208, W208, st208⟩ := putF X203 hx hZ hown (host := "") (Or.inl (wd_37 hw)) Via.refl rfl (F_places_a1.keep K203q nin0) (E_a1.keep K203q) (Or.inl (wd_38 hw)) (wd_1 hw) (ty := (.array .int)) (by decide) rfl rfl (g := (mkF m 64 #[.val (.ref a1), .val (.int p2)] [(.ref b_203), (.ref a1)])) rfl rfl (hb hby d7_64)
  have Fw208 := (F_places_a1.keep K203q nin0).same W208
  have Z209 : n0 ≤ h208.size := Nat.le_trans Z204 (Keep.of_wr W208).1
  have K210 : Keep h0 h208 [a1] := Keep.wr K205 W208 (Or.inl (List.mem_of_getElem? (i := 0) rfl))
  have N208 := Fr.snoc X208 N203 g_a1
  obtain ⟨T211, X211, e211, st211⟩ := getF X208 hx hZ hown (host := "") (Or.inl (wd_37 hw)) Via.refl e208 Fw208 (g := (mkF m 68 #[.val (.ref a1), .val (.int p2)] [(.ref a1)])) rfl rfl (hb hby d7_68)
  obtain ⟨T212, X212, e212, st212⟩ := getF X211 hx hZ hown (host := "") (Or.inl (wd_48 hw)) Via.refl e211 ((F_size_a1.keep K203q nin0).other W208 (Or.inr (slot_ne (Or.inl (wd_49 hw)) (Or.inl (wd_38 hw)) (by decide) (t := .int) (t' := (.array .int)) (by decide) (by decide)))) (g := (mkF m 73 #[.val (.ref a1), .val (.int p2)] [(.ref a1), (.ref a1), (.ref b_203)])) rfl rfl (hb hby d7_73)
  obtain ⟨T213, h213, X213, e213, W213, st213⟩ := putF X212 hx hZ hown (host := "") (Or.inl (wd_48 hw)) Via.refl e212 ((F_size_a1.keep K203q nin0).other W208 (Or.inr (slot_ne (Or.inl (wd_49 hw)) (Or.inl (wd_38 hw)) (by decide) (t := .int) (t' := (.array .int)) (by decide) (by decide)))) ((E_a1.keep K203q).wr W208) (Or.inl (wd_49 hw)) (wd_1 hw) (ty := .int) (by decide) rfl rfl (g := (mkF m 79 #[.val (.ref a1), .val (.int p2)] [(.int (3 : Int32)), (.ref a1), (.int (2 : Int32)), (.ref b_203)])) rfl rfl (hb hby d7_79)
  have Fw213 := ((F_size_a1.keep K203q nin0).other W208 (Or.inr (slot_ne (Or.inl (wd_49 hw)) (Or.inl (wd_38 hw)) (by decide) (t := .int) (t' := (.array .int)) (by decide) (by decide)))).same W213
  have Z214 : n0 ≤ h213.size := Nat.le_trans Z209 (Keep.of_wr W213).1
  have K215 : Keep h0 h213 [a1] := Keep.wr K210 W213 (Or.inl (List.mem_of_getElem? (i := 0) rfl))
  have N213 := Fr.snoc X213 N208 g_a1
  obtain ⟨cl216, Ar216, q216, S216, N216n, H216, G216⟩ := id (((g203_1.other W208 (Ne.symm ne_a1_b_203)).other W213 (Ne.symm ne_a1_b_203)))
  have hin216 : ¬ ((2 : Int32) < 0 ∨ cl216.slots.size ≤ ((2 : Int32)).toNatClampNeg) := inb_of S216 ⟨by decide, by decide⟩
  obtain ⟨T217, h217, X217, e217, W217, st217⟩ := stI X213 hx hZ e213 Ar216 (j := (2 : Int32)) hin216 (g := (mkF m 83 #[.val (.ref a1), .val (.int p2)] [(.int p2), (.int (2 : Int32)), (.ref b_203)])) rfl rfl (hb hby d7_83)
  have V_b_203_217 : Arv Z h217 b_203 kb_203 .int (4 : Int32) [(.int x0), (.int x1), (.int p2), (.int (0 : Int32))] (.int (0 : Int32)) := Arv.set Ar216 q216 S216 N216n H216 G216 rfl W217 2 rfl (Nat.le_of_ble_eq_true rfl)
  have Z218 : n0 ≤ h217.size := Nat.le_trans Z214 (Keep.of_wr W217).1
  have K219 : Keep h0 h217 [a1] := Keep.wr K215 W217 (Or.inr sz207)
  have N217 := Fr.snoc X217 N213 g206
  obtain ⟨T220, X220, e220, st220⟩ := getF X217 hx hZ hown (host := "") (Or.inl (wd_71 hw)) (Via.of (wd_72 hw)) e217 ((((F_modCount_a1.keep K203q nin0).other W208 (Or.inr (slot_ne (Or.inl (wd_34 hw)) (Or.inl (wd_38 hw)) (by decide) (t := .int) (t' := (.array .int)) (by decide) (by decide)))).other W213 (Or.inr (slot_ne (Or.inl (wd_34 hw)) (Or.inl (wd_49 hw)) (by decide) (t := .int) (t' := .int) (by decide) (by decide)))).other W217 (Or.inl ne_a1_b_203)) (g := (mkF m 86 #[.val (.ref a1), .val (.int p2)] [(.ref a1), (.ref a1)])) rfl rfl (hb hby d7_86)
  obtain ⟨T221, h221, X221, e221, W221, st221⟩ := putF X220 hx hZ hown (host := "") (Or.inl (wd_71 hw)) (Via.of (wd_72 hw)) e220 ((((F_modCount_a1.keep K203q nin0).other W208 (Or.inr (slot_ne (Or.inl (wd_34 hw)) (Or.inl (wd_38 hw)) (by decide) (t := .int) (t' := (.array .int)) (by decide) (by decide)))).other W213 (Or.inr (slot_ne (Or.inl (wd_34 hw)) (Or.inl (wd_49 hw)) (by decide) (t := .int) (t' := .int) (by decide) (by decide)))).other W217 (Or.inl ne_a1_b_203)) ((((E_a1.keep K203q).wr W208).wr W213).wr W217) (Or.inl (wd_34 hw)) (wd_1 hw) (ty := .int) (by decide) rfl rfl (g := (mkF m 91 #[.val (.ref a1), .val (.int p2)] [(.int (mc + (1 : Int32))), (.ref a1)])) rfl rfl (hb hby d7_91)
  have Fw221 := ((((F_modCount_a1.keep K203q nin0).other W208 (Or.inr (slot_ne (Or.inl (wd_34 hw)) (Or.inl (wd_38 hw)) (by decide) (t := .int) (t' := (.array .int)) (by decide) (by decide)))).other W213 (Or.inr (slot_ne (Or.inl (wd_34 hw)) (Or.inl (wd_49 hw)) (by decide) (t := .int) (t' := .int) (by decide) (by decide)))).other W217 (Or.inl ne_a1_b_203)).same W221
  have Z222 : n0 ≤ h221.size := Nat.le_trans Z218 (Keep.of_wr W221).1
  have K223 : Keep h0 h221 [a1] := Keep.wr K219 W221 (Or.inl (List.mem_of_getElem? (i := 0) rfl))
  have N221 := Fr.snoc X221 N217 g_a1
  obtain ⟨fs, hr, hrun, hended, hW, hsame⟩ := X221.leave (v := none) (fun _ => rfl)
  refine ⟨_, _, pre0 _ ?_, hrun, hended, _, _, rfl, ?_, ⟨_, rfl⟩, hW, hsame.mono (by decide) (by decide)⟩
  · show Steps p.tables e below (s₁.setTop (mkF m 0 #[.val (.ref a1), .val (.int p2)] [])) _
    refine XS.aloadN X0.here hx rfl (hb hby d7_0) rfl rfl ?_
    refine st192 _ ?_
    refine XS.ifNo X192.here hx rfl (hb hby d7_4) rfl ((if0 _ _).trans (feq (by decide)).1) ?_
    refine XS.aloadN X192.here hx rfl (hb hby d7_7) rfl rfl ?_
    show Steps p.tables e below (T192.setTop (mkF m 8 #[.val (.ref a1), .val (.int p2)] [(.ref a1)])) _
    refine st193 _ ?_
    refine XS.ifNo X193.here hx rfl (hb hby d7_11) rfl ((if0 _ _).trans (tlt (by decide)).2.2.2) ?_
    refine XS.aloadN X193.here hx rfl (hb hby d7_14) rfl rfl ?_
    refine st194 _ ?_
    show Steps p.tables e below (T194.setTop (mkF m 18 #[.val (.ref a1), .val (.int p2)] [(.ref pa)])) _
    refine XS.aloadN X194.here hx rfl (hb hby d7_18) rfl rfl ?_
    refine st195 _ ?_
    refine XS.iconst X195.here hx rfl (hb hby d7_22) ?_
    refine XS.isub X195.here hx rfl (hb hby d7_23) rfl ?_
    show Steps p.tables e below (T195.setTop (mkF m 24 #[.val (.ref a1), .val (.int p2)] [(.int (1 : Int32)), (.ref pa)])) _
    refine X195.iaload hx (j := (1 : Int32)) (v := (.int x1)) (by rw [e195]; exact Ar196.1) (State.isArrayOf_alike hZ.alike Ar196.2.1) Ar196.2.2 hin196 hat196 (g := (mkF m 24 #[.val (.ref a1), .val (.int p2)] [(.int (1 : Int32)), (.ref pa)])) rfl rfl (hb hby d7_24) _ ?_
    refine XS.iloadN X195.here hx rfl (hb hby d7_25) rfl ?_
    refine XS.icmpYes X195.here hx rfl (pc0 := 26) (pc' := 34) rfl (hb hby d7_26) rfl (flt hlt).2.2.2 (by decide) (by decide) ?_
    refine XS.aloadN X195.here hx rfl (hb hby d7_34) rfl rfl ?_
    show Steps p.tables e below (T195.setTop (mkF m 35 #[.val (.ref a1), .val (.int p2)] [(.ref a1)])) _
    refine st197 _ ?_
    refine XS.aloadN X197.here hx rfl (hb hby d7_38) rfl rfl ?_
    refine st198 _ ?_
    refine X198.arraylength hx (by rw [e198]; exact Ar199.1) (State.isArrayOf_alike hZ.alike Ar199.2.1) (g := (mkF m 42 #[.val (.ref a1), .val (.int p2)] [(.ref pa), (.int (2 : Int32))])) rfl rfl (hb hby d7_42) _ ?_
    rw [len_of S199 N199n]
    show Steps p.tables e below (T198.setTop (mkF m 43 #[.val (.ref a1), .val (.int p2)] [(.int (2 : Int32)), (.int (2 : Int32))])) _
    refine XS.icmpNo X198.here hx rfl (hb hby d7_43) rfl (teq (rfl : (2 : Int32) = (2 : Int32))).2 ?_
    refine XS.aloadN X198.here hx rfl (hb hby d7_46) rfl rfl ?_
    refine XS.aloadN X198.here hx rfl (hb hby d7_47) rfl rfl ?_
    refine st200 _ ?_
    show Steps p.tables e below (T200.setTop (mkF m 51 #[.val (.ref a1), .val (.int p2)] [(.ref pa), (.ref a1)])) _
    refine XS.iconst X200.here hx rfl (hb hby d7_51) ?_
    refine XS.aloadN X200.here hx rfl (hb hby d7_52) rfl rfl ?_
    refine st201 _ ?_
    refine XS.iconst X201.here hx rfl (hb hby d7_56) ?_
    show Steps p.tables e below (T201.setTop (mkF m 57 #[.val (.ref a1), .val (.int p2)] [(.int (2 : Int32)), (.int (2 : Int32)), (.int (1 : Int32)), (.ref pa), (.ref a1)])) _
    refine XS.imul X201.here hx rfl (hb hby d7_57) rfl ?_
    refine st202 _ ?_
    show Steps p.tables e below (T202.setTop (mkF m 61 #[.val (.ref a1), .val (.int p2)] [(.int (4 : Int32)), (.ref pa), (.ref a1)])) _
    refine st203 _ ?_
    refine st208 _ ?_
    refine XS.aloadN X208.here hx rfl (hb hby d7_67) rfl rfl ?_
    refine st211 _ ?_
    show Steps p.tables e below (T211.setTop (mkF m 71 #[.val (.ref a1), .val (.int p2)] [(.ref b_203)])) _
    refine XS.aloadN X211.here hx rfl (hb hby d7_71) rfl rfl ?_
    refine XS.dup X211.here hx rfl (hb hby d7_72) rfl rfl ?_
    refine st212 _ ?_
    refine XS.dupX1 X212.here hx rfl (hb hby d7_76) rfl rfl rfl ?_
    show Steps p.tables e below (T212.setTop (mkF m 77 #[.val (.ref a1), .val (.int p2)] [(.int (2 : Int32)), (.ref a1), (.int (2 : Int32)), (.ref b_203)])) _
    refine XS.iconst X212.here hx rfl (hb hby d7_77) ?_
    refine XS.iadd X212.here hx rfl (hb hby d7_78) rfl ?_
    refine st213 _ ?_
    refine XS.iloadN X213.here hx rfl (hb hby d7_82) rfl ?_
    show Steps p.tables e below (T213.setTop (mkF m 83 #[.val (.ref a1), .val (.int p2)] [(.int p2), (.int (2 : Int32)), (.ref b_203)])) _
    refine st217 _ ?_
    refine XS.aloadN X217.here hx rfl (hb hby d7_84) rfl rfl ?_
    refine XS.dup X217.here hx rfl (hb hby d7_85) rfl rfl ?_
    refine st220 _ ?_
    show Steps p.tables e below (T220.setTop (mkF m 89 #[.val (.ref a1), .val (.int p2)] [(.int mc), (.ref a1)])) _
    refine XS.iconst X220.here hx rfl (hb hby d7_89) ?_
    refine XS.iadd X220.here hx rfl (hb hby d7_90) rfl ?_
    refine st221 _ ?_
    exact X221.returnOut hx Bd.returns (hb hby d7_94) hr
  · show Q_rmap21f Z a1 p2 mc pa ka x0 x1 h0 n0 _ T221.heap _
    rw [e221]
    exact ⟨b_203, kb_203, rfl, N221, K223, sz207, (((Fw208.other W213 (Or.inr (slot_ne (Or.inl (wd_38 hw)) (Or.inl (wd_49 hw)) (by decide) (t := (.array .int)) (t' := .int) (by decide) (by decide)))).other W217 (Or.inl ne_a1_b_203)).other W221 (Or.inr (slot_ne (Or.inl (wd_38 hw)) (Or.inl (wd_34 hw)) (by decide) (t := (.array .int)) (t' := .int) (by decide) (by decide)))), (((((F_ordered_a1.keep K203q nin0).other W208 (Or.inr (slot_ne (Or.inl (wd_40 hw)) (Or.inl (wd_38 hw)) (by decide) (t := .boolean) (t' := (.array .int)) (by decide) (by decide)))).other W213 (Or.inr (slot_ne (Or.inl (wd_40 hw)) (Or.inl (wd_49 hw)) (by decide) (t := .boolean) (t' := .int) (by decide) (by decide)))).other W217 (Or.inl ne_a1_b_203)).other W221 (Or.inr (slot_ne (Or.inl (wd_40 hw)) (Or.inl (wd_34 hw)) (by decide) (t := .boolean) (t' := .int) (by decide) (by decide)))), ((Fw213.other W217 (Or.inl ne_a1_b_203)).other W221 (Or.inr (slot_ne (Or.inl (wd_49 hw)) (Or.inl (wd_34 hw)) (by decide) (t := .int) (t' := .int) (by decide) (by decide)))), Fw221, (V_b_203_217.other W221 (Ne.symm ne_a1_b_203))⟩
def Q_rmap20 (Z : State) (a1 : Addr) (p2 : Int32) (mc : Int32) (pa : Addr) (ka : ClassId) (x0 : Int32) (x1 : Int32) (h0 : Heap) (n0 : Nat) (v : Option Value) (h : Heap) (L : List Loc) : Prop := ∃ b : Addr, ∃ kb : ClassId, v = none ∧ Fr n0 L ∧ Keep h0 h [a1] ∧ (h0.size ≤ b) ∧ (Fld Z h a1 "com/example/kawi/kawi/OrderedNames" "places" "[I" (.ref b)) ∧ (Fld Z h a1 "com/example/kawi/kawi/OrderedNames" "ordered" "Z" (.int (0 : Int32))) ∧ (Fld Z h a1 "com/example/kawi/kawi/OrderedNames" "size" "I" (.int (3 : Int32))) ∧ (Fld Z h a1 "java/util/AbstractList" "modCount" "I" (.int (mc + (1 : Int32)))) ∧ (Arv Z h b kb .int (4 : Int32) [(.int x0), (.int x1), (.int p2), (.int (0 : Int32))] (.int (0 : Int32)))
set_option maxRecDepth 65536 in
set_option maxHeartbeats 40000000 in
theorem rmap20 (l : Launch) (Z : State) (a0 : Array Value) (hw : ∀ d ∈ tables_1, d.before a0 Z = true) (ws : List Jvm.Cond) (a1 : Addr) (p2 : Int32) (mc : Int32) (pa : Addr) (ka : ClassId) (x0 : Int32) (x1 : Int32) (h0 : Heap) (n0 : Nat) (Z0 : n0 ≤ h0.size) (F_places_a1 : Fld Z h0 a1 "com/example/kawi/kawi/OrderedNames" "places" "[I" (.ref pa)) (F_ordered_a1 : Fld Z h0 a1 "com/example/kawi/kawi/OrderedNames" "ordered" "Z" (.int (0 : Int32))) (F_size_a1 : Fld Z h0 a1 "com/example/kawi/kawi/OrderedNames" "size" "I" (.int (2 : Int32))) (F_modCount_a1 : Fld Z h0 a1 "java/util/AbstractList" "modCount" "I" (.int mc)) (E_a1 : Exa Z h0 a1 "com/example/kawi/kawi/OrderedNames") (g_a1 : n0 ≤ a1) (V_pa : Arv Z h0 pa ka .int (2 : Int32) [(.int x0), (.int x1)] (.int (0 : Int32))) (ne_pa_a1 : pa ≠ a1) :
    MetFree l (⟨"com/example/kawi/kawi/OrderedNames", "append", "(I)V"⟩ : MethodName) (head1 (Jvm.Cond.code (⟨"com/example/kawi/kawi/OrderedNames", "append", "(I)V"⟩ : MethodName) prog_68_method_2_code 2 none :: ws) ({ frames := 2, cells := 1, slots := 4, locals := 33 } : Room)) (fun a U => a = #[(.ref a1), (.int p2)] ∧ Z.Warmed39 U.vm ∧ U.heap = h0) (fun _ _ _ _ _ => True) (fun _ U o U' => ∃ v L, o = .returned v ∧ Q_rmap20 Z a1 p2 mc pa ka x0 x1 h0 n0 v U'.heap L ∧ FrameEnd U o U' L ({ frames := 2, cells := 1, slots := 4, locals := 33 } : Room).cells ({ frames := 2, cells := 1, slots := 4, locals := 33 } : Room).slots) := by
  refine MetFree.of_bodySF (plainFor_of_name pn_com_example_kawi_kawi_OrderedNames) hisR ?_
  intro p e s m args below meth c s₁ Bd hml0 hP hK
  obtain ⟨rfl, hZ, hh⟩ := hP
  have hx := Bd.exec
  have hby := Bd.bytes
  have hml : c.maxLocals = 2 := hml0
  have hown : s.vm.findClass "com/example/kawi/kawi/OrderedNames" = some m.cls := findClass_of_methodNamed Bd.named
  have hnm := (name_of_methodNamed Bd.named Bd.method).1
  have X0 : Stand p l e ({ frames := 2, cells := 1, slots := 4, locals := 33 } : Room) s m #[(.ref a1), (.int p2)] below meth c s₁ [] 0 0 := Stand.of_body Bd
  have e0 : s₁.heap = h0 := by rw [← hh, Bd.state]; rfl
  have N0 := Fr.nil n0
  have pre0 : ∀ t, Steps p.tables e below (s₁.setTop (mkF m 0 #[.val (.ref a1), .val (.int p2)] [])) t → Steps p.tables e below (s₁.setTop (entryFrame m #[(.ref a1), (.int p2)] 2)) t := fun t k => castTop (ef_7 m a1 p2) k
  obtain ⟨T224, X224, e224, st224⟩ := getF X0 hx hZ hown (host := "") (Or.inl (wd_39 hw)) Via.refl e0 F_ordered_a1 (g := (mkF m 1 #[.val (.ref a1), .val (.int p2)] [(.ref a1)])) rfl rfl (hb hby d7_1)
  obtain ⟨T225, X225, e225, st225⟩ := getF X224 hx hZ hown (host := "") (Or.inl (wd_48 hw)) Via.refl e224 F_size_a1 (g := (mkF m 35 #[.val (.ref a1), .val (.int p2)] [(.ref a1)])) rfl rfl (hb hby d7_35)
  obtain ⟨T226, X226, e226, st226⟩ := getF X225 hx hZ hown (host := "") (Or.inl (wd_37 hw)) Via.refl e225 F_places_a1 (g := (mkF m 39 #[.val (.ref a1), .val (.int p2)] [(.ref a1), (.int (2 : Int32))])) rfl rfl (hb hby d7_39)
  obtain ⟨cl227, Ar227, q227, S227, N227n, H227, G227⟩ := id (V_pa)
  obtain ⟨T228, X228, e228, st228⟩ := getF X226 hx hZ hown (host := "") (Or.inl (wd_37 hw)) Via.refl e226 F_places_a1 (g := (mkF m 48 #[.val (.ref a1), .val (.int p2)] [(.ref a1), (.ref a1)])) rfl rfl (hb hby d7_48)
  obtain ⟨T229, X229, e229, st229⟩ := getF X228 hx hZ hown (host := "") (Or.inl (wd_48 hw)) Via.refl e228 F_size_a1 (g := (mkF m 53 #[.val (.ref a1), .val (.int p2)] [(.ref a1), (.int (1 : Int32)), (.ref pa), (.ref a1)])) rfl rfl (hb hby d7_53)
  obtain ⟨_, _, ⟨T230, L230, k230, n230⟩, -, X230, ⟨Lc230, hQ230, l230, y230, z230⟩, st230⟩ := Jvm.LawKit.callS X229 hx (y := (⟨"java/lang/Math", "max", "(II)I"⟩ : MethodName)) hown (mvT hZ (wd_55 hw)) (mvT hZ (wd_56 hw)) (mvT hZ (wd_57 hw)) (mvT hZ (wd_58 hw)) (by decide) (backOf (W := 2) (rm8 l Z a0 hw [] (1 : Int32) (4 : Int32) h0 n0 Z0) hZ (wd_58 hw) (wd_57 hw) (by decide) (by decide)) (g := (mkF m 58 #[.val (.ref a1), .val (.int p2)] [(.int (4 : Int32)), (.int (1 : Int32)), (.ref pa), (.ref a1)])) rfl (by rw [hml]; rfl) (argsL := [(.int (1 : Int32)), (.int (4 : Int32))]) (rest := [(.ref pa), (.ref a1)]) (lenOf pd__II_I rfl) rfl (by show 2 * 0 + _ ≤ _; exact Nat.le_of_eq rfl) (hb hby d7_58) (fun _ _ => ⟨rfl, e229, (by decide : 0 + 0 ≤ _), (by decide : 0 + 0 ≤ _)⟩)
  dsimp only [Pt.U, Pt.locs, Pt.cells, Pt.slots] at X230 l230 y230 z230 st230 hQ230
  subst l230 y230 z230
  obtain ⟨rfl, N230q, e230⟩ := hQ230
  have N230 := Fr.app N0 N230q
  obtain ⟨_, _, ⟨T231, L231, k231, n231⟩, -, X231, ⟨Lc231, hQ231, l231, y231, z231⟩, st231⟩ := Jvm.LawKit.callS X230 hx (y := (⟨"java/util/Arrays", "copyOf", "([II)[I"⟩ : MethodName)) hown (mvT hZ (wd_59 hw)) (mvT hZ (wd_60 hw)) (mvT hZ (wd_61 hw)) (mvT hZ (wd_62 hw)) (by decide) (backOf (W := 1) (rmcp2 l Z a0 hw [] pa ka x0 x1 h0 n0 Z0 V_pa) hZ (wd_62 hw) (wd_61 hw) (by decide) (by decide)) (g := (mkF m 61 #[.val (.ref a1), .val (.int p2)] [(.int (4 : Int32)), (.ref pa), (.ref a1)])) rfl (by rw [hml]; rfl) (argsL := [(.ref pa), (.int (4 : Int32))]) (rest := [(.ref a1)]) (lenOf pd___II__I rfl) rfl (by show 2 * 0 + _ ≤ _; exact Nat.le_of_eq rfl) (hb hby d7_61) (fun _ _ => ⟨rfl, e230, (by decide : 0 + 1 ≤ _), (by decide : 0 + 4 ≤ _)⟩)
  dsimp only [Pt.U, Pt.locs, Pt.cells, Pt.slots] at X231 l231 y231 z231 st231 hQ231
  subst l231 y231 z231
  obtain ⟨b_231, kb_231, rfl, N231q, K231q, g231_0, g231_1⟩ := hQ231
  have N231 := Fr.app N230 N231q
  have Z232 : n0 ≤ T231.heap.size := Nat.le_trans Z0 K231q.1
  have K233 : Keep h0 T231.heap [a1] := Keep.trans (Keep.refl h0 [a1]) K231q all0
  have ne_a1_b_231 : a1 ≠ b_231 := Nat.ne_of_lt (Nat.lt_of_lt_of_le (F_places_a1).lt g231_0)
  have ne_pa_b_231 : pa ≠ b_231 := Nat.ne_of_lt (Nat.lt_of_lt_of_le (V_pa).lt g231_0)
  have g234 : n0 ≤ b_231 := Nat.le_trans Z0 g231_0
  have sz235 : h0.size ≤ b_231 := Nat.le_trans (And.left (Keep.refl h0 [a1])) g231_0
  obtain ⟨T236, h236, X236, e236, W236, st236⟩ := putF X231 hx hZ hown (host := "") (Or.inl (wd_37 hw)) Via.refl rfl (F_places_a1.keep K231q nin0) (E_a1.keep K231q) (Or.inl (wd_38 hw)) (wd_1 hw) (ty := (.array .int)) (by decide) rfl rfl (g := (mkF m 64 #[.val (.ref a1), .val (.int p2)] [(.ref b_231), (.ref a1)])) rfl rfl (hb hby d7_64)
  have Fw236 := (F_places_a1.keep K231q nin0).same W236
  have Z237 : n0 ≤ h236.size := Nat.le_trans Z232 (Keep.of_wr W236).1
  have K238 : Keep h0 h236 [a1] := Keep.wr K233 W236 (Or.inl (List.mem_of_getElem? (i := 0) rfl))
  have N236 := Fr.snoc X236 N231 g_a1
  obtain ⟨T239, X239, e239, st239⟩ := getF X236 hx hZ hown (host := "") (Or.inl (wd_37 hw)) Via.refl e236 Fw236 (g := (mkF m 68 #[.val (.ref a1), .val (.int p2)] [(.ref a1)])) rfl rfl (hb hby d7_68)
  obtain ⟨T240, X240, e240, st240⟩ := getF X239 hx hZ hown (host := "") (Or.inl (wd_48 hw)) Via.refl e239 ((F_size_a1.keep K231q nin0).other W236 (Or.inr (slot_ne (Or.inl (wd_49 hw)) (Or.inl (wd_38 hw)) (by decide) (t := .int) (t' := (.array .int)) (by decide) (by decide)))) (g := (mkF m 73 #[.val (.ref a1), .val (.int p2)] [(.ref a1), (.ref a1), (.ref b_231)])) rfl rfl (hb hby d7_73)
  obtain ⟨T241, h241, X241, e241, W241, st241⟩ := putF X240 hx hZ hown (host := "") (Or.inl (wd_48 hw)) Via.refl e240 ((F_size_a1.keep K231q nin0).other W236 (Or.inr (slot_ne (Or.inl (wd_49 hw)) (Or.inl (wd_38 hw)) (by decide) (t := .int) (t' := (.array .int)) (by decide) (by decide)))) ((E_a1.keep K231q).wr W236) (Or.inl (wd_49 hw)) (wd_1 hw) (ty := .int) (by decide) rfl rfl (g := (mkF m 79 #[.val (.ref a1), .val (.int p2)] [(.int (3 : Int32)), (.ref a1), (.int (2 : Int32)), (.ref b_231)])) rfl rfl (hb hby d7_79)
  have Fw241 := ((F_size_a1.keep K231q nin0).other W236 (Or.inr (slot_ne (Or.inl (wd_49 hw)) (Or.inl (wd_38 hw)) (by decide) (t := .int) (t' := (.array .int)) (by decide) (by decide)))).same W241
  have Z242 : n0 ≤ h241.size := Nat.le_trans Z237 (Keep.of_wr W241).1
  have K243 : Keep h0 h241 [a1] := Keep.wr K238 W241 (Or.inl (List.mem_of_getElem? (i := 0) rfl))
  have N241 := Fr.snoc X241 N236 g_a1
  obtain ⟨cl244, Ar244, q244, S244, N244n, H244, G244⟩ := id (((g231_1.other W236 (Ne.symm ne_a1_b_231)).other W241 (Ne.symm ne_a1_b_231)))
  have hin244 : ¬ ((2 : Int32) < 0 ∨ cl244.slots.size ≤ ((2 : Int32)).toNatClampNeg) := inb_of S244 ⟨by decide, by decide⟩
  obtain ⟨T245, h245, X245, e245, W245, st245⟩ := stI X241 hx hZ e241 Ar244 (j := (2 : Int32)) hin244 (g := (mkF m 83 #[.val (.ref a1), .val (.int p2)] [(.int p2), (.int (2 : Int32)), (.ref b_231)])) rfl rfl (hb hby d7_83)
  have V_b_231_245 : Arv Z h245 b_231 kb_231 .int (4 : Int32) [(.int x0), (.int x1), (.int p2), (.int (0 : Int32))] (.int (0 : Int32)) := Arv.set Ar244 q244 S244 N244n H244 G244 rfl W245 2 rfl (Nat.le_of_ble_eq_true rfl)
  have Z246 : n0 ≤ h245.size := Nat.le_trans Z242 (Keep.of_wr W245).1
  have K247 : Keep h0 h245 [a1] := Keep.wr K243 W245 (Or.inr sz235)
  have N245 := Fr.snoc X245 N241 g234
  obtain ⟨T248, X248, e248, st248⟩ := getF X245 hx hZ hown (host := "") (Or.inl (wd_71 hw)) (Via.of (wd_72 hw)) e245 ((((F_modCount_a1.keep K231q nin0).other W236 (Or.inr (slot_ne (Or.inl (wd_34 hw)) (Or.inl (wd_38 hw)) (by decide) (t := .int) (t' := (.array .int)) (by decide) (by decide)))).other W241 (Or.inr (slot_ne (Or.inl (wd_34 hw)) (Or.inl (wd_49 hw)) (by decide) (t := .int) (t' := .int) (by decide) (by decide)))).other W245 (Or.inl ne_a1_b_231)) (g := (mkF m 86 #[.val (.ref a1), .val (.int p2)] [(.ref a1), (.ref a1)])) rfl rfl (hb hby d7_86)
  obtain ⟨T249, h249, X249, e249, W249, st249⟩ := putF X248 hx hZ hown (host := "") (Or.inl (wd_71 hw)) (Via.of (wd_72 hw)) e248 ((((F_modCount_a1.keep K231q nin0).other W236 (Or.inr (slot_ne (Or.inl (wd_34 hw)) (Or.inl (wd_38 hw)) (by decide) (t := .int) (t' := (.array .int)) (by decide) (by decide)))).other W241 (Or.inr (slot_ne (Or.inl (wd_34 hw)) (Or.inl (wd_49 hw)) (by decide) (t := .int) (t' := .int) (by decide) (by decide)))).other W245 (Or.inl ne_a1_b_231)) ((((E_a1.keep K231q).wr W236).wr W241).wr W245) (Or.inl (wd_34 hw)) (wd_1 hw) (ty := .int) (by decide) rfl rfl (g := (mkF m 91 #[.val (.ref a1), .val (.int p2)] [(.int (mc + (1 : Int32))), (.ref a1)])) rfl rfl (hb hby d7_91)
  have Fw249 := ((((F_modCount_a1.keep K231q nin0).other W236 (Or.inr (slot_ne (Or.inl (wd_34 hw)) (Or.inl (wd_38 hw)) (by decide) (t := .int) (t' := (.array .int)) (by decide) (by decide)))).other W241 (Or.inr (slot_ne (Or.inl (wd_34 hw)) (Or.inl (wd_49 hw)) (by decide) (t := .int) (t' := .int) (by decide) (by decide)))).other W245 (Or.inl ne_a1_b_231)).same W249
  have Z250 : n0 ≤ h249.size := Nat.le_trans Z246 (Keep.of_wr W249).1
  have K251 : Keep h0 h249 [a1] := Keep.wr K247 W249 (Or.inl (List.mem_of_getElem? (i := 0) rfl))
  have N249 := Fr.snoc X249 N245 g_a1
  obtain ⟨fs, hr, hrun, hended, hW, hsame⟩ := X249.leave (v := none) (fun _ => rfl)
  refine ⟨_, _, pre0 _ ?_, hrun, hended, _, _, rfl, ?_, ⟨_, rfl⟩, hW, hsame.mono (by decide) (by decide)⟩
  · show Steps p.tables e below (s₁.setTop (mkF m 0 #[.val (.ref a1), .val (.int p2)] [])) _
    refine XS.aloadN X0.here hx rfl (hb hby d7_0) rfl rfl ?_
    refine st224 _ ?_
    refine XS.ifYes X224.here hx rfl (pc0 := 4) (pc' := 34) rfl (hb hby d7_4) rfl ((if0 _ _).trans (teq (rfl : (0 : Int32) = (0 : Int32))).1) (by decide) (by decide) ?_
    refine XS.aloadN X224.here hx rfl (hb hby d7_34) rfl rfl ?_
    show Steps p.tables e below (T224.setTop (mkF m 35 #[.val (.ref a1), .val (.int p2)] [(.ref a1)])) _
    refine st225 _ ?_
    refine XS.aloadN X225.here hx rfl (hb hby d7_38) rfl rfl ?_
    refine st226 _ ?_
    refine X226.arraylength hx (by rw [e226]; exact Ar227.1) (State.isArrayOf_alike hZ.alike Ar227.2.1) (g := (mkF m 42 #[.val (.ref a1), .val (.int p2)] [(.ref pa), (.int (2 : Int32))])) rfl rfl (hb hby d7_42) _ ?_
    rw [len_of S227 N227n]
    show Steps p.tables e below (T226.setTop (mkF m 43 #[.val (.ref a1), .val (.int p2)] [(.int (2 : Int32)), (.int (2 : Int32))])) _
    refine XS.icmpNo X226.here hx rfl (hb hby d7_43) rfl (teq (rfl : (2 : Int32) = (2 : Int32))).2 ?_
    refine XS.aloadN X226.here hx rfl (hb hby d7_46) rfl rfl ?_
    refine XS.aloadN X226.here hx rfl (hb hby d7_47) rfl rfl ?_
    refine st228 _ ?_
    show Steps p.tables e below (T228.setTop (mkF m 51 #[.val (.ref a1), .val (.int p2)] [(.ref pa), (.ref a1)])) _
    refine XS.iconst X228.here hx rfl (hb hby d7_51) ?_
    refine XS.aloadN X228.here hx rfl (hb hby d7_52) rfl rfl ?_
    refine st229 _ ?_
    refine XS.iconst X229.here hx rfl (hb hby d7_56) ?_
    show Steps p.tables e below (T229.setTop (mkF m 57 #[.val (.ref a1), .val (.int p2)] [(.int (2 : Int32)), (.int (2 : Int32)), (.int (1 : Int32)), (.ref pa), (.ref a1)])) _
    refine XS.imul X229.here hx rfl (hb hby d7_57) rfl ?_
    refine st230 _ ?_
    show Steps p.tables e below (T230.setTop (mkF m 61 #[.val (.ref a1), .val (.int p2)] [(.int (4 : Int32)), (.ref pa), (.ref a1)])) _
    refine st231 _ ?_
    refine st236 _ ?_
    refine XS.aloadN X236.here hx rfl (hb hby d7_67) rfl rfl ?_
    refine st239 _ ?_
    show Steps p.tables e below (T239.setTop (mkF m 71 #[.val (.ref a1), .val (.int p2)] [(.ref b_231)])) _
    refine XS.aloadN X239.here hx rfl (hb hby d7_71) rfl rfl ?_
    refine XS.dup X239.here hx rfl (hb hby d7_72) rfl rfl ?_
    refine st240 _ ?_
    refine XS.dupX1 X240.here hx rfl (hb hby d7_76) rfl rfl rfl ?_
    show Steps p.tables e below (T240.setTop (mkF m 77 #[.val (.ref a1), .val (.int p2)] [(.int (2 : Int32)), (.ref a1), (.int (2 : Int32)), (.ref b_231)])) _
    refine XS.iconst X240.here hx rfl (hb hby d7_77) ?_
    refine XS.iadd X240.here hx rfl (hb hby d7_78) rfl ?_
    refine st241 _ ?_
    refine XS.iloadN X241.here hx rfl (hb hby d7_82) rfl ?_
    show Steps p.tables e below (T241.setTop (mkF m 83 #[.val (.ref a1), .val (.int p2)] [(.int p2), (.int (2 : Int32)), (.ref b_231)])) _
    refine st245 _ ?_
    refine XS.aloadN X245.here hx rfl (hb hby d7_84) rfl rfl ?_
    refine XS.dup X245.here hx rfl (hb hby d7_85) rfl rfl ?_
    refine st248 _ ?_
    show Steps p.tables e below (T248.setTop (mkF m 89 #[.val (.ref a1), .val (.int p2)] [(.int mc), (.ref a1)])) _
    refine XS.iconst X248.here hx rfl (hb hby d7_89) ?_
    refine XS.iadd X248.here hx rfl (hb hby d7_90) rfl ?_
    refine st249 _ ?_
    exact X249.returnOut hx Bd.returns (hb hby d7_94) hr
  · show Q_rmap20 Z a1 p2 mc pa ka x0 x1 h0 n0 _ T249.heap _
    rw [e249]
    exact ⟨b_231, kb_231, rfl, N249, K251, sz235, (((Fw236.other W241 (Or.inr (slot_ne (Or.inl (wd_38 hw)) (Or.inl (wd_49 hw)) (by decide) (t := (.array .int)) (t' := .int) (by decide) (by decide)))).other W245 (Or.inl ne_a1_b_231)).other W249 (Or.inr (slot_ne (Or.inl (wd_38 hw)) (Or.inl (wd_34 hw)) (by decide) (t := (.array .int)) (t' := .int) (by decide) (by decide)))), (((((F_ordered_a1.keep K231q nin0).other W236 (Or.inr (slot_ne (Or.inl (wd_40 hw)) (Or.inl (wd_38 hw)) (by decide) (t := .boolean) (t' := (.array .int)) (by decide) (by decide)))).other W241 (Or.inr (slot_ne (Or.inl (wd_40 hw)) (Or.inl (wd_49 hw)) (by decide) (t := .boolean) (t' := .int) (by decide) (by decide)))).other W245 (Or.inl ne_a1_b_231)).other W249 (Or.inr (slot_ne (Or.inl (wd_40 hw)) (Or.inl (wd_34 hw)) (by decide) (t := .boolean) (t' := .int) (by decide) (by decide)))), ((Fw241.other W245 (Or.inl ne_a1_b_231)).other W249 (Or.inr (slot_ne (Or.inl (wd_49 hw)) (Or.inl (wd_34 hw)) (by decide) (t := .int) (t' := .int) (by decide) (by decide)))), Fw249, (V_b_231_245.other W249 (Ne.symm ne_a1_b_231))⟩
theorem d16_0 : decode jdk_2529_method_6_code 0 = .ok (.iload_n 1, 1) := by decide +kernel
theorem d16_1 : decode jdk_2529_method_6_code 1 = .ok (.istore 4, 2) := by decide +kernel
theorem d16_3 : decode jdk_2529_method_6_code 3 = .ok (.iinc 4 1, 3) := by decide +kernel
theorem d16_6 : decode jdk_2529_method_6_code 6 = .ok (.iload 4, 2) := by decide +kernel
theorem d16_8 : decode jdk_2529_method_6_code 8 = .ok (.iload_n 2, 1) := by decide +kernel
theorem d16_9 : decode jdk_2529_method_6_code 9 = .ok (.if_icmp .ge 58, 3) := by decide +kernel
theorem d16_12 : decode jdk_2529_method_6_code 12 = .ok (.aload_n 0, 1) := by decide +kernel
theorem d16_13 : decode jdk_2529_method_6_code 13 = .ok (.iload 4, 2) := by decide +kernel
theorem d16_15 : decode jdk_2529_method_6_code 15 = .ok (.dup, 1) := by decide +kernel
theorem d16_16 : decode jdk_2529_method_6_code 16 = .ok (.istore_n 3, 1) := by decide +kernel
theorem d16_17 : decode jdk_2529_method_6_code 17 = .ok (.iaload, 1) := by decide +kernel
theorem d16_18 : decode jdk_2529_method_6_code 18 = .ok (.istore 5, 2) := by decide +kernel
theorem d16_20 : decode jdk_2529_method_6_code 20 = .ok (.iload 5, 2) := by decide +kernel
theorem d16_22 : decode jdk_2529_method_6_code 22 = .ok (.aload_n 0, 1) := by decide +kernel
theorem d16_23 : decode jdk_2529_method_6_code 23 = .ok (.iload_n 3, 1) := by decide +kernel
theorem d16_24 : decode jdk_2529_method_6_code 24 = .ok (.iconst 1, 1) := by decide +kernel
theorem d16_25 : decode jdk_2529_method_6_code 25 = .ok (.isub, 1) := by decide +kernel
theorem d16_26 : decode jdk_2529_method_6_code 26 = .ok (.iaload, 1) := by decide +kernel
theorem d16_27 : decode jdk_2529_method_6_code 27 = .ok (.if_icmp .ge 37, 3) := by decide +kernel
theorem d16_30 : decode jdk_2529_method_6_code 30 = .ok (.iinc 3 (-1), 3) := by decide +kernel
theorem d16_33 : decode jdk_2529_method_6_code 33 = .ok (.iload_n 3, 1) := by decide +kernel
theorem d16_34 : decode jdk_2529_method_6_code 34 = .ok (.iload_n 1, 1) := by decide +kernel
theorem d16_35 : decode jdk_2529_method_6_code 35 = .ok (.if_icmp .lt 22, 3) := by decide +kernel
theorem d16_38 : decode jdk_2529_method_6_code 38 = .ok (.iload 5, 2) := by decide +kernel
theorem d16_40 : decode jdk_2529_method_6_code 40 = .ok (.aload_n 0, 1) := by decide +kernel
theorem d16_41 : decode jdk_2529_method_6_code 41 = .ok (.iload_n 3, 1) := by decide +kernel
theorem d16_42 : decode jdk_2529_method_6_code 42 = .ok (.iaload, 1) := by decide +kernel
theorem d16_43 : decode jdk_2529_method_6_code 43 = .ok (.if_icmp .ge 14, 3) := by decide +kernel
theorem d16_46 : decode jdk_2529_method_6_code 46 = .ok (.aload_n 0, 1) := by decide +kernel
theorem d16_47 : decode jdk_2529_method_6_code 47 = .ok (.iload_n 3, 1) := by decide +kernel
theorem d16_48 : decode jdk_2529_method_6_code 48 = .ok (.iconst 1, 1) := by decide +kernel
theorem d16_49 : decode jdk_2529_method_6_code 49 = .ok (.iadd, 1) := by decide +kernel
theorem d16_50 : decode jdk_2529_method_6_code 50 = .ok (.aload_n 0, 1) := by decide +kernel
theorem d16_51 : decode jdk_2529_method_6_code 51 = .ok (.iload_n 3, 1) := by decide +kernel
theorem d16_52 : decode jdk_2529_method_6_code 52 = .ok (.iaload, 1) := by decide +kernel
theorem d16_53 : decode jdk_2529_method_6_code 53 = .ok (.iastore, 1) := by decide +kernel
theorem d16_54 : decode jdk_2529_method_6_code 54 = .ok (.goto (-24), 3) := by decide +kernel
theorem d16_57 : decode jdk_2529_method_6_code 57 = .ok (.aload_n 0, 1) := by decide +kernel
theorem d16_58 : decode jdk_2529_method_6_code 58 = .ok (.iload_n 3, 1) := by decide +kernel
theorem d16_59 : decode jdk_2529_method_6_code 59 = .ok (.iconst 1, 1) := by decide +kernel
theorem d16_60 : decode jdk_2529_method_6_code 60 = .ok (.iadd, 1) := by decide +kernel
theorem d16_61 : decode jdk_2529_method_6_code 61 = .ok (.iload 5, 2) := by decide +kernel
theorem d16_63 : decode jdk_2529_method_6_code 63 = .ok (.iastore, 1) := by decide +kernel
theorem d16_64 : decode jdk_2529_method_6_code 64 = .ok (.goto (-61), 3) := by decide +kernel
theorem d16_67 : decode jdk_2529_method_6_code 67 = .ok (.return_, 1) := by decide +kernel
theorem ef_16 (m : MethodId) (x0 : Addr) (x1 : Int32) (x2 : Int32) : entryFrame m #[(.ref x0), (.int x1), (.int x2)] 6 = mkF m 0 #[.val (.ref x0), .val (.int x1), .val (.int x2), .unset, .unset, .unset] [] := by first | (simp [entryFrame, mkF, argsToLocals, Value.category]; done) | rfl
theorem pn_java_util_DualPivotQuicksort : plainName "java/util/DualPivotQuicksort" = true := by first | (simp [plainName, overriddenIn]; done) | decide +kernel
def Q_rmis2 (Z : State) (a1 : Addr) (ka : ClassId) (x0 : Int32) (x1 : Int32) (h0 : Heap) (n0 : Nat) (v : Option Value) (h : Heap) (L : List Loc) : Prop := ∃ r0 : Int32, ∃ r1 : Int32, v = none ∧ Fr n0 L ∧ Keep h0 h [a1] ∧ (Arv Z h a1 ka .int (2 : Int32) [(.int r0), (.int r1)] (.int (0 : Int32))) ∧ (r1 = (if x0 < x1 then x1 else x0))
set_option maxRecDepth 65536 in
set_option maxHeartbeats 40000000 in
theorem rmis2 (l : Launch) (Z : State) (a0 : Array Value) (hw : ∀ d ∈ tables_1, d.before a0 Z = true) (ws : List Jvm.Cond) (a1 : Addr) (ka : ClassId) (x0 : Int32) (x1 : Int32) (h0 : Heap) (n0 : Nat) (Z0 : n0 ≤ h0.size) (V_a1 : Arv Z h0 a1 ka .int (2 : Int32) [(.int x0), (.int x1)] (.int (0 : Int32))) (g_a1 : n0 ≤ a1) :
    MetFree l (⟨"java/util/DualPivotQuicksort", "insertionSort", "([III)V"⟩ : MethodName) (head1 (Jvm.Cond.code (⟨"java/util/DualPivotQuicksort", "insertionSort", "([III)V"⟩ : MethodName) jdk_2529_method_6_code 6 none :: ws) ({ frames := 0, cells := 0, slots := 0, locals := 0 } : Room)) (fun a U => a = #[(.ref a1), (.int (0 : Int32)), (.int (2 : Int32))] ∧ Z.Warmed39 U.vm ∧ U.heap = h0) (fun _ _ _ _ _ => True) (fun _ U o U' => ∃ v L, o = .returned v ∧ Q_rmis2 Z a1 ka x0 x1 h0 n0 v U'.heap L ∧ FrameEnd U o U' L ({ frames := 0, cells := 0, slots := 0, locals := 0 } : Room).cells ({ frames := 0, cells := 0, slots := 0, locals := 0 } : Room).slots) := by
  refine MetFree.of_bodySF (plainFor_of_name pn_java_util_DualPivotQuicksort) hisR ?_
  intro p e s m args below meth c s₁ Bd hml0 hP hK
  obtain ⟨rfl, hZ, hh⟩ := hP
  have hx := Bd.exec
  have hby := Bd.bytes
  have hml : c.maxLocals = 6 := hml0
  have hown : s.vm.findClass "java/util/DualPivotQuicksort" = some m.cls := findClass_of_methodNamed Bd.named
  have hnm := (name_of_methodNamed Bd.named Bd.method).1
  have X0 : Stand p l e ({ frames := 0, cells := 0, slots := 0, locals := 0 } : Room) s m #[(.ref a1), (.int (0 : Int32)), (.int (2 : Int32))] below meth c s₁ [] 0 0 := Stand.of_body Bd
  have e0 : s₁.heap = h0 := by rw [← hh, Bd.state]; rfl
  have N0 := Fr.nil n0
  have pre0 : ∀ t, Steps p.tables e below (s₁.setTop (mkF m 0 #[.val (.ref a1), .val (.int (0 : Int32)), .val (.int (2 : Int32)), .unset, .unset, .unset] [])) t → Steps p.tables e below (s₁.setTop (entryFrame m #[(.ref a1), (.int (0 : Int32)), (.int (2 : Int32))] 6)) t := fun t k => castTop (ef_16 m a1 (0 : Int32) (2 : Int32)) k
  obtain ⟨cl252, Ar252, q252, S252, N252n, H252, G252⟩ := id (V_a1)
  have hin252 : ¬ ((1 : Int32) < 0 ∨ cl252.slots.size ≤ ((1 : Int32)).toNatClampNeg) := inb_of S252 ⟨by decide, by decide⟩
  have hat252 : cl252.slots[((1 : Int32)).toNatClampNeg]? = some (.int x1) := H252.at hin252 rfl
  obtain ⟨cl253, Ar253, q253, S253, N253n, H253, G253⟩ := id (V_a1)
  have hin253 : ¬ ((0 : Int32) < 0 ∨ cl253.slots.size ≤ ((0 : Int32)).toNatClampNeg) := inb_of S253 ⟨by decide, by decide⟩
  have hat253 : cl253.slots[((0 : Int32)).toNatClampNeg]? = some (.int x0) := H253.at hin253 rfl
  have pre255 : ∀ t, Steps p.tables e below (s₁.setTop (mkF m 27 #[.val (.ref a1), .val (.int (0 : Int32)), .val (.int (2 : Int32)), .val (.int (1 : Int32)), .val (.int (1 : Int32)), .val (.int x1)] [(.int x0), (.int x1)])) t → Steps p.tables e below (s₁.setTop (entryFrame m #[(.ref a1), (.int (0 : Int32)), (.int (2 : Int32))] 6)) t := by
    intro t kt
    refine pre0 _ ?_
    show Steps p.tables e below (s₁.setTop (mkF m 0 #[.val (.ref a1), .val (.int (0 : Int32)), .val (.int (2 : Int32)), .unset, .unset, .unset] [])) _
    refine XS.iloadN X0.here hx rfl (hb hby d16_0) rfl ?_
    refine XS.istore X0.here hx rfl (hb hby d16_1) rfl (l' := #[.val (.ref a1), .val (.int (0 : Int32)), .val (.int (2 : Int32)), .unset, .val (.int (0 : Int32)), .unset]) rfl ?_
    refine XS.iinc X0.here hx rfl (hb hby d16_3) rfl (l' := #[.val (.ref a1), .val (.int (0 : Int32)), .val (.int (2 : Int32)), .unset, .val (.int (1 : Int32)), .unset]) rfl ?_
    refine XS.iload X0.here hx rfl (hb hby d16_6) rfl ?_
    show Steps p.tables e below (s₁.setTop (mkF m 8 #[.val (.ref a1), .val (.int (0 : Int32)), .val (.int (2 : Int32)), .unset, .val (.int (1 : Int32)), .unset] [(.int (1 : Int32))])) _
    refine XS.iloadN X0.here hx rfl (hb hby d16_8) rfl ?_
    refine XS.icmpNo X0.here hx rfl (hb hby d16_9) rfl (tlt (by decide)).2.1 ?_
    refine XS.aloadN X0.here hx rfl (hb hby d16_12) rfl rfl ?_
    refine XS.iload X0.here hx rfl (hb hby d16_13) rfl ?_
    show Steps p.tables e below (s₁.setTop (mkF m 15 #[.val (.ref a1), .val (.int (0 : Int32)), .val (.int (2 : Int32)), .unset, .val (.int (1 : Int32)), .unset] [(.int (1 : Int32)), (.ref a1)])) _
    refine XS.dup X0.here hx rfl (hb hby d16_15) rfl rfl ?_
    refine XS.istoreN X0.here hx rfl (hb hby d16_16) rfl (l' := #[.val (.ref a1), .val (.int (0 : Int32)), .val (.int (2 : Int32)), .val (.int (1 : Int32)), .val (.int (1 : Int32)), .unset]) rfl ?_
    refine X0.iaload hx (j := (1 : Int32)) (v := (.int x1)) (by rw [e0]; exact Ar252.1) (State.isArrayOf_alike hZ.alike Ar252.2.1) Ar252.2.2 hin252 hat252 (g := (mkF m 17 #[.val (.ref a1), .val (.int (0 : Int32)), .val (.int (2 : Int32)), .val (.int (1 : Int32)), .val (.int (1 : Int32)), .unset] [(.int (1 : Int32)), (.ref a1)])) rfl rfl (hb hby d16_17) _ ?_
    refine XS.istore X0.here hx rfl (hb hby d16_18) rfl (l' := #[.val (.ref a1), .val (.int (0 : Int32)), .val (.int (2 : Int32)), .val (.int (1 : Int32)), .val (.int (1 : Int32)), .val (.int x1)]) rfl ?_
    show Steps p.tables e below (s₁.setTop (mkF m 20 #[.val (.ref a1), .val (.int (0 : Int32)), .val (.int (2 : Int32)), .val (.int (1 : Int32)), .val (.int (1 : Int32)), .val (.int x1)] [])) _
    refine XS.iload X0.here hx rfl (hb hby d16_20) rfl ?_
    refine XS.aloadN X0.here hx rfl (hb hby d16_22) rfl rfl ?_
    refine XS.iloadN X0.here hx rfl (hb hby d16_23) rfl ?_
    refine XS.iconst X0.here hx rfl (hb hby d16_24) ?_
    show Steps p.tables e below (s₁.setTop (mkF m 25 #[.val (.ref a1), .val (.int (0 : Int32)), .val (.int (2 : Int32)), .val (.int (1 : Int32)), .val (.int (1 : Int32)), .val (.int x1)] [(.int (1 : Int32)), (.int (1 : Int32)), (.ref a1), (.int x1)])) _
    refine XS.isub X0.here hx rfl (hb hby d16_25) rfl ?_
    refine X0.iaload hx (j := (0 : Int32)) (v := (.int x0)) (by rw [e0]; exact Ar253.1) (State.isArrayOf_alike hZ.alike Ar253.2.1) Ar253.2.2 hin253 hat253 (g := (mkF m 26 #[.val (.ref a1), .val (.int (0 : Int32)), .val (.int (2 : Int32)), .val (.int (1 : Int32)), .val (.int (1 : Int32)), .val (.int x1)] [(.int (0 : Int32)), (.ref a1), (.int x1)])) rfl rfl (hb hby d16_26) _ ?_
    exact kt
  by_cases hc27_254 : x1 < x0
  · obtain ⟨cl256, Ar256, q256, S256, N256n, H256, G256⟩ := id (V_a1)
    have hin256 : ¬ ((0 : Int32) < 0 ∨ cl256.slots.size ≤ ((0 : Int32)).toNatClampNeg) := inb_of S256 ⟨by decide, by decide⟩
    have hat256 : cl256.slots[((0 : Int32)).toNatClampNeg]? = some (.int x0) := H256.at hin256 rfl
    obtain ⟨cl257, Ar257, q257, S257, N257n, H257, G257⟩ := id (V_a1)
    have hin257 : ¬ ((0 : Int32) < 0 ∨ cl257.slots.size ≤ ((0 : Int32)).toNatClampNeg) := inb_of S257 ⟨by decide, by decide⟩
    have hat257 : cl257.slots[((0 : Int32)).toNatClampNeg]? = some (.int x0) := H257.at hin257 rfl
    obtain ⟨cl258, Ar258, q258, S258, N258n, H258, G258⟩ := id (V_a1)
    have hin258 : ¬ ((1 : Int32) < 0 ∨ cl258.slots.size ≤ ((1 : Int32)).toNatClampNeg) := inb_of S258 ⟨by decide, by decide⟩
    obtain ⟨T259, h259, X259, e259, W259, st259⟩ := stI X0 hx hZ e0 Ar258 (j := (1 : Int32)) hin258 (g := (mkF m 53 #[.val (.ref a1), .val (.int (0 : Int32)), .val (.int (2 : Int32)), .val (.int (0 : Int32)), .val (.int (1 : Int32)), .val (.int x1)] [(.int x0), (.int (1 : Int32)), (.ref a1)])) rfl rfl (hb hby d16_53)
    have V_a1_259 : Arv Z h259 a1 ka .int (2 : Int32) [(.int x0), (.int x0)] (.int (0 : Int32)) := Arv.set Ar258 q258 S258 N258n H258 G258 rfl W259 1 rfl (Nat.le_of_ble_eq_true rfl)
    have Z260 : n0 ≤ h259.size := Nat.le_trans Z0 (Keep.of_wr W259).1
    have K261 : Keep h0 h259 [a1] := Keep.wr (Keep.refl h0 [a1]) W259 (Or.inl (List.mem_of_getElem? (i := 0) rfl))
    have N259 := Fr.snoc X259 N0 g_a1
    obtain ⟨cl262, Ar262, q262, S262, N262n, H262, G262⟩ := id (V_a1_259)
    have hin262 : ¬ ((0 : Int32) < 0 ∨ cl262.slots.size ≤ ((0 : Int32)).toNatClampNeg) := inb_of S262 ⟨by decide, by decide⟩
    obtain ⟨T263, h263, X263, e263, W263, st263⟩ := stI X259 hx hZ e259 Ar262 (j := (0 : Int32)) hin262 (g := (mkF m 63 #[.val (.ref a1), .val (.int (0 : Int32)), .val (.int (2 : Int32)), .val (.int (-1 : Int32)), .val (.int (1 : Int32)), .val (.int x1)] [(.int x1), (.int (0 : Int32)), (.ref a1)])) rfl rfl (hb hby d16_63)
    have V_a1_263 : Arv Z h263 a1 ka .int (2 : Int32) [(.int x1), (.int x0)] (.int (0 : Int32)) := Arv.set Ar262 q262 S262 N262n H262 G262 rfl W263 0 rfl (Nat.le_of_ble_eq_true rfl)
    have Z264 : n0 ≤ h263.size := Nat.le_trans Z260 (Keep.of_wr W263).1
    have K265 : Keep h0 h263 [a1] := Keep.wr K261 W263 (Or.inl (List.mem_of_getElem? (i := 0) rfl))
    have N263 := Fr.snoc X263 N259 g_a1
    obtain ⟨fs, hr, hrun, hended, hW, hsame⟩ := X263.leave (v := none) (fun _ => rfl)
    refine ⟨_, _, pre255 _ ?_, hrun, hended, _, _, rfl, ?_, ⟨_, rfl⟩, hW, hsame.mono (by decide) (by decide)⟩
    · show Steps p.tables e below (s₁.setTop (mkF m 27 #[.val (.ref a1), .val (.int (0 : Int32)), .val (.int (2 : Int32)), .val (.int (1 : Int32)), .val (.int (1 : Int32)), .val (.int x1)] [(.int x0), (.int x1)])) _
      refine XS.icmpNo X0.here hx rfl (hb hby d16_27) rfl (tlt hc27_254).2.1 ?_
      refine XS.iinc X0.here hx rfl (hb hby d16_30) rfl (l' := #[.val (.ref a1), .val (.int (0 : Int32)), .val (.int (2 : Int32)), .val (.int (0 : Int32)), .val (.int (1 : Int32)), .val (.int x1)]) rfl ?_
      show Steps p.tables e below (s₁.setTop (mkF m 33 #[.val (.ref a1), .val (.int (0 : Int32)), .val (.int (2 : Int32)), .val (.int (0 : Int32)), .val (.int (1 : Int32)), .val (.int x1)] [])) _
      refine XS.iloadN X0.here hx rfl (hb hby d16_33) rfl ?_
      refine XS.iloadN X0.here hx rfl (hb hby d16_34) rfl ?_
      refine XS.icmpNo X0.here hx rfl (hb hby d16_35) rfl (flt (by decide)).1 ?_
      refine XS.iload X0.here hx rfl (hb hby d16_38) rfl ?_
      show Steps p.tables e below (s₁.setTop (mkF m 40 #[.val (.ref a1), .val (.int (0 : Int32)), .val (.int (2 : Int32)), .val (.int (0 : Int32)), .val (.int (1 : Int32)), .val (.int x1)] [(.int x1)])) _
      refine XS.aloadN X0.here hx rfl (hb hby d16_40) rfl rfl ?_
      refine XS.iloadN X0.here hx rfl (hb hby d16_41) rfl ?_
      refine X0.iaload hx (j := (0 : Int32)) (v := (.int x0)) (by rw [e0]; exact Ar256.1) (State.isArrayOf_alike hZ.alike Ar256.2.1) Ar256.2.2 hin256 hat256 (g := (mkF m 42 #[.val (.ref a1), .val (.int (0 : Int32)), .val (.int (2 : Int32)), .val (.int (0 : Int32)), .val (.int (1 : Int32)), .val (.int x1)] [(.int (0 : Int32)), (.ref a1), (.int x1)])) rfl rfl (hb hby d16_42) _ ?_
      refine XS.icmpNo X0.here hx rfl (hb hby d16_43) rfl (tlt hc27_254).2.1 ?_
      show Steps p.tables e below (s₁.setTop (mkF m 46 #[.val (.ref a1), .val (.int (0 : Int32)), .val (.int (2 : Int32)), .val (.int (0 : Int32)), .val (.int (1 : Int32)), .val (.int x1)] [])) _
      refine XS.aloadN X0.here hx rfl (hb hby d16_46) rfl rfl ?_
      refine XS.iloadN X0.here hx rfl (hb hby d16_47) rfl ?_
      refine XS.iconst X0.here hx rfl (hb hby d16_48) ?_
      refine XS.iadd X0.here hx rfl (hb hby d16_49) rfl ?_
      show Steps p.tables e below (s₁.setTop (mkF m 50 #[.val (.ref a1), .val (.int (0 : Int32)), .val (.int (2 : Int32)), .val (.int (0 : Int32)), .val (.int (1 : Int32)), .val (.int x1)] [(.int (1 : Int32)), (.ref a1)])) _
      refine XS.aloadN X0.here hx rfl (hb hby d16_50) rfl rfl ?_
      refine XS.iloadN X0.here hx rfl (hb hby d16_51) rfl ?_
      refine X0.iaload hx (j := (0 : Int32)) (v := (.int x0)) (by rw [e0]; exact Ar257.1) (State.isArrayOf_alike hZ.alike Ar257.2.1) Ar257.2.2 hin257 hat257 (g := (mkF m 52 #[.val (.ref a1), .val (.int (0 : Int32)), .val (.int (2 : Int32)), .val (.int (0 : Int32)), .val (.int (1 : Int32)), .val (.int x1)] [(.int (0 : Int32)), (.ref a1), (.int (1 : Int32)), (.ref a1)])) rfl rfl (hb hby d16_52) _ ?_
      refine st259 _ ?_
      show Steps p.tables e below (T259.setTop (mkF m 54 #[.val (.ref a1), .val (.int (0 : Int32)), .val (.int (2 : Int32)), .val (.int (0 : Int32)), .val (.int (1 : Int32)), .val (.int x1)] [])) _
      refine XS.goto X259.here hx rfl (pc0 := 54) (pc' := 30) rfl (hb hby d16_54) (by decide) (by decide) ?_
      refine XS.iinc X259.here hx rfl (hb hby d16_30) rfl (l' := #[.val (.ref a1), .val (.int (0 : Int32)), .val (.int (2 : Int32)), .val (.int (-1 : Int32)), .val (.int (1 : Int32)), .val (.int x1)]) rfl ?_
      refine XS.iloadN X259.here hx rfl (hb hby d16_33) rfl ?_
      refine XS.iloadN X259.here hx rfl (hb hby d16_34) rfl ?_
      show Steps p.tables e below (T259.setTop (mkF m 35 #[.val (.ref a1), .val (.int (0 : Int32)), .val (.int (2 : Int32)), .val (.int (-1 : Int32)), .val (.int (1 : Int32)), .val (.int x1)] [(.int (0 : Int32)), (.int (-1 : Int32))])) _
      refine XS.icmpYes X259.here hx rfl (pc0 := 35) (pc' := 57) rfl (hb hby d16_35) rfl (tlt (by decide)).1 (by decide) (by decide) ?_
      refine XS.aloadN X259.here hx rfl (hb hby d16_57) rfl rfl ?_
      refine XS.iloadN X259.here hx rfl (hb hby d16_58) rfl ?_
      refine XS.iconst X259.here hx rfl (hb hby d16_59) ?_
      show Steps p.tables e below (T259.setTop (mkF m 60 #[.val (.ref a1), .val (.int (0 : Int32)), .val (.int (2 : Int32)), .val (.int (-1 : Int32)), .val (.int (1 : Int32)), .val (.int x1)] [(.int (1 : Int32)), (.int (-1 : Int32)), (.ref a1)])) _
      refine XS.iadd X259.here hx rfl (hb hby d16_60) rfl ?_
      refine XS.iload X259.here hx rfl (hb hby d16_61) rfl ?_
      refine st263 _ ?_
      refine XS.goto X263.here hx rfl (pc0 := 64) (pc' := 3) rfl (hb hby d16_64) (by decide) (by decide) ?_
      show Steps p.tables e below (T263.setTop (mkF m 3 #[.val (.ref a1), .val (.int (0 : Int32)), .val (.int (2 : Int32)), .val (.int (-1 : Int32)), .val (.int (1 : Int32)), .val (.int x1)] [])) _
      refine XS.iinc X263.here hx rfl (hb hby d16_3) rfl (l' := #[.val (.ref a1), .val (.int (0 : Int32)), .val (.int (2 : Int32)), .val (.int (-1 : Int32)), .val (.int (2 : Int32)), .val (.int x1)]) rfl ?_
      refine XS.iload X263.here hx rfl (hb hby d16_6) rfl ?_
      refine XS.iloadN X263.here hx rfl (hb hby d16_8) rfl ?_
      refine XS.icmpYes X263.here hx rfl (pc0 := 9) (pc' := 67) rfl (hb hby d16_9) rfl (flt (by decide)).2.1 (by decide) (by decide) ?_
      show Steps p.tables e below (T263.setTop (mkF m 67 #[.val (.ref a1), .val (.int (0 : Int32)), .val (.int (2 : Int32)), .val (.int (-1 : Int32)), .val (.int (2 : Int32)), .val (.int x1)] [])) _
      exact X263.returnOut hx Bd.returns (hb hby d16_67) hr
    · show Q_rmis2 Z a1 ka x0 x1 h0 n0 _ T263.heap _
      rw [e263]
      exact ⟨x1, x0, rfl, N263, K265, V_a1_263, (by (have := own_lt (a := (x1).toInt) (b := (x0).toInt) hc27_254 rfl rfl; exact own_last2 (by omega) (by omega) (by omega)))⟩
  · obtain ⟨fs, hr, hrun, hended, hW, hsame⟩ := X0.leave (v := none) (fun _ => rfl)
    refine ⟨_, _, pre255 _ ?_, hrun, hended, _, _, rfl, ?_, ⟨_, rfl⟩, hW, hsame.mono (by decide) (by decide)⟩
    · show Steps p.tables e below (s₁.setTop (mkF m 27 #[.val (.ref a1), .val (.int (0 : Int32)), .val (.int (2 : Int32)), .val (.int (1 : Int32)), .val (.int (1 : Int32)), .val (.int x1)] [(.int x0), (.int x1)])) _
      refine XS.icmpYes X0.here hx rfl (pc0 := 27) (pc' := 64) rfl (hb hby d16_27) rfl (flt hc27_254).2.1 (by decide) (by decide) ?_
      refine XS.goto X0.here hx rfl (pc0 := 64) (pc' := 3) rfl (hb hby d16_64) (by decide) (by decide) ?_
      show Steps p.tables e below (s₁.setTop (mkF m 3 #[.val (.ref a1), .val (.int (0 : Int32)), .val (.int (2 : Int32)), .val (.int (1 : Int32)), .val (.int (1 : Int32)), .val (.int x1)] [])) _
      refine XS.iinc X0.here hx rfl (hb hby d16_3) rfl (l' := #[.val (.ref a1), .val (.int (0 : Int32)), .val (.int (2 : Int32)), .val (.int (1 : Int32)), .val (.int (2 : Int32)), .val (.int x1)]) rfl ?_
      refine XS.iload X0.here hx rfl (hb hby d16_6) rfl ?_
      refine XS.iloadN X0.here hx rfl (hb hby d16_8) rfl ?_
      refine XS.icmpYes X0.here hx rfl (pc0 := 9) (pc' := 67) rfl (hb hby d16_9) rfl (flt (by decide)).2.1 (by decide) (by decide) ?_
      show Steps p.tables e below (s₁.setTop (mkF m 67 #[.val (.ref a1), .val (.int (0 : Int32)), .val (.int (2 : Int32)), .val (.int (1 : Int32)), .val (.int (2 : Int32)), .val (.int x1)] [])) _
      exact X0.returnOut hx Bd.returns (hb hby d16_67) hr
    · show Q_rmis2 Z a1 ka x0 x1 h0 n0 _ s₁.heap _
      rw [e0]
      exact ⟨x0, x1, rfl, N0, (Keep.refl h0 [a1]), V_a1, (by (have := own_nlt (a := (x1).toInt) (b := (x0).toInt) hc27_254 rfl rfl; exact own_last2 (by omega) (by omega) (by omega)))⟩
theorem d15_0 : decode jdk_2529_method_4_code 0 = .ok (.iload 4, 2) := by decide +kernel
theorem d15_2 : decode jdk_2529_method_4_code 2 = .ok (.iconst 1, 1) := by decide +kernel
theorem d15_3 : decode jdk_2529_method_4_code 3 = .ok (.isub, 1) := by decide +kernel
theorem d15_4 : decode jdk_2529_method_4_code 4 = .ok (.istore 5, 2) := by decide +kernel
theorem d15_6 : decode jdk_2529_method_4_code 6 = .ok (.iload 4, 2) := by decide +kernel
theorem d15_8 : decode jdk_2529_method_4_code 8 = .ok (.iload_n 3, 1) := by decide +kernel
theorem d15_9 : decode jdk_2529_method_4_code 9 = .ok (.isub, 1) := by decide +kernel
theorem d15_10 : decode jdk_2529_method_4_code 10 = .ok (.istore 6, 2) := by decide +kernel
theorem d15_12 : decode jdk_2529_method_4_code 12 = .ok (.iload 6, 2) := by decide +kernel
theorem d15_14 : decode jdk_2529_method_4_code 14 = .ok (.bipush 65, 2) := by decide +kernel
theorem d15_16 : decode jdk_2529_method_4_code 16 = .ok (.iload_n 2, 1) := by decide +kernel
theorem d15_17 : decode jdk_2529_method_4_code 17 = .ok (.iadd, 1) := by decide +kernel
theorem d15_18 : decode jdk_2529_method_4_code 18 = .ok (.if_icmp .ge 28, 3) := by decide +kernel
theorem d15_21 : decode jdk_2529_method_4_code 21 = .ok (.iload_n 2, 1) := by decide +kernel
theorem d15_22 : decode jdk_2529_method_4_code 22 = .ok (.iconst 1, 1) := by decide +kernel
theorem d15_23 : decode jdk_2529_method_4_code 23 = .ok (.iand, 1) := by decide +kernel
theorem d15_24 : decode jdk_2529_method_4_code 24 = .ok (.ifCond .le 22, 3) := by decide +kernel
theorem d15_46 : decode jdk_2529_method_4_code 46 = .ok (.iload 6, 2) := by decide +kernel
theorem d15_48 : decode jdk_2529_method_4_code 48 = .ok (.bipush 44, 2) := by decide +kernel
theorem d15_50 : decode jdk_2529_method_4_code 50 = .ok (.if_icmp .ge 11, 3) := by decide +kernel
theorem d15_53 : decode jdk_2529_method_4_code 53 = .ok (.aload_n 1, 1) := by decide +kernel
theorem d15_54 : decode jdk_2529_method_4_code 54 = .ok (.iload_n 3, 1) := by decide +kernel
theorem d15_55 : decode jdk_2529_method_4_code 55 = .ok (.iload 4, 2) := by decide +kernel
theorem d15_57 : decode jdk_2529_method_4_code 57 = .ok (.invokestatic 34, 3) := by decide +kernel
theorem wd_92 {a0 : Array Value} {Z : State} (hw : ∀ d ∈ tables_1, d.before a0 Z = true) : (Jvm.Cond.methodLink "java/util/DualPivotQuicksort" (34 : Nat) ({ cls := "java/util/DualPivotQuicksort", name := "insertionSort", desc := "([III)V" } : Jvm.MethodName)).before a0 Z = true := hw _ (List.mem_of_getElem? (i := 92) rfl)
theorem wd_94 {a0 : Array Value} {Z : State} (hw : ∀ d ∈ tables_1, d.before a0 Z = true) : (Jvm.Cond.code ({ cls := "java/util/DualPivotQuicksort", name := "insertionSort", desc := "([III)V" } : Jvm.MethodName) jdk_2529_method_6_code (6 : Nat) (Option.none : Option Jvm.ClassFile.FieldType)).before a0 Z = true := hw _ (List.mem_of_getElem? (i := 94) rfl)
theorem wd_87 {a0 : Array Value} {Z : State} (hw : ∀ d ∈ tables_1, d.before a0 Z = true) : (Jvm.Cond.initialized "java/util/DualPivotQuicksort").before a0 Z = true := hw _ (List.mem_of_getElem? (i := 87) rfl)
theorem pd___III_V : parseMethodDescriptor "([III)V" = some ⟨[(.array .int), .int, .int], none⟩ := by decide +kernel
theorem wd_93 {a0 : Array Value} {Z : State} (hw : ∀ d ∈ tables_1, d.before a0 Z = true) : (Jvm.Cond.static ({ cls := "java/util/DualPivotQuicksort", name := "insertionSort", desc := "([III)V" } : Jvm.MethodName)).before a0 Z = true := hw _ (List.mem_of_getElem? (i := 93) rfl)
theorem d15_60 : decode jdk_2529_method_4_code 60 = .ok (.return_, 1) := by decide +kernel
theorem efn_15 (m : MethodId) (x1 : Addr) (x2 : Int32) (x3 : Int32) (x4 : Int32) : entryFrame m #[.null, (.ref x1), (.int x2), (.int x3), (.int x4)] 21 = mkF m 0 #[.val .null, .val (.ref x1), .val (.int x2), .val (.int x3), .val (.int x4), .unset, .unset, .unset, .unset, .unset, .unset, .unset, .unset, .unset, .unset, .unset, .unset, .unset, .unset, .unset, .unset] [] := by first | (simp [entryFrame, mkF, argsToLocals, Value.category]; done) | rfl
def Q_rmd22 (Z : State) (a2 : Addr) (ka : ClassId) (x0 : Int32) (x1 : Int32) (h0 : Heap) (n0 : Nat) (v : Option Value) (h : Heap) (L : List Loc) : Prop := ∃ r0 : Int32, ∃ r1 : Int32, v = none ∧ Fr n0 L ∧ Keep h0 h [a2] ∧ (Arv Z h a2 ka .int (2 : Int32) [(.int r0), (.int r1)] (.int (0 : Int32))) ∧ (r1 = (if x0 < x1 then x1 else x0))
set_option maxRecDepth 65536 in
set_option maxHeartbeats 40000000 in
theorem rmd22 (l : Launch) (Z : State) (a0 : Array Value) (hw : ∀ d ∈ tables_1, d.before a0 Z = true) (ws : List Jvm.Cond) (a2 : Addr) (ka : ClassId) (x0 : Int32) (x1 : Int32) (h0 : Heap) (n0 : Nat) (Z0 : n0 ≤ h0.size) (V_a2 : Arv Z h0 a2 ka .int (2 : Int32) [(.int x0), (.int x1)] (.int (0 : Int32))) (g_a2 : n0 ≤ a2) :
    MetFree l (⟨"java/util/DualPivotQuicksort", "sort", "(Ljava/util/DualPivotQuicksort$Sorter;[IIII)V"⟩ : MethodName) (head1 (Jvm.Cond.code (⟨"java/util/DualPivotQuicksort", "sort", "(Ljava/util/DualPivotQuicksort$Sorter;[IIII)V"⟩ : MethodName) jdk_2529_method_4_code 21 none :: ws) ({ frames := 1, cells := 0, slots := 0, locals := 17 } : Room)) (fun a U => a = #[.null, (.ref a2), (.int (0 : Int32)), (.int (0 : Int32)), (.int (2 : Int32))] ∧ Z.Warmed39 U.vm ∧ U.heap = h0) (fun _ _ _ _ _ => True) (fun _ U o U' => ∃ v L, o = .returned v ∧ Q_rmd22 Z a2 ka x0 x1 h0 n0 v U'.heap L ∧ FrameEnd U o U' L ({ frames := 1, cells := 0, slots := 0, locals := 17 } : Room).cells ({ frames := 1, cells := 0, slots := 0, locals := 17 } : Room).slots) := by
  refine MetFree.of_bodySF (plainFor_of_name pn_java_util_DualPivotQuicksort) hisR ?_
  intro p e s m args below meth c s₁ Bd hml0 hP hK
  obtain ⟨rfl, hZ, hh⟩ := hP
  have hx := Bd.exec
  have hby := Bd.bytes
  have hml : c.maxLocals = 21 := hml0
  have hown : s.vm.findClass "java/util/DualPivotQuicksort" = some m.cls := findClass_of_methodNamed Bd.named
  have hnm := (name_of_methodNamed Bd.named Bd.method).1
  have X0 : Stand p l e ({ frames := 1, cells := 0, slots := 0, locals := 17 } : Room) s m #[.null, (.ref a2), (.int (0 : Int32)), (.int (0 : Int32)), (.int (2 : Int32))] below meth c s₁ [] 0 0 := Stand.of_body Bd
  have e0 : s₁.heap = h0 := by rw [← hh, Bd.state]; rfl
  have N0 := Fr.nil n0
  have pre0 : ∀ t, Steps p.tables e below (s₁.setTop (mkF m 0 #[.val .null, .val (.ref a2), .val (.int (0 : Int32)), .val (.int (0 : Int32)), .val (.int (2 : Int32)), .unset, .unset, .unset, .unset, .unset, .unset, .unset, .unset, .unset, .unset, .unset, .unset, .unset, .unset, .unset, .unset] [])) t → Steps p.tables e below (s₁.setTop (entryFrame m #[.null, (.ref a2), (.int (0 : Int32)), (.int (0 : Int32)), (.int (2 : Int32))] 21)) t := fun t k => castTop (efn_15 m a2 (0 : Int32) (0 : Int32) (2 : Int32)) k
  obtain ⟨_, _, ⟨T266, L266, k266, n266⟩, -, X266, ⟨Lc266, hQ266, l266, y266, z266⟩, st266⟩ := Jvm.LawKit.callS X0 hx (y := (⟨"java/util/DualPivotQuicksort", "insertionSort", "([III)V"⟩ : MethodName)) hown (mvT hZ (wd_92 hw)) (mvT hZ (wd_93 hw)) (mvT hZ (wd_87 hw)) (mvT hZ (wd_94 hw)) (by decide) (backOf (W := 0) (rmis2 l Z a0 hw [] a2 ka x0 x1 h0 n0 Z0 V_a2 g_a2) hZ (wd_94 hw) (wd_87 hw) (by decide) (by decide)) (g := (mkF m 57 #[.val .null, .val (.ref a2), .val (.int (0 : Int32)), .val (.int (0 : Int32)), .val (.int (2 : Int32)), .val (.int (1 : Int32)), .val (.int (2 : Int32)), .unset, .unset, .unset, .unset, .unset, .unset, .unset, .unset, .unset, .unset, .unset, .unset, .unset, .unset] [(.int (2 : Int32)), (.int (0 : Int32)), (.ref a2)])) rfl (by rw [hml]; rfl) (argsL := [(.ref a2), (.int (0 : Int32)), (.int (2 : Int32))]) (rest := []) (lenOf pd___III_V rfl) rfl (by show 2 * 0 + _ ≤ _; exact Nat.le_of_eq rfl) (hb hby d15_57) (fun _ _ => ⟨rfl, e0, (by decide : 0 + 0 ≤ _), (by decide : 0 + 0 ≤ _)⟩)
  dsimp only [Pt.U, Pt.locs, Pt.cells, Pt.slots] at X266 l266 y266 z266 st266 hQ266
  subst l266 y266 z266
  obtain ⟨r0_266, r1_266, rfl, N266q, K266q, g266_0, g266_1⟩ := hQ266
  have N266 := Fr.app N0 N266q
  have Z267 : n0 ≤ T266.heap.size := Nat.le_trans Z0 K266q.1
  have K268 : Keep h0 T266.heap [a2] := Keep.trans (Keep.refl h0 [a2]) K266q (allS (Or.inl (List.mem_of_getElem? (i := 0) rfl)) all0)
  obtain ⟨fs, hr, hrun, hended, hW, hsame⟩ := X266.leave (v := none) (fun _ => rfl)
  refine ⟨_, _, pre0 _ ?_, hrun, hended, _, _, rfl, ?_, ⟨_, rfl⟩, hW, hsame.mono (by decide) (by decide)⟩
  · show Steps p.tables e below (s₁.setTop (mkF m 0 #[.val .null, .val (.ref a2), .val (.int (0 : Int32)), .val (.int (0 : Int32)), .val (.int (2 : Int32)), .unset, .unset, .unset, .unset, .unset, .unset, .unset, .unset, .unset, .unset, .unset, .unset, .unset, .unset, .unset, .unset] [])) _
    refine XS.iload X0.here hx rfl (hb hby d15_0) rfl ?_
    refine XS.iconst X0.here hx rfl (hb hby d15_2) ?_
    refine XS.isub X0.here hx rfl (hb hby d15_3) rfl ?_
    refine XS.istore X0.here hx rfl (hb hby d15_4) rfl (l' := #[.val .null, .val (.ref a2), .val (.int (0 : Int32)), .val (.int (0 : Int32)), .val (.int (2 : Int32)), .val (.int (1 : Int32)), .unset, .unset, .unset, .unset, .unset, .unset, .unset, .unset, .unset, .unset, .unset, .unset, .unset, .unset, .unset]) rfl ?_
    show Steps p.tables e below (s₁.setTop (mkF m 6 #[.val .null, .val (.ref a2), .val (.int (0 : Int32)), .val (.int (0 : Int32)), .val (.int (2 : Int32)), .val (.int (1 : Int32)), .unset, .unset, .unset, .unset, .unset, .unset, .unset, .unset, .unset, .unset, .unset, .unset, .unset, .unset, .unset] [])) _
    refine XS.iload X0.here hx rfl (hb hby d15_6) rfl ?_
    refine XS.iloadN X0.here hx rfl (hb hby d15_8) rfl ?_
    refine XS.isub X0.here hx rfl (hb hby d15_9) rfl ?_
    refine XS.istore X0.here hx rfl (hb hby d15_10) rfl (l' := #[.val .null, .val (.ref a2), .val (.int (0 : Int32)), .val (.int (0 : Int32)), .val (.int (2 : Int32)), .val (.int (1 : Int32)), .val (.int (2 : Int32)), .unset, .unset, .unset, .unset, .unset, .unset, .unset, .unset, .unset, .unset, .unset, .unset, .unset, .unset]) rfl ?_
    show Steps p.tables e below (s₁.setTop (mkF m 12 #[.val .null, .val (.ref a2), .val (.int (0 : Int32)), .val (.int (0 : Int32)), .val (.int (2 : Int32)), .val (.int (1 : Int32)), .val (.int (2 : Int32)), .unset, .unset, .unset, .unset, .unset, .unset, .unset, .unset, .unset, .unset, .unset, .unset, .unset, .unset] [])) _
    refine XS.iload X0.here hx rfl (hb hby d15_12) rfl ?_
    refine XS.bipush X0.here hx rfl (hb hby d15_14) ?_
    refine XS.iloadN X0.here hx rfl (hb hby d15_16) rfl ?_
    refine XS.iadd X0.here hx rfl (hb hby d15_17) rfl ?_
    show Steps p.tables e below (s₁.setTop (mkF m 18 #[.val .null, .val (.ref a2), .val (.int (0 : Int32)), .val (.int (0 : Int32)), .val (.int (2 : Int32)), .val (.int (1 : Int32)), .val (.int (2 : Int32)), .unset, .unset, .unset, .unset, .unset, .unset, .unset, .unset, .unset, .unset, .unset, .unset, .unset, .unset] [(.int (65 : Int32)), (.int (2 : Int32))])) _
    refine XS.icmpNo X0.here hx rfl (hb hby d15_18) rfl (tlt (by decide)).2.1 ?_
    refine XS.iloadN X0.here hx rfl (hb hby d15_21) rfl ?_
    refine XS.iconst X0.here hx rfl (hb hby d15_22) ?_
    refine XS.iand X0.here hx rfl (hb hby d15_23) rfl ?_
    show Steps p.tables e below (s₁.setTop (mkF m 24 #[.val .null, .val (.ref a2), .val (.int (0 : Int32)), .val (.int (0 : Int32)), .val (.int (2 : Int32)), .val (.int (1 : Int32)), .val (.int (2 : Int32)), .unset, .unset, .unset, .unset, .unset, .unset, .unset, .unset, .unset, .unset, .unset, .unset, .unset, .unset] [(.int (0 : Int32))])) _
    refine XS.ifYes X0.here hx rfl (pc0 := 24) (pc' := 46) rfl (hb hby d15_24) rfl ((if0 _ _).trans (flt (by decide)).2.2.2) (by decide) (by decide) ?_
    refine XS.iload X0.here hx rfl (hb hby d15_46) rfl ?_
    refine XS.bipush X0.here hx rfl (hb hby d15_48) ?_
    refine XS.icmpNo X0.here hx rfl (hb hby d15_50) rfl (tlt (by decide)).2.1 ?_
    show Steps p.tables e below (s₁.setTop (mkF m 53 #[.val .null, .val (.ref a2), .val (.int (0 : Int32)), .val (.int (0 : Int32)), .val (.int (2 : Int32)), .val (.int (1 : Int32)), .val (.int (2 : Int32)), .unset, .unset, .unset, .unset, .unset, .unset, .unset, .unset, .unset, .unset, .unset, .unset, .unset, .unset] [])) _
    refine XS.aloadN X0.here hx rfl (hb hby d15_53) rfl rfl ?_
    refine XS.iloadN X0.here hx rfl (hb hby d15_54) rfl ?_
    refine XS.iload X0.here hx rfl (hb hby d15_55) rfl ?_
    refine st266 _ ?_
    show Steps p.tables e below (T266.setTop (mkF m 60 #[.val .null, .val (.ref a2), .val (.int (0 : Int32)), .val (.int (0 : Int32)), .val (.int (2 : Int32)), .val (.int (1 : Int32)), .val (.int (2 : Int32)), .unset, .unset, .unset, .unset, .unset, .unset, .unset, .unset, .unset, .unset, .unset, .unset, .unset, .unset] [])) _
    exact X266.returnOut hx Bd.returns (hb hby d15_60) hr
  · show Q_rmd22 Z a2 ka x0 x1 h0 n0 _ T266.heap _
    exact ⟨r0_266, r1_266, rfl, N266, K268, g266_0, g266_1⟩
theorem d14_0 : decode jdk_2529_method_3_code 0 = .ok (.iload_n 3, 1) := by decide +kernel
theorem d14_1 : decode jdk_2529_method_3_code 1 = .ok (.iload_n 2, 1) := by decide +kernel
theorem d14_2 : decode jdk_2529_method_3_code 2 = .ok (.isub, 1) := by decide +kernel
theorem d14_3 : decode jdk_2529_method_3_code 3 = .ok (.istore 4, 2) := by decide +kernel
theorem d14_5 : decode jdk_2529_method_3_code 5 = .ok (.iload_n 1, 1) := by decide +kernel
theorem d14_6 : decode jdk_2529_method_3_code 6 = .ok (.iconst 1, 1) := by decide +kernel
theorem d14_7 : decode jdk_2529_method_3_code 7 = .ok (.if_icmp .le 61, 3) := by decide +kernel
theorem d14_68 : decode jdk_2529_method_3_code 68 = .ok (.aconst_null, 1) := by decide +kernel
theorem d14_69 : decode jdk_2529_method_3_code 69 = .ok (.aload_n 0, 1) := by decide +kernel
theorem d14_70 : decode jdk_2529_method_3_code 70 = .ok (.iconst 0, 1) := by decide +kernel
theorem d14_71 : decode jdk_2529_method_3_code 71 = .ok (.iload_n 2, 1) := by decide +kernel
theorem d14_72 : decode jdk_2529_method_3_code 72 = .ok (.iload_n 3, 1) := by decide +kernel
theorem d14_73 : decode jdk_2529_method_3_code 73 = .ok (.invokestatic 26, 3) := by decide +kernel
theorem wd_89 {a0 : Array Value} {Z : State} (hw : ∀ d ∈ tables_1, d.before a0 Z = true) : (Jvm.Cond.methodLink "java/util/DualPivotQuicksort" (26 : Nat) ({ cls := "java/util/DualPivotQuicksort", name := "sort", desc := "(Ljava/util/DualPivotQuicksort$Sorter;[IIII)V" } : Jvm.MethodName)).before a0 Z = true := hw _ (List.mem_of_getElem? (i := 89) rfl)
theorem wd_91 {a0 : Array Value} {Z : State} (hw : ∀ d ∈ tables_1, d.before a0 Z = true) : (Jvm.Cond.code ({ cls := "java/util/DualPivotQuicksort", name := "sort", desc := "(Ljava/util/DualPivotQuicksort$Sorter;[IIII)V" } : Jvm.MethodName) jdk_2529_method_4_code (21 : Nat) (Option.none : Option Jvm.ClassFile.FieldType)).before a0 Z = true := hw _ (List.mem_of_getElem? (i := 91) rfl)
theorem pd__Ljava_util_DualPivotQuicksort_Sorter__IIII_V : parseMethodDescriptor "(Ljava/util/DualPivotQuicksort$Sorter;[IIII)V" = some ⟨[(.object "java/util/DualPivotQuicksort$Sorter"), (.array .int), .int, .int, .int], none⟩ := by decide +kernel
theorem wd_90 {a0 : Array Value} {Z : State} (hw : ∀ d ∈ tables_1, d.before a0 Z = true) : (Jvm.Cond.static ({ cls := "java/util/DualPivotQuicksort", name := "sort", desc := "(Ljava/util/DualPivotQuicksort$Sorter;[IIII)V" } : Jvm.MethodName)).before a0 Z = true := hw _ (List.mem_of_getElem? (i := 90) rfl)
theorem d14_76 : decode jdk_2529_method_3_code 76 = .ok (.return_, 1) := by decide +kernel
theorem ef_14 (m : MethodId) (x0 : Addr) (x1 : Int32) (x2 : Int32) (x3 : Int32) : entryFrame m #[(.ref x0), (.int x1), (.int x2), (.int x3)] 7 = mkF m 0 #[.val (.ref x0), .val (.int x1), .val (.int x2), .val (.int x3), .unset, .unset, .unset] [] := by first | (simp [entryFrame, mkF, argsToLocals, Value.category]; done) | rfl
def Q_rmd12 (Z : State) (a1 : Addr) (ka : ClassId) (x0 : Int32) (x1 : Int32) (h0 : Heap) (n0 : Nat) (v : Option Value) (h : Heap) (L : List Loc) : Prop := ∃ r0 : Int32, ∃ r1 : Int32, v = none ∧ Fr n0 L ∧ Keep h0 h [a1] ∧ (Arv Z h a1 ka .int (2 : Int32) [(.int r0), (.int r1)] (.int (0 : Int32))) ∧ (r1 = (if x0 < x1 then x1 else x0))
set_option maxRecDepth 65536 in
set_option maxHeartbeats 40000000 in
theorem rmd12 (l : Launch) (Z : State) (a0 : Array Value) (hw : ∀ d ∈ tables_1, d.before a0 Z = true) (ws : List Jvm.Cond) (a1 : Addr) (ka : ClassId) (x0 : Int32) (x1 : Int32) (h0 : Heap) (n0 : Nat) (Z0 : n0 ≤ h0.size) (V_a1 : Arv Z h0 a1 ka .int (2 : Int32) [(.int x0), (.int x1)] (.int (0 : Int32))) (g_a1 : n0 ≤ a1) :
    MetFree l (⟨"java/util/DualPivotQuicksort", "sort", "([IIII)V"⟩ : MethodName) (head1 (Jvm.Cond.code (⟨"java/util/DualPivotQuicksort", "sort", "([IIII)V"⟩ : MethodName) jdk_2529_method_3_code 7 none :: ws) ({ frames := 2, cells := 0, slots := 0, locals := 49 } : Room)) (fun a U => a = #[(.ref a1), (.int (0 : Int32)), (.int (0 : Int32)), (.int (2 : Int32))] ∧ Z.Warmed39 U.vm ∧ U.heap = h0) (fun _ _ _ _ _ => True) (fun _ U o U' => ∃ v L, o = .returned v ∧ Q_rmd12 Z a1 ka x0 x1 h0 n0 v U'.heap L ∧ FrameEnd U o U' L ({ frames := 2, cells := 0, slots := 0, locals := 49 } : Room).cells ({ frames := 2, cells := 0, slots := 0, locals := 49 } : Room).slots) := by
  refine MetFree.of_bodySF (plainFor_of_name pn_java_util_DualPivotQuicksort) hisR ?_
  intro p e s m args below meth c s₁ Bd hml0 hP hK
  obtain ⟨rfl, hZ, hh⟩ := hP
  have hx := Bd.exec
  have hby := Bd.bytes
  have hml : c.maxLocals = 7 := hml0
  have hown : s.vm.findClass "java/util/DualPivotQuicksort" = some m.cls := findClass_of_methodNamed Bd.named
  have hnm := (name_of_methodNamed Bd.named Bd.method).1
  have X0 : Stand p l e ({ frames := 2, cells := 0, slots := 0, locals := 49 } : Room) s m #[(.ref a1), (.int (0 : Int32)), (.int (0 : Int32)), (.int (2 : Int32))] below meth c s₁ [] 0 0 := Stand.of_body Bd
  have e0 : s₁.heap = h0 := by rw [← hh, Bd.state]; rfl
  have N0 := Fr.nil n0
  have pre0 : ∀ t, Steps p.tables e below (s₁.setTop (mkF m 0 #[.val (.ref a1), .val (.int (0 : Int32)), .val (.int (0 : Int32)), .val (.int (2 : Int32)), .unset, .unset, .unset] [])) t → Steps p.tables e below (s₁.setTop (entryFrame m #[(.ref a1), (.int (0 : Int32)), (.int (0 : Int32)), (.int (2 : Int32))] 7)) t := fun t k => castTop (ef_14 m a1 (0 : Int32) (0 : Int32) (2 : Int32)) k
  obtain ⟨_, _, ⟨T269, L269, k269, n269⟩, -, X269, ⟨Lc269, hQ269, l269, y269, z269⟩, st269⟩ := Jvm.LawKit.callS X0 hx (y := (⟨"java/util/DualPivotQuicksort", "sort", "(Ljava/util/DualPivotQuicksort$Sorter;[IIII)V"⟩ : MethodName)) hown (mvT hZ (wd_89 hw)) (mvT hZ (wd_90 hw)) (mvT hZ (wd_87 hw)) (mvT hZ (wd_91 hw)) (by decide) (backOf (W := 0) (rmd22 l Z a0 hw [] a1 ka x0 x1 h0 n0 Z0 V_a1 g_a1) hZ (wd_91 hw) (wd_87 hw) (by decide) (by decide)) (g := (mkF m 73 #[.val (.ref a1), .val (.int (0 : Int32)), .val (.int (0 : Int32)), .val (.int (2 : Int32)), .val (.int (2 : Int32)), .unset, .unset] [(.int (2 : Int32)), (.int (0 : Int32)), (.int (0 : Int32)), (.ref a1), .null])) rfl (by rw [hml]; rfl) (argsL := [.null, (.ref a1), (.int (0 : Int32)), (.int (0 : Int32)), (.int (2 : Int32))]) (rest := []) (lenOf pd__Ljava_util_DualPivotQuicksort_Sorter__IIII_V rfl) rfl (by show 2 * 0 + _ ≤ _; exact Nat.le_of_eq rfl) (hb hby d14_73) (fun _ _ => ⟨rfl, e0, (by decide : 0 + 0 ≤ _), (by decide : 0 + 0 ≤ _)⟩)
  dsimp only [Pt.U, Pt.locs, Pt.cells, Pt.slots] at X269 l269 y269 z269 st269 hQ269
  subst l269 y269 z269
  obtain ⟨r0_269, r1_269, rfl, N269q, K269q, g269_0, g269_1⟩ := hQ269
  have N269 := Fr.app N0 N269q
  have Z270 : n0 ≤ T269.heap.size := Nat.le_trans Z0 K269q.1
  have K271 : Keep h0 T269.heap [a1] := Keep.trans (Keep.refl h0 [a1]) K269q (allS (Or.inl (List.mem_of_getElem? (i := 0) rfl)) all0)
  obtain ⟨fs, hr, hrun, hended, hW, hsame⟩ := X269.leave (v := none) (fun _ => rfl)
  refine ⟨_, _, pre0 _ ?_, hrun, hended, _, _, rfl, ?_, ⟨_, rfl⟩, hW, hsame.mono (by decide) (by decide)⟩
  · show Steps p.tables e below (s₁.setTop (mkF m 0 #[.val (.ref a1), .val (.int (0 : Int32)), .val (.int (0 : Int32)), .val (.int (2 : Int32)), .unset, .unset, .unset] [])) _
    refine XS.iloadN X0.here hx rfl (hb hby d14_0) rfl ?_
    refine XS.iloadN X0.here hx rfl (hb hby d14_1) rfl ?_
    refine XS.isub X0.here hx rfl (hb hby d14_2) rfl ?_
    refine XS.istore X0.here hx rfl (hb hby d14_3) rfl (l' := #[.val (.ref a1), .val (.int (0 : Int32)), .val (.int (0 : Int32)), .val (.int (2 : Int32)), .val (.int (2 : Int32)), .unset, .unset]) rfl ?_
    show Steps p.tables e below (s₁.setTop (mkF m 5 #[.val (.ref a1), .val (.int (0 : Int32)), .val (.int (0 : Int32)), .val (.int (2 : Int32)), .val (.int (2 : Int32)), .unset, .unset] [])) _
    refine XS.iloadN X0.here hx rfl (hb hby d14_5) rfl ?_
    refine XS.iconst X0.here hx rfl (hb hby d14_6) ?_
    refine XS.icmpYes X0.here hx rfl (pc0 := 7) (pc' := 68) rfl (hb hby d14_7) rfl (flt (by decide)).2.2.2 (by decide) (by decide) ?_
    refine XS.aconstNull X0.here hx rfl (hb hby d14_68) ?_
    show Steps p.tables e below (s₁.setTop (mkF m 69 #[.val (.ref a1), .val (.int (0 : Int32)), .val (.int (0 : Int32)), .val (.int (2 : Int32)), .val (.int (2 : Int32)), .unset, .unset] [.null])) _
    refine XS.aloadN X0.here hx rfl (hb hby d14_69) rfl rfl ?_
    refine XS.iconst X0.here hx rfl (hb hby d14_70) ?_
    refine XS.iloadN X0.here hx rfl (hb hby d14_71) rfl ?_
    refine XS.iloadN X0.here hx rfl (hb hby d14_72) rfl ?_
    show Steps p.tables e below (s₁.setTop (mkF m 73 #[.val (.ref a1), .val (.int (0 : Int32)), .val (.int (0 : Int32)), .val (.int (2 : Int32)), .val (.int (2 : Int32)), .unset, .unset] [(.int (2 : Int32)), (.int (0 : Int32)), (.int (0 : Int32)), (.ref a1), .null])) _
    refine st269 _ ?_
    exact X269.returnOut hx Bd.returns (hb hby d14_76) hr
  · show Q_rmd12 Z a1 ka x0 x1 h0 n0 _ T269.heap _
    exact ⟨r0_269, r1_269, rfl, N269, K271, g269_0, g269_1⟩
theorem d13_0 : decode jdk_65_method_30_code 0 = .ok (.iload_n 1, 1) := by decide +kernel
theorem d13_1 : decode jdk_65_method_30_code 1 = .ok (.iload_n 2, 1) := by decide +kernel
theorem d13_2 : decode jdk_65_method_30_code 2 = .ok (.if_icmp .le 44, 3) := by decide +kernel
theorem d13_46 : decode jdk_65_method_30_code 46 = .ok (.iload_n 1, 1) := by decide +kernel
theorem d13_47 : decode jdk_65_method_30_code 47 = .ok (.ifCond .ge 12, 3) := by decide +kernel
theorem d13_59 : decode jdk_65_method_30_code 59 = .ok (.iload_n 2, 1) := by decide +kernel
theorem d13_60 : decode jdk_65_method_30_code 60 = .ok (.iload_n 0, 1) := by decide +kernel
theorem d13_61 : decode jdk_65_method_30_code 61 = .ok (.if_icmp .le 12, 3) := by decide +kernel
theorem d13_73 : decode jdk_65_method_30_code 73 = .ok (.return_, 1) := by decide +kernel
theorem ef_13 (m : MethodId) (x0 : Int32) (x1 : Int32) (x2 : Int32) : entryFrame m #[(.int x0), (.int x1), (.int x2)] 3 = mkF m 0 #[.val (.int x0), .val (.int x1), .val (.int x2)] [] := by first | (simp [entryFrame, mkF, argsToLocals, Value.category]; done) | rfl
def Q_rmrc2 (Z : State)  (h0 : Heap) (n0 : Nat) (v : Option Value) (h : Heap) (L : List Loc) : Prop := v = none ∧ Fr n0 L ∧ h = h0
set_option maxRecDepth 65536 in
set_option maxHeartbeats 40000000 in
theorem rmrc2 (l : Launch) (Z : State) (a0 : Array Value) (hw : ∀ d ∈ tables_1, d.before a0 Z = true) (ws : List Jvm.Cond)  (h0 : Heap) (n0 : Nat) (Z0 : n0 ≤ h0.size) :
    MetFree l (⟨"java/util/Arrays", "rangeCheck", "(III)V"⟩ : MethodName) (head1 (Jvm.Cond.code (⟨"java/util/Arrays", "rangeCheck", "(III)V"⟩ : MethodName) jdk_65_method_30_code 3 none :: ws) ({ frames := 0, cells := 0, slots := 0, locals := 0 } : Room)) (fun a U => a = #[(.int (2 : Int32)), (.int (0 : Int32)), (.int (2 : Int32))] ∧ Z.Warmed39 U.vm ∧ U.heap = h0) (fun _ _ _ _ _ => True) (fun _ U o U' => ∃ v L, o = .returned v ∧ Q_rmrc2 Z  h0 n0 v U'.heap L ∧ FrameEnd U o U' L ({ frames := 0, cells := 0, slots := 0, locals := 0 } : Room).cells ({ frames := 0, cells := 0, slots := 0, locals := 0 } : Room).slots) := by
  refine MetFree.of_bodySF (plainFor_of_name pn_java_util_Arrays) hisR ?_
  intro p e s m args below meth c s₁ Bd hml0 hP hK
  obtain ⟨rfl, hZ, hh⟩ := hP
  have hx := Bd.exec
  have hby := Bd.bytes
  have hml : c.maxLocals = 3 := hml0
  have hown : s.vm.findClass "java/util/Arrays" = some m.cls := findClass_of_methodNamed Bd.named
  have hnm := (name_of_methodNamed Bd.named Bd.method).1
  have X0 : Stand p l e ({ frames := 0, cells := 0, slots := 0, locals := 0 } : Room) s m #[(.int (2 : Int32)), (.int (0 : Int32)), (.int (2 : Int32))] below meth c s₁ [] 0 0 := Stand.of_body Bd
  have e0 : s₁.heap = h0 := by rw [← hh, Bd.state]; rfl
  have N0 := Fr.nil n0
  have pre0 : ∀ t, Steps p.tables e below (s₁.setTop (mkF m 0 #[.val (.int (2 : Int32)), .val (.int (0 : Int32)), .val (.int (2 : Int32))] [])) t → Steps p.tables e below (s₁.setTop (entryFrame m #[(.int (2 : Int32)), (.int (0 : Int32)), (.int (2 : Int32))] 3)) t := fun t k => castTop (ef_13 m (2 : Int32) (0 : Int32) (2 : Int32)) k
  obtain ⟨fs, hr, hrun, hended, hW, hsame⟩ := X0.leave (v := none) (fun _ => rfl)
  refine ⟨_, _, pre0 _ ?_, hrun, hended, _, _, rfl, ?_, ⟨_, rfl⟩, hW, hsame.mono (by decide) (by decide)⟩
  · show Steps p.tables e below (s₁.setTop (mkF m 0 #[.val (.int (2 : Int32)), .val (.int (0 : Int32)), .val (.int (2 : Int32))] [])) _
    refine XS.iloadN X0.here hx rfl (hb hby d13_0) rfl ?_
    refine XS.iloadN X0.here hx rfl (hb hby d13_1) rfl ?_
    refine XS.icmpYes X0.here hx rfl (pc0 := 2) (pc' := 46) rfl (hb hby d13_2) rfl (flt (by decide)).2.2.2 (by decide) (by decide) ?_
    refine XS.iloadN X0.here hx rfl (hb hby d13_46) rfl ?_
    show Steps p.tables e below (s₁.setTop (mkF m 47 #[.val (.int (2 : Int32)), .val (.int (0 : Int32)), .val (.int (2 : Int32))] [(.int (0 : Int32))])) _
    refine XS.ifYes X0.here hx rfl (pc0 := 47) (pc' := 59) rfl (hb hby d13_47) rfl ((if0 _ _).trans (flt (by decide)).2.1) (by decide) (by decide) ?_
    refine XS.iloadN X0.here hx rfl (hb hby d13_59) rfl ?_
    refine XS.iloadN X0.here hx rfl (hb hby d13_60) rfl ?_
    refine XS.icmpYes X0.here hx rfl (pc0 := 61) (pc' := 73) rfl (hb hby d13_61) rfl (flt (by decide)).2.2.2 (by decide) (by decide) ?_
    show Steps p.tables e below (s₁.setTop (mkF m 73 #[.val (.int (2 : Int32)), .val (.int (0 : Int32)), .val (.int (2 : Int32))] [])) _
    exact X0.returnOut hx Bd.returns (hb hby d13_73) hr
  · show Q_rmrc2 Z  h0 n0 _ s₁.heap _
    rw [e0]
    exact ⟨rfl, N0, rfl⟩
theorem d12_0 : decode jdk_65_method_3_code 0 = .ok (.aload_n 0, 1) := by decide +kernel
theorem d12_1 : decode jdk_65_method_3_code 1 = .ok (.arraylength, 1) := by decide +kernel
theorem d12_2 : decode jdk_65_method_3_code 2 = .ok (.iload_n 1, 1) := by decide +kernel
theorem d12_3 : decode jdk_65_method_3_code 3 = .ok (.iload_n 2, 1) := by decide +kernel
theorem d12_4 : decode jdk_65_method_3_code 4 = .ok (.invokestatic 13, 3) := by decide +kernel
theorem wd_82 {a0 : Array Value} {Z : State} (hw : ∀ d ∈ tables_1, d.before a0 Z = true) : (Jvm.Cond.methodLink "java/util/Arrays" (13 : Nat) ({ cls := "java/util/Arrays", name := "rangeCheck", desc := "(III)V" } : Jvm.MethodName)).before a0 Z = true := hw _ (List.mem_of_getElem? (i := 82) rfl)
theorem wd_84 {a0 : Array Value} {Z : State} (hw : ∀ d ∈ tables_1, d.before a0 Z = true) : (Jvm.Cond.code ({ cls := "java/util/Arrays", name := "rangeCheck", desc := "(III)V" } : Jvm.MethodName) jdk_65_method_30_code (3 : Nat) (Option.none : Option Jvm.ClassFile.FieldType)).before a0 Z = true := hw _ (List.mem_of_getElem? (i := 84) rfl)
theorem pd__III_V : parseMethodDescriptor "(III)V" = some ⟨[.int, .int, .int], none⟩ := by decide +kernel
theorem wd_83 {a0 : Array Value} {Z : State} (hw : ∀ d ∈ tables_1, d.before a0 Z = true) : (Jvm.Cond.static ({ cls := "java/util/Arrays", name := "rangeCheck", desc := "(III)V" } : Jvm.MethodName)).before a0 Z = true := hw _ (List.mem_of_getElem? (i := 83) rfl)
theorem d12_7 : decode jdk_65_method_3_code 7 = .ok (.aload_n 0, 1) := by decide +kernel
theorem d12_8 : decode jdk_65_method_3_code 8 = .ok (.iconst 0, 1) := by decide +kernel
theorem d12_9 : decode jdk_65_method_3_code 9 = .ok (.iload_n 1, 1) := by decide +kernel
theorem d12_10 : decode jdk_65_method_3_code 10 = .ok (.iload_n 2, 1) := by decide +kernel
theorem d12_11 : decode jdk_65_method_3_code 11 = .ok (.invokestatic 7, 3) := by decide +kernel
theorem wd_85 {a0 : Array Value} {Z : State} (hw : ∀ d ∈ tables_1, d.before a0 Z = true) : (Jvm.Cond.methodLink "java/util/Arrays" (7 : Nat) ({ cls := "java/util/DualPivotQuicksort", name := "sort", desc := "([IIII)V" } : Jvm.MethodName)).before a0 Z = true := hw _ (List.mem_of_getElem? (i := 85) rfl)
theorem wd_88 {a0 : Array Value} {Z : State} (hw : ∀ d ∈ tables_1, d.before a0 Z = true) : (Jvm.Cond.code ({ cls := "java/util/DualPivotQuicksort", name := "sort", desc := "([IIII)V" } : Jvm.MethodName) jdk_2529_method_3_code (7 : Nat) (Option.none : Option Jvm.ClassFile.FieldType)).before a0 Z = true := hw _ (List.mem_of_getElem? (i := 88) rfl)
theorem pd___IIII_V : parseMethodDescriptor "([IIII)V" = some ⟨[(.array .int), .int, .int, .int], none⟩ := by decide +kernel
theorem wd_86 {a0 : Array Value} {Z : State} (hw : ∀ d ∈ tables_1, d.before a0 Z = true) : (Jvm.Cond.static ({ cls := "java/util/DualPivotQuicksort", name := "sort", desc := "([IIII)V" } : Jvm.MethodName)).before a0 Z = true := hw _ (List.mem_of_getElem? (i := 86) rfl)
theorem d12_14 : decode jdk_65_method_3_code 14 = .ok (.return_, 1) := by decide +kernel
theorem ef_12 (m : MethodId) (x0 : Addr) (x1 : Int32) (x2 : Int32) : entryFrame m #[(.ref x0), (.int x1), (.int x2)] 3 = mkF m 0 #[.val (.ref x0), .val (.int x1), .val (.int x2)] [] := by first | (simp [entryFrame, mkF, argsToLocals, Value.category]; done) | rfl
def Q_rmas2 (Z : State) (a1 : Addr) (ka : ClassId) (x0 : Int32) (x1 : Int32) (h0 : Heap) (n0 : Nat) (v : Option Value) (h : Heap) (L : List Loc) : Prop := ∃ r0 : Int32, ∃ r1 : Int32, v = none ∧ Fr n0 L ∧ Keep h0 h [a1] ∧ (Arv Z h a1 ka .int (2 : Int32) [(.int r0), (.int r1)] (.int (0 : Int32))) ∧ (r1 = (if x0 < x1 then x1 else x0))
set_option maxRecDepth 65536 in
set_option maxHeartbeats 40000000 in
theorem rmas2 (l : Launch) (Z : State) (a0 : Array Value) (hw : ∀ d ∈ tables_1, d.before a0 Z = true) (ws : List Jvm.Cond) (a1 : Addr) (ka : ClassId) (x0 : Int32) (x1 : Int32) (h0 : Heap) (n0 : Nat) (Z0 : n0 ≤ h0.size) (V_a1 : Arv Z h0 a1 ka .int (2 : Int32) [(.int x0), (.int x1)] (.int (0 : Int32))) (g_a1 : n0 ≤ a1) :
    MetFree l (⟨"java/util/Arrays", "sort", "([III)V"⟩ : MethodName) (head1 (Jvm.Cond.code (⟨"java/util/Arrays", "sort", "([III)V"⟩ : MethodName) jdk_65_method_3_code 3 none :: ws) ({ frames := 3, cells := 0, slots := 0, locals := 67 } : Room)) (fun a U => a = #[(.ref a1), (.int (0 : Int32)), (.int (2 : Int32))] ∧ Z.Warmed39 U.vm ∧ U.heap = h0) (fun _ _ _ _ _ => True) (fun _ U o U' => ∃ v L, o = .returned v ∧ Q_rmas2 Z a1 ka x0 x1 h0 n0 v U'.heap L ∧ FrameEnd U o U' L ({ frames := 3, cells := 0, slots := 0, locals := 67 } : Room).cells ({ frames := 3, cells := 0, slots := 0, locals := 67 } : Room).slots) := by
  refine MetFree.of_bodySF (plainFor_of_name pn_java_util_Arrays) hisR ?_
  intro p e s m args below meth c s₁ Bd hml0 hP hK
  obtain ⟨rfl, hZ, hh⟩ := hP
  have hx := Bd.exec
  have hby := Bd.bytes
  have hml : c.maxLocals = 3 := hml0
  have hown : s.vm.findClass "java/util/Arrays" = some m.cls := findClass_of_methodNamed Bd.named
  have hnm := (name_of_methodNamed Bd.named Bd.method).1
  have X0 : Stand p l e ({ frames := 3, cells := 0, slots := 0, locals := 67 } : Room) s m #[(.ref a1), (.int (0 : Int32)), (.int (2 : Int32))] below meth c s₁ [] 0 0 := Stand.of_body Bd
  have e0 : s₁.heap = h0 := by rw [← hh, Bd.state]; rfl
  have N0 := Fr.nil n0
  have pre0 : ∀ t, Steps p.tables e below (s₁.setTop (mkF m 0 #[.val (.ref a1), .val (.int (0 : Int32)), .val (.int (2 : Int32))] [])) t → Steps p.tables e below (s₁.setTop (entryFrame m #[(.ref a1), (.int (0 : Int32)), (.int (2 : Int32))] 3)) t := fun t k => castTop (ef_12 m a1 (0 : Int32) (2 : Int32)) k
  obtain ⟨cl272, Ar272, q272, S272, N272n, H272, G272⟩ := id (V_a1)
  obtain ⟨_, _, ⟨T273, L273, k273, n273⟩, -, X273, ⟨Lc273, hQ273, l273, y273, z273⟩, st273⟩ := Jvm.LawKit.callS X0 hx (y := (⟨"java/util/Arrays", "rangeCheck", "(III)V"⟩ : MethodName)) hown (mvT hZ (wd_82 hw)) (mvT hZ (wd_83 hw)) (mvT hZ (wd_61 hw)) (mvT hZ (wd_84 hw)) (by decide) (backOf (W := 0) (rmrc2 l Z a0 hw []  h0 n0 Z0) hZ (wd_84 hw) (wd_61 hw) (by decide) (by decide)) (g := (mkF m 4 #[.val (.ref a1), .val (.int (0 : Int32)), .val (.int (2 : Int32))] [(.int (2 : Int32)), (.int (0 : Int32)), (.int (2 : Int32))])) rfl (by rw [hml]; rfl) (argsL := [(.int (2 : Int32)), (.int (0 : Int32)), (.int (2 : Int32))]) (rest := []) (lenOf pd__III_V rfl) rfl (by show 2 * 0 + _ ≤ _; exact Nat.le_of_eq rfl) (hb hby d12_4) (fun _ _ => ⟨rfl, e0, (by decide : 0 + 0 ≤ _), (by decide : 0 + 0 ≤ _)⟩)
  dsimp only [Pt.U, Pt.locs, Pt.cells, Pt.slots] at X273 l273 y273 z273 st273 hQ273
  subst l273 y273 z273
  obtain ⟨rfl, N273q, e273⟩ := hQ273
  have N273 := Fr.app N0 N273q
  obtain ⟨_, _, ⟨T274, L274, k274, n274⟩, -, X274, ⟨Lc274, hQ274, l274, y274, z274⟩, st274⟩ := Jvm.LawKit.callS X273 hx (y := (⟨"java/util/DualPivotQuicksort", "sort", "([IIII)V"⟩ : MethodName)) hown (mvT hZ (wd_85 hw)) (mvT hZ (wd_86 hw)) (mvT hZ (wd_87 hw)) (mvT hZ (wd_88 hw)) (by decide) (backOf (W := 0) (rmd12 l Z a0 hw [] a1 ka x0 x1 h0 n0 Z0 V_a1 g_a1) hZ (wd_88 hw) (wd_87 hw) (by decide) (by decide)) (g := (mkF m 11 #[.val (.ref a1), .val (.int (0 : Int32)), .val (.int (2 : Int32))] [(.int (2 : Int32)), (.int (0 : Int32)), (.int (0 : Int32)), (.ref a1)])) rfl (by rw [hml]; rfl) (argsL := [(.ref a1), (.int (0 : Int32)), (.int (0 : Int32)), (.int (2 : Int32))]) (rest := []) (lenOf pd___IIII_V rfl) rfl (by show 2 * 0 + _ ≤ _; exact Nat.le_of_eq rfl) (hb hby d12_11) (fun _ _ => ⟨rfl, e273, (by decide : 0 + 0 ≤ _), (by decide : 0 + 0 ≤ _)⟩)
  dsimp only [Pt.U, Pt.locs, Pt.cells, Pt.slots] at X274 l274 y274 z274 st274 hQ274
  subst l274 y274 z274
  obtain ⟨r0_274, r1_274, rfl, N274q, K274q, g274_0, g274_1⟩ := hQ274
  have N274 := Fr.app N273 N274q
  have Z275 : n0 ≤ T274.heap.size := Nat.le_trans Z0 K274q.1
  have K276 : Keep h0 T274.heap [a1] := Keep.trans (Keep.refl h0 [a1]) K274q (allS (Or.inl (List.mem_of_getElem? (i := 0) rfl)) all0)
  obtain ⟨fs, hr, hrun, hended, hW, hsame⟩ := X274.leave (v := none) (fun _ => rfl)
  refine ⟨_, _, pre0 _ ?_, hrun, hended, _, _, rfl, ?_, ⟨_, rfl⟩, hW, hsame.mono (by decide) (by decide)⟩
  · show Steps p.tables e below (s₁.setTop (mkF m 0 #[.val (.ref a1), .val (.int (0 : Int32)), .val (.int (2 : Int32))] [])) _
    refine XS.aloadN X0.here hx rfl (hb hby d12_0) rfl rfl ?_
    refine X0.arraylength hx (by rw [e0]; exact Ar272.1) (State.isArrayOf_alike hZ.alike Ar272.2.1) (g := (mkF m 1 #[.val (.ref a1), .val (.int (0 : Int32)), .val (.int (2 : Int32))] [(.ref a1)])) rfl rfl (hb hby d12_1) _ ?_
    rw [len_of S272 N272n]
    refine XS.iloadN X0.here hx rfl (hb hby d12_2) rfl ?_
    refine XS.iloadN X0.here hx rfl (hb hby d12_3) rfl ?_
    show Steps p.tables e below (s₁.setTop (mkF m 4 #[.val (.ref a1), .val (.int (0 : Int32)), .val (.int (2 : Int32))] [(.int (2 : Int32)), (.int (0 : Int32)), (.int (2 : Int32))])) _
    refine st273 _ ?_
    refine XS.aloadN X273.here hx rfl (hb hby d12_7) rfl rfl ?_
    refine XS.iconst X273.here hx rfl (hb hby d12_8) ?_
    refine XS.iloadN X273.here hx rfl (hb hby d12_9) rfl ?_
    show Steps p.tables e below (T273.setTop (mkF m 10 #[.val (.ref a1), .val (.int (0 : Int32)), .val (.int (2 : Int32))] [(.int (0 : Int32)), (.int (0 : Int32)), (.ref a1)])) _
    refine XS.iloadN X273.here hx rfl (hb hby d12_10) rfl ?_
    refine st274 _ ?_
    exact X274.returnOut hx Bd.returns (hb hby d12_14) hr
  · show Q_rmas2 Z a1 ka x0 x1 h0 n0 _ T274.heap _
    exact ⟨r0_274, r1_274, rfl, N274, K276, g274_0, g274_1⟩
theorem d11_0 : decode prog_68_method_3_code 0 = .ok (.aload_n 0, 1) := by decide +kernel
theorem d11_1 : decode prog_68_method_3_code 1 = .ok (.getfield 16, 3) := by decide +kernel
theorem d11_4 : decode prog_68_method_3_code 4 = .ok (.ifCond .ne 20, 3) := by decide +kernel
theorem d11_7 : decode prog_68_method_3_code 7 = .ok (.aload_n 0, 1) := by decide +kernel
theorem d11_8 : decode prog_68_method_3_code 8 = .ok (.getfield 13, 3) := by decide +kernel
theorem d11_11 : decode prog_68_method_3_code 11 = .ok (.iconst 0, 1) := by decide +kernel
theorem d11_12 : decode prog_68_method_3_code 12 = .ok (.aload_n 0, 1) := by decide +kernel
theorem d11_13 : decode prog_68_method_3_code 13 = .ok (.getfield 24, 3) := by decide +kernel
theorem d11_16 : decode prog_68_method_3_code 16 = .ok (.invokestatic 43, 3) := by decide +kernel
theorem wd_79 {a0 : Array Value} {Z : State} (hw : ∀ d ∈ tables_1, d.before a0 Z = true) : (Jvm.Cond.methodLink "com/example/kawi/kawi/OrderedNames" (43 : Nat) ({ cls := "java/util/Arrays", name := "sort", desc := "([III)V" } : Jvm.MethodName)).before a0 Z = true := hw _ (List.mem_of_getElem? (i := 79) rfl)
theorem wd_81 {a0 : Array Value} {Z : State} (hw : ∀ d ∈ tables_1, d.before a0 Z = true) : (Jvm.Cond.code ({ cls := "java/util/Arrays", name := "sort", desc := "([III)V" } : Jvm.MethodName) jdk_65_method_3_code (3 : Nat) (Option.none : Option Jvm.ClassFile.FieldType)).before a0 Z = true := hw _ (List.mem_of_getElem? (i := 81) rfl)
theorem wd_80 {a0 : Array Value} {Z : State} (hw : ∀ d ∈ tables_1, d.before a0 Z = true) : (Jvm.Cond.static ({ cls := "java/util/Arrays", name := "sort", desc := "([III)V" } : Jvm.MethodName)).before a0 Z = true := hw _ (List.mem_of_getElem? (i := 80) rfl)
theorem d11_19 : decode prog_68_method_3_code 19 = .ok (.aload_n 0, 1) := by decide +kernel
theorem d11_20 : decode prog_68_method_3_code 20 = .ok (.iconst 1, 1) := by decide +kernel
theorem d11_21 : decode prog_68_method_3_code 21 = .ok (.putfield 16, 3) := by decide +kernel
theorem d11_24 : decode prog_68_method_3_code 24 = .ok (.return_, 1) := by decide +kernel
theorem ef_11 (m : MethodId) (x0 : Addr) : entryFrame m #[(.ref x0)] 1 = mkF m 0 #[.val (.ref x0)] [] := by first | (simp [entryFrame, mkF, argsToLocals, Value.category]; done) | rfl
def Q_rmo2 (Z : State) (a1 : Addr) (pa : Addr) (ka : ClassId) (x0 : Int32) (x1 : Int32) (h0 : Heap) (n0 : Nat) (v : Option Value) (h : Heap) (L : List Loc) : Prop := ∃ r0 : Int32, ∃ r1 : Int32, v = none ∧ Fr n0 L ∧ Keep h0 h [a1, pa] ∧ (Fld Z h a1 "com/example/kawi/kawi/OrderedNames" "places" "[I" (.ref pa)) ∧ (Fld Z h a1 "com/example/kawi/kawi/OrderedNames" "size" "I" (.int (2 : Int32))) ∧ (Arv Z h pa ka .int (2 : Int32) [(.int r0), (.int r1)] (.int (0 : Int32))) ∧ (r1 = (if x0 < x1 then x1 else x0))
set_option maxRecDepth 65536 in
set_option maxHeartbeats 40000000 in
theorem rmo2 (l : Launch) (Z : State) (a0 : Array Value) (hw : ∀ d ∈ tables_1, d.before a0 Z = true) (ws : List Jvm.Cond) (a1 : Addr) (pa : Addr) (ka : ClassId) (x0 : Int32) (x1 : Int32) (h0 : Heap) (n0 : Nat) (Z0 : n0 ≤ h0.size) (F_places_a1 : Fld Z h0 a1 "com/example/kawi/kawi/OrderedNames" "places" "[I" (.ref pa)) (F_ordered_a1 : Fld Z h0 a1 "com/example/kawi/kawi/OrderedNames" "ordered" "Z" (.int (0 : Int32))) (F_size_a1 : Fld Z h0 a1 "com/example/kawi/kawi/OrderedNames" "size" "I" (.int (2 : Int32))) (E_a1 : Exa Z h0 a1 "com/example/kawi/kawi/OrderedNames") (g_a1 : n0 ≤ a1) (g_pa : n0 ≤ pa) (V_pa : Arv Z h0 pa ka .int (2 : Int32) [(.int x0), (.int x1)] (.int (0 : Int32))) (ne_pa_a1 : pa ≠ a1) :
    MetFree l (⟨"com/example/kawi/kawi/OrderedNames", "order", "()V"⟩ : MethodName) (head1 (Jvm.Cond.code (⟨"com/example/kawi/kawi/OrderedNames", "order", "()V"⟩ : MethodName) prog_68_method_3_code 1 none :: ws) ({ frames := 4, cells := 0, slots := 0, locals := 81 } : Room)) (fun a U => a = #[(.ref a1)] ∧ Z.Warmed39 U.vm ∧ U.heap = h0) (fun _ _ _ _ _ => True) (fun _ U o U' => ∃ v L, o = .returned v ∧ Q_rmo2 Z a1 pa ka x0 x1 h0 n0 v U'.heap L ∧ FrameEnd U o U' L ({ frames := 4, cells := 0, slots := 0, locals := 81 } : Room).cells ({ frames := 4, cells := 0, slots := 0, locals := 81 } : Room).slots) := by
  refine MetFree.of_bodySF (plainFor_of_name pn_com_example_kawi_kawi_OrderedNames) hisR ?_
  intro p e s m args below meth c s₁ Bd hml0 hP hK
  obtain ⟨rfl, hZ, hh⟩ := hP
  have hx := Bd.exec
  have hby := Bd.bytes
  have hml : c.maxLocals = 1 := hml0
  have hown : s.vm.findClass "com/example/kawi/kawi/OrderedNames" = some m.cls := findClass_of_methodNamed Bd.named
  have hnm := (name_of_methodNamed Bd.named Bd.method).1
  have X0 : Stand p l e ({ frames := 4, cells := 0, slots := 0, locals := 81 } : Room) s m #[(.ref a1)] below meth c s₁ [] 0 0 := Stand.of_body Bd
  have e0 : s₁.heap = h0 := by rw [← hh, Bd.state]; rfl
  have N0 := Fr.nil n0
  have pre0 : ∀ t, Steps p.tables e below (s₁.setTop (mkF m 0 #[.val (.ref a1)] [])) t → Steps p.tables e below (s₁.setTop (entryFrame m #[(.ref a1)] 1)) t := fun t k => castTop (ef_11 m a1) k
  obtain ⟨T277, X277, e277, st277⟩ := getF X0 hx hZ hown (host := "") (Or.inl (wd_39 hw)) Via.refl e0 F_ordered_a1 (g := (mkF m 1 #[.val (.ref a1)] [(.ref a1)])) rfl rfl (hb hby d11_1)
  obtain ⟨T278, X278, e278, st278⟩ := getF X277 hx hZ hown (host := "") (Or.inl (wd_37 hw)) Via.refl e277 F_places_a1 (g := (mkF m 8 #[.val (.ref a1)] [(.ref a1)])) rfl rfl (hb hby d11_8)
  obtain ⟨T279, X279, e279, st279⟩ := getF X278 hx hZ hown (host := "") (Or.inl (wd_48 hw)) Via.refl e278 F_size_a1 (g := (mkF m 13 #[.val (.ref a1)] [(.ref a1), (.int (0 : Int32)), (.ref pa)])) rfl rfl (hb hby d11_13)
  obtain ⟨_, _, ⟨T280, L280, k280, n280⟩, -, X280, ⟨Lc280, hQ280, l280, y280, z280⟩, st280⟩ := Jvm.LawKit.callS X279 hx (y := (⟨"java/util/Arrays", "sort", "([III)V"⟩ : MethodName)) hown (mvT hZ (wd_79 hw)) (mvT hZ (wd_80 hw)) (mvT hZ (wd_61 hw)) (mvT hZ (wd_81 hw)) (by decide) (backOf (W := 0) (rmas2 l Z a0 hw [] pa ka x0 x1 h0 n0 Z0 V_pa g_pa) hZ (wd_81 hw) (wd_61 hw) (by decide) (by decide)) (g := (mkF m 16 #[.val (.ref a1)] [(.int (2 : Int32)), (.int (0 : Int32)), (.ref pa)])) rfl (by rw [hml]; rfl) (argsL := [(.ref pa), (.int (0 : Int32)), (.int (2 : Int32))]) (rest := []) (lenOf pd___III_V rfl) rfl (by show 2 * 0 + _ ≤ _; exact Nat.le_of_eq rfl) (hb hby d11_16) (fun _ _ => ⟨rfl, e279, (by decide : 0 + 0 ≤ _), (by decide : 0 + 0 ≤ _)⟩)
  dsimp only [Pt.U, Pt.locs, Pt.cells, Pt.slots] at X280 l280 y280 z280 st280 hQ280
  subst l280 y280 z280
  obtain ⟨r0_280, r1_280, rfl, N280q, K280q, g280_0, g280_1⟩ := hQ280
  have N280 := Fr.app N0 N280q
  have Z281 : n0 ≤ T280.heap.size := Nat.le_trans Z0 K280q.1
  have K282 : Keep h0 T280.heap [a1, pa] := Keep.trans (Keep.refl h0 [a1, pa]) K280q (allS (Or.inl (List.mem_of_getElem? (i := 1) rfl)) all0)
  obtain ⟨T283, h283, X283, e283, W283, st283⟩ := putFN X280 hx hZ hown (wd_39 hw) Via.refl rfl (F_ordered_a1.keep K280q (ninS (Ne.symm ne_pa_a1) nin0)) (E_a1.keep K280q) (Or.inl (wd_40 hw)) (wd_1 hw) (ty := .boolean) (v' := (.int (1 : Int32))) (by decide) rfl rfl (g := (mkF m 21 #[.val (.ref a1)] [(.int (1 : Int32)), (.ref a1)])) rfl rfl (hb hby d11_21)
  have Fw283 := (F_ordered_a1.keep K280q (ninS (Ne.symm ne_pa_a1) nin0)).same W283
  have Z284 : n0 ≤ h283.size := Nat.le_trans Z281 (Keep.of_wr W283).1
  have K285 : Keep h0 h283 [a1, pa] := Keep.wr K282 W283 (Or.inl (List.mem_of_getElem? (i := 0) rfl))
  have N283 := Fr.snoc X283 N280 g_a1
  obtain ⟨fs, hr, hrun, hended, hW, hsame⟩ := X283.leave (v := none) (fun _ => rfl)
  refine ⟨_, _, pre0 _ ?_, hrun, hended, _, _, rfl, ?_, ⟨_, rfl⟩, hW, hsame.mono (by decide) (by decide)⟩
  · show Steps p.tables e below (s₁.setTop (mkF m 0 #[.val (.ref a1)] [])) _
    refine XS.aloadN X0.here hx rfl (hb hby d11_0) rfl rfl ?_
    refine st277 _ ?_
    refine XS.ifNo X277.here hx rfl (hb hby d11_4) rfl ((if0 _ _).trans (teq (rfl : (0 : Int32) = (0 : Int32))).2) ?_
    refine XS.aloadN X277.here hx rfl (hb hby d11_7) rfl rfl ?_
    show Steps p.tables e below (T277.setTop (mkF m 8 #[.val (.ref a1)] [(.ref a1)])) _
    refine st278 _ ?_
    refine XS.iconst X278.here hx rfl (hb hby d11_11) ?_
    refine XS.aloadN X278.here hx rfl (hb hby d11_12) rfl rfl ?_
    refine st279 _ ?_
    show Steps p.tables e below (T279.setTop (mkF m 16 #[.val (.ref a1)] [(.int (2 : Int32)), (.int (0 : Int32)), (.ref pa)])) _
    refine st280 _ ?_
    refine XS.aloadN X280.here hx rfl (hb hby d11_19) rfl rfl ?_
    refine XS.iconst X280.here hx rfl (hb hby d11_20) ?_
    refine st283 _ ?_
    show Steps p.tables e below (T283.setTop (mkF m 24 #[.val (.ref a1)] [])) _
    exact X283.returnOut hx Bd.returns (hb hby d11_24) hr
  · show Q_rmo2 Z a1 pa ka x0 x1 h0 n0 _ T283.heap _
    rw [e283]
    exact ⟨r0_280, r1_280, rfl, N283, K285, ((F_places_a1.keep K280q (ninS (Ne.symm ne_pa_a1) nin0)).other W283 (Or.inr (slot_ne (Or.inl (wd_38 hw)) (Or.inl (wd_40 hw)) (by decide) (t := (.array .int)) (t' := .boolean) (by decide) (by decide)))), ((F_size_a1.keep K280q (ninS (Ne.symm ne_pa_a1) nin0)).other W283 (Or.inr (slot_ne (Or.inl (wd_49 hw)) (Or.inl (wd_40 hw)) (by decide) (t := .int) (t' := .boolean) (by decide) (by decide)))), (g280_0.other W283 ne_pa_a1), g280_1⟩
def Q_rmis3 (Z : State) (a1 : Addr) (ka : ClassId) (x0 : Int32) (x1 : Int32) (x2 : Int32) (h0 : Heap) (n0 : Nat) (v : Option Value) (h : Heap) (L : List Loc) : Prop := ∃ r0 : Int32, ∃ r1 : Int32, ∃ r2 : Int32, v = none ∧ Fr n0 L ∧ Keep h0 h [a1] ∧ (Arv Z h a1 ka .int (4 : Int32) [(.int r0), (.int r1), (.int r2), (.int (0 : Int32))] (.int (0 : Int32))) ∧ (r2 = (if x0 < (if x1 < x2 then x2 else x1) then (if x1 < x2 then x2 else x1) else x0))
set_option maxRecDepth 65536 in
set_option maxHeartbeats 40000000 in
theorem rmis3 (l : Launch) (Z : State) (a0 : Array Value) (hw : ∀ d ∈ tables_1, d.before a0 Z = true) (ws : List Jvm.Cond) (a1 : Addr) (ka : ClassId) (x0 : Int32) (x1 : Int32) (x2 : Int32) (h0 : Heap) (n0 : Nat) (Z0 : n0 ≤ h0.size) (V_a1 : Arv Z h0 a1 ka .int (4 : Int32) [(.int x0), (.int x1), (.int x2), (.int (0 : Int32))] (.int (0 : Int32))) (g_a1 : n0 ≤ a1) :
    MetFree l (⟨"java/util/DualPivotQuicksort", "insertionSort", "([III)V"⟩ : MethodName) (head1 (Jvm.Cond.code (⟨"java/util/DualPivotQuicksort", "insertionSort", "([III)V"⟩ : MethodName) jdk_2529_method_6_code 6 none :: ws) ({ frames := 0, cells := 0, slots := 0, locals := 0 } : Room)) (fun a U => a = #[(.ref a1), (.int (0 : Int32)), (.int (3 : Int32))] ∧ Z.Warmed39 U.vm ∧ U.heap = h0) (fun _ _ _ _ _ => True) (fun _ U o U' => ∃ v L, o = .returned v ∧ Q_rmis3 Z a1 ka x0 x1 x2 h0 n0 v U'.heap L ∧ FrameEnd U o U' L ({ frames := 0, cells := 0, slots := 0, locals := 0 } : Room).cells ({ frames := 0, cells := 0, slots := 0, locals := 0 } : Room).slots) := by
  refine MetFree.of_bodySF (plainFor_of_name pn_java_util_DualPivotQuicksort) hisR ?_
  intro p e s m args below meth c s₁ Bd hml0 hP hK
  obtain ⟨rfl, hZ, hh⟩ := hP
  have hx := Bd.exec
  have hby := Bd.bytes
  have hml : c.maxLocals = 6 := hml0
  have hown : s.vm.findClass "java/util/DualPivotQuicksort" = some m.cls := findClass_of_methodNamed Bd.named
  have hnm := (name_of_methodNamed Bd.named Bd.method).1
  have X0 : Stand p l e ({ frames := 0, cells := 0, slots := 0, locals := 0 } : Room) s m #[(.ref a1), (.int (0 : Int32)), (.int (3 : Int32))] below meth c s₁ [] 0 0 := Stand.of_body Bd
  have e0 : s₁.heap = h0 := by rw [← hh, Bd.state]; rfl
  have N0 := Fr.nil n0
  have pre0 : ∀ t, Steps p.tables e below (s₁.setTop (mkF m 0 #[.val (.ref a1), .val (.int (0 : Int32)), .val (.int (3 : Int32)), .unset, .unset, .unset] [])) t → Steps p.tables e below (s₁.setTop (entryFrame m #[(.ref a1), (.int (0 : Int32)), (.int (3 : Int32))] 6)) t := fun t k => castTop (ef_16 m a1 (0 : Int32) (3 : Int32)) k
  obtain ⟨cl286, Ar286, q286, S286, N286n, H286, G286⟩ := id (V_a1)
  have hin286 : ¬ ((1 : Int32) < 0 ∨ cl286.slots.size ≤ ((1 : Int32)).toNatClampNeg) := inb_of S286 ⟨by decide, by decide⟩
  have hat286 : cl286.slots[((1 : Int32)).toNatClampNeg]? = some (.int x1) := H286.at hin286 rfl
  obtain ⟨cl287, Ar287, q287, S287, N287n, H287, G287⟩ := id (V_a1)
  have hin287 : ¬ ((0 : Int32) < 0 ∨ cl287.slots.size ≤ ((0 : Int32)).toNatClampNeg) := inb_of S287 ⟨by decide, by decide⟩
  have hat287 : cl287.slots[((0 : Int32)).toNatClampNeg]? = some (.int x0) := H287.at hin287 rfl
  have pre289 : ∀ t, Steps p.tables e below (s₁.setTop (mkF m 27 #[.val (.ref a1), .val (.int (0 : Int32)), .val (.int (3 : Int32)), .val (.int (1 : Int32)), .val (.int (1 : Int32)), .val (.int x1)] [(.int x0), (.int x1)])) t → Steps p.tables e below (s₁.setTop (entryFrame m #[(.ref a1), (.int (0 : Int32)), (.int (3 : Int32))] 6)) t := by
    intro t kt
    refine pre0 _ ?_
    show Steps p.tables e below (s₁.setTop (mkF m 0 #[.val (.ref a1), .val (.int (0 : Int32)), .val (.int (3 : Int32)), .unset, .unset, .unset] [])) _
    refine XS.iloadN X0.here hx rfl (hb hby d16_0) rfl ?_
    refine XS.istore X0.here hx rfl (hb hby d16_1) rfl (l' := #[.val (.ref a1), .val (.int (0 : Int32)), .val (.int (3 : Int32)), .unset, .val (.int (0 : Int32)), .unset]) rfl ?_
    refine XS.iinc X0.here hx rfl (hb hby d16_3) rfl (l' := #[.val (.ref a1), .val (.int (0 : Int32)), .val (.int (3 : Int32)), .unset, .val (.int (1 : Int32)), .unset]) rfl ?_
    refine XS.iload X0.here hx rfl (hb hby d16_6) rfl ?_
    show Steps p.tables e below (s₁.setTop (mkF m 8 #[.val (.ref a1), .val (.int (0 : Int32)), .val (.int (3 : Int32)), .unset, .val (.int (1 : Int32)), .unset] [(.int (1 : Int32))])) _
    refine XS.iloadN X0.here hx rfl (hb hby d16_8) rfl ?_
    refine XS.icmpNo X0.here hx rfl (hb hby d16_9) rfl (tlt (by decide)).2.1 ?_
    refine XS.aloadN X0.here hx rfl (hb hby d16_12) rfl rfl ?_
    refine XS.iload X0.here hx rfl (hb hby d16_13) rfl ?_
    show Steps p.tables e below (s₁.setTop (mkF m 15 #[.val (.ref a1), .val (.int (0 : Int32)), .val (.int (3 : Int32)), .unset, .val (.int (1 : Int32)), .unset] [(.int (1 : Int32)), (.ref a1)])) _
    refine XS.dup X0.here hx rfl (hb hby d16_15) rfl rfl ?_
    refine XS.istoreN X0.here hx rfl (hb hby d16_16) rfl (l' := #[.val (.ref a1), .val (.int (0 : Int32)), .val (.int (3 : Int32)), .val (.int (1 : Int32)), .val (.int (1 : Int32)), .unset]) rfl ?_
    refine X0.iaload hx (j := (1 : Int32)) (v := (.int x1)) (by rw [e0]; exact Ar286.1) (State.isArrayOf_alike hZ.alike Ar286.2.1) Ar286.2.2 hin286 hat286 (g := (mkF m 17 #[.val (.ref a1), .val (.int (0 : Int32)), .val (.int (3 : Int32)), .val (.int (1 : Int32)), .val (.int (1 : Int32)), .unset] [(.int (1 : Int32)), (.ref a1)])) rfl rfl (hb hby d16_17) _ ?_
    refine XS.istore X0.here hx rfl (hb hby d16_18) rfl (l' := #[.val (.ref a1), .val (.int (0 : Int32)), .val (.int (3 : Int32)), .val (.int (1 : Int32)), .val (.int (1 : Int32)), .val (.int x1)]) rfl ?_
    show Steps p.tables e below (s₁.setTop (mkF m 20 #[.val (.ref a1), .val (.int (0 : Int32)), .val (.int (3 : Int32)), .val (.int (1 : Int32)), .val (.int (1 : Int32)), .val (.int x1)] [])) _
    refine XS.iload X0.here hx rfl (hb hby d16_20) rfl ?_
    refine XS.aloadN X0.here hx rfl (hb hby d16_22) rfl rfl ?_
    refine XS.iloadN X0.here hx rfl (hb hby d16_23) rfl ?_
    refine XS.iconst X0.here hx rfl (hb hby d16_24) ?_
    show Steps p.tables e below (s₁.setTop (mkF m 25 #[.val (.ref a1), .val (.int (0 : Int32)), .val (.int (3 : Int32)), .val (.int (1 : Int32)), .val (.int (1 : Int32)), .val (.int x1)] [(.int (1 : Int32)), (.int (1 : Int32)), (.ref a1), (.int x1)])) _
    refine XS.isub X0.here hx rfl (hb hby d16_25) rfl ?_
    refine X0.iaload hx (j := (0 : Int32)) (v := (.int x0)) (by rw [e0]; exact Ar287.1) (State.isArrayOf_alike hZ.alike Ar287.2.1) Ar287.2.2 hin287 hat287 (g := (mkF m 26 #[.val (.ref a1), .val (.int (0 : Int32)), .val (.int (3 : Int32)), .val (.int (1 : Int32)), .val (.int (1 : Int32)), .val (.int x1)] [(.int (0 : Int32)), (.ref a1), (.int x1)])) rfl rfl (hb hby d16_26) _ ?_
    exact kt
  by_cases hc27_288 : x1 < x0
  · obtain ⟨cl290, Ar290, q290, S290, N290n, H290, G290⟩ := id (V_a1)
    have hin290 : ¬ ((0 : Int32) < 0 ∨ cl290.slots.size ≤ ((0 : Int32)).toNatClampNeg) := inb_of S290 ⟨by decide, by decide⟩
    have hat290 : cl290.slots[((0 : Int32)).toNatClampNeg]? = some (.int x0) := H290.at hin290 rfl
    obtain ⟨cl291, Ar291, q291, S291, N291n, H291, G291⟩ := id (V_a1)
    have hin291 : ¬ ((0 : Int32) < 0 ∨ cl291.slots.size ≤ ((0 : Int32)).toNatClampNeg) := inb_of S291 ⟨by decide, by decide⟩
    have hat291 : cl291.slots[((0 : Int32)).toNatClampNeg]? = some (.int x0) := H291.at hin291 rfl
    obtain ⟨cl292, Ar292, q292, S292, N292n, H292, G292⟩ := id (V_a1)
    have hin292 : ¬ ((1 : Int32) < 0 ∨ cl292.slots.size ≤ ((1 : Int32)).toNatClampNeg) := inb_of S292 ⟨by decide, by decide⟩
    obtain ⟨T293, h293, X293, e293, W293, st293⟩ := stI X0 hx hZ e0 Ar292 (j := (1 : Int32)) hin292 (g := (mkF m 53 #[.val (.ref a1), .val (.int (0 : Int32)), .val (.int (3 : Int32)), .val (.int (0 : Int32)), .val (.int (1 : Int32)), .val (.int x1)] [(.int x0), (.int (1 : Int32)), (.ref a1)])) rfl rfl (hb hby d16_53)
    have V_a1_293 : Arv Z h293 a1 ka .int (4 : Int32) [(.int x0), (.int x0), (.int x2), (.int (0 : Int32))] (.int (0 : Int32)) := Arv.set Ar292 q292 S292 N292n H292 G292 rfl W293 1 rfl (Nat.le_of_ble_eq_true rfl)
    have Z294 : n0 ≤ h293.size := Nat.le_trans Z0 (Keep.of_wr W293).1
    have K295 : Keep h0 h293 [a1] := Keep.wr (Keep.refl h0 [a1]) W293 (Or.inl (List.mem_of_getElem? (i := 0) rfl))
    have N293 := Fr.snoc X293 N0 g_a1
    obtain ⟨cl296, Ar296, q296, S296, N296n, H296, G296⟩ := id (V_a1_293)
    have hin296 : ¬ ((0 : Int32) < 0 ∨ cl296.slots.size ≤ ((0 : Int32)).toNatClampNeg) := inb_of S296 ⟨by decide, by decide⟩
    obtain ⟨T297, h297, X297, e297, W297, st297⟩ := stI X293 hx hZ e293 Ar296 (j := (0 : Int32)) hin296 (g := (mkF m 63 #[.val (.ref a1), .val (.int (0 : Int32)), .val (.int (3 : Int32)), .val (.int (-1 : Int32)), .val (.int (1 : Int32)), .val (.int x1)] [(.int x1), (.int (0 : Int32)), (.ref a1)])) rfl rfl (hb hby d16_63)
    have V_a1_297 : Arv Z h297 a1 ka .int (4 : Int32) [(.int x1), (.int x0), (.int x2), (.int (0 : Int32))] (.int (0 : Int32)) := Arv.set Ar296 q296 S296 N296n H296 G296 rfl W297 0 rfl (Nat.le_of_ble_eq_true rfl)
    have Z298 : n0 ≤ h297.size := Nat.le_trans Z294 (Keep.of_wr W297).1
    have K299 : Keep h0 h297 [a1] := Keep.wr K295 W297 (Or.inl (List.mem_of_getElem? (i := 0) rfl))
    have N297 := Fr.snoc X297 N293 g_a1
    obtain ⟨cl300, Ar300, q300, S300, N300n, H300, G300⟩ := id (V_a1_297)
    have hin300 : ¬ ((2 : Int32) < 0 ∨ cl300.slots.size ≤ ((2 : Int32)).toNatClampNeg) := inb_of S300 ⟨by decide, by decide⟩
    have hat300 : cl300.slots[((2 : Int32)).toNatClampNeg]? = some (.int x2) := H300.at hin300 rfl
    obtain ⟨cl301, Ar301, q301, S301, N301n, H301, G301⟩ := id (V_a1_297)
    have hin301 : ¬ ((1 : Int32) < 0 ∨ cl301.slots.size ≤ ((1 : Int32)).toNatClampNeg) := inb_of S301 ⟨by decide, by decide⟩
    have hat301 : cl301.slots[((1 : Int32)).toNatClampNeg]? = some (.int x0) := H301.at hin301 rfl
    have pre303 : ∀ t, Steps p.tables e below (T297.setTop (mkF m 27 #[.val (.ref a1), .val (.int (0 : Int32)), .val (.int (3 : Int32)), .val (.int (2 : Int32)), .val (.int (2 : Int32)), .val (.int x2)] [(.int x0), (.int x2)])) t → Steps p.tables e below (s₁.setTop (entryFrame m #[(.ref a1), (.int (0 : Int32)), (.int (3 : Int32))] 6)) t := by
      intro t kt
      refine pre289 _ ?_
      show Steps p.tables e below (s₁.setTop (mkF m 27 #[.val (.ref a1), .val (.int (0 : Int32)), .val (.int (3 : Int32)), .val (.int (1 : Int32)), .val (.int (1 : Int32)), .val (.int x1)] [(.int x0), (.int x1)])) _
      refine XS.icmpNo X0.here hx rfl (hb hby d16_27) rfl (tlt hc27_288).2.1 ?_
      refine XS.iinc X0.here hx rfl (hb hby d16_30) rfl (l' := #[.val (.ref a1), .val (.int (0 : Int32)), .val (.int (3 : Int32)), .val (.int (0 : Int32)), .val (.int (1 : Int32)), .val (.int x1)]) rfl ?_
      show Steps p.tables e below (s₁.setTop (mkF m 33 #[.val (.ref a1), .val (.int (0 : Int32)), .val (.int (3 : Int32)), .val (.int (0 : Int32)), .val (.int (1 : Int32)), .val (.int x1)] [])) _
      refine XS.iloadN X0.here hx rfl (hb hby d16_33) rfl ?_
      refine XS.iloadN X0.here hx rfl (hb hby d16_34) rfl ?_
      refine XS.icmpNo X0.here hx rfl (hb hby d16_35) rfl (flt (by decide)).1 ?_
      refine XS.iload X0.here hx rfl (hb hby d16_38) rfl ?_
      show Steps p.tables e below (s₁.setTop (mkF m 40 #[.val (.ref a1), .val (.int (0 : Int32)), .val (.int (3 : Int32)), .val (.int (0 : Int32)), .val (.int (1 : Int32)), .val (.int x1)] [(.int x1)])) _
      refine XS.aloadN X0.here hx rfl (hb hby d16_40) rfl rfl ?_
      refine XS.iloadN X0.here hx rfl (hb hby d16_41) rfl ?_
      refine X0.iaload hx (j := (0 : Int32)) (v := (.int x0)) (by rw [e0]; exact Ar290.1) (State.isArrayOf_alike hZ.alike Ar290.2.1) Ar290.2.2 hin290 hat290 (g := (mkF m 42 #[.val (.ref a1), .val (.int (0 : Int32)), .val (.int (3 : Int32)), .val (.int (0 : Int32)), .val (.int (1 : Int32)), .val (.int x1)] [(.int (0 : Int32)), (.ref a1), (.int x1)])) rfl rfl (hb hby d16_42) _ ?_
      refine XS.icmpNo X0.here hx rfl (hb hby d16_43) rfl (tlt hc27_288).2.1 ?_
      show Steps p.tables e below (s₁.setTop (mkF m 46 #[.val (.ref a1), .val (.int (0 : Int32)), .val (.int (3 : Int32)), .val (.int (0 : Int32)), .val (.int (1 : Int32)), .val (.int x1)] [])) _
      refine XS.aloadN X0.here hx rfl (hb hby d16_46) rfl rfl ?_
      refine XS.iloadN X0.here hx rfl (hb hby d16_47) rfl ?_
      refine XS.iconst X0.here hx rfl (hb hby d16_48) ?_
      refine XS.iadd X0.here hx rfl (hb hby d16_49) rfl ?_
      show Steps p.tables e below (s₁.setTop (mkF m 50 #[.val (.ref a1), .val (.int (0 : Int32)), .val (.int (3 : Int32)), .val (.int (0 : Int32)), .val (.int (1 : Int32)), .val (.int x1)] [(.int (1 : Int32)), (.ref a1)])) _
      refine XS.aloadN X0.here hx rfl (hb hby d16_50) rfl rfl ?_
      refine XS.iloadN X0.here hx rfl (hb hby d16_51) rfl ?_
      refine X0.iaload hx (j := (0 : Int32)) (v := (.int x0)) (by rw [e0]; exact Ar291.1) (State.isArrayOf_alike hZ.alike Ar291.2.1) Ar291.2.2 hin291 hat291 (g := (mkF m 52 #[.val (.ref a1), .val (.int (0 : Int32)), .val (.int (3 : Int32)), .val (.int (0 : Int32)), .val (.int (1 : Int32)), .val (.int x1)] [(.int (0 : Int32)), (.ref a1), (.int (1 : Int32)), (.ref a1)])) rfl rfl (hb hby d16_52) _ ?_
      refine st293 _ ?_
      show Steps p.tables e below (T293.setTop (mkF m 54 #[.val (.ref a1), .val (.int (0 : Int32)), .val (.int (3 : Int32)), .val (.int (0 : Int32)), .val (.int (1 : Int32)), .val (.int x1)] [])) _
      refine XS.goto X293.here hx rfl (pc0 := 54) (pc' := 30) rfl (hb hby d16_54) (by decide) (by decide) ?_
      refine XS.iinc X293.here hx rfl (hb hby d16_30) rfl (l' := #[.val (.ref a1), .val (.int (0 : Int32)), .val (.int (3 : Int32)), .val (.int (-1 : Int32)), .val (.int (1 : Int32)), .val (.int x1)]) rfl ?_
      refine XS.iloadN X293.here hx rfl (hb hby d16_33) rfl ?_
      refine XS.iloadN X293.here hx rfl (hb hby d16_34) rfl ?_
      show Steps p.tables e below (T293.setTop (mkF m 35 #[.val (.ref a1), .val (.int (0 : Int32)), .val (.int (3 : Int32)), .val (.int (-1 : Int32)), .val (.int (1 : Int32)), .val (.int x1)] [(.int (0 : Int32)), (.int (-1 : Int32))])) _
      refine XS.icmpYes X293.here hx rfl (pc0 := 35) (pc' := 57) rfl (hb hby d16_35) rfl (tlt (by decide)).1 (by decide) (by decide) ?_
      refine XS.aloadN X293.here hx rfl (hb hby d16_57) rfl rfl ?_
      refine XS.iloadN X293.here hx rfl (hb hby d16_58) rfl ?_
      refine XS.iconst X293.here hx rfl (hb hby d16_59) ?_
      show Steps p.tables e below (T293.setTop (mkF m 60 #[.val (.ref a1), .val (.int (0 : Int32)), .val (.int (3 : Int32)), .val (.int (-1 : Int32)), .val (.int (1 : Int32)), .val (.int x1)] [(.int (1 : Int32)), (.int (-1 : Int32)), (.ref a1)])) _
      refine XS.iadd X293.here hx rfl (hb hby d16_60) rfl ?_
      refine XS.iload X293.here hx rfl (hb hby d16_61) rfl ?_
      refine st297 _ ?_
      refine XS.goto X297.here hx rfl (pc0 := 64) (pc' := 3) rfl (hb hby d16_64) (by decide) (by decide) ?_
      show Steps p.tables e below (T297.setTop (mkF m 3 #[.val (.ref a1), .val (.int (0 : Int32)), .val (.int (3 : Int32)), .val (.int (-1 : Int32)), .val (.int (1 : Int32)), .val (.int x1)] [])) _
      refine XS.iinc X297.here hx rfl (hb hby d16_3) rfl (l' := #[.val (.ref a1), .val (.int (0 : Int32)), .val (.int (3 : Int32)), .val (.int (-1 : Int32)), .val (.int (2 : Int32)), .val (.int x1)]) rfl ?_
      refine XS.iload X297.here hx rfl (hb hby d16_6) rfl ?_
      refine XS.iloadN X297.here hx rfl (hb hby d16_8) rfl ?_
      refine XS.icmpNo X297.here hx rfl (hb hby d16_9) rfl (tlt (by decide)).2.1 ?_
      show Steps p.tables e below (T297.setTop (mkF m 12 #[.val (.ref a1), .val (.int (0 : Int32)), .val (.int (3 : Int32)), .val (.int (-1 : Int32)), .val (.int (2 : Int32)), .val (.int x1)] [])) _
      refine XS.aloadN X297.here hx rfl (hb hby d16_12) rfl rfl ?_
      refine XS.iload X297.here hx rfl (hb hby d16_13) rfl ?_
      refine XS.dup X297.here hx rfl (hb hby d16_15) rfl rfl ?_
      refine XS.istoreN X297.here hx rfl (hb hby d16_16) rfl (l' := #[.val (.ref a1), .val (.int (0 : Int32)), .val (.int (3 : Int32)), .val (.int (2 : Int32)), .val (.int (2 : Int32)), .val (.int x1)]) rfl ?_
      show Steps p.tables e below (T297.setTop (mkF m 17 #[.val (.ref a1), .val (.int (0 : Int32)), .val (.int (3 : Int32)), .val (.int (2 : Int32)), .val (.int (2 : Int32)), .val (.int x1)] [(.int (2 : Int32)), (.ref a1)])) _
      refine X297.iaload hx (j := (2 : Int32)) (v := (.int x2)) (by rw [e297]; exact Ar300.1) (State.isArrayOf_alike hZ.alike Ar300.2.1) Ar300.2.2 hin300 hat300 (g := (mkF m 17 #[.val (.ref a1), .val (.int (0 : Int32)), .val (.int (3 : Int32)), .val (.int (2 : Int32)), .val (.int (2 : Int32)), .val (.int x1)] [(.int (2 : Int32)), (.ref a1)])) rfl rfl (hb hby d16_17) _ ?_
      refine XS.istore X297.here hx rfl (hb hby d16_18) rfl (l' := #[.val (.ref a1), .val (.int (0 : Int32)), .val (.int (3 : Int32)), .val (.int (2 : Int32)), .val (.int (2 : Int32)), .val (.int x2)]) rfl ?_
      refine XS.iload X297.here hx rfl (hb hby d16_20) rfl ?_
      refine XS.aloadN X297.here hx rfl (hb hby d16_22) rfl rfl ?_
      show Steps p.tables e below (T297.setTop (mkF m 23 #[.val (.ref a1), .val (.int (0 : Int32)), .val (.int (3 : Int32)), .val (.int (2 : Int32)), .val (.int (2 : Int32)), .val (.int x2)] [(.ref a1), (.int x2)])) _
      refine XS.iloadN X297.here hx rfl (hb hby d16_23) rfl ?_
      refine XS.iconst X297.here hx rfl (hb hby d16_24) ?_
      refine XS.isub X297.here hx rfl (hb hby d16_25) rfl ?_
      refine X297.iaload hx (j := (1 : Int32)) (v := (.int x0)) (by rw [e297]; exact Ar301.1) (State.isArrayOf_alike hZ.alike Ar301.2.1) Ar301.2.2 hin301 hat301 (g := (mkF m 26 #[.val (.ref a1), .val (.int (0 : Int32)), .val (.int (3 : Int32)), .val (.int (2 : Int32)), .val (.int (2 : Int32)), .val (.int x2)] [(.int (1 : Int32)), (.ref a1), (.int x2)])) rfl rfl (hb hby d16_26) _ ?_
      show Steps p.tables e below (T297.setTop (mkF m 27 #[.val (.ref a1), .val (.int (0 : Int32)), .val (.int (3 : Int32)), .val (.int (2 : Int32)), .val (.int (2 : Int32)), .val (.int x2)] [(.int x0), (.int x2)])) _
      exact kt
    by_cases hc27_302 : x2 < x0
    · obtain ⟨cl304, Ar304, q304, S304, N304n, H304, G304⟩ := id (V_a1_297)
      have hin304 : ¬ ((1 : Int32) < 0 ∨ cl304.slots.size ≤ ((1 : Int32)).toNatClampNeg) := inb_of S304 ⟨by decide, by decide⟩
      have hat304 : cl304.slots[((1 : Int32)).toNatClampNeg]? = some (.int x0) := H304.at hin304 rfl
      obtain ⟨cl305, Ar305, q305, S305, N305n, H305, G305⟩ := id (V_a1_297)
      have hin305 : ¬ ((1 : Int32) < 0 ∨ cl305.slots.size ≤ ((1 : Int32)).toNatClampNeg) := inb_of S305 ⟨by decide, by decide⟩
      have hat305 : cl305.slots[((1 : Int32)).toNatClampNeg]? = some (.int x0) := H305.at hin305 rfl
      obtain ⟨cl306, Ar306, q306, S306, N306n, H306, G306⟩ := id (V_a1_297)
      have hin306 : ¬ ((2 : Int32) < 0 ∨ cl306.slots.size ≤ ((2 : Int32)).toNatClampNeg) := inb_of S306 ⟨by decide, by decide⟩
      obtain ⟨T307, h307, X307, e307, W307, st307⟩ := stI X297 hx hZ e297 Ar306 (j := (2 : Int32)) hin306 (g := (mkF m 53 #[.val (.ref a1), .val (.int (0 : Int32)), .val (.int (3 : Int32)), .val (.int (1 : Int32)), .val (.int (2 : Int32)), .val (.int x2)] [(.int x0), (.int (2 : Int32)), (.ref a1)])) rfl rfl (hb hby d16_53)
      have V_a1_307 : Arv Z h307 a1 ka .int (4 : Int32) [(.int x1), (.int x0), (.int x0), (.int (0 : Int32))] (.int (0 : Int32)) := Arv.set Ar306 q306 S306 N306n H306 G306 rfl W307 2 rfl (Nat.le_of_ble_eq_true rfl)
      have Z308 : n0 ≤ h307.size := Nat.le_trans Z298 (Keep.of_wr W307).1
      have K309 : Keep h0 h307 [a1] := Keep.wr K299 W307 (Or.inl (List.mem_of_getElem? (i := 0) rfl))
      have N307 := Fr.snoc X307 N297 g_a1
      obtain ⟨cl310, Ar310, q310, S310, N310n, H310, G310⟩ := id (V_a1_307)
      have hin310 : ¬ ((0 : Int32) < 0 ∨ cl310.slots.size ≤ ((0 : Int32)).toNatClampNeg) := inb_of S310 ⟨by decide, by decide⟩
      have hat310 : cl310.slots[((0 : Int32)).toNatClampNeg]? = some (.int x1) := H310.at hin310 rfl
      have pre312 : ∀ t, Steps p.tables e below (T307.setTop (mkF m 43 #[.val (.ref a1), .val (.int (0 : Int32)), .val (.int (3 : Int32)), .val (.int (0 : Int32)), .val (.int (2 : Int32)), .val (.int x2)] [(.int x1), (.int x2)])) t → Steps p.tables e below (s₁.setTop (entryFrame m #[(.ref a1), (.int (0 : Int32)), (.int (3 : Int32))] 6)) t := by
        intro t kt
        refine pre303 _ ?_
        show Steps p.tables e below (T297.setTop (mkF m 27 #[.val (.ref a1), .val (.int (0 : Int32)), .val (.int (3 : Int32)), .val (.int (2 : Int32)), .val (.int (2 : Int32)), .val (.int x2)] [(.int x0), (.int x2)])) _
        refine XS.icmpNo X297.here hx rfl (hb hby d16_27) rfl (tlt hc27_302).2.1 ?_
        refine XS.iinc X297.here hx rfl (hb hby d16_30) rfl (l' := #[.val (.ref a1), .val (.int (0 : Int32)), .val (.int (3 : Int32)), .val (.int (1 : Int32)), .val (.int (2 : Int32)), .val (.int x2)]) rfl ?_
        refine XS.iloadN X297.here hx rfl (hb hby d16_33) rfl ?_
        refine XS.iloadN X297.here hx rfl (hb hby d16_34) rfl ?_
        show Steps p.tables e below (T297.setTop (mkF m 35 #[.val (.ref a1), .val (.int (0 : Int32)), .val (.int (3 : Int32)), .val (.int (1 : Int32)), .val (.int (2 : Int32)), .val (.int x2)] [(.int (0 : Int32)), (.int (1 : Int32))])) _
        refine XS.icmpNo X297.here hx rfl (hb hby d16_35) rfl (flt (by decide)).1 ?_
        refine XS.iload X297.here hx rfl (hb hby d16_38) rfl ?_
        refine XS.aloadN X297.here hx rfl (hb hby d16_40) rfl rfl ?_
        refine XS.iloadN X297.here hx rfl (hb hby d16_41) rfl ?_
        show Steps p.tables e below (T297.setTop (mkF m 42 #[.val (.ref a1), .val (.int (0 : Int32)), .val (.int (3 : Int32)), .val (.int (1 : Int32)), .val (.int (2 : Int32)), .val (.int x2)] [(.int (1 : Int32)), (.ref a1), (.int x2)])) _
        refine X297.iaload hx (j := (1 : Int32)) (v := (.int x0)) (by rw [e297]; exact Ar304.1) (State.isArrayOf_alike hZ.alike Ar304.2.1) Ar304.2.2 hin304 hat304 (g := (mkF m 42 #[.val (.ref a1), .val (.int (0 : Int32)), .val (.int (3 : Int32)), .val (.int (1 : Int32)), .val (.int (2 : Int32)), .val (.int x2)] [(.int (1 : Int32)), (.ref a1), (.int x2)])) rfl rfl (hb hby d16_42) _ ?_
        refine XS.icmpNo X297.here hx rfl (hb hby d16_43) rfl (tlt hc27_302).2.1 ?_
        refine XS.aloadN X297.here hx rfl (hb hby d16_46) rfl rfl ?_
        refine XS.iloadN X297.here hx rfl (hb hby d16_47) rfl ?_
        show Steps p.tables e below (T297.setTop (mkF m 48 #[.val (.ref a1), .val (.int (0 : Int32)), .val (.int (3 : Int32)), .val (.int (1 : Int32)), .val (.int (2 : Int32)), .val (.int x2)] [(.int (1 : Int32)), (.ref a1)])) _
        refine XS.iconst X297.here hx rfl (hb hby d16_48) ?_
        refine XS.iadd X297.here hx rfl (hb hby d16_49) rfl ?_
        refine XS.aloadN X297.here hx rfl (hb hby d16_50) rfl rfl ?_
        refine XS.iloadN X297.here hx rfl (hb hby d16_51) rfl ?_
        show Steps p.tables e below (T297.setTop (mkF m 52 #[.val (.ref a1), .val (.int (0 : Int32)), .val (.int (3 : Int32)), .val (.int (1 : Int32)), .val (.int (2 : Int32)), .val (.int x2)] [(.int (1 : Int32)), (.ref a1), (.int (2 : Int32)), (.ref a1)])) _
        refine X297.iaload hx (j := (1 : Int32)) (v := (.int x0)) (by rw [e297]; exact Ar305.1) (State.isArrayOf_alike hZ.alike Ar305.2.1) Ar305.2.2 hin305 hat305 (g := (mkF m 52 #[.val (.ref a1), .val (.int (0 : Int32)), .val (.int (3 : Int32)), .val (.int (1 : Int32)), .val (.int (2 : Int32)), .val (.int x2)] [(.int (1 : Int32)), (.ref a1), (.int (2 : Int32)), (.ref a1)])) rfl rfl (hb hby d16_52) _ ?_
        refine st307 _ ?_
        refine XS.goto X307.here hx rfl (pc0 := 54) (pc' := 30) rfl (hb hby d16_54) (by decide) (by decide) ?_
        refine XS.iinc X307.here hx rfl (hb hby d16_30) rfl (l' := #[.val (.ref a1), .val (.int (0 : Int32)), .val (.int (3 : Int32)), .val (.int (0 : Int32)), .val (.int (2 : Int32)), .val (.int x2)]) rfl ?_
        show Steps p.tables e below (T307.setTop (mkF m 33 #[.val (.ref a1), .val (.int (0 : Int32)), .val (.int (3 : Int32)), .val (.int (0 : Int32)), .val (.int (2 : Int32)), .val (.int x2)] [])) _
        refine XS.iloadN X307.here hx rfl (hb hby d16_33) rfl ?_
        refine XS.iloadN X307.here hx rfl (hb hby d16_34) rfl ?_
        refine XS.icmpNo X307.here hx rfl (hb hby d16_35) rfl (flt (by decide)).1 ?_
        refine XS.iload X307.here hx rfl (hb hby d16_38) rfl ?_
        show Steps p.tables e below (T307.setTop (mkF m 40 #[.val (.ref a1), .val (.int (0 : Int32)), .val (.int (3 : Int32)), .val (.int (0 : Int32)), .val (.int (2 : Int32)), .val (.int x2)] [(.int x2)])) _
        refine XS.aloadN X307.here hx rfl (hb hby d16_40) rfl rfl ?_
        refine XS.iloadN X307.here hx rfl (hb hby d16_41) rfl ?_
        refine X307.iaload hx (j := (0 : Int32)) (v := (.int x1)) (by rw [e307]; exact Ar310.1) (State.isArrayOf_alike hZ.alike Ar310.2.1) Ar310.2.2 hin310 hat310 (g := (mkF m 42 #[.val (.ref a1), .val (.int (0 : Int32)), .val (.int (3 : Int32)), .val (.int (0 : Int32)), .val (.int (2 : Int32)), .val (.int x2)] [(.int (0 : Int32)), (.ref a1), (.int x2)])) rfl rfl (hb hby d16_42) _ ?_
        exact kt
      by_cases hc43_311 : x2 < x1
      · obtain ⟨cl313, Ar313, q313, S313, N313n, H313, G313⟩ := id (V_a1_307)
        have hin313 : ¬ ((0 : Int32) < 0 ∨ cl313.slots.size ≤ ((0 : Int32)).toNatClampNeg) := inb_of S313 ⟨by decide, by decide⟩
        have hat313 : cl313.slots[((0 : Int32)).toNatClampNeg]? = some (.int x1) := H313.at hin313 rfl
        obtain ⟨cl314, Ar314, q314, S314, N314n, H314, G314⟩ := id (V_a1_307)
        have hin314 : ¬ ((1 : Int32) < 0 ∨ cl314.slots.size ≤ ((1 : Int32)).toNatClampNeg) := inb_of S314 ⟨by decide, by decide⟩
        obtain ⟨T315, h315, X315, e315, W315, st315⟩ := stI X307 hx hZ e307 Ar314 (j := (1 : Int32)) hin314 (g := (mkF m 53 #[.val (.ref a1), .val (.int (0 : Int32)), .val (.int (3 : Int32)), .val (.int (0 : Int32)), .val (.int (2 : Int32)), .val (.int x2)] [(.int x1), (.int (1 : Int32)), (.ref a1)])) rfl rfl (hb hby d16_53)
        have V_a1_315 : Arv Z h315 a1 ka .int (4 : Int32) [(.int x1), (.int x1), (.int x0), (.int (0 : Int32))] (.int (0 : Int32)) := Arv.set Ar314 q314 S314 N314n H314 G314 rfl W315 1 rfl (Nat.le_of_ble_eq_true rfl)
        have Z316 : n0 ≤ h315.size := Nat.le_trans Z308 (Keep.of_wr W315).1
        have K317 : Keep h0 h315 [a1] := Keep.wr K309 W315 (Or.inl (List.mem_of_getElem? (i := 0) rfl))
        have N315 := Fr.snoc X315 N307 g_a1
        obtain ⟨cl318, Ar318, q318, S318, N318n, H318, G318⟩ := id (V_a1_315)
        have hin318 : ¬ ((0 : Int32) < 0 ∨ cl318.slots.size ≤ ((0 : Int32)).toNatClampNeg) := inb_of S318 ⟨by decide, by decide⟩
        obtain ⟨T319, h319, X319, e319, W319, st319⟩ := stI X315 hx hZ e315 Ar318 (j := (0 : Int32)) hin318 (g := (mkF m 63 #[.val (.ref a1), .val (.int (0 : Int32)), .val (.int (3 : Int32)), .val (.int (-1 : Int32)), .val (.int (2 : Int32)), .val (.int x2)] [(.int x2), (.int (0 : Int32)), (.ref a1)])) rfl rfl (hb hby d16_63)
        have V_a1_319 : Arv Z h319 a1 ka .int (4 : Int32) [(.int x2), (.int x1), (.int x0), (.int (0 : Int32))] (.int (0 : Int32)) := Arv.set Ar318 q318 S318 N318n H318 G318 rfl W319 0 rfl (Nat.le_of_ble_eq_true rfl)
        have Z320 : n0 ≤ h319.size := Nat.le_trans Z316 (Keep.of_wr W319).1
        have K321 : Keep h0 h319 [a1] := Keep.wr K317 W319 (Or.inl (List.mem_of_getElem? (i := 0) rfl))
        have N319 := Fr.snoc X319 N315 g_a1
        obtain ⟨fs, hr, hrun, hended, hW, hsame⟩ := X319.leave (v := none) (fun _ => rfl)
        refine ⟨_, _, pre312 _ ?_, hrun, hended, _, _, rfl, ?_, ⟨_, rfl⟩, hW, hsame.mono (by decide) (by decide)⟩
        · show Steps p.tables e below (T307.setTop (mkF m 43 #[.val (.ref a1), .val (.int (0 : Int32)), .val (.int (3 : Int32)), .val (.int (0 : Int32)), .val (.int (2 : Int32)), .val (.int x2)] [(.int x1), (.int x2)])) _
          refine XS.icmpNo X307.here hx rfl (hb hby d16_43) rfl (tlt hc43_311).2.1 ?_
          show Steps p.tables e below (T307.setTop (mkF m 46 #[.val (.ref a1), .val (.int (0 : Int32)), .val (.int (3 : Int32)), .val (.int (0 : Int32)), .val (.int (2 : Int32)), .val (.int x2)] [])) _
          refine XS.aloadN X307.here hx rfl (hb hby d16_46) rfl rfl ?_
          refine XS.iloadN X307.here hx rfl (hb hby d16_47) rfl ?_
          refine XS.iconst X307.here hx rfl (hb hby d16_48) ?_
          refine XS.iadd X307.here hx rfl (hb hby d16_49) rfl ?_
          show Steps p.tables e below (T307.setTop (mkF m 50 #[.val (.ref a1), .val (.int (0 : Int32)), .val (.int (3 : Int32)), .val (.int (0 : Int32)), .val (.int (2 : Int32)), .val (.int x2)] [(.int (1 : Int32)), (.ref a1)])) _
          refine XS.aloadN X307.here hx rfl (hb hby d16_50) rfl rfl ?_
          refine XS.iloadN X307.here hx rfl (hb hby d16_51) rfl ?_
          refine X307.iaload hx (j := (0 : Int32)) (v := (.int x1)) (by rw [e307]; exact Ar313.1) (State.isArrayOf_alike hZ.alike Ar313.2.1) Ar313.2.2 hin313 hat313 (g := (mkF m 52 #[.val (.ref a1), .val (.int (0 : Int32)), .val (.int (3 : Int32)), .val (.int (0 : Int32)), .val (.int (2 : Int32)), .val (.int x2)] [(.int (0 : Int32)), (.ref a1), (.int (1 : Int32)), (.ref a1)])) rfl rfl (hb hby d16_52) _ ?_
          refine st315 _ ?_
          show Steps p.tables e below (T315.setTop (mkF m 54 #[.val (.ref a1), .val (.int (0 : Int32)), .val (.int (3 : Int32)), .val (.int (0 : Int32)), .val (.int (2 : Int32)), .val (.int x2)] [])) _
          refine XS.goto X315.here hx rfl (pc0 := 54) (pc' := 30) rfl (hb hby d16_54) (by decide) (by decide) ?_
          refine XS.iinc X315.here hx rfl (hb hby d16_30) rfl (l' := #[.val (.ref a1), .val (.int (0 : Int32)), .val (.int (3 : Int32)), .val (.int (-1 : Int32)), .val (.int (2 : Int32)), .val (.int x2)]) rfl ?_
          refine XS.iloadN X315.here hx rfl (hb hby d16_33) rfl ?_
          refine XS.iloadN X315.here hx rfl (hb hby d16_34) rfl ?_
          show Steps p.tables e below (T315.setTop (mkF m 35 #[.val (.ref a1), .val (.int (0 : Int32)), .val (.int (3 : Int32)), .val (.int (-1 : Int32)), .val (.int (2 : Int32)), .val (.int x2)] [(.int (0 : Int32)), (.int (-1 : Int32))])) _
          refine XS.icmpYes X315.here hx rfl (pc0 := 35) (pc' := 57) rfl (hb hby d16_35) rfl (tlt (by decide)).1 (by decide) (by decide) ?_
          refine XS.aloadN X315.here hx rfl (hb hby d16_57) rfl rfl ?_
          refine XS.iloadN X315.here hx rfl (hb hby d16_58) rfl ?_
          refine XS.iconst X315.here hx rfl (hb hby d16_59) ?_
          show Steps p.tables e below (T315.setTop (mkF m 60 #[.val (.ref a1), .val (.int (0 : Int32)), .val (.int (3 : Int32)), .val (.int (-1 : Int32)), .val (.int (2 : Int32)), .val (.int x2)] [(.int (1 : Int32)), (.int (-1 : Int32)), (.ref a1)])) _
          refine XS.iadd X315.here hx rfl (hb hby d16_60) rfl ?_
          refine XS.iload X315.here hx rfl (hb hby d16_61) rfl ?_
          refine st319 _ ?_
          refine XS.goto X319.here hx rfl (pc0 := 64) (pc' := 3) rfl (hb hby d16_64) (by decide) (by decide) ?_
          show Steps p.tables e below (T319.setTop (mkF m 3 #[.val (.ref a1), .val (.int (0 : Int32)), .val (.int (3 : Int32)), .val (.int (-1 : Int32)), .val (.int (2 : Int32)), .val (.int x2)] [])) _
          refine XS.iinc X319.here hx rfl (hb hby d16_3) rfl (l' := #[.val (.ref a1), .val (.int (0 : Int32)), .val (.int (3 : Int32)), .val (.int (-1 : Int32)), .val (.int (3 : Int32)), .val (.int x2)]) rfl ?_
          refine XS.iload X319.here hx rfl (hb hby d16_6) rfl ?_
          refine XS.iloadN X319.here hx rfl (hb hby d16_8) rfl ?_
          refine XS.icmpYes X319.here hx rfl (pc0 := 9) (pc' := 67) rfl (hb hby d16_9) rfl (flt (by decide)).2.1 (by decide) (by decide) ?_
          show Steps p.tables e below (T319.setTop (mkF m 67 #[.val (.ref a1), .val (.int (0 : Int32)), .val (.int (3 : Int32)), .val (.int (-1 : Int32)), .val (.int (3 : Int32)), .val (.int x2)] [])) _
          exact X319.returnOut hx Bd.returns (hb hby d16_67) hr
        · show Q_rmis3 Z a1 ka x0 x1 x2 h0 n0 _ T319.heap _
          rw [e319]
          exact ⟨x2, x1, x0, rfl, N319, K321, V_a1_319, (by (have := own_lt (a := (x1).toInt) (b := (x0).toInt) hc27_288 rfl rfl; have := own_lt (a := (x2).toInt) (b := (x0).toInt) hc27_302 rfl rfl; have := own_lt (a := (x2).toInt) (b := (x1).toInt) hc43_311 rfl rfl; exact own_last3 (by omega) (by omega) (by omega) (by omega)))⟩
      · obtain ⟨cl322, Ar322, q322, S322, N322n, H322, G322⟩ := id (V_a1_307)
        have hin322 : ¬ ((1 : Int32) < 0 ∨ cl322.slots.size ≤ ((1 : Int32)).toNatClampNeg) := inb_of S322 ⟨by decide, by decide⟩
        obtain ⟨T323, h323, X323, e323, W323, st323⟩ := stI X307 hx hZ e307 Ar322 (j := (1 : Int32)) hin322 (g := (mkF m 63 #[.val (.ref a1), .val (.int (0 : Int32)), .val (.int (3 : Int32)), .val (.int (0 : Int32)), .val (.int (2 : Int32)), .val (.int x2)] [(.int x2), (.int (1 : Int32)), (.ref a1)])) rfl rfl (hb hby d16_63)
        have V_a1_323 : Arv Z h323 a1 ka .int (4 : Int32) [(.int x1), (.int x2), (.int x0), (.int (0 : Int32))] (.int (0 : Int32)) := Arv.set Ar322 q322 S322 N322n H322 G322 rfl W323 1 rfl (Nat.le_of_ble_eq_true rfl)
        have Z324 : n0 ≤ h323.size := Nat.le_trans Z308 (Keep.of_wr W323).1
        have K325 : Keep h0 h323 [a1] := Keep.wr K309 W323 (Or.inl (List.mem_of_getElem? (i := 0) rfl))
        have N323 := Fr.snoc X323 N307 g_a1
        obtain ⟨fs, hr, hrun, hended, hW, hsame⟩ := X323.leave (v := none) (fun _ => rfl)
        refine ⟨_, _, pre312 _ ?_, hrun, hended, _, _, rfl, ?_, ⟨_, rfl⟩, hW, hsame.mono (by decide) (by decide)⟩
        · show Steps p.tables e below (T307.setTop (mkF m 43 #[.val (.ref a1), .val (.int (0 : Int32)), .val (.int (3 : Int32)), .val (.int (0 : Int32)), .val (.int (2 : Int32)), .val (.int x2)] [(.int x1), (.int x2)])) _
          refine XS.icmpYes X307.here hx rfl (pc0 := 43) (pc' := 57) rfl (hb hby d16_43) rfl (flt hc43_311).2.1 (by decide) (by decide) ?_
          show Steps p.tables e below (T307.setTop (mkF m 57 #[.val (.ref a1), .val (.int (0 : Int32)), .val (.int (3 : Int32)), .val (.int (0 : Int32)), .val (.int (2 : Int32)), .val (.int x2)] [])) _
          refine XS.aloadN X307.here hx rfl (hb hby d16_57) rfl rfl ?_
          refine XS.iloadN X307.here hx rfl (hb hby d16_58) rfl ?_
          refine XS.iconst X307.here hx rfl (hb hby d16_59) ?_
          refine XS.iadd X307.here hx rfl (hb hby d16_60) rfl ?_
          show Steps p.tables e below (T307.setTop (mkF m 61 #[.val (.ref a1), .val (.int (0 : Int32)), .val (.int (3 : Int32)), .val (.int (0 : Int32)), .val (.int (2 : Int32)), .val (.int x2)] [(.int (1 : Int32)), (.ref a1)])) _
          refine XS.iload X307.here hx rfl (hb hby d16_61) rfl ?_
          refine st323 _ ?_
          refine XS.goto X323.here hx rfl (pc0 := 64) (pc' := 3) rfl (hb hby d16_64) (by decide) (by decide) ?_
          refine XS.iinc X323.here hx rfl (hb hby d16_3) rfl (l' := #[.val (.ref a1), .val (.int (0 : Int32)), .val (.int (3 : Int32)), .val (.int (0 : Int32)), .val (.int (3 : Int32)), .val (.int x2)]) rfl ?_
          show Steps p.tables e below (T323.setTop (mkF m 6 #[.val (.ref a1), .val (.int (0 : Int32)), .val (.int (3 : Int32)), .val (.int (0 : Int32)), .val (.int (3 : Int32)), .val (.int x2)] [])) _
          refine XS.iload X323.here hx rfl (hb hby d16_6) rfl ?_
          refine XS.iloadN X323.here hx rfl (hb hby d16_8) rfl ?_
          refine XS.icmpYes X323.here hx rfl (pc0 := 9) (pc' := 67) rfl (hb hby d16_9) rfl (flt (by decide)).2.1 (by decide) (by decide) ?_
          exact X323.returnOut hx Bd.returns (hb hby d16_67) hr
        · show Q_rmis3 Z a1 ka x0 x1 x2 h0 n0 _ T323.heap _
          rw [e323]
          exact ⟨x1, x2, x0, rfl, N323, K325, V_a1_323, (by (have := own_lt (a := (x1).toInt) (b := (x0).toInt) hc27_288 rfl rfl; have := own_lt (a := (x2).toInt) (b := (x0).toInt) hc27_302 rfl rfl; have := own_nlt (a := (x2).toInt) (b := (x1).toInt) hc43_311 rfl rfl; exact own_last3 (by omega) (by omega) (by omega) (by omega)))⟩
    · obtain ⟨fs, hr, hrun, hended, hW, hsame⟩ := X297.leave (v := none) (fun _ => rfl)
      refine ⟨_, _, pre303 _ ?_, hrun, hended, _, _, rfl, ?_, ⟨_, rfl⟩, hW, hsame.mono (by decide) (by decide)⟩
      · show Steps p.tables e below (T297.setTop (mkF m 27 #[.val (.ref a1), .val (.int (0 : Int32)), .val (.int (3 : Int32)), .val (.int (2 : Int32)), .val (.int (2 : Int32)), .val (.int x2)] [(.int x0), (.int x2)])) _
        refine XS.icmpYes X297.here hx rfl (pc0 := 27) (pc' := 64) rfl (hb hby d16_27) rfl (flt hc27_302).2.1 (by decide) (by decide) ?_
        refine XS.goto X297.here hx rfl (pc0 := 64) (pc' := 3) rfl (hb hby d16_64) (by decide) (by decide) ?_
        refine XS.iinc X297.here hx rfl (hb hby d16_3) rfl (l' := #[.val (.ref a1), .val (.int (0 : Int32)), .val (.int (3 : Int32)), .val (.int (2 : Int32)), .val (.int (3 : Int32)), .val (.int x2)]) rfl ?_
        refine XS.iload X297.here hx rfl (hb hby d16_6) rfl ?_
        show Steps p.tables e below (T297.setTop (mkF m 8 #[.val (.ref a1), .val (.int (0 : Int32)), .val (.int (3 : Int32)), .val (.int (2 : Int32)), .val (.int (3 : Int32)), .val (.int x2)] [(.int (3 : Int32))])) _
        refine XS.iloadN X297.here hx rfl (hb hby d16_8) rfl ?_
        refine XS.icmpYes X297.here hx rfl (pc0 := 9) (pc' := 67) rfl (hb hby d16_9) rfl (flt (by decide)).2.1 (by decide) (by decide) ?_
        exact X297.returnOut hx Bd.returns (hb hby d16_67) hr
      · show Q_rmis3 Z a1 ka x0 x1 x2 h0 n0 _ T297.heap _
        rw [e297]
        exact ⟨x1, x0, x2, rfl, N297, K299, V_a1_297, (by (have := own_lt (a := (x1).toInt) (b := (x0).toInt) hc27_288 rfl rfl; have := own_nlt (a := (x2).toInt) (b := (x0).toInt) hc27_302 rfl rfl; exact own_last3 (by omega) (by omega) (by omega) (by omega)))⟩
  · obtain ⟨cl326, Ar326, q326, S326, N326n, H326, G326⟩ := id (V_a1)
    have hin326 : ¬ ((2 : Int32) < 0 ∨ cl326.slots.size ≤ ((2 : Int32)).toNatClampNeg) := inb_of S326 ⟨by decide, by decide⟩
    have hat326 : cl326.slots[((2 : Int32)).toNatClampNeg]? = some (.int x2) := H326.at hin326 rfl
    obtain ⟨cl327, Ar327, q327, S327, N327n, H327, G327⟩ := id (V_a1)
    have hin327 : ¬ ((1 : Int32) < 0 ∨ cl327.slots.size ≤ ((1 : Int32)).toNatClampNeg) := inb_of S327 ⟨by decide, by decide⟩
    have hat327 : cl327.slots[((1 : Int32)).toNatClampNeg]? = some (.int x1) := H327.at hin327 rfl
    have pre329 : ∀ t, Steps p.tables e below (s₁.setTop (mkF m 27 #[.val (.ref a1), .val (.int (0 : Int32)), .val (.int (3 : Int32)), .val (.int (2 : Int32)), .val (.int (2 : Int32)), .val (.int x2)] [(.int x1), (.int x2)])) t → Steps p.tables e below (s₁.setTop (entryFrame m #[(.ref a1), (.int (0 : Int32)), (.int (3 : Int32))] 6)) t := by
      intro t kt
      refine pre289 _ ?_
      show Steps p.tables e below (s₁.setTop (mkF m 27 #[.val (.ref a1), .val (.int (0 : Int32)), .val (.int (3 : Int32)), .val (.int (1 : Int32)), .val (.int (1 : Int32)), .val (.int x1)] [(.int x0), (.int x1)])) _
      refine XS.icmpYes X0.here hx rfl (pc0 := 27) (pc' := 64) rfl (hb hby d16_27) rfl (flt hc27_288).2.1 (by decide) (by decide) ?_
      refine XS.goto X0.here hx rfl (pc0 := 64) (pc' := 3) rfl (hb hby d16_64) (by decide) (by decide) ?_
      show Steps p.tables e below (s₁.setTop (mkF m 3 #[.val (.ref a1), .val (.int (0 : Int32)), .val (.int (3 : Int32)), .val (.int (1 : Int32)), .val (.int (1 : Int32)), .val (.int x1)] [])) _
      refine XS.iinc X0.here hx rfl (hb hby d16_3) rfl (l' := #[.val (.ref a1), .val (.int (0 : Int32)), .val (.int (3 : Int32)), .val (.int (1 : Int32)), .val (.int (2 : Int32)), .val (.int x1)]) rfl ?_
      refine XS.iload X0.here hx rfl (hb hby d16_6) rfl ?_
      refine XS.iloadN X0.here hx rfl (hb hby d16_8) rfl ?_
      refine XS.icmpNo X0.here hx rfl (hb hby d16_9) rfl (tlt (by decide)).2.1 ?_
      show Steps p.tables e below (s₁.setTop (mkF m 12 #[.val (.ref a1), .val (.int (0 : Int32)), .val (.int (3 : Int32)), .val (.int (1 : Int32)), .val (.int (2 : Int32)), .val (.int x1)] [])) _
      refine XS.aloadN X0.here hx rfl (hb hby d16_12) rfl rfl ?_
      refine XS.iload X0.here hx rfl (hb hby d16_13) rfl ?_
      refine XS.dup X0.here hx rfl (hb hby d16_15) rfl rfl ?_
      refine XS.istoreN X0.here hx rfl (hb hby d16_16) rfl (l' := #[.val (.ref a1), .val (.int (0 : Int32)), .val (.int (3 : Int32)), .val (.int (2 : Int32)), .val (.int (2 : Int32)), .val (.int x1)]) rfl ?_
      show Steps p.tables e below (s₁.setTop (mkF m 17 #[.val (.ref a1), .val (.int (0 : Int32)), .val (.int (3 : Int32)), .val (.int (2 : Int32)), .val (.int (2 : Int32)), .val (.int x1)] [(.int (2 : Int32)), (.ref a1)])) _
      refine X0.iaload hx (j := (2 : Int32)) (v := (.int x2)) (by rw [e0]; exact Ar326.1) (State.isArrayOf_alike hZ.alike Ar326.2.1) Ar326.2.2 hin326 hat326 (g := (mkF m 17 #[.val (.ref a1), .val (.int (0 : Int32)), .val (.int (3 : Int32)), .val (.int (2 : Int32)), .val (.int (2 : Int32)), .val (.int x1)] [(.int (2 : Int32)), (.ref a1)])) rfl rfl (hb hby d16_17) _ ?_
      refine XS.istore X0.here hx rfl (hb hby d16_18) rfl (l' := #[.val (.ref a1), .val (.int (0 : Int32)), .val (.int (3 : Int32)), .val (.int (2 : Int32)), .val (.int (2 : Int32)), .val (.int x2)]) rfl ?_
      refine XS.iload X0.here hx rfl (hb hby d16_20) rfl ?_
      refine XS.aloadN X0.here hx rfl (hb hby d16_22) rfl rfl ?_
      show Steps p.tables e below (s₁.setTop (mkF m 23 #[.val (.ref a1), .val (.int (0 : Int32)), .val (.int (3 : Int32)), .val (.int (2 : Int32)), .val (.int (2 : Int32)), .val (.int x2)] [(.ref a1), (.int x2)])) _
      refine XS.iloadN X0.here hx rfl (hb hby d16_23) rfl ?_
      refine XS.iconst X0.here hx rfl (hb hby d16_24) ?_
      refine XS.isub X0.here hx rfl (hb hby d16_25) rfl ?_
      refine X0.iaload hx (j := (1 : Int32)) (v := (.int x1)) (by rw [e0]; exact Ar327.1) (State.isArrayOf_alike hZ.alike Ar327.2.1) Ar327.2.2 hin327 hat327 (g := (mkF m 26 #[.val (.ref a1), .val (.int (0 : Int32)), .val (.int (3 : Int32)), .val (.int (2 : Int32)), .val (.int (2 : Int32)), .val (.int x2)] [(.int (1 : Int32)), (.ref a1), (.int x2)])) rfl rfl (hb hby d16_26) _ ?_
      show Steps p.tables e below (s₁.setTop (mkF m 27 #[.val (.ref a1), .val (.int (0 : Int32)), .val (.int (3 : Int32)), .val (.int (2 : Int32)), .val (.int (2 : Int32)), .val (.int x2)] [(.int x1), (.int x2)])) _
      exact kt
    by_cases hc27_328 : x2 < x1
    · obtain ⟨cl330, Ar330, q330, S330, N330n, H330, G330⟩ := id (V_a1)
      have hin330 : ¬ ((1 : Int32) < 0 ∨ cl330.slots.size ≤ ((1 : Int32)).toNatClampNeg) := inb_of S330 ⟨by decide, by decide⟩
      have hat330 : cl330.slots[((1 : Int32)).toNatClampNeg]? = some (.int x1) := H330.at hin330 rfl
      obtain ⟨cl331, Ar331, q331, S331, N331n, H331, G331⟩ := id (V_a1)
      have hin331 : ¬ ((1 : Int32) < 0 ∨ cl331.slots.size ≤ ((1 : Int32)).toNatClampNeg) := inb_of S331 ⟨by decide, by decide⟩
      have hat331 : cl331.slots[((1 : Int32)).toNatClampNeg]? = some (.int x1) := H331.at hin331 rfl
      obtain ⟨cl332, Ar332, q332, S332, N332n, H332, G332⟩ := id (V_a1)
      have hin332 : ¬ ((2 : Int32) < 0 ∨ cl332.slots.size ≤ ((2 : Int32)).toNatClampNeg) := inb_of S332 ⟨by decide, by decide⟩
      obtain ⟨T333, h333, X333, e333, W333, st333⟩ := stI X0 hx hZ e0 Ar332 (j := (2 : Int32)) hin332 (g := (mkF m 53 #[.val (.ref a1), .val (.int (0 : Int32)), .val (.int (3 : Int32)), .val (.int (1 : Int32)), .val (.int (2 : Int32)), .val (.int x2)] [(.int x1), (.int (2 : Int32)), (.ref a1)])) rfl rfl (hb hby d16_53)
      have V_a1_333 : Arv Z h333 a1 ka .int (4 : Int32) [(.int x0), (.int x1), (.int x1), (.int (0 : Int32))] (.int (0 : Int32)) := Arv.set Ar332 q332 S332 N332n H332 G332 rfl W333 2 rfl (Nat.le_of_ble_eq_true rfl)
      have Z334 : n0 ≤ h333.size := Nat.le_trans Z0 (Keep.of_wr W333).1
      have K335 : Keep h0 h333 [a1] := Keep.wr (Keep.refl h0 [a1]) W333 (Or.inl (List.mem_of_getElem? (i := 0) rfl))
      have N333 := Fr.snoc X333 N0 g_a1
      obtain ⟨cl336, Ar336, q336, S336, N336n, H336, G336⟩ := id (V_a1_333)
      have hin336 : ¬ ((0 : Int32) < 0 ∨ cl336.slots.size ≤ ((0 : Int32)).toNatClampNeg) := inb_of S336 ⟨by decide, by decide⟩
      have hat336 : cl336.slots[((0 : Int32)).toNatClampNeg]? = some (.int x0) := H336.at hin336 rfl
      have pre338 : ∀ t, Steps p.tables e below (T333.setTop (mkF m 43 #[.val (.ref a1), .val (.int (0 : Int32)), .val (.int (3 : Int32)), .val (.int (0 : Int32)), .val (.int (2 : Int32)), .val (.int x2)] [(.int x0), (.int x2)])) t → Steps p.tables e below (s₁.setTop (entryFrame m #[(.ref a1), (.int (0 : Int32)), (.int (3 : Int32))] 6)) t := by
        intro t kt
        refine pre329 _ ?_
        show Steps p.tables e below (s₁.setTop (mkF m 27 #[.val (.ref a1), .val (.int (0 : Int32)), .val (.int (3 : Int32)), .val (.int (2 : Int32)), .val (.int (2 : Int32)), .val (.int x2)] [(.int x1), (.int x2)])) _
        refine XS.icmpNo X0.here hx rfl (hb hby d16_27) rfl (tlt hc27_328).2.1 ?_
        refine XS.iinc X0.here hx rfl (hb hby d16_30) rfl (l' := #[.val (.ref a1), .val (.int (0 : Int32)), .val (.int (3 : Int32)), .val (.int (1 : Int32)), .val (.int (2 : Int32)), .val (.int x2)]) rfl ?_
        refine XS.iloadN X0.here hx rfl (hb hby d16_33) rfl ?_
        refine XS.iloadN X0.here hx rfl (hb hby d16_34) rfl ?_
        show Steps p.tables e below (s₁.setTop (mkF m 35 #[.val (.ref a1), .val (.int (0 : Int32)), .val (.int (3 : Int32)), .val (.int (1 : Int32)), .val (.int (2 : Int32)), .val (.int x2)] [(.int (0 : Int32)), (.int (1 : Int32))])) _
        refine XS.icmpNo X0.here hx rfl (hb hby d16_35) rfl (flt (by decide)).1 ?_
        refine XS.iload X0.here hx rfl (hb hby d16_38) rfl ?_
        refine XS.aloadN X0.here hx rfl (hb hby d16_40) rfl rfl ?_
        refine XS.iloadN X0.here hx rfl (hb hby d16_41) rfl ?_
        show Steps p.tables e below (s₁.setTop (mkF m 42 #[.val (.ref a1), .val (.int (0 : Int32)), .val (.int (3 : Int32)), .val (.int (1 : Int32)), .val (.int (2 : Int32)), .val (.int x2)] [(.int (1 : Int32)), (.ref a1), (.int x2)])) _
        refine X0.iaload hx (j := (1 : Int32)) (v := (.int x1)) (by rw [e0]; exact Ar330.1) (State.isArrayOf_alike hZ.alike Ar330.2.1) Ar330.2.2 hin330 hat330 (g := (mkF m 42 #[.val (.ref a1), .val (.int (0 : Int32)), .val (.int (3 : Int32)), .val (.int (1 : Int32)), .val (.int (2 : Int32)), .val (.int x2)] [(.int (1 : Int32)), (.ref a1), (.int x2)])) rfl rfl (hb hby d16_42) _ ?_
        refine XS.icmpNo X0.here hx rfl (hb hby d16_43) rfl (tlt hc27_328).2.1 ?_
        refine XS.aloadN X0.here hx rfl (hb hby d16_46) rfl rfl ?_
        refine XS.iloadN X0.here hx rfl (hb hby d16_47) rfl ?_
        show Steps p.tables e below (s₁.setTop (mkF m 48 #[.val (.ref a1), .val (.int (0 : Int32)), .val (.int (3 : Int32)), .val (.int (1 : Int32)), .val (.int (2 : Int32)), .val (.int x2)] [(.int (1 : Int32)), (.ref a1)])) _
        refine XS.iconst X0.here hx rfl (hb hby d16_48) ?_
        refine XS.iadd X0.here hx rfl (hb hby d16_49) rfl ?_
        refine XS.aloadN X0.here hx rfl (hb hby d16_50) rfl rfl ?_
        refine XS.iloadN X0.here hx rfl (hb hby d16_51) rfl ?_
        show Steps p.tables e below (s₁.setTop (mkF m 52 #[.val (.ref a1), .val (.int (0 : Int32)), .val (.int (3 : Int32)), .val (.int (1 : Int32)), .val (.int (2 : Int32)), .val (.int x2)] [(.int (1 : Int32)), (.ref a1), (.int (2 : Int32)), (.ref a1)])) _
        refine X0.iaload hx (j := (1 : Int32)) (v := (.int x1)) (by rw [e0]; exact Ar331.1) (State.isArrayOf_alike hZ.alike Ar331.2.1) Ar331.2.2 hin331 hat331 (g := (mkF m 52 #[.val (.ref a1), .val (.int (0 : Int32)), .val (.int (3 : Int32)), .val (.int (1 : Int32)), .val (.int (2 : Int32)), .val (.int x2)] [(.int (1 : Int32)), (.ref a1), (.int (2 : Int32)), (.ref a1)])) rfl rfl (hb hby d16_52) _ ?_
        refine st333 _ ?_
        refine XS.goto X333.here hx rfl (pc0 := 54) (pc' := 30) rfl (hb hby d16_54) (by decide) (by decide) ?_
        refine XS.iinc X333.here hx rfl (hb hby d16_30) rfl (l' := #[.val (.ref a1), .val (.int (0 : Int32)), .val (.int (3 : Int32)), .val (.int (0 : Int32)), .val (.int (2 : Int32)), .val (.int x2)]) rfl ?_
        show Steps p.tables e below (T333.setTop (mkF m 33 #[.val (.ref a1), .val (.int (0 : Int32)), .val (.int (3 : Int32)), .val (.int (0 : Int32)), .val (.int (2 : Int32)), .val (.int x2)] [])) _
        refine XS.iloadN X333.here hx rfl (hb hby d16_33) rfl ?_
        refine XS.iloadN X333.here hx rfl (hb hby d16_34) rfl ?_
        refine XS.icmpNo X333.here hx rfl (hb hby d16_35) rfl (flt (by decide)).1 ?_
        refine XS.iload X333.here hx rfl (hb hby d16_38) rfl ?_
        show Steps p.tables e below (T333.setTop (mkF m 40 #[.val (.ref a1), .val (.int (0 : Int32)), .val (.int (3 : Int32)), .val (.int (0 : Int32)), .val (.int (2 : Int32)), .val (.int x2)] [(.int x2)])) _
        refine XS.aloadN X333.here hx rfl (hb hby d16_40) rfl rfl ?_
        refine XS.iloadN X333.here hx rfl (hb hby d16_41) rfl ?_
        refine X333.iaload hx (j := (0 : Int32)) (v := (.int x0)) (by rw [e333]; exact Ar336.1) (State.isArrayOf_alike hZ.alike Ar336.2.1) Ar336.2.2 hin336 hat336 (g := (mkF m 42 #[.val (.ref a1), .val (.int (0 : Int32)), .val (.int (3 : Int32)), .val (.int (0 : Int32)), .val (.int (2 : Int32)), .val (.int x2)] [(.int (0 : Int32)), (.ref a1), (.int x2)])) rfl rfl (hb hby d16_42) _ ?_
        exact kt
      by_cases hc43_337 : x2 < x0
      · obtain ⟨cl339, Ar339, q339, S339, N339n, H339, G339⟩ := id (V_a1_333)
        have hin339 : ¬ ((0 : Int32) < 0 ∨ cl339.slots.size ≤ ((0 : Int32)).toNatClampNeg) := inb_of S339 ⟨by decide, by decide⟩
        have hat339 : cl339.slots[((0 : Int32)).toNatClampNeg]? = some (.int x0) := H339.at hin339 rfl
        obtain ⟨cl340, Ar340, q340, S340, N340n, H340, G340⟩ := id (V_a1_333)
        have hin340 : ¬ ((1 : Int32) < 0 ∨ cl340.slots.size ≤ ((1 : Int32)).toNatClampNeg) := inb_of S340 ⟨by decide, by decide⟩
        obtain ⟨T341, h341, X341, e341, W341, st341⟩ := stI X333 hx hZ e333 Ar340 (j := (1 : Int32)) hin340 (g := (mkF m 53 #[.val (.ref a1), .val (.int (0 : Int32)), .val (.int (3 : Int32)), .val (.int (0 : Int32)), .val (.int (2 : Int32)), .val (.int x2)] [(.int x0), (.int (1 : Int32)), (.ref a1)])) rfl rfl (hb hby d16_53)
        have V_a1_341 : Arv Z h341 a1 ka .int (4 : Int32) [(.int x0), (.int x0), (.int x1), (.int (0 : Int32))] (.int (0 : Int32)) := Arv.set Ar340 q340 S340 N340n H340 G340 rfl W341 1 rfl (Nat.le_of_ble_eq_true rfl)
        have Z342 : n0 ≤ h341.size := Nat.le_trans Z334 (Keep.of_wr W341).1
        have K343 : Keep h0 h341 [a1] := Keep.wr K335 W341 (Or.inl (List.mem_of_getElem? (i := 0) rfl))
        have N341 := Fr.snoc X341 N333 g_a1
        obtain ⟨cl344, Ar344, q344, S344, N344n, H344, G344⟩ := id (V_a1_341)
        have hin344 : ¬ ((0 : Int32) < 0 ∨ cl344.slots.size ≤ ((0 : Int32)).toNatClampNeg) := inb_of S344 ⟨by decide, by decide⟩
        obtain ⟨T345, h345, X345, e345, W345, st345⟩ := stI X341 hx hZ e341 Ar344 (j := (0 : Int32)) hin344 (g := (mkF m 63 #[.val (.ref a1), .val (.int (0 : Int32)), .val (.int (3 : Int32)), .val (.int (-1 : Int32)), .val (.int (2 : Int32)), .val (.int x2)] [(.int x2), (.int (0 : Int32)), (.ref a1)])) rfl rfl (hb hby d16_63)
        have V_a1_345 : Arv Z h345 a1 ka .int (4 : Int32) [(.int x2), (.int x0), (.int x1), (.int (0 : Int32))] (.int (0 : Int32)) := Arv.set Ar344 q344 S344 N344n H344 G344 rfl W345 0 rfl (Nat.le_of_ble_eq_true rfl)
        have Z346 : n0 ≤ h345.size := Nat.le_trans Z342 (Keep.of_wr W345).1
        have K347 : Keep h0 h345 [a1] := Keep.wr K343 W345 (Or.inl (List.mem_of_getElem? (i := 0) rfl))
        have N345 := Fr.snoc X345 N341 g_a1
        obtain ⟨fs, hr, hrun, hended, hW, hsame⟩ := X345.leave (v := none) (fun _ => rfl)
        refine ⟨_, _, pre338 _ ?_, hrun, hended, _, _, rfl, ?_, ⟨_, rfl⟩, hW, hsame.mono (by decide) (by decide)⟩
        · show Steps p.tables e below (T333.setTop (mkF m 43 #[.val (.ref a1), .val (.int (0 : Int32)), .val (.int (3 : Int32)), .val (.int (0 : Int32)), .val (.int (2 : Int32)), .val (.int x2)] [(.int x0), (.int x2)])) _
          refine XS.icmpNo X333.here hx rfl (hb hby d16_43) rfl (tlt hc43_337).2.1 ?_
          show Steps p.tables e below (T333.setTop (mkF m 46 #[.val (.ref a1), .val (.int (0 : Int32)), .val (.int (3 : Int32)), .val (.int (0 : Int32)), .val (.int (2 : Int32)), .val (.int x2)] [])) _
          refine XS.aloadN X333.here hx rfl (hb hby d16_46) rfl rfl ?_
          refine XS.iloadN X333.here hx rfl (hb hby d16_47) rfl ?_
          refine XS.iconst X333.here hx rfl (hb hby d16_48) ?_
          refine XS.iadd X333.here hx rfl (hb hby d16_49) rfl ?_
          show Steps p.tables e below (T333.setTop (mkF m 50 #[.val (.ref a1), .val (.int (0 : Int32)), .val (.int (3 : Int32)), .val (.int (0 : Int32)), .val (.int (2 : Int32)), .val (.int x2)] [(.int (1 : Int32)), (.ref a1)])) _
          refine XS.aloadN X333.here hx rfl (hb hby d16_50) rfl rfl ?_
          refine XS.iloadN X333.here hx rfl (hb hby d16_51) rfl ?_
          refine X333.iaload hx (j := (0 : Int32)) (v := (.int x0)) (by rw [e333]; exact Ar339.1) (State.isArrayOf_alike hZ.alike Ar339.2.1) Ar339.2.2 hin339 hat339 (g := (mkF m 52 #[.val (.ref a1), .val (.int (0 : Int32)), .val (.int (3 : Int32)), .val (.int (0 : Int32)), .val (.int (2 : Int32)), .val (.int x2)] [(.int (0 : Int32)), (.ref a1), (.int (1 : Int32)), (.ref a1)])) rfl rfl (hb hby d16_52) _ ?_
          refine st341 _ ?_
          show Steps p.tables e below (T341.setTop (mkF m 54 #[.val (.ref a1), .val (.int (0 : Int32)), .val (.int (3 : Int32)), .val (.int (0 : Int32)), .val (.int (2 : Int32)), .val (.int x2)] [])) _
          refine XS.goto X341.here hx rfl (pc0 := 54) (pc' := 30) rfl (hb hby d16_54) (by decide) (by decide) ?_
          refine XS.iinc X341.here hx rfl (hb hby d16_30) rfl (l' := #[.val (.ref a1), .val (.int (0 : Int32)), .val (.int (3 : Int32)), .val (.int (-1 : Int32)), .val (.int (2 : Int32)), .val (.int x2)]) rfl ?_
          refine XS.iloadN X341.here hx rfl (hb hby d16_33) rfl ?_
          refine XS.iloadN X341.here hx rfl (hb hby d16_34) rfl ?_
          show Steps p.tables e below (T341.setTop (mkF m 35 #[.val (.ref a1), .val (.int (0 : Int32)), .val (.int (3 : Int32)), .val (.int (-1 : Int32)), .val (.int (2 : Int32)), .val (.int x2)] [(.int (0 : Int32)), (.int (-1 : Int32))])) _
          refine XS.icmpYes X341.here hx rfl (pc0 := 35) (pc' := 57) rfl (hb hby d16_35) rfl (tlt (by decide)).1 (by decide) (by decide) ?_
          refine XS.aloadN X341.here hx rfl (hb hby d16_57) rfl rfl ?_
          refine XS.iloadN X341.here hx rfl (hb hby d16_58) rfl ?_
          refine XS.iconst X341.here hx rfl (hb hby d16_59) ?_
          show Steps p.tables e below (T341.setTop (mkF m 60 #[.val (.ref a1), .val (.int (0 : Int32)), .val (.int (3 : Int32)), .val (.int (-1 : Int32)), .val (.int (2 : Int32)), .val (.int x2)] [(.int (1 : Int32)), (.int (-1 : Int32)), (.ref a1)])) _
          refine XS.iadd X341.here hx rfl (hb hby d16_60) rfl ?_
          refine XS.iload X341.here hx rfl (hb hby d16_61) rfl ?_
          refine st345 _ ?_
          refine XS.goto X345.here hx rfl (pc0 := 64) (pc' := 3) rfl (hb hby d16_64) (by decide) (by decide) ?_
          show Steps p.tables e below (T345.setTop (mkF m 3 #[.val (.ref a1), .val (.int (0 : Int32)), .val (.int (3 : Int32)), .val (.int (-1 : Int32)), .val (.int (2 : Int32)), .val (.int x2)] [])) _
          refine XS.iinc X345.here hx rfl (hb hby d16_3) rfl (l' := #[.val (.ref a1), .val (.int (0 : Int32)), .val (.int (3 : Int32)), .val (.int (-1 : Int32)), .val (.int (3 : Int32)), .val (.int x2)]) rfl ?_
          refine XS.iload X345.here hx rfl (hb hby d16_6) rfl ?_
          refine XS.iloadN X345.here hx rfl (hb hby d16_8) rfl ?_
          refine XS.icmpYes X345.here hx rfl (pc0 := 9) (pc' := 67) rfl (hb hby d16_9) rfl (flt (by decide)).2.1 (by decide) (by decide) ?_
          show Steps p.tables e below (T345.setTop (mkF m 67 #[.val (.ref a1), .val (.int (0 : Int32)), .val (.int (3 : Int32)), .val (.int (-1 : Int32)), .val (.int (3 : Int32)), .val (.int x2)] [])) _
          exact X345.returnOut hx Bd.returns (hb hby d16_67) hr
        · show Q_rmis3 Z a1 ka x0 x1 x2 h0 n0 _ T345.heap _
          rw [e345]
          exact ⟨x2, x0, x1, rfl, N345, K347, V_a1_345, (by (have := own_nlt (a := (x1).toInt) (b := (x0).toInt) hc27_288 rfl rfl; have := own_lt (a := (x2).toInt) (b := (x1).toInt) hc27_328 rfl rfl; have := own_lt (a := (x2).toInt) (b := (x0).toInt) hc43_337 rfl rfl; exact own_last3 (by omega) (by omega) (by omega) (by omega)))⟩
      · obtain ⟨cl348, Ar348, q348, S348, N348n, H348, G348⟩ := id (V_a1_333)
        have hin348 : ¬ ((1 : Int32) < 0 ∨ cl348.slots.size ≤ ((1 : Int32)).toNatClampNeg) := inb_of S348 ⟨by decide, by decide⟩
        obtain ⟨T349, h349, X349, e349, W349, st349⟩ := stI X333 hx hZ e333 Ar348 (j := (1 : Int32)) hin348 (g := (mkF m 63 #[.val (.ref a1), .val (.int (0 : Int32)), .val (.int (3 : Int32)), .val (.int (0 : Int32)), .val (.int (2 : Int32)), .val (.int x2)] [(.int x2), (.int (1 : Int32)), (.ref a1)])) rfl rfl (hb hby d16_63)
        have V_a1_349 : Arv Z h349 a1 ka .int (4 : Int32) [(.int x0), (.int x2), (.int x1), (.int (0 : Int32))] (.int (0 : Int32)) := Arv.set Ar348 q348 S348 N348n H348 G348 rfl W349 1 rfl (Nat.le_of_ble_eq_true rfl)
        have Z350 : n0 ≤ h349.size := Nat.le_trans Z334 (Keep.of_wr W349).1
        have K351 : Keep h0 h349 [a1] := Keep.wr K335 W349 (Or.inl (List.mem_of_getElem? (i := 0) rfl))
        have N349 := Fr.snoc X349 N333 g_a1
        obtain ⟨fs, hr, hrun, hended, hW, hsame⟩ := X349.leave (v := none) (fun _ => rfl)
        refine ⟨_, _, pre338 _ ?_, hrun, hended, _, _, rfl, ?_, ⟨_, rfl⟩, hW, hsame.mono (by decide) (by decide)⟩
        · show Steps p.tables e below (T333.setTop (mkF m 43 #[.val (.ref a1), .val (.int (0 : Int32)), .val (.int (3 : Int32)), .val (.int (0 : Int32)), .val (.int (2 : Int32)), .val (.int x2)] [(.int x0), (.int x2)])) _
          refine XS.icmpYes X333.here hx rfl (pc0 := 43) (pc' := 57) rfl (hb hby d16_43) rfl (flt hc43_337).2.1 (by decide) (by decide) ?_
          show Steps p.tables e below (T333.setTop (mkF m 57 #[.val (.ref a1), .val (.int (0 : Int32)), .val (.int (3 : Int32)), .val (.int (0 : Int32)), .val (.int (2 : Int32)), .val (.int x2)] [])) _
          refine XS.aloadN X333.here hx rfl (hb hby d16_57) rfl rfl ?_
          refine XS.iloadN X333.here hx rfl (hb hby d16_58) rfl ?_
          refine XS.iconst X333.here hx rfl (hb hby d16_59) ?_
          refine XS.iadd X333.here hx rfl (hb hby d16_60) rfl ?_
          show Steps p.tables e below (T333.setTop (mkF m 61 #[.val (.ref a1), .val (.int (0 : Int32)), .val (.int (3 : Int32)), .val (.int (0 : Int32)), .val (.int (2 : Int32)), .val (.int x2)] [(.int (1 : Int32)), (.ref a1)])) _
          refine XS.iload X333.here hx rfl (hb hby d16_61) rfl ?_
          refine st349 _ ?_
          refine XS.goto X349.here hx rfl (pc0 := 64) (pc' := 3) rfl (hb hby d16_64) (by decide) (by decide) ?_
          refine XS.iinc X349.here hx rfl (hb hby d16_3) rfl (l' := #[.val (.ref a1), .val (.int (0 : Int32)), .val (.int (3 : Int32)), .val (.int (0 : Int32)), .val (.int (3 : Int32)), .val (.int x2)]) rfl ?_
          show Steps p.tables e below (T349.setTop (mkF m 6 #[.val (.ref a1), .val (.int (0 : Int32)), .val (.int (3 : Int32)), .val (.int (0 : Int32)), .val (.int (3 : Int32)), .val (.int x2)] [])) _
          refine XS.iload X349.here hx rfl (hb hby d16_6) rfl ?_
          refine XS.iloadN X349.here hx rfl (hb hby d16_8) rfl ?_
          refine XS.icmpYes X349.here hx rfl (pc0 := 9) (pc' := 67) rfl (hb hby d16_9) rfl (flt (by decide)).2.1 (by decide) (by decide) ?_
          exact X349.returnOut hx Bd.returns (hb hby d16_67) hr
        · show Q_rmis3 Z a1 ka x0 x1 x2 h0 n0 _ T349.heap _
          rw [e349]
          exact ⟨x0, x2, x1, rfl, N349, K351, V_a1_349, (by (have := own_nlt (a := (x1).toInt) (b := (x0).toInt) hc27_288 rfl rfl; have := own_lt (a := (x2).toInt) (b := (x1).toInt) hc27_328 rfl rfl; have := own_nlt (a := (x2).toInt) (b := (x0).toInt) hc43_337 rfl rfl; exact own_last3 (by omega) (by omega) (by omega) (by omega)))⟩
    · obtain ⟨fs, hr, hrun, hended, hW, hsame⟩ := X0.leave (v := none) (fun _ => rfl)
      refine ⟨_, _, pre329 _ ?_, hrun, hended, _, _, rfl, ?_, ⟨_, rfl⟩, hW, hsame.mono (by decide) (by decide)⟩
      · show Steps p.tables e below (s₁.setTop (mkF m 27 #[.val (.ref a1), .val (.int (0 : Int32)), .val (.int (3 : Int32)), .val (.int (2 : Int32)), .val (.int (2 : Int32)), .val (.int x2)] [(.int x1), (.int x2)])) _
        refine XS.icmpYes X0.here hx rfl (pc0 := 27) (pc' := 64) rfl (hb hby d16_27) rfl (flt hc27_328).2.1 (by decide) (by decide) ?_
        refine XS.goto X0.here hx rfl (pc0 := 64) (pc' := 3) rfl (hb hby d16_64) (by decide) (by decide) ?_
        refine XS.iinc X0.here hx rfl (hb hby d16_3) rfl (l' := #[.val (.ref a1), .val (.int (0 : Int32)), .val (.int (3 : Int32)), .val (.int (2 : Int32)), .val (.int (3 : Int32)), .val (.int x2)]) rfl ?_
        refine XS.iload X0.here hx rfl (hb hby d16_6) rfl ?_
        show Steps p.tables e below (s₁.setTop (mkF m 8 #[.val (.ref a1), .val (.int (0 : Int32)), .val (.int (3 : Int32)), .val (.int (2 : Int32)), .val (.int (3 : Int32)), .val (.int x2)] [(.int (3 : Int32))])) _
        refine XS.iloadN X0.here hx rfl (hb hby d16_8) rfl ?_
        refine XS.icmpYes X0.here hx rfl (pc0 := 9) (pc' := 67) rfl (hb hby d16_9) rfl (flt (by decide)).2.1 (by decide) (by decide) ?_
        exact X0.returnOut hx Bd.returns (hb hby d16_67) hr
      · show Q_rmis3 Z a1 ka x0 x1 x2 h0 n0 _ s₁.heap _
        rw [e0]
        exact ⟨x0, x1, x2, rfl, N0, (Keep.refl h0 [a1]), V_a1, (by (have := own_nlt (a := (x1).toInt) (b := (x0).toInt) hc27_288 rfl rfl; have := own_nlt (a := (x2).toInt) (b := (x1).toInt) hc27_328 rfl rfl; exact own_last3 (by omega) (by omega) (by omega) (by omega)))⟩
def Q_rmd23 (Z : State) (a2 : Addr) (ka : ClassId) (x0 : Int32) (x1 : Int32) (x2 : Int32) (h0 : Heap) (n0 : Nat) (v : Option Value) (h : Heap) (L : List Loc) : Prop := ∃ r0 : Int32, ∃ r1 : Int32, ∃ r2 : Int32, v = none ∧ Fr n0 L ∧ Keep h0 h [a2] ∧ (Arv Z h a2 ka .int (4 : Int32) [(.int r0), (.int r1), (.int r2), (.int (0 : Int32))] (.int (0 : Int32))) ∧ (r2 = (if x0 < (if x1 < x2 then x2 else x1) then (if x1 < x2 then x2 else x1) else x0))
set_option maxRecDepth 65536 in
set_option maxHeartbeats 40000000 in
theorem rmd23 (l : Launch) (Z : State) (a0 : Array Value) (hw : ∀ d ∈ tables_1, d.before a0 Z = true) (ws : List Jvm.Cond) (a2 : Addr) (ka : ClassId) (x0 : Int32) (x1 : Int32) (x2 : Int32) (h0 : Heap) (n0 : Nat) (Z0 : n0 ≤ h0.size) (V_a2 : Arv Z h0 a2 ka .int (4 : Int32) [(.int x0), (.int x1), (.int x2), (.int (0 : Int32))] (.int (0 : Int32))) (g_a2 : n0 ≤ a2) :
    MetFree l (⟨"java/util/DualPivotQuicksort", "sort", "(Ljava/util/DualPivotQuicksort$Sorter;[IIII)V"⟩ : MethodName) (head1 (Jvm.Cond.code (⟨"java/util/DualPivotQuicksort", "sort", "(Ljava/util/DualPivotQuicksort$Sorter;[IIII)V"⟩ : MethodName) jdk_2529_method_4_code 21 none :: ws) ({ frames := 1, cells := 0, slots := 0, locals := 17 } : Room)) (fun a U => a = #[.null, (.ref a2), (.int (0 : Int32)), (.int (0 : Int32)), (.int (3 : Int32))] ∧ Z.Warmed39 U.vm ∧ U.heap = h0) (fun _ _ _ _ _ => True) (fun _ U o U' => ∃ v L, o = .returned v ∧ Q_rmd23 Z a2 ka x0 x1 x2 h0 n0 v U'.heap L ∧ FrameEnd U o U' L ({ frames := 1, cells := 0, slots := 0, locals := 17 } : Room).cells ({ frames := 1, cells := 0, slots := 0, locals := 17 } : Room).slots) := by
  refine MetFree.of_bodySF (plainFor_of_name pn_java_util_DualPivotQuicksort) hisR ?_
  intro p e s m args below meth c s₁ Bd hml0 hP hK
  obtain ⟨rfl, hZ, hh⟩ := hP
  have hx := Bd.exec
  have hby := Bd.bytes
  have hml : c.maxLocals = 21 := hml0
  have hown : s.vm.findClass "java/util/DualPivotQuicksort" = some m.cls := findClass_of_methodNamed Bd.named
  have hnm := (name_of_methodNamed Bd.named Bd.method).1
  have X0 : Stand p l e ({ frames := 1, cells := 0, slots := 0, locals := 17 } : Room) s m #[.null, (.ref a2), (.int (0 : Int32)), (.int (0 : Int32)), (.int (3 : Int32))] below meth c s₁ [] 0 0 := Stand.of_body Bd
  have e0 : s₁.heap = h0 := by rw [← hh, Bd.state]; rfl
  have N0 := Fr.nil n0
  have pre0 : ∀ t, Steps p.tables e below (s₁.setTop (mkF m 0 #[.val .null, .val (.ref a2), .val (.int (0 : Int32)), .val (.int (0 : Int32)), .val (.int (3 : Int32)), .unset, .unset, .unset, .unset, .unset, .unset, .unset, .unset, .unset, .unset, .unset, .unset, .unset, .unset, .unset, .unset] [])) t → Steps p.tables e below (s₁.setTop (entryFrame m #[.null, (.ref a2), (.int (0 : Int32)), (.int (0 : Int32)), (.int (3 : Int32))] 21)) t := fun t k => castTop (efn_15 m a2 (0 : Int32) (0 : Int32) (3 : Int32)) k
  obtain ⟨_, _, ⟨T352, L352, k352, n352⟩, -, X352, ⟨Lc352, hQ352, l352, y352, z352⟩, st352⟩ := Jvm.LawKit.callS X0 hx (y := (⟨"java/util/DualPivotQuicksort", "insertionSort", "([III)V"⟩ : MethodName)) hown (mvT hZ (wd_92 hw)) (mvT hZ (wd_93 hw)) (mvT hZ (wd_87 hw)) (mvT hZ (wd_94 hw)) (by decide) (backOf (W := 0) (rmis3 l Z a0 hw [] a2 ka x0 x1 x2 h0 n0 Z0 V_a2 g_a2) hZ (wd_94 hw) (wd_87 hw) (by decide) (by decide)) (g := (mkF m 57 #[.val .null, .val (.ref a2), .val (.int (0 : Int32)), .val (.int (0 : Int32)), .val (.int (3 : Int32)), .val (.int (2 : Int32)), .val (.int (3 : Int32)), .unset, .unset, .unset, .unset, .unset, .unset, .unset, .unset, .unset, .unset, .unset, .unset, .unset, .unset] [(.int (3 : Int32)), (.int (0 : Int32)), (.ref a2)])) rfl (by rw [hml]; rfl) (argsL := [(.ref a2), (.int (0 : Int32)), (.int (3 : Int32))]) (rest := []) (lenOf pd___III_V rfl) rfl (by show 2 * 0 + _ ≤ _; exact Nat.le_of_eq rfl) (hb hby d15_57) (fun _ _ => ⟨rfl, e0, (by decide : 0 + 0 ≤ _), (by decide : 0 + 0 ≤ _)⟩)
  dsimp only [Pt.U, Pt.locs, Pt.cells, Pt.slots] at X352 l352 y352 z352 st352 hQ352
  subst l352 y352 z352
  obtain ⟨r0_352, r1_352, r2_352, rfl, N352q, K352q, g352_0, g352_1⟩ := hQ352
  have N352 := Fr.app N0 N352q
  have Z353 : n0 ≤ T352.heap.size := Nat.le_trans Z0 K352q.1
  have K354 : Keep h0 T352.heap [a2] := Keep.trans (Keep.refl h0 [a2]) K352q (allS (Or.inl (List.mem_of_getElem? (i := 0) rfl)) all0)
  obtain ⟨fs, hr, hrun, hended, hW, hsame⟩ := X352.leave (v := none) (fun _ => rfl)
  refine ⟨_, _, pre0 _ ?_, hrun, hended, _, _, rfl, ?_, ⟨_, rfl⟩, hW, hsame.mono (by decide) (by decide)⟩
  · show Steps p.tables e below (s₁.setTop (mkF m 0 #[.val .null, .val (.ref a2), .val (.int (0 : Int32)), .val (.int (0 : Int32)), .val (.int (3 : Int32)), .unset, .unset, .unset, .unset, .unset, .unset, .unset, .unset, .unset, .unset, .unset, .unset, .unset, .unset, .unset, .unset] [])) _
    refine XS.iload X0.here hx rfl (hb hby d15_0) rfl ?_
    refine XS.iconst X0.here hx rfl (hb hby d15_2) ?_
    refine XS.isub X0.here hx rfl (hb hby d15_3) rfl ?_
    refine XS.istore X0.here hx rfl (hb hby d15_4) rfl (l' := #[.val .null, .val (.ref a2), .val (.int (0 : Int32)), .val (.int (0 : Int32)), .val (.int (3 : Int32)), .val (.int (2 : Int32)), .unset, .unset, .unset, .unset, .unset, .unset, .unset, .unset, .unset, .unset, .unset, .unset, .unset, .unset, .unset]) rfl ?_
    show Steps p.tables e below (s₁.setTop (mkF m 6 #[.val .null, .val (.ref a2), .val (.int (0 : Int32)), .val (.int (0 : Int32)), .val (.int (3 : Int32)), .val (.int (2 : Int32)), .unset, .unset, .unset, .unset, .unset, .unset, .unset, .unset, .unset, .unset, .unset, .unset, .unset, .unset, .unset] [])) _
    refine XS.iload X0.here hx rfl (hb hby d15_6) rfl ?_
    refine XS.iloadN X0.here hx rfl (hb hby d15_8) rfl ?_
    refine XS.isub X0.here hx rfl (hb hby d15_9) rfl ?_
    refine XS.istore X0.here hx rfl (hb hby d15_10) rfl (l' := #[.val .null, .val (.ref a2), .val (.int (0 : Int32)), .val (.int (0 : Int32)), .val (.int (3 : Int32)), .val (.int (2 : Int32)), .val (.int (3 : Int32)), .unset, .unset, .unset, .unset, .unset, .unset, .unset, .unset, .unset, .unset, .unset, .unset, .unset, .unset]) rfl ?_
    show Steps p.tables e below (s₁.setTop (mkF m 12 #[.val .null, .val (.ref a2), .val (.int (0 : Int32)), .val (.int (0 : Int32)), .val (.int (3 : Int32)), .val (.int (2 : Int32)), .val (.int (3 : Int32)), .unset, .unset, .unset, .unset, .unset, .unset, .unset, .unset, .unset, .unset, .unset, .unset, .unset, .unset] [])) _
    refine XS.iload X0.here hx rfl (hb hby d15_12) rfl ?_
    refine XS.bipush X0.here hx rfl (hb hby d15_14) ?_
    refine XS.iloadN X0.here hx rfl (hb hby d15_16) rfl ?_
    refine XS.iadd X0.here hx rfl (hb hby d15_17) rfl ?_
    show Steps p.tables e below (s₁.setTop (mkF m 18 #[.val .null, .val (.ref a2), .val (.int (0 : Int32)), .val (.int (0 : Int32)), .val (.int (3 : Int32)), .val (.int (2 : Int32)), .val (.int (3 : Int32)), .unset, .unset, .unset, .unset, .unset, .unset, .unset, .unset, .unset, .unset, .unset, .unset, .unset, .unset] [(.int (65 : Int32)), (.int (3 : Int32))])) _
    refine XS.icmpNo X0.here hx rfl (hb hby d15_18) rfl (tlt (by decide)).2.1 ?_
    refine XS.iloadN X0.here hx rfl (hb hby d15_21) rfl ?_
    refine XS.iconst X0.here hx rfl (hb hby d15_22) ?_
    refine XS.iand X0.here hx rfl (hb hby d15_23) rfl ?_
    show Steps p.tables e below (s₁.setTop (mkF m 24 #[.val .null, .val (.ref a2), .val (.int (0 : Int32)), .val (.int (0 : Int32)), .val (.int (3 : Int32)), .val (.int (2 : Int32)), .val (.int (3 : Int32)), .unset, .unset, .unset, .unset, .unset, .unset, .unset, .unset, .unset, .unset, .unset, .unset, .unset, .unset] [(.int (0 : Int32))])) _
    refine XS.ifYes X0.here hx rfl (pc0 := 24) (pc' := 46) rfl (hb hby d15_24) rfl ((if0 _ _).trans (flt (by decide)).2.2.2) (by decide) (by decide) ?_
    refine XS.iload X0.here hx rfl (hb hby d15_46) rfl ?_
    refine XS.bipush X0.here hx rfl (hb hby d15_48) ?_
    refine XS.icmpNo X0.here hx rfl (hb hby d15_50) rfl (tlt (by decide)).2.1 ?_
    show Steps p.tables e below (s₁.setTop (mkF m 53 #[.val .null, .val (.ref a2), .val (.int (0 : Int32)), .val (.int (0 : Int32)), .val (.int (3 : Int32)), .val (.int (2 : Int32)), .val (.int (3 : Int32)), .unset, .unset, .unset, .unset, .unset, .unset, .unset, .unset, .unset, .unset, .unset, .unset, .unset, .unset] [])) _
    refine XS.aloadN X0.here hx rfl (hb hby d15_53) rfl rfl ?_
    refine XS.iloadN X0.here hx rfl (hb hby d15_54) rfl ?_
    refine XS.iload X0.here hx rfl (hb hby d15_55) rfl ?_
    refine st352 _ ?_
    show Steps p.tables e below (T352.setTop (mkF m 60 #[.val .null, .val (.ref a2), .val (.int (0 : Int32)), .val (.int (0 : Int32)), .val (.int (3 : Int32)), .val (.int (2 : Int32)), .val (.int (3 : Int32)), .unset, .unset, .unset, .unset, .unset, .unset, .unset, .unset, .unset, .unset, .unset, .unset, .unset, .unset] [])) _
    exact X352.returnOut hx Bd.returns (hb hby d15_60) hr
  · show Q_rmd23 Z a2 ka x0 x1 x2 h0 n0 _ T352.heap _
    exact ⟨r0_352, r1_352, r2_352, rfl, N352, K354, g352_0, g352_1⟩
def Q_rmd13 (Z : State) (a1 : Addr) (ka : ClassId) (x0 : Int32) (x1 : Int32) (x2 : Int32) (h0 : Heap) (n0 : Nat) (v : Option Value) (h : Heap) (L : List Loc) : Prop := ∃ r0 : Int32, ∃ r1 : Int32, ∃ r2 : Int32, v = none ∧ Fr n0 L ∧ Keep h0 h [a1] ∧ (Arv Z h a1 ka .int (4 : Int32) [(.int r0), (.int r1), (.int r2), (.int (0 : Int32))] (.int (0 : Int32))) ∧ (r2 = (if x0 < (if x1 < x2 then x2 else x1) then (if x1 < x2 then x2 else x1) else x0))
set_option maxRecDepth 65536 in
set_option maxHeartbeats 40000000 in
theorem rmd13 (l : Launch) (Z : State) (a0 : Array Value) (hw : ∀ d ∈ tables_1, d.before a0 Z = true) (ws : List Jvm.Cond) (a1 : Addr) (ka : ClassId) (x0 : Int32) (x1 : Int32) (x2 : Int32) (h0 : Heap) (n0 : Nat) (Z0 : n0 ≤ h0.size) (V_a1 : Arv Z h0 a1 ka .int (4 : Int32) [(.int x0), (.int x1), (.int x2), (.int (0 : Int32))] (.int (0 : Int32))) (g_a1 : n0 ≤ a1) :
    MetFree l (⟨"java/util/DualPivotQuicksort", "sort", "([IIII)V"⟩ : MethodName) (head1 (Jvm.Cond.code (⟨"java/util/DualPivotQuicksort", "sort", "([IIII)V"⟩ : MethodName) jdk_2529_method_3_code 7 none :: ws) ({ frames := 2, cells := 0, slots := 0, locals := 49 } : Room)) (fun a U => a = #[(.ref a1), (.int (0 : Int32)), (.int (0 : Int32)), (.int (3 : Int32))] ∧ Z.Warmed39 U.vm ∧ U.heap = h0) (fun _ _ _ _ _ => True) (fun _ U o U' => ∃ v L, o = .returned v ∧ Q_rmd13 Z a1 ka x0 x1 x2 h0 n0 v U'.heap L ∧ FrameEnd U o U' L ({ frames := 2, cells := 0, slots := 0, locals := 49 } : Room).cells ({ frames := 2, cells := 0, slots := 0, locals := 49 } : Room).slots) := by
  refine MetFree.of_bodySF (plainFor_of_name pn_java_util_DualPivotQuicksort) hisR ?_
  intro p e s m args below meth c s₁ Bd hml0 hP hK
  obtain ⟨rfl, hZ, hh⟩ := hP
  have hx := Bd.exec
  have hby := Bd.bytes
  have hml : c.maxLocals = 7 := hml0
  have hown : s.vm.findClass "java/util/DualPivotQuicksort" = some m.cls := findClass_of_methodNamed Bd.named
  have hnm := (name_of_methodNamed Bd.named Bd.method).1
  have X0 : Stand p l e ({ frames := 2, cells := 0, slots := 0, locals := 49 } : Room) s m #[(.ref a1), (.int (0 : Int32)), (.int (0 : Int32)), (.int (3 : Int32))] below meth c s₁ [] 0 0 := Stand.of_body Bd
  have e0 : s₁.heap = h0 := by rw [← hh, Bd.state]; rfl
  have N0 := Fr.nil n0
  have pre0 : ∀ t, Steps p.tables e below (s₁.setTop (mkF m 0 #[.val (.ref a1), .val (.int (0 : Int32)), .val (.int (0 : Int32)), .val (.int (3 : Int32)), .unset, .unset, .unset] [])) t → Steps p.tables e below (s₁.setTop (entryFrame m #[(.ref a1), (.int (0 : Int32)), (.int (0 : Int32)), (.int (3 : Int32))] 7)) t := fun t k => castTop (ef_14 m a1 (0 : Int32) (0 : Int32) (3 : Int32)) k
  obtain ⟨_, _, ⟨T355, L355, k355, n355⟩, -, X355, ⟨Lc355, hQ355, l355, y355, z355⟩, st355⟩ := Jvm.LawKit.callS X0 hx (y := (⟨"java/util/DualPivotQuicksort", "sort", "(Ljava/util/DualPivotQuicksort$Sorter;[IIII)V"⟩ : MethodName)) hown (mvT hZ (wd_89 hw)) (mvT hZ (wd_90 hw)) (mvT hZ (wd_87 hw)) (mvT hZ (wd_91 hw)) (by decide) (backOf (W := 0) (rmd23 l Z a0 hw [] a1 ka x0 x1 x2 h0 n0 Z0 V_a1 g_a1) hZ (wd_91 hw) (wd_87 hw) (by decide) (by decide)) (g := (mkF m 73 #[.val (.ref a1), .val (.int (0 : Int32)), .val (.int (0 : Int32)), .val (.int (3 : Int32)), .val (.int (3 : Int32)), .unset, .unset] [(.int (3 : Int32)), (.int (0 : Int32)), (.int (0 : Int32)), (.ref a1), .null])) rfl (by rw [hml]; rfl) (argsL := [.null, (.ref a1), (.int (0 : Int32)), (.int (0 : Int32)), (.int (3 : Int32))]) (rest := []) (lenOf pd__Ljava_util_DualPivotQuicksort_Sorter__IIII_V rfl) rfl (by show 2 * 0 + _ ≤ _; exact Nat.le_of_eq rfl) (hb hby d14_73) (fun _ _ => ⟨rfl, e0, (by decide : 0 + 0 ≤ _), (by decide : 0 + 0 ≤ _)⟩)
  dsimp only [Pt.U, Pt.locs, Pt.cells, Pt.slots] at X355 l355 y355 z355 st355 hQ355
  subst l355 y355 z355
  obtain ⟨r0_355, r1_355, r2_355, rfl, N355q, K355q, g355_0, g355_1⟩ := hQ355
  have N355 := Fr.app N0 N355q
  have Z356 : n0 ≤ T355.heap.size := Nat.le_trans Z0 K355q.1
  have K357 : Keep h0 T355.heap [a1] := Keep.trans (Keep.refl h0 [a1]) K355q (allS (Or.inl (List.mem_of_getElem? (i := 0) rfl)) all0)
  obtain ⟨fs, hr, hrun, hended, hW, hsame⟩ := X355.leave (v := none) (fun _ => rfl)
  refine ⟨_, _, pre0 _ ?_, hrun, hended, _, _, rfl, ?_, ⟨_, rfl⟩, hW, hsame.mono (by decide) (by decide)⟩
  · show Steps p.tables e below (s₁.setTop (mkF m 0 #[.val (.ref a1), .val (.int (0 : Int32)), .val (.int (0 : Int32)), .val (.int (3 : Int32)), .unset, .unset, .unset] [])) _
    refine XS.iloadN X0.here hx rfl (hb hby d14_0) rfl ?_
    refine XS.iloadN X0.here hx rfl (hb hby d14_1) rfl ?_
    refine XS.isub X0.here hx rfl (hb hby d14_2) rfl ?_
    refine XS.istore X0.here hx rfl (hb hby d14_3) rfl (l' := #[.val (.ref a1), .val (.int (0 : Int32)), .val (.int (0 : Int32)), .val (.int (3 : Int32)), .val (.int (3 : Int32)), .unset, .unset]) rfl ?_
    show Steps p.tables e below (s₁.setTop (mkF m 5 #[.val (.ref a1), .val (.int (0 : Int32)), .val (.int (0 : Int32)), .val (.int (3 : Int32)), .val (.int (3 : Int32)), .unset, .unset] [])) _
    refine XS.iloadN X0.here hx rfl (hb hby d14_5) rfl ?_
    refine XS.iconst X0.here hx rfl (hb hby d14_6) ?_
    refine XS.icmpYes X0.here hx rfl (pc0 := 7) (pc' := 68) rfl (hb hby d14_7) rfl (flt (by decide)).2.2.2 (by decide) (by decide) ?_
    refine XS.aconstNull X0.here hx rfl (hb hby d14_68) ?_
    show Steps p.tables e below (s₁.setTop (mkF m 69 #[.val (.ref a1), .val (.int (0 : Int32)), .val (.int (0 : Int32)), .val (.int (3 : Int32)), .val (.int (3 : Int32)), .unset, .unset] [.null])) _
    refine XS.aloadN X0.here hx rfl (hb hby d14_69) rfl rfl ?_
    refine XS.iconst X0.here hx rfl (hb hby d14_70) ?_
    refine XS.iloadN X0.here hx rfl (hb hby d14_71) rfl ?_
    refine XS.iloadN X0.here hx rfl (hb hby d14_72) rfl ?_
    show Steps p.tables e below (s₁.setTop (mkF m 73 #[.val (.ref a1), .val (.int (0 : Int32)), .val (.int (0 : Int32)), .val (.int (3 : Int32)), .val (.int (3 : Int32)), .unset, .unset] [(.int (3 : Int32)), (.int (0 : Int32)), (.int (0 : Int32)), (.ref a1), .null])) _
    refine st355 _ ?_
    exact X355.returnOut hx Bd.returns (hb hby d14_76) hr
  · show Q_rmd13 Z a1 ka x0 x1 x2 h0 n0 _ T355.heap _
    exact ⟨r0_355, r1_355, r2_355, rfl, N355, K357, g355_0, g355_1⟩
def Q_rmrc3 (Z : State)  (h0 : Heap) (n0 : Nat) (v : Option Value) (h : Heap) (L : List Loc) : Prop := v = none ∧ Fr n0 L ∧ h = h0
set_option maxRecDepth 65536 in
set_option maxHeartbeats 40000000 in
theorem rmrc3 (l : Launch) (Z : State) (a0 : Array Value) (hw : ∀ d ∈ tables_1, d.before a0 Z = true) (ws : List Jvm.Cond)  (h0 : Heap) (n0 : Nat) (Z0 : n0 ≤ h0.size) :
    MetFree l (⟨"java/util/Arrays", "rangeCheck", "(III)V"⟩ : MethodName) (head1 (Jvm.Cond.code (⟨"java/util/Arrays", "rangeCheck", "(III)V"⟩ : MethodName) jdk_65_method_30_code 3 none :: ws) ({ frames := 0, cells := 0, slots := 0, locals := 0 } : Room)) (fun a U => a = #[(.int (4 : Int32)), (.int (0 : Int32)), (.int (3 : Int32))] ∧ Z.Warmed39 U.vm ∧ U.heap = h0) (fun _ _ _ _ _ => True) (fun _ U o U' => ∃ v L, o = .returned v ∧ Q_rmrc3 Z  h0 n0 v U'.heap L ∧ FrameEnd U o U' L ({ frames := 0, cells := 0, slots := 0, locals := 0 } : Room).cells ({ frames := 0, cells := 0, slots := 0, locals := 0 } : Room).slots) := by
  refine MetFree.of_bodySF (plainFor_of_name pn_java_util_Arrays) hisR ?_
  intro p e s m args below meth c s₁ Bd hml0 hP hK
  obtain ⟨rfl, hZ, hh⟩ := hP
  have hx := Bd.exec
  have hby := Bd.bytes
  have hml : c.maxLocals = 3 := hml0
  have hown : s.vm.findClass "java/util/Arrays" = some m.cls := findClass_of_methodNamed Bd.named
  have hnm := (name_of_methodNamed Bd.named Bd.method).1
  have X0 : Stand p l e ({ frames := 0, cells := 0, slots := 0, locals := 0 } : Room) s m #[(.int (4 : Int32)), (.int (0 : Int32)), (.int (3 : Int32))] below meth c s₁ [] 0 0 := Stand.of_body Bd
  have e0 : s₁.heap = h0 := by rw [← hh, Bd.state]; rfl
  have N0 := Fr.nil n0
  have pre0 : ∀ t, Steps p.tables e below (s₁.setTop (mkF m 0 #[.val (.int (4 : Int32)), .val (.int (0 : Int32)), .val (.int (3 : Int32))] [])) t → Steps p.tables e below (s₁.setTop (entryFrame m #[(.int (4 : Int32)), (.int (0 : Int32)), (.int (3 : Int32))] 3)) t := fun t k => castTop (ef_13 m (4 : Int32) (0 : Int32) (3 : Int32)) k
  obtain ⟨fs, hr, hrun, hended, hW, hsame⟩ := X0.leave (v := none) (fun _ => rfl)
  refine ⟨_, _, pre0 _ ?_, hrun, hended, _, _, rfl, ?_, ⟨_, rfl⟩, hW, hsame.mono (by decide) (by decide)⟩
  · show Steps p.tables e below (s₁.setTop (mkF m 0 #[.val (.int (4 : Int32)), .val (.int (0 : Int32)), .val (.int (3 : Int32))] [])) _
    refine XS.iloadN X0.here hx rfl (hb hby d13_0) rfl ?_
    refine XS.iloadN X0.here hx rfl (hb hby d13_1) rfl ?_
    refine XS.icmpYes X0.here hx rfl (pc0 := 2) (pc' := 46) rfl (hb hby d13_2) rfl (flt (by decide)).2.2.2 (by decide) (by decide) ?_
    refine XS.iloadN X0.here hx rfl (hb hby d13_46) rfl ?_
    show Steps p.tables e below (s₁.setTop (mkF m 47 #[.val (.int (4 : Int32)), .val (.int (0 : Int32)), .val (.int (3 : Int32))] [(.int (0 : Int32))])) _
    refine XS.ifYes X0.here hx rfl (pc0 := 47) (pc' := 59) rfl (hb hby d13_47) rfl ((if0 _ _).trans (flt (by decide)).2.1) (by decide) (by decide) ?_
    refine XS.iloadN X0.here hx rfl (hb hby d13_59) rfl ?_
    refine XS.iloadN X0.here hx rfl (hb hby d13_60) rfl ?_
    refine XS.icmpYes X0.here hx rfl (pc0 := 61) (pc' := 73) rfl (hb hby d13_61) rfl (flt (by decide)).2.2.2 (by decide) (by decide) ?_
    show Steps p.tables e below (s₁.setTop (mkF m 73 #[.val (.int (4 : Int32)), .val (.int (0 : Int32)), .val (.int (3 : Int32))] [])) _
    exact X0.returnOut hx Bd.returns (hb hby d13_73) hr
  · show Q_rmrc3 Z  h0 n0 _ s₁.heap _
    rw [e0]
    exact ⟨rfl, N0, rfl⟩
def Q_rmas3 (Z : State) (a1 : Addr) (ka : ClassId) (x0 : Int32) (x1 : Int32) (x2 : Int32) (h0 : Heap) (n0 : Nat) (v : Option Value) (h : Heap) (L : List Loc) : Prop := ∃ r0 : Int32, ∃ r1 : Int32, ∃ r2 : Int32, v = none ∧ Fr n0 L ∧ Keep h0 h [a1] ∧ (Arv Z h a1 ka .int (4 : Int32) [(.int r0), (.int r1), (.int r2), (.int (0 : Int32))] (.int (0 : Int32))) ∧ (r2 = (if x0 < (if x1 < x2 then x2 else x1) then (if x1 < x2 then x2 else x1) else x0))
set_option maxRecDepth 65536 in
set_option maxHeartbeats 40000000 in
theorem rmas3 (l : Launch) (Z : State) (a0 : Array Value) (hw : ∀ d ∈ tables_1, d.before a0 Z = true) (ws : List Jvm.Cond) (a1 : Addr) (ka : ClassId) (x0 : Int32) (x1 : Int32) (x2 : Int32) (h0 : Heap) (n0 : Nat) (Z0 : n0 ≤ h0.size) (V_a1 : Arv Z h0 a1 ka .int (4 : Int32) [(.int x0), (.int x1), (.int x2), (.int (0 : Int32))] (.int (0 : Int32))) (g_a1 : n0 ≤ a1) :
    MetFree l (⟨"java/util/Arrays", "sort", "([III)V"⟩ : MethodName) (head1 (Jvm.Cond.code (⟨"java/util/Arrays", "sort", "([III)V"⟩ : MethodName) jdk_65_method_3_code 3 none :: ws) ({ frames := 3, cells := 0, slots := 0, locals := 67 } : Room)) (fun a U => a = #[(.ref a1), (.int (0 : Int32)), (.int (3 : Int32))] ∧ Z.Warmed39 U.vm ∧ U.heap = h0) (fun _ _ _ _ _ => True) (fun _ U o U' => ∃ v L, o = .returned v ∧ Q_rmas3 Z a1 ka x0 x1 x2 h0 n0 v U'.heap L ∧ FrameEnd U o U' L ({ frames := 3, cells := 0, slots := 0, locals := 67 } : Room).cells ({ frames := 3, cells := 0, slots := 0, locals := 67 } : Room).slots) := by
  refine MetFree.of_bodySF (plainFor_of_name pn_java_util_Arrays) hisR ?_
  intro p e s m args below meth c s₁ Bd hml0 hP hK
  obtain ⟨rfl, hZ, hh⟩ := hP
  have hx := Bd.exec
  have hby := Bd.bytes
  have hml : c.maxLocals = 3 := hml0
  have hown : s.vm.findClass "java/util/Arrays" = some m.cls := findClass_of_methodNamed Bd.named
  have hnm := (name_of_methodNamed Bd.named Bd.method).1
  have X0 : Stand p l e ({ frames := 3, cells := 0, slots := 0, locals := 67 } : Room) s m #[(.ref a1), (.int (0 : Int32)), (.int (3 : Int32))] below meth c s₁ [] 0 0 := Stand.of_body Bd
  have e0 : s₁.heap = h0 := by rw [← hh, Bd.state]; rfl
  have N0 := Fr.nil n0
  have pre0 : ∀ t, Steps p.tables e below (s₁.setTop (mkF m 0 #[.val (.ref a1), .val (.int (0 : Int32)), .val (.int (3 : Int32))] [])) t → Steps p.tables e below (s₁.setTop (entryFrame m #[(.ref a1), (.int (0 : Int32)), (.int (3 : Int32))] 3)) t := fun t k => castTop (ef_12 m a1 (0 : Int32) (3 : Int32)) k
  obtain ⟨cl358, Ar358, q358, S358, N358n, H358, G358⟩ := id (V_a1)
  obtain ⟨_, _, ⟨T359, L359, k359, n359⟩, -, X359, ⟨Lc359, hQ359, l359, y359, z359⟩, st359⟩ := Jvm.LawKit.callS X0 hx (y := (⟨"java/util/Arrays", "rangeCheck", "(III)V"⟩ : MethodName)) hown (mvT hZ (wd_82 hw)) (mvT hZ (wd_83 hw)) (mvT hZ (wd_61 hw)) (mvT hZ (wd_84 hw)) (by decide) (backOf (W := 0) (rmrc3 l Z a0 hw []  h0 n0 Z0) hZ (wd_84 hw) (wd_61 hw) (by decide) (by decide)) (g := (mkF m 4 #[.val (.ref a1), .val (.int (0 : Int32)), .val (.int (3 : Int32))] [(.int (3 : Int32)), (.int (0 : Int32)), (.int (4 : Int32))])) rfl (by rw [hml]; rfl) (argsL := [(.int (4 : Int32)), (.int (0 : Int32)), (.int (3 : Int32))]) (rest := []) (lenOf pd__III_V rfl) rfl (by show 2 * 0 + _ ≤ _; exact Nat.le_of_eq rfl) (hb hby d12_4) (fun _ _ => ⟨rfl, e0, (by decide : 0 + 0 ≤ _), (by decide : 0 + 0 ≤ _)⟩)
  dsimp only [Pt.U, Pt.locs, Pt.cells, Pt.slots] at X359 l359 y359 z359 st359 hQ359
  subst l359 y359 z359
  obtain ⟨rfl, N359q, e359⟩ := hQ359
  have N359 := Fr.app N0 N359q
  obtain ⟨_, _, ⟨T360, L360, k360, n360⟩, -, X360, ⟨Lc360, hQ360, l360, y360, z360⟩, st360⟩ := Jvm.LawKit.callS X359 hx (y := (⟨"java/util/DualPivotQuicksort", "sort", "([IIII)V"⟩ : MethodName)) hown (mvT hZ (wd_85 hw)) (mvT hZ (wd_86 hw)) (mvT hZ (wd_87 hw)) (mvT hZ (wd_88 hw)) (by decide) (backOf (W := 0) (rmd13 l Z a0 hw [] a1 ka x0 x1 x2 h0 n0 Z0 V_a1 g_a1) hZ (wd_88 hw) (wd_87 hw) (by decide) (by decide)) (g := (mkF m 11 #[.val (.ref a1), .val (.int (0 : Int32)), .val (.int (3 : Int32))] [(.int (3 : Int32)), (.int (0 : Int32)), (.int (0 : Int32)), (.ref a1)])) rfl (by rw [hml]; rfl) (argsL := [(.ref a1), (.int (0 : Int32)), (.int (0 : Int32)), (.int (3 : Int32))]) (rest := []) (lenOf pd___IIII_V rfl) rfl (by show 2 * 0 + _ ≤ _; exact Nat.le_of_eq rfl) (hb hby d12_11) (fun _ _ => ⟨rfl, e359, (by decide : 0 + 0 ≤ _), (by decide : 0 + 0 ≤ _)⟩)
  dsimp only [Pt.U, Pt.locs, Pt.cells, Pt.slots] at X360 l360 y360 z360 st360 hQ360
  subst l360 y360 z360
  obtain ⟨r0_360, r1_360, r2_360, rfl, N360q, K360q, g360_0, g360_1⟩ := hQ360
  have N360 := Fr.app N359 N360q
  have Z361 : n0 ≤ T360.heap.size := Nat.le_trans Z0 K360q.1
  have K362 : Keep h0 T360.heap [a1] := Keep.trans (Keep.refl h0 [a1]) K360q (allS (Or.inl (List.mem_of_getElem? (i := 0) rfl)) all0)
  obtain ⟨fs, hr, hrun, hended, hW, hsame⟩ := X360.leave (v := none) (fun _ => rfl)
  refine ⟨_, _, pre0 _ ?_, hrun, hended, _, _, rfl, ?_, ⟨_, rfl⟩, hW, hsame.mono (by decide) (by decide)⟩
  · show Steps p.tables e below (s₁.setTop (mkF m 0 #[.val (.ref a1), .val (.int (0 : Int32)), .val (.int (3 : Int32))] [])) _
    refine XS.aloadN X0.here hx rfl (hb hby d12_0) rfl rfl ?_
    refine X0.arraylength hx (by rw [e0]; exact Ar358.1) (State.isArrayOf_alike hZ.alike Ar358.2.1) (g := (mkF m 1 #[.val (.ref a1), .val (.int (0 : Int32)), .val (.int (3 : Int32))] [(.ref a1)])) rfl rfl (hb hby d12_1) _ ?_
    rw [len_of S358 N358n]
    refine XS.iloadN X0.here hx rfl (hb hby d12_2) rfl ?_
    refine XS.iloadN X0.here hx rfl (hb hby d12_3) rfl ?_
    show Steps p.tables e below (s₁.setTop (mkF m 4 #[.val (.ref a1), .val (.int (0 : Int32)), .val (.int (3 : Int32))] [(.int (3 : Int32)), (.int (0 : Int32)), (.int (4 : Int32))])) _
    refine st359 _ ?_
    refine XS.aloadN X359.here hx rfl (hb hby d12_7) rfl rfl ?_
    refine XS.iconst X359.here hx rfl (hb hby d12_8) ?_
    refine XS.iloadN X359.here hx rfl (hb hby d12_9) rfl ?_
    show Steps p.tables e below (T359.setTop (mkF m 10 #[.val (.ref a1), .val (.int (0 : Int32)), .val (.int (3 : Int32))] [(.int (0 : Int32)), (.int (0 : Int32)), (.ref a1)])) _
    refine XS.iloadN X359.here hx rfl (hb hby d12_10) rfl ?_
    refine st360 _ ?_
    exact X360.returnOut hx Bd.returns (hb hby d12_14) hr
  · show Q_rmas3 Z a1 ka x0 x1 x2 h0 n0 _ T360.heap _
    exact ⟨r0_360, r1_360, r2_360, rfl, N360, K362, g360_0, g360_1⟩
def Q_rmo3 (Z : State) (a1 : Addr) (pa : Addr) (ka : ClassId) (x0 : Int32) (x1 : Int32) (x2 : Int32) (h0 : Heap) (n0 : Nat) (v : Option Value) (h : Heap) (L : List Loc) : Prop := ∃ r0 : Int32, ∃ r1 : Int32, ∃ r2 : Int32, v = none ∧ Fr n0 L ∧ Keep h0 h [a1, pa] ∧ (Fld Z h a1 "com/example/kawi/kawi/OrderedNames" "places" "[I" (.ref pa)) ∧ (Fld Z h a1 "com/example/kawi/kawi/OrderedNames" "size" "I" (.int (3 : Int32))) ∧ (Arv Z h pa ka .int (4 : Int32) [(.int r0), (.int r1), (.int r2), (.int (0 : Int32))] (.int (0 : Int32))) ∧ (r2 = (if x0 < (if x1 < x2 then x2 else x1) then (if x1 < x2 then x2 else x1) else x0))
set_option maxRecDepth 65536 in
set_option maxHeartbeats 40000000 in
theorem rmo3 (l : Launch) (Z : State) (a0 : Array Value) (hw : ∀ d ∈ tables_1, d.before a0 Z = true) (ws : List Jvm.Cond) (a1 : Addr) (pa : Addr) (ka : ClassId) (x0 : Int32) (x1 : Int32) (x2 : Int32) (h0 : Heap) (n0 : Nat) (Z0 : n0 ≤ h0.size) (F_places_a1 : Fld Z h0 a1 "com/example/kawi/kawi/OrderedNames" "places" "[I" (.ref pa)) (F_ordered_a1 : Fld Z h0 a1 "com/example/kawi/kawi/OrderedNames" "ordered" "Z" (.int (0 : Int32))) (F_size_a1 : Fld Z h0 a1 "com/example/kawi/kawi/OrderedNames" "size" "I" (.int (3 : Int32))) (E_a1 : Exa Z h0 a1 "com/example/kawi/kawi/OrderedNames") (g_a1 : n0 ≤ a1) (g_pa : n0 ≤ pa) (V_pa : Arv Z h0 pa ka .int (4 : Int32) [(.int x0), (.int x1), (.int x2), (.int (0 : Int32))] (.int (0 : Int32))) (ne_pa_a1 : pa ≠ a1) :
    MetFree l (⟨"com/example/kawi/kawi/OrderedNames", "order", "()V"⟩ : MethodName) (head1 (Jvm.Cond.code (⟨"com/example/kawi/kawi/OrderedNames", "order", "()V"⟩ : MethodName) prog_68_method_3_code 1 none :: ws) ({ frames := 4, cells := 0, slots := 0, locals := 81 } : Room)) (fun a U => a = #[(.ref a1)] ∧ Z.Warmed39 U.vm ∧ U.heap = h0) (fun _ _ _ _ _ => True) (fun _ U o U' => ∃ v L, o = .returned v ∧ Q_rmo3 Z a1 pa ka x0 x1 x2 h0 n0 v U'.heap L ∧ FrameEnd U o U' L ({ frames := 4, cells := 0, slots := 0, locals := 81 } : Room).cells ({ frames := 4, cells := 0, slots := 0, locals := 81 } : Room).slots) := by
  refine MetFree.of_bodySF (plainFor_of_name pn_com_example_kawi_kawi_OrderedNames) hisR ?_
  intro p e s m args below meth c s₁ Bd hml0 hP hK
  obtain ⟨rfl, hZ, hh⟩ := hP
  have hx := Bd.exec
  have hby := Bd.bytes
  have hml : c.maxLocals = 1 := hml0
  have hown : s.vm.findClass "com/example/kawi/kawi/OrderedNames" = some m.cls := findClass_of_methodNamed Bd.named
  have hnm := (name_of_methodNamed Bd.named Bd.method).1
  have X0 : Stand p l e ({ frames := 4, cells := 0, slots := 0, locals := 81 } : Room) s m #[(.ref a1)] below meth c s₁ [] 0 0 := Stand.of_body Bd
  have e0 : s₁.heap = h0 := by rw [← hh, Bd.state]; rfl
  have N0 := Fr.nil n0
  have pre0 : ∀ t, Steps p.tables e below (s₁.setTop (mkF m 0 #[.val (.ref a1)] [])) t → Steps p.tables e below (s₁.setTop (entryFrame m #[(.ref a1)] 1)) t := fun t k => castTop (ef_11 m a1) k
  obtain ⟨T363, X363, e363, st363⟩ := getF X0 hx hZ hown (host := "") (Or.inl (wd_39 hw)) Via.refl e0 F_ordered_a1 (g := (mkF m 1 #[.val (.ref a1)] [(.ref a1)])) rfl rfl (hb hby d11_1)
  obtain ⟨T364, X364, e364, st364⟩ := getF X363 hx hZ hown (host := "") (Or.inl (wd_37 hw)) Via.refl e363 F_places_a1 (g := (mkF m 8 #[.val (.ref a1)] [(.ref a1)])) rfl rfl (hb hby d11_8)
  obtain ⟨T365, X365, e365, st365⟩ := getF X364 hx hZ hown (host := "") (Or.inl (wd_48 hw)) Via.refl e364 F_size_a1 (g := (mkF m 13 #[.val (.ref a1)] [(.ref a1), (.int (0 : Int32)), (.ref pa)])) rfl rfl (hb hby d11_13)
  obtain ⟨_, _, ⟨T366, L366, k366, n366⟩, -, X366, ⟨Lc366, hQ366, l366, y366, z366⟩, st366⟩ := Jvm.LawKit.callS X365 hx (y := (⟨"java/util/Arrays", "sort", "([III)V"⟩ : MethodName)) hown (mvT hZ (wd_79 hw)) (mvT hZ (wd_80 hw)) (mvT hZ (wd_61 hw)) (mvT hZ (wd_81 hw)) (by decide) (backOf (W := 0) (rmas3 l Z a0 hw [] pa ka x0 x1 x2 h0 n0 Z0 V_pa g_pa) hZ (wd_81 hw) (wd_61 hw) (by decide) (by decide)) (g := (mkF m 16 #[.val (.ref a1)] [(.int (3 : Int32)), (.int (0 : Int32)), (.ref pa)])) rfl (by rw [hml]; rfl) (argsL := [(.ref pa), (.int (0 : Int32)), (.int (3 : Int32))]) (rest := []) (lenOf pd___III_V rfl) rfl (by show 2 * 0 + _ ≤ _; exact Nat.le_of_eq rfl) (hb hby d11_16) (fun _ _ => ⟨rfl, e365, (by decide : 0 + 0 ≤ _), (by decide : 0 + 0 ≤ _)⟩)
  dsimp only [Pt.U, Pt.locs, Pt.cells, Pt.slots] at X366 l366 y366 z366 st366 hQ366
  subst l366 y366 z366
  obtain ⟨r0_366, r1_366, r2_366, rfl, N366q, K366q, g366_0, g366_1⟩ := hQ366
  have N366 := Fr.app N0 N366q
  have Z367 : n0 ≤ T366.heap.size := Nat.le_trans Z0 K366q.1
  have K368 : Keep h0 T366.heap [a1, pa] := Keep.trans (Keep.refl h0 [a1, pa]) K366q (allS (Or.inl (List.mem_of_getElem? (i := 1) rfl)) all0)
  obtain ⟨T369, h369, X369, e369, W369, st369⟩ := putFN X366 hx hZ hown (wd_39 hw) Via.refl rfl (F_ordered_a1.keep K366q (ninS (Ne.symm ne_pa_a1) nin0)) (E_a1.keep K366q) (Or.inl (wd_40 hw)) (wd_1 hw) (ty := .boolean) (v' := (.int (1 : Int32))) (by decide) rfl rfl (g := (mkF m 21 #[.val (.ref a1)] [(.int (1 : Int32)), (.ref a1)])) rfl rfl (hb hby d11_21)
  have Fw369 := (F_ordered_a1.keep K366q (ninS (Ne.symm ne_pa_a1) nin0)).same W369
  have Z370 : n0 ≤ h369.size := Nat.le_trans Z367 (Keep.of_wr W369).1
  have K371 : Keep h0 h369 [a1, pa] := Keep.wr K368 W369 (Or.inl (List.mem_of_getElem? (i := 0) rfl))
  have N369 := Fr.snoc X369 N366 g_a1
  obtain ⟨fs, hr, hrun, hended, hW, hsame⟩ := X369.leave (v := none) (fun _ => rfl)
  refine ⟨_, _, pre0 _ ?_, hrun, hended, _, _, rfl, ?_, ⟨_, rfl⟩, hW, hsame.mono (by decide) (by decide)⟩
  · show Steps p.tables e below (s₁.setTop (mkF m 0 #[.val (.ref a1)] [])) _
    refine XS.aloadN X0.here hx rfl (hb hby d11_0) rfl rfl ?_
    refine st363 _ ?_
    refine XS.ifNo X363.here hx rfl (hb hby d11_4) rfl ((if0 _ _).trans (teq (rfl : (0 : Int32) = (0 : Int32))).2) ?_
    refine XS.aloadN X363.here hx rfl (hb hby d11_7) rfl rfl ?_
    show Steps p.tables e below (T363.setTop (mkF m 8 #[.val (.ref a1)] [(.ref a1)])) _
    refine st364 _ ?_
    refine XS.iconst X364.here hx rfl (hb hby d11_11) ?_
    refine XS.aloadN X364.here hx rfl (hb hby d11_12) rfl rfl ?_
    refine st365 _ ?_
    show Steps p.tables e below (T365.setTop (mkF m 16 #[.val (.ref a1)] [(.int (3 : Int32)), (.int (0 : Int32)), (.ref pa)])) _
    refine st366 _ ?_
    refine XS.aloadN X366.here hx rfl (hb hby d11_19) rfl rfl ?_
    refine XS.iconst X366.here hx rfl (hb hby d11_20) ?_
    refine st369 _ ?_
    show Steps p.tables e below (T369.setTop (mkF m 24 #[.val (.ref a1)] [])) _
    exact X369.returnOut hx Bd.returns (hb hby d11_24) hr
  · show Q_rmo3 Z a1 pa ka x0 x1 x2 h0 n0 _ T369.heap _
    rw [e369]
    exact ⟨r0_366, r1_366, r2_366, rfl, N369, K371, ((F_places_a1.keep K366q (ninS (Ne.symm ne_pa_a1) nin0)).other W369 (Or.inr (slot_ne (Or.inl (wd_38 hw)) (Or.inl (wd_40 hw)) (by decide) (t := (.array .int)) (t' := .boolean) (by decide) (by decide)))), ((F_size_a1.keep K366q (ninS (Ne.symm ne_pa_a1) nin0)).other W369 (Or.inr (slot_ne (Or.inl (wd_49 hw)) (Or.inl (wd_40 hw)) (by decide) (t := .int) (t' := .boolean) (by decide) (by decide)))), (g366_0.other W369 ne_pa_a1), g366_1⟩
def Q_rmo1 (Z : State) (a1 : Addr) (h0 : Heap) (n0 : Nat) (v : Option Value) (h : Heap) (L : List Loc) : Prop := v = none ∧ Fr n0 L ∧ h = h0
set_option maxRecDepth 65536 in
set_option maxHeartbeats 40000000 in
theorem rmo1 (l : Launch) (Z : State) (a0 : Array Value) (hw : ∀ d ∈ tables_1, d.before a0 Z = true) (ws : List Jvm.Cond) (a1 : Addr) (h0 : Heap) (n0 : Nat) (Z0 : n0 ≤ h0.size) (F_ordered_a1 : Fld Z h0 a1 "com/example/kawi/kawi/OrderedNames" "ordered" "Z" (.int (1 : Int32))) :
    MetFree l (⟨"com/example/kawi/kawi/OrderedNames", "order", "()V"⟩ : MethodName) (head1 (Jvm.Cond.code (⟨"com/example/kawi/kawi/OrderedNames", "order", "()V"⟩ : MethodName) prog_68_method_3_code 1 none :: ws) ({ frames := 0, cells := 0, slots := 0, locals := 0 } : Room)) (fun a U => a = #[(.ref a1)] ∧ Z.Warmed39 U.vm ∧ U.heap = h0) (fun _ _ _ _ _ => True) (fun _ U o U' => ∃ v L, o = .returned v ∧ Q_rmo1 Z a1 h0 n0 v U'.heap L ∧ FrameEnd U o U' L ({ frames := 0, cells := 0, slots := 0, locals := 0 } : Room).cells ({ frames := 0, cells := 0, slots := 0, locals := 0 } : Room).slots) := by
  refine MetFree.of_bodySF (plainFor_of_name pn_com_example_kawi_kawi_OrderedNames) hisR ?_
  intro p e s m args below meth c s₁ Bd hml0 hP hK
  obtain ⟨rfl, hZ, hh⟩ := hP
  have hx := Bd.exec
  have hby := Bd.bytes
  have hml : c.maxLocals = 1 := hml0
  have hown : s.vm.findClass "com/example/kawi/kawi/OrderedNames" = some m.cls := findClass_of_methodNamed Bd.named
  have hnm := (name_of_methodNamed Bd.named Bd.method).1
  have X0 : Stand p l e ({ frames := 0, cells := 0, slots := 0, locals := 0 } : Room) s m #[(.ref a1)] below meth c s₁ [] 0 0 := Stand.of_body Bd
  have e0 : s₁.heap = h0 := by rw [← hh, Bd.state]; rfl
  have N0 := Fr.nil n0
  have pre0 : ∀ t, Steps p.tables e below (s₁.setTop (mkF m 0 #[.val (.ref a1)] [])) t → Steps p.tables e below (s₁.setTop (entryFrame m #[(.ref a1)] 1)) t := fun t k => castTop (ef_11 m a1) k
  obtain ⟨T372, X372, e372, st372⟩ := getF X0 hx hZ hown (host := "") (Or.inl (wd_39 hw)) Via.refl e0 F_ordered_a1 (g := (mkF m 1 #[.val (.ref a1)] [(.ref a1)])) rfl rfl (hb hby d11_1)
  obtain ⟨fs, hr, hrun, hended, hW, hsame⟩ := X372.leave (v := none) (fun _ => rfl)
  refine ⟨_, _, pre0 _ ?_, hrun, hended, _, _, rfl, ?_, ⟨_, rfl⟩, hW, hsame.mono (by decide) (by decide)⟩
  · show Steps p.tables e below (s₁.setTop (mkF m 0 #[.val (.ref a1)] [])) _
    refine XS.aloadN X0.here hx rfl (hb hby d11_0) rfl rfl ?_
    refine st372 _ ?_
    refine XS.ifYes X372.here hx rfl (pc0 := 4) (pc' := 24) rfl (hb hby d11_4) rfl ((if0 _ _).trans (feq (by decide)).2) (by decide) (by decide) ?_
    exact X372.returnOut hx Bd.returns (hb hby d11_24) hr
  · show Q_rmo1 Z a1 h0 n0 _ T372.heap _
    rw [e372]
    exact ⟨rfl, N0, rfl⟩
theorem d6_0 : decode prog_68_method_5_code 0 = .ok (.aload_n 0, 1) := by decide +kernel
theorem d6_1 : decode prog_68_method_5_code 1 = .ok (.getfield 24, 3) := by decide +kernel
theorem d6_4 : decode prog_68_method_5_code 4 = .ok (.ifCond .le 22, 3) := by decide +kernel
theorem d6_26 : decode prog_68_method_5_code 26 = .ok (.iconst 0, 1) := by decide +kernel
theorem d6_27 : decode prog_68_method_5_code 27 = .ok (.ireturn, 1) := by decide +kernel
theorem ef_6 (m : MethodId) (x0 : Addr) (x1 : Int32) : entryFrame m #[(.ref x0), (.int x1)] 2 = mkF m 0 #[.val (.ref x0), .val (.int x1)] [] := by first | (simp [entryFrame, mkF, argsToLocals, Value.category]; done) | rfl
def Q_rmew0 (Z : State) (a1 : Addr) (p2 : Int32) (h0 : Heap) (n0 : Nat) (v : Option Value) (h : Heap) (L : List Loc) : Prop := v = some (.int (0 : Int32)) ∧ Fr n0 L ∧ h = h0
set_option maxRecDepth 65536 in
set_option maxHeartbeats 40000000 in
theorem rmew0 (l : Launch) (Z : State) (a0 : Array Value) (hw : ∀ d ∈ tables_1, d.before a0 Z = true) (ws : List Jvm.Cond) (a1 : Addr) (p2 : Int32) (h0 : Heap) (n0 : Nat) (Z0 : n0 ≤ h0.size) (F_size_a1 : Fld Z h0 a1 "com/example/kawi/kawi/OrderedNames" "size" "I" (.int (0 : Int32))) :
    MetFree l (⟨"com/example/kawi/kawi/OrderedNames", "endsWith", "(I)Z"⟩ : MethodName) (head1 (Jvm.Cond.code (⟨"com/example/kawi/kawi/OrderedNames", "endsWith", "(I)Z"⟩ : MethodName) prog_68_method_5_code 2 (some .boolean) :: ws) ({ frames := 0, cells := 0, slots := 0, locals := 0 } : Room)) (fun a U => a = #[(.ref a1), (.int p2)] ∧ Z.Warmed39 U.vm ∧ U.heap = h0) (fun _ _ _ _ _ => True) (fun _ U o U' => ∃ v L, o = .returned v ∧ Q_rmew0 Z a1 p2 h0 n0 v U'.heap L ∧ FrameEnd U o U' L ({ frames := 0, cells := 0, slots := 0, locals := 0 } : Room).cells ({ frames := 0, cells := 0, slots := 0, locals := 0 } : Room).slots) := by
  refine MetFree.of_bodySF (plainFor_of_name pn_com_example_kawi_kawi_OrderedNames) hisR ?_
  intro p e s m args below meth c s₁ Bd hml0 hP hK
  obtain ⟨rfl, hZ, hh⟩ := hP
  have hx := Bd.exec
  have hby := Bd.bytes
  have hml : c.maxLocals = 2 := hml0
  have hown : s.vm.findClass "com/example/kawi/kawi/OrderedNames" = some m.cls := findClass_of_methodNamed Bd.named
  have hnm := (name_of_methodNamed Bd.named Bd.method).1
  have X0 : Stand p l e ({ frames := 0, cells := 0, slots := 0, locals := 0 } : Room) s m #[(.ref a1), (.int p2)] below meth c s₁ [] 0 0 := Stand.of_body Bd
  have e0 : s₁.heap = h0 := by rw [← hh, Bd.state]; rfl
  have N0 := Fr.nil n0
  have pre0 : ∀ t, Steps p.tables e below (s₁.setTop (mkF m 0 #[.val (.ref a1), .val (.int p2)] [])) t → Steps p.tables e below (s₁.setTop (entryFrame m #[(.ref a1), (.int p2)] 2)) t := fun t k => castTop (ef_6 m a1 p2) k
  obtain ⟨T373, X373, e373, st373⟩ := getF X0 hx hZ hown (host := "") (Or.inl (wd_48 hw)) Via.refl e0 F_size_a1 (g := (mkF m 1 #[.val (.ref a1), .val (.int p2)] [(.ref a1)])) rfl rfl (hb hby d6_1)
  obtain ⟨fs, hr, hrun, hended, hW, hsame⟩ := X373.leave (v := some (.int (0 : Int32))) (fun h => by rw [Bd.returns] at h; cases h)
  refine ⟨_, _, pre0 _ ?_, hrun, hended, _, _, rfl, ?_, ⟨_, rfl⟩, hW, hsame.mono (by decide) (by decide)⟩
  · show Steps p.tables e below (s₁.setTop (mkF m 0 #[.val (.ref a1), .val (.int p2)] [])) _
    refine XS.aloadN X0.here hx rfl (hb hby d6_0) rfl rfl ?_
    refine st373 _ ?_
    refine XS.ifYes X373.here hx rfl (pc0 := 4) (pc' := 26) rfl (hb hby d6_4) rfl ((if0 _ _).trans (flt (by decide)).2.2.2) (by decide) (by decide) ?_
    refine XS.iconst X373.here hx rfl (hb hby d6_26) ?_
    show Steps p.tables e below (T373.setTop (mkF m 27 #[.val (.ref a1), .val (.int p2)] [(.int (0 : Int32))])) _
    exact retN X373 hx (t := .boolean) Bd.returns (by simp) (hb hby d6_27) hr
  · show Q_rmew0 Z a1 p2 h0 n0 _ T373.heap _
    rw [e373]
    exact ⟨rfl, N0, rfl⟩
theorem d6_7 : decode prog_68_method_5_code 7 = .ok (.aload_n 0, 1) := by decide +kernel
theorem d6_8 : decode prog_68_method_5_code 8 = .ok (.getfield 13, 3) := by decide +kernel
theorem d6_11 : decode prog_68_method_5_code 11 = .ok (.aload_n 0, 1) := by decide +kernel
theorem d6_12 : decode prog_68_method_5_code 12 = .ok (.getfield 24, 3) := by decide +kernel
theorem d6_15 : decode prog_68_method_5_code 15 = .ok (.iconst 1, 1) := by decide +kernel
theorem d6_16 : decode prog_68_method_5_code 16 = .ok (.isub, 1) := by decide +kernel
theorem d6_17 : decode prog_68_method_5_code 17 = .ok (.iaload, 1) := by decide +kernel
theorem d6_18 : decode prog_68_method_5_code 18 = .ok (.iload_n 1, 1) := by decide +kernel
theorem d6_19 : decode prog_68_method_5_code 19 = .ok (.if_icmp .ne 7, 3) := by decide +kernel
theorem d6_22 : decode prog_68_method_5_code 22 = .ok (.iconst 1, 1) := by decide +kernel
theorem d6_23 : decode prog_68_method_5_code 23 = .ok (.goto 4, 3) := by decide +kernel
def Q_rmew1 (Z : State) (a1 : Addr) (p2 : Int32) (pa : Addr) (ka : ClassId) (x0 : Int32) (h0 : Heap) (n0 : Nat) (v : Option Value) (h : Heap) (L : List Loc) : Prop := v = some (.int (if x0 = p2 then (1 : Int32) else (0 : Int32))) ∧ Fr n0 L ∧ h = h0
set_option maxRecDepth 65536 in
set_option maxHeartbeats 40000000 in
theorem rmew1 (l : Launch) (Z : State) (a0 : Array Value) (hw : ∀ d ∈ tables_1, d.before a0 Z = true) (ws : List Jvm.Cond) (a1 : Addr) (p2 : Int32) (pa : Addr) (ka : ClassId) (x0 : Int32) (h0 : Heap) (n0 : Nat) (Z0 : n0 ≤ h0.size) (F_places_a1 : Fld Z h0 a1 "com/example/kawi/kawi/OrderedNames" "places" "[I" (.ref pa)) (F_size_a1 : Fld Z h0 a1 "com/example/kawi/kawi/OrderedNames" "size" "I" (.int (1 : Int32))) (V_pa : Arv Z h0 pa ka .int (1 : Int32) [(.int x0)] (.int (0 : Int32))) :
    MetFree l (⟨"com/example/kawi/kawi/OrderedNames", "endsWith", "(I)Z"⟩ : MethodName) (head1 (Jvm.Cond.code (⟨"com/example/kawi/kawi/OrderedNames", "endsWith", "(I)Z"⟩ : MethodName) prog_68_method_5_code 2 (some .boolean) :: ws) ({ frames := 0, cells := 0, slots := 0, locals := 0 } : Room)) (fun a U => a = #[(.ref a1), (.int p2)] ∧ Z.Warmed39 U.vm ∧ U.heap = h0) (fun _ _ _ _ _ => True) (fun _ U o U' => ∃ v L, o = .returned v ∧ Q_rmew1 Z a1 p2 pa ka x0 h0 n0 v U'.heap L ∧ FrameEnd U o U' L ({ frames := 0, cells := 0, slots := 0, locals := 0 } : Room).cells ({ frames := 0, cells := 0, slots := 0, locals := 0 } : Room).slots) := by
  refine MetFree.of_bodySF (plainFor_of_name pn_com_example_kawi_kawi_OrderedNames) hisR ?_
  intro p e s m args below meth c s₁ Bd hml0 hP hK
  obtain ⟨rfl, hZ, hh⟩ := hP
  have hx := Bd.exec
  have hby := Bd.bytes
  have hml : c.maxLocals = 2 := hml0
  have hown : s.vm.findClass "com/example/kawi/kawi/OrderedNames" = some m.cls := findClass_of_methodNamed Bd.named
  have hnm := (name_of_methodNamed Bd.named Bd.method).1
  have X0 : Stand p l e ({ frames := 0, cells := 0, slots := 0, locals := 0 } : Room) s m #[(.ref a1), (.int p2)] below meth c s₁ [] 0 0 := Stand.of_body Bd
  have e0 : s₁.heap = h0 := by rw [← hh, Bd.state]; rfl
  have N0 := Fr.nil n0
  have pre0 : ∀ t, Steps p.tables e below (s₁.setTop (mkF m 0 #[.val (.ref a1), .val (.int p2)] [])) t → Steps p.tables e below (s₁.setTop (entryFrame m #[(.ref a1), (.int p2)] 2)) t := fun t k => castTop (ef_6 m a1 p2) k
  obtain ⟨T374, X374, e374, st374⟩ := getF X0 hx hZ hown (host := "") (Or.inl (wd_48 hw)) Via.refl e0 F_size_a1 (g := (mkF m 1 #[.val (.ref a1), .val (.int p2)] [(.ref a1)])) rfl rfl (hb hby d6_1)
  obtain ⟨T375, X375, e375, st375⟩ := getF X374 hx hZ hown (host := "") (Or.inl (wd_37 hw)) Via.refl e374 F_places_a1 (g := (mkF m 8 #[.val (.ref a1), .val (.int p2)] [(.ref a1)])) rfl rfl (hb hby d6_8)
  obtain ⟨T376, X376, e376, st376⟩ := getF X375 hx hZ hown (host := "") (Or.inl (wd_48 hw)) Via.refl e375 F_size_a1 (g := (mkF m 12 #[.val (.ref a1), .val (.int p2)] [(.ref a1), (.ref pa)])) rfl rfl (hb hby d6_12)
  obtain ⟨cl377, Ar377, q377, S377, N377n, H377, G377⟩ := id (V_pa)
  have hin377 : ¬ ((0 : Int32) < 0 ∨ cl377.slots.size ≤ ((0 : Int32)).toNatClampNeg) := inb_of S377 ⟨by decide, by decide⟩
  have hat377 : cl377.slots[((0 : Int32)).toNatClampNeg]? = some (.int x0) := H377.at hin377 rfl
  have pre379 : ∀ t, Steps p.tables e below (T376.setTop (mkF m 19 #[.val (.ref a1), .val (.int p2)] [(.int p2), (.int x0)])) t → Steps p.tables e below (s₁.setTop (entryFrame m #[(.ref a1), (.int p2)] 2)) t := by
    intro t kt
    refine pre0 _ ?_
    show Steps p.tables e below (s₁.setTop (mkF m 0 #[.val (.ref a1), .val (.int p2)] [])) _
    refine XS.aloadN X0.here hx rfl (hb hby d6_0) rfl rfl ?_
    refine st374 _ ?_
    refine XS.ifNo X374.here hx rfl (hb hby d6_4) rfl ((if0 _ _).trans (tlt (by decide)).2.2.2) ?_
    refine XS.aloadN X374.here hx rfl (hb hby d6_7) rfl rfl ?_
    show Steps p.tables e below (T374.setTop (mkF m 8 #[.val (.ref a1), .val (.int p2)] [(.ref a1)])) _
    refine st375 _ ?_
    refine XS.aloadN X375.here hx rfl (hb hby d6_11) rfl rfl ?_
    refine st376 _ ?_
    refine XS.iconst X376.here hx rfl (hb hby d6_15) ?_
    show Steps p.tables e below (T376.setTop (mkF m 16 #[.val (.ref a1), .val (.int p2)] [(.int (1 : Int32)), (.int (1 : Int32)), (.ref pa)])) _
    refine XS.isub X376.here hx rfl (hb hby d6_16) rfl ?_
    refine X376.iaload hx (j := (0 : Int32)) (v := (.int x0)) (by rw [e376]; exact Ar377.1) (State.isArrayOf_alike hZ.alike Ar377.2.1) Ar377.2.2 hin377 hat377 (g := (mkF m 17 #[.val (.ref a1), .val (.int p2)] [(.int (0 : Int32)), (.ref pa)])) rfl rfl (hb hby d6_17) _ ?_
    refine XS.iloadN X376.here hx rfl (hb hby d6_18) rfl ?_
    exact kt
  by_cases hc19_378 : x0 = p2
  · obtain ⟨fs, hr, hrun, hended, hW, hsame⟩ := X376.leave (v := some (.int (1 : Int32))) (fun h => by rw [Bd.returns] at h; cases h)
    refine ⟨_, _, pre379 _ ?_, hrun, hended, _, _, rfl, ?_, ⟨_, rfl⟩, hW, hsame.mono (by decide) (by decide)⟩
    · show Steps p.tables e below (T376.setTop (mkF m 19 #[.val (.ref a1), .val (.int p2)] [(.int p2), (.int x0)])) _
      refine XS.icmpNo X376.here hx rfl (hb hby d6_19) rfl (teq hc19_378).2 ?_
      show Steps p.tables e below (T376.setTop (mkF m 22 #[.val (.ref a1), .val (.int p2)] [])) _
      refine XS.iconst X376.here hx rfl (hb hby d6_22) ?_
      refine XS.goto X376.here hx rfl (pc0 := 23) (pc' := 27) rfl (hb hby d6_23) (by decide) (by decide) ?_
      exact retN X376 hx (t := .boolean) Bd.returns (by simp) (hb hby d6_27) hr
    · show Q_rmew1 Z a1 p2 pa ka x0 h0 n0 _ T376.heap _
      rw [e376]
      exact ⟨(by simp only [if_pos hc19_378]), N0, rfl⟩
  · obtain ⟨fs, hr, hrun, hended, hW, hsame⟩ := X376.leave (v := some (.int (0 : Int32))) (fun h => by rw [Bd.returns] at h; cases h)
    refine ⟨_, _, pre379 _ ?_, hrun, hended, _, _, rfl, ?_, ⟨_, rfl⟩, hW, hsame.mono (by decide) (by decide)⟩
    · show Steps p.tables e below (T376.setTop (mkF m 19 #[.val (.ref a1), .val (.int p2)] [(.int p2), (.int x0)])) _
      refine XS.icmpYes X376.here hx rfl (pc0 := 19) (pc' := 26) rfl (hb hby d6_19) rfl (feq hc19_378).2 (by decide) (by decide) ?_
      show Steps p.tables e below (T376.setTop (mkF m 26 #[.val (.ref a1), .val (.int p2)] [])) _
      refine XS.iconst X376.here hx rfl (hb hby d6_26) ?_
      exact retN X376 hx (t := .boolean) Bd.returns (by simp) (hb hby d6_27) hr
    · show Q_rmew1 Z a1 p2 pa ka x0 h0 n0 _ T376.heap _
      rw [e376]
      exact ⟨(by simp only [if_neg hc19_378]), N0, rfl⟩
def Q_rmew2 (Z : State) (a1 : Addr) (p2 : Int32) (pa : Addr) (ka : ClassId) (x0 : Int32) (x1 : Int32) (h0 : Heap) (n0 : Nat) (v : Option Value) (h : Heap) (L : List Loc) : Prop := v = some (.int (if x1 = p2 then (1 : Int32) else (0 : Int32))) ∧ Fr n0 L ∧ h = h0
set_option maxRecDepth 65536 in
set_option maxHeartbeats 40000000 in
theorem rmew2 (l : Launch) (Z : State) (a0 : Array Value) (hw : ∀ d ∈ tables_1, d.before a0 Z = true) (ws : List Jvm.Cond) (a1 : Addr) (p2 : Int32) (pa : Addr) (ka : ClassId) (x0 : Int32) (x1 : Int32) (h0 : Heap) (n0 : Nat) (Z0 : n0 ≤ h0.size) (F_places_a1 : Fld Z h0 a1 "com/example/kawi/kawi/OrderedNames" "places" "[I" (.ref pa)) (F_size_a1 : Fld Z h0 a1 "com/example/kawi/kawi/OrderedNames" "size" "I" (.int (2 : Int32))) (V_pa : Arv Z h0 pa ka .int (2 : Int32) [(.int x0), (.int x1)] (.int (0 : Int32))) :
    MetFree l (⟨"com/example/kawi/kawi/OrderedNames", "endsWith", "(I)Z"⟩ : MethodName) (head1 (Jvm.Cond.code (⟨"com/example/kawi/kawi/OrderedNames", "endsWith", "(I)Z"⟩ : MethodName) prog_68_method_5_code 2 (some .boolean) :: ws) ({ frames := 0, cells := 0, slots := 0, locals := 0 } : Room)) (fun a U => a = #[(.ref a1), (.int p2)] ∧ Z.Warmed39 U.vm ∧ U.heap = h0) (fun _ _ _ _ _ => True) (fun _ U o U' => ∃ v L, o = .returned v ∧ Q_rmew2 Z a1 p2 pa ka x0 x1 h0 n0 v U'.heap L ∧ FrameEnd U o U' L ({ frames := 0, cells := 0, slots := 0, locals := 0 } : Room).cells ({ frames := 0, cells := 0, slots := 0, locals := 0 } : Room).slots) := by
  refine MetFree.of_bodySF (plainFor_of_name pn_com_example_kawi_kawi_OrderedNames) hisR ?_
  intro p e s m args below meth c s₁ Bd hml0 hP hK
  obtain ⟨rfl, hZ, hh⟩ := hP
  have hx := Bd.exec
  have hby := Bd.bytes
  have hml : c.maxLocals = 2 := hml0
  have hown : s.vm.findClass "com/example/kawi/kawi/OrderedNames" = some m.cls := findClass_of_methodNamed Bd.named
  have hnm := (name_of_methodNamed Bd.named Bd.method).1
  have X0 : Stand p l e ({ frames := 0, cells := 0, slots := 0, locals := 0 } : Room) s m #[(.ref a1), (.int p2)] below meth c s₁ [] 0 0 := Stand.of_body Bd
  have e0 : s₁.heap = h0 := by rw [← hh, Bd.state]; rfl
  have N0 := Fr.nil n0
  have pre0 : ∀ t, Steps p.tables e below (s₁.setTop (mkF m 0 #[.val (.ref a1), .val (.int p2)] [])) t → Steps p.tables e below (s₁.setTop (entryFrame m #[(.ref a1), (.int p2)] 2)) t := fun t k => castTop (ef_6 m a1 p2) k
  obtain ⟨T380, X380, e380, st380⟩ := getF X0 hx hZ hown (host := "") (Or.inl (wd_48 hw)) Via.refl e0 F_size_a1 (g := (mkF m 1 #[.val (.ref a1), .val (.int p2)] [(.ref a1)])) rfl rfl (hb hby d6_1)
  obtain ⟨T381, X381, e381, st381⟩ := getF X380 hx hZ hown (host := "") (Or.inl (wd_37 hw)) Via.refl e380 F_places_a1 (g := (mkF m 8 #[.val (.ref a1), .val (.int p2)] [(.ref a1)])) rfl rfl (hb hby d6_8)
  obtain ⟨T382, X382, e382, st382⟩ := getF X381 hx hZ hown (host := "") (Or.inl (wd_48 hw)) Via.refl e381 F_size_a1 (g := (mkF m 12 #[.val (.ref a1), .val (.int p2)] [(.ref a1), (.ref pa)])) rfl rfl (hb hby d6_12)
  obtain ⟨cl383, Ar383, q383, S383, N383n, H383, G383⟩ := id (V_pa)
  have hin383 : ¬ ((1 : Int32) < 0 ∨ cl383.slots.size ≤ ((1 : Int32)).toNatClampNeg) := inb_of S383 ⟨by decide, by decide⟩
  have hat383 : cl383.slots[((1 : Int32)).toNatClampNeg]? = some (.int x1) := H383.at hin383 rfl
  have pre385 : ∀ t, Steps p.tables e below (T382.setTop (mkF m 19 #[.val (.ref a1), .val (.int p2)] [(.int p2), (.int x1)])) t → Steps p.tables e below (s₁.setTop (entryFrame m #[(.ref a1), (.int p2)] 2)) t := by
    intro t kt
    refine pre0 _ ?_
    show Steps p.tables e below (s₁.setTop (mkF m 0 #[.val (.ref a1), .val (.int p2)] [])) _
    refine XS.aloadN X0.here hx rfl (hb hby d6_0) rfl rfl ?_
    refine st380 _ ?_
    refine XS.ifNo X380.here hx rfl (hb hby d6_4) rfl ((if0 _ _).trans (tlt (by decide)).2.2.2) ?_
    refine XS.aloadN X380.here hx rfl (hb hby d6_7) rfl rfl ?_
    show Steps p.tables e below (T380.setTop (mkF m 8 #[.val (.ref a1), .val (.int p2)] [(.ref a1)])) _
    refine st381 _ ?_
    refine XS.aloadN X381.here hx rfl (hb hby d6_11) rfl rfl ?_
    refine st382 _ ?_
    refine XS.iconst X382.here hx rfl (hb hby d6_15) ?_
    show Steps p.tables e below (T382.setTop (mkF m 16 #[.val (.ref a1), .val (.int p2)] [(.int (1 : Int32)), (.int (2 : Int32)), (.ref pa)])) _
    refine XS.isub X382.here hx rfl (hb hby d6_16) rfl ?_
    refine X382.iaload hx (j := (1 : Int32)) (v := (.int x1)) (by rw [e382]; exact Ar383.1) (State.isArrayOf_alike hZ.alike Ar383.2.1) Ar383.2.2 hin383 hat383 (g := (mkF m 17 #[.val (.ref a1), .val (.int p2)] [(.int (1 : Int32)), (.ref pa)])) rfl rfl (hb hby d6_17) _ ?_
    refine XS.iloadN X382.here hx rfl (hb hby d6_18) rfl ?_
    exact kt
  by_cases hc19_384 : x1 = p2
  · obtain ⟨fs, hr, hrun, hended, hW, hsame⟩ := X382.leave (v := some (.int (1 : Int32))) (fun h => by rw [Bd.returns] at h; cases h)
    refine ⟨_, _, pre385 _ ?_, hrun, hended, _, _, rfl, ?_, ⟨_, rfl⟩, hW, hsame.mono (by decide) (by decide)⟩
    · show Steps p.tables e below (T382.setTop (mkF m 19 #[.val (.ref a1), .val (.int p2)] [(.int p2), (.int x1)])) _
      refine XS.icmpNo X382.here hx rfl (hb hby d6_19) rfl (teq hc19_384).2 ?_
      show Steps p.tables e below (T382.setTop (mkF m 22 #[.val (.ref a1), .val (.int p2)] [])) _
      refine XS.iconst X382.here hx rfl (hb hby d6_22) ?_
      refine XS.goto X382.here hx rfl (pc0 := 23) (pc' := 27) rfl (hb hby d6_23) (by decide) (by decide) ?_
      exact retN X382 hx (t := .boolean) Bd.returns (by simp) (hb hby d6_27) hr
    · show Q_rmew2 Z a1 p2 pa ka x0 x1 h0 n0 _ T382.heap _
      rw [e382]
      exact ⟨(by simp only [if_pos hc19_384]), N0, rfl⟩
  · obtain ⟨fs, hr, hrun, hended, hW, hsame⟩ := X382.leave (v := some (.int (0 : Int32))) (fun h => by rw [Bd.returns] at h; cases h)
    refine ⟨_, _, pre385 _ ?_, hrun, hended, _, _, rfl, ?_, ⟨_, rfl⟩, hW, hsame.mono (by decide) (by decide)⟩
    · show Steps p.tables e below (T382.setTop (mkF m 19 #[.val (.ref a1), .val (.int p2)] [(.int p2), (.int x1)])) _
      refine XS.icmpYes X382.here hx rfl (pc0 := 19) (pc' := 26) rfl (hb hby d6_19) rfl (feq hc19_384).2 (by decide) (by decide) ?_
      show Steps p.tables e below (T382.setTop (mkF m 26 #[.val (.ref a1), .val (.int p2)] [])) _
      refine XS.iconst X382.here hx rfl (hb hby d6_26) ?_
      exact retN X382 hx (t := .boolean) Bd.returns (by simp) (hb hby d6_27) hr
    · show Q_rmew2 Z a1 p2 pa ka x0 x1 h0 n0 _ T382.heap _
      rw [e382]
      exact ⟨(by simp only [if_neg hc19_384]), N0, rfl⟩
def Q_rmew3 (Z : State) (a1 : Addr) (p2 : Int32) (pa : Addr) (ka : ClassId) (x0 : Int32) (x1 : Int32) (x2 : Int32) (h0 : Heap) (n0 : Nat) (v : Option Value) (h : Heap) (L : List Loc) : Prop := v = some (.int (if x2 = p2 then (1 : Int32) else (0 : Int32))) ∧ Fr n0 L ∧ h = h0
set_option maxRecDepth 65536 in
set_option maxHeartbeats 40000000 in
theorem rmew3 (l : Launch) (Z : State) (a0 : Array Value) (hw : ∀ d ∈ tables_1, d.before a0 Z = true) (ws : List Jvm.Cond) (a1 : Addr) (p2 : Int32) (pa : Addr) (ka : ClassId) (x0 : Int32) (x1 : Int32) (x2 : Int32) (h0 : Heap) (n0 : Nat) (Z0 : n0 ≤ h0.size) (F_places_a1 : Fld Z h0 a1 "com/example/kawi/kawi/OrderedNames" "places" "[I" (.ref pa)) (F_size_a1 : Fld Z h0 a1 "com/example/kawi/kawi/OrderedNames" "size" "I" (.int (3 : Int32))) (V_pa : Arv Z h0 pa ka .int (4 : Int32) [(.int x0), (.int x1), (.int x2), (.int (0 : Int32))] (.int (0 : Int32))) :
    MetFree l (⟨"com/example/kawi/kawi/OrderedNames", "endsWith", "(I)Z"⟩ : MethodName) (head1 (Jvm.Cond.code (⟨"com/example/kawi/kawi/OrderedNames", "endsWith", "(I)Z"⟩ : MethodName) prog_68_method_5_code 2 (some .boolean) :: ws) ({ frames := 0, cells := 0, slots := 0, locals := 0 } : Room)) (fun a U => a = #[(.ref a1), (.int p2)] ∧ Z.Warmed39 U.vm ∧ U.heap = h0) (fun _ _ _ _ _ => True) (fun _ U o U' => ∃ v L, o = .returned v ∧ Q_rmew3 Z a1 p2 pa ka x0 x1 x2 h0 n0 v U'.heap L ∧ FrameEnd U o U' L ({ frames := 0, cells := 0, slots := 0, locals := 0 } : Room).cells ({ frames := 0, cells := 0, slots := 0, locals := 0 } : Room).slots) := by
  refine MetFree.of_bodySF (plainFor_of_name pn_com_example_kawi_kawi_OrderedNames) hisR ?_
  intro p e s m args below meth c s₁ Bd hml0 hP hK
  obtain ⟨rfl, hZ, hh⟩ := hP
  have hx := Bd.exec
  have hby := Bd.bytes
  have hml : c.maxLocals = 2 := hml0
  have hown : s.vm.findClass "com/example/kawi/kawi/OrderedNames" = some m.cls := findClass_of_methodNamed Bd.named
  have hnm := (name_of_methodNamed Bd.named Bd.method).1
  have X0 : Stand p l e ({ frames := 0, cells := 0, slots := 0, locals := 0 } : Room) s m #[(.ref a1), (.int p2)] below meth c s₁ [] 0 0 := Stand.of_body Bd
  have e0 : s₁.heap = h0 := by rw [← hh, Bd.state]; rfl
  have N0 := Fr.nil n0
  have pre0 : ∀ t, Steps p.tables e below (s₁.setTop (mkF m 0 #[.val (.ref a1), .val (.int p2)] [])) t → Steps p.tables e below (s₁.setTop (entryFrame m #[(.ref a1), (.int p2)] 2)) t := fun t k => castTop (ef_6 m a1 p2) k
  obtain ⟨T386, X386, e386, st386⟩ := getF X0 hx hZ hown (host := "") (Or.inl (wd_48 hw)) Via.refl e0 F_size_a1 (g := (mkF m 1 #[.val (.ref a1), .val (.int p2)] [(.ref a1)])) rfl rfl (hb hby d6_1)
  obtain ⟨T387, X387, e387, st387⟩ := getF X386 hx hZ hown (host := "") (Or.inl (wd_37 hw)) Via.refl e386 F_places_a1 (g := (mkF m 8 #[.val (.ref a1), .val (.int p2)] [(.ref a1)])) rfl rfl (hb hby d6_8)
  obtain ⟨T388, X388, e388, st388⟩ := getF X387 hx hZ hown (host := "") (Or.inl (wd_48 hw)) Via.refl e387 F_size_a1 (g := (mkF m 12 #[.val (.ref a1), .val (.int p2)] [(.ref a1), (.ref pa)])) rfl rfl (hb hby d6_12)
  obtain ⟨cl389, Ar389, q389, S389, N389n, H389, G389⟩ := id (V_pa)
  have hin389 : ¬ ((2 : Int32) < 0 ∨ cl389.slots.size ≤ ((2 : Int32)).toNatClampNeg) := inb_of S389 ⟨by decide, by decide⟩
  have hat389 : cl389.slots[((2 : Int32)).toNatClampNeg]? = some (.int x2) := H389.at hin389 rfl
  have pre391 : ∀ t, Steps p.tables e below (T388.setTop (mkF m 19 #[.val (.ref a1), .val (.int p2)] [(.int p2), (.int x2)])) t → Steps p.tables e below (s₁.setTop (entryFrame m #[(.ref a1), (.int p2)] 2)) t := by
    intro t kt
    refine pre0 _ ?_
    show Steps p.tables e below (s₁.setTop (mkF m 0 #[.val (.ref a1), .val (.int p2)] [])) _
    refine XS.aloadN X0.here hx rfl (hb hby d6_0) rfl rfl ?_
    refine st386 _ ?_
    refine XS.ifNo X386.here hx rfl (hb hby d6_4) rfl ((if0 _ _).trans (tlt (by decide)).2.2.2) ?_
    refine XS.aloadN X386.here hx rfl (hb hby d6_7) rfl rfl ?_
    show Steps p.tables e below (T386.setTop (mkF m 8 #[.val (.ref a1), .val (.int p2)] [(.ref a1)])) _
    refine st387 _ ?_
    refine XS.aloadN X387.here hx rfl (hb hby d6_11) rfl rfl ?_
    refine st388 _ ?_
    refine XS.iconst X388.here hx rfl (hb hby d6_15) ?_
    show Steps p.tables e below (T388.setTop (mkF m 16 #[.val (.ref a1), .val (.int p2)] [(.int (1 : Int32)), (.int (3 : Int32)), (.ref pa)])) _
    refine XS.isub X388.here hx rfl (hb hby d6_16) rfl ?_
    refine X388.iaload hx (j := (2 : Int32)) (v := (.int x2)) (by rw [e388]; exact Ar389.1) (State.isArrayOf_alike hZ.alike Ar389.2.1) Ar389.2.2 hin389 hat389 (g := (mkF m 17 #[.val (.ref a1), .val (.int p2)] [(.int (2 : Int32)), (.ref pa)])) rfl rfl (hb hby d6_17) _ ?_
    refine XS.iloadN X388.here hx rfl (hb hby d6_18) rfl ?_
    exact kt
  by_cases hc19_390 : x2 = p2
  · obtain ⟨fs, hr, hrun, hended, hW, hsame⟩ := X388.leave (v := some (.int (1 : Int32))) (fun h => by rw [Bd.returns] at h; cases h)
    refine ⟨_, _, pre391 _ ?_, hrun, hended, _, _, rfl, ?_, ⟨_, rfl⟩, hW, hsame.mono (by decide) (by decide)⟩
    · show Steps p.tables e below (T388.setTop (mkF m 19 #[.val (.ref a1), .val (.int p2)] [(.int p2), (.int x2)])) _
      refine XS.icmpNo X388.here hx rfl (hb hby d6_19) rfl (teq hc19_390).2 ?_
      show Steps p.tables e below (T388.setTop (mkF m 22 #[.val (.ref a1), .val (.int p2)] [])) _
      refine XS.iconst X388.here hx rfl (hb hby d6_22) ?_
      refine XS.goto X388.here hx rfl (pc0 := 23) (pc' := 27) rfl (hb hby d6_23) (by decide) (by decide) ?_
      exact retN X388 hx (t := .boolean) Bd.returns (by simp) (hb hby d6_27) hr
    · show Q_rmew3 Z a1 p2 pa ka x0 x1 x2 h0 n0 _ T388.heap _
      rw [e388]
      exact ⟨(by simp only [if_pos hc19_390]), N0, rfl⟩
  · obtain ⟨fs, hr, hrun, hended, hW, hsame⟩ := X388.leave (v := some (.int (0 : Int32))) (fun h => by rw [Bd.returns] at h; cases h)
    refine ⟨_, _, pre391 _ ?_, hrun, hended, _, _, rfl, ?_, ⟨_, rfl⟩, hW, hsame.mono (by decide) (by decide)⟩
    · show Steps p.tables e below (T388.setTop (mkF m 19 #[.val (.ref a1), .val (.int p2)] [(.int p2), (.int x2)])) _
      refine XS.icmpYes X388.here hx rfl (pc0 := 19) (pc' := 26) rfl (hb hby d6_19) rfl (feq hc19_390).2 (by decide) (by decide) ?_
      show Steps p.tables e below (T388.setTop (mkF m 26 #[.val (.ref a1), .val (.int p2)] [])) _
      refine XS.iconst X388.here hx rfl (hb hby d6_26) ?_
      exact retN X388 hx (t := .boolean) Bd.returns (by simp) (hb hby d6_27) hr
    · show Q_rmew3 Z a1 p2 pa ka x0 x1 x2 h0 n0 _ T388.heap _
      rw [e388]
      exact ⟨(by simp only [if_neg hc19_390]), N0, rfl⟩
theorem wd_0 {a0 : Array Value} {Z : State} (hw : ∀ d ∈ tables_1, d.before a0 Z = true) : (Jvm.Cond.classLink "com/example/kawi/kawi/OrderedNamesEndsWithPinLaw" (7 : Nat) "com/example/kawi/kawi/OrderedNames").before a0 Z = true := hw _ (List.mem_of_getElem? (i := 0) rfl)
theorem wd_2 {a0 : Array Value} {Z : State} (hw : ∀ d ∈ tables_1, d.before a0 Z = true) : (Jvm.Cond.initialized "com/example/kawi/kawi/OrderedNames").before a0 Z = true := hw _ (List.mem_of_getElem? (i := 2) rfl)
theorem wd_3 {a0 : Array Value} {Z : State} (hw : ∀ d ∈ tables_1, d.before a0 Z = true) : (Jvm.Cond.classLink "com/example/kawi/kawi/OrderedNamesEndsWithPinLaw" (9 : Nat) "java/util/ArrayList").before a0 Z = true := hw _ (List.mem_of_getElem? (i := 3) rfl)
theorem wd_5 {a0 : Array Value} {Z : State} (hw : ∀ d ∈ tables_1, d.before a0 Z = true) : (Jvm.Cond.initialized "java/util/ArrayList").before a0 Z = true := hw _ (List.mem_of_getElem? (i := 5) rfl)
theorem wd_6 {a0 : Array Value} {Z : State} (hw : ∀ d ∈ tables_1, d.before a0 Z = true) : (Jvm.Cond.methodLink "com/example/kawi/kawi/OrderedNamesEndsWithPinLaw" (11 : Nat) ({ cls := "java/util/ArrayList", name := "<init>", desc := "()V" } : Jvm.MethodName)).before a0 Z = true := hw _ (List.mem_of_getElem? (i := 6) rfl)
theorem wd_8 {a0 : Array Value} {Z : State} (hw : ∀ d ∈ tables_1, d.before a0 Z = true) : (Jvm.Cond.code ({ cls := "java/util/ArrayList", name := "<init>", desc := "()V" } : Jvm.MethodName) jdk_38_method_2_code (1 : Nat) (Option.none : Option Jvm.ClassFile.FieldType)).before a0 Z = true := hw _ (List.mem_of_getElem? (i := 8) rfl)
theorem wd_7 {a0 : Array Value} {Z : State} (hw : ∀ d ∈ tables_1, d.before a0 Z = true) : (Jvm.Cond.instanceMethod ({ cls := "java/util/ArrayList", name := "<init>", desc := "()V" } : Jvm.MethodName)).before a0 Z = true := hw _ (List.mem_of_getElem? (i := 7) rfl)
theorem wd_29 {a0 : Array Value} {Z : State} (hw : ∀ d ∈ tables_1, d.before a0 Z = true) : (Jvm.Cond.methodLink "com/example/kawi/kawi/OrderedNamesEndsWithPinLaw" (12 : Nat) ({ cls := "com/example/kawi/kawi/OrderedNames", name := "<init>", desc := "(Ljava/util/List;)V" } : Jvm.MethodName)).before a0 Z = true := hw _ (List.mem_of_getElem? (i := 29) rfl)
theorem wd_31 {a0 : Array Value} {Z : State} (hw : ∀ d ∈ tables_1, d.before a0 Z = true) : (Jvm.Cond.code ({ cls := "com/example/kawi/kawi/OrderedNames", name := "<init>", desc := "(Ljava/util/List;)V" } : Jvm.MethodName) prog_68_method_1_code (2 : Nat) (Option.none : Option Jvm.ClassFile.FieldType)).before a0 Z = true := hw _ (List.mem_of_getElem? (i := 31) rfl)
theorem pd__Ljava_util_List__V : parseMethodDescriptor "(Ljava/util/List;)V" = some ⟨[(.object "java/util/List")], none⟩ := by decide +kernel
theorem wd_30 {a0 : Array Value} {Z : State} (hw : ∀ d ∈ tables_1, d.before a0 Z = true) : (Jvm.Cond.instanceMethod ({ cls := "com/example/kawi/kawi/OrderedNames", name := "<init>", desc := "(Ljava/util/List;)V" } : Jvm.MethodName)).before a0 Z = true := hw _ (List.mem_of_getElem? (i := 30) rfl)
theorem wd_43 {a0 : Array Value} {Z : State} (hw : ∀ d ∈ tables_1, d.before a0 Z = true) : (Jvm.Cond.methodLink "com/example/kawi/kawi/OrderedNamesEndsWithPinLaw" (28 : Nat) ({ cls := "com/example/kawi/kawi/OrderedNames", name := "endsWith", desc := "(I)Z" } : Jvm.MethodName)).before a0 Z = true := hw _ (List.mem_of_getElem? (i := 43) rfl)
theorem wd_47 {a0 : Array Value} {Z : State} (hw : ∀ d ∈ tables_1, d.before a0 Z = true) : (Jvm.Cond.code ({ cls := "com/example/kawi/kawi/OrderedNames", name := "endsWith", desc := "(I)Z" } : Jvm.MethodName) prog_68_method_5_code (2 : Nat) (Option.some Jvm.ClassFile.FieldType.boolean)).before a0 Z = true := hw _ (List.mem_of_getElem? (i := 47) rfl)
theorem pd__I_Z : parseMethodDescriptor "(I)Z" = some ⟨[.int], some .boolean⟩ := by decide +kernel
theorem wd_46 {a0 : Array Value} {Z : State} (hw : ∀ d ∈ tables_1, d.before a0 Z = true) : (Jvm.Cond.selects "com/example/kawi/kawi/OrderedNames" ({ cls := "com/example/kawi/kawi/OrderedNames", name := "endsWith", desc := "(I)Z" } : Jvm.MethodName) ({ cls := "com/example/kawi/kawi/OrderedNames", name := "endsWith", desc := "(I)Z" } : Jvm.MethodName)).before a0 Z = true := hw _ (List.mem_of_getElem? (i := 46) rfl)
theorem wd_44 {a0 : Array Value} {Z : State} (hw : ∀ d ∈ tables_1, d.before a0 Z = true) : (Jvm.Cond.declares ({ cls := "com/example/kawi/kawi/OrderedNames", name := "endsWith", desc := "(I)Z" } : Jvm.MethodName)).before a0 Z = true := hw _ (List.mem_of_getElem? (i := 44) rfl)
theorem wd_45 {a0 : Array Value} {Z : State} (hw : ∀ d ∈ tables_1, d.before a0 Z = true) : (Jvm.Cond.instanceMethod ({ cls := "com/example/kawi/kawi/OrderedNames", name := "endsWith", desc := "(I)Z" } : Jvm.MethodName)).before a0 Z = true := hw _ (List.mem_of_getElem? (i := 45) rfl)
theorem wd_73 {a0 : Array Value} {Z : State} (hw : ∀ d ∈ tables_1, d.before a0 Z = true) : (Jvm.Cond.methodLink "com/example/kawi/kawi/OrderedNamesEndsWithPinLaw" (19 : Nat) ({ cls := "com/example/kawi/kawi/OrderedNames", name := "order", desc := "()V" } : Jvm.MethodName)).before a0 Z = true := hw _ (List.mem_of_getElem? (i := 73) rfl)
theorem wd_77 {a0 : Array Value} {Z : State} (hw : ∀ d ∈ tables_1, d.before a0 Z = true) : (Jvm.Cond.code ({ cls := "com/example/kawi/kawi/OrderedNames", name := "order", desc := "()V" } : Jvm.MethodName) prog_68_method_3_code (1 : Nat) (Option.none : Option Jvm.ClassFile.FieldType)).before a0 Z = true := hw _ (List.mem_of_getElem? (i := 77) rfl)
theorem wd_76 {a0 : Array Value} {Z : State} (hw : ∀ d ∈ tables_1, d.before a0 Z = true) : (Jvm.Cond.selects "com/example/kawi/kawi/OrderedNames" ({ cls := "com/example/kawi/kawi/OrderedNames", name := "order", desc := "()V" } : Jvm.MethodName) ({ cls := "com/example/kawi/kawi/OrderedNames", name := "order", desc := "()V" } : Jvm.MethodName)).before a0 Z = true := hw _ (List.mem_of_getElem? (i := 76) rfl)
theorem wd_74 {a0 : Array Value} {Z : State} (hw : ∀ d ∈ tables_1, d.before a0 Z = true) : (Jvm.Cond.declares ({ cls := "com/example/kawi/kawi/OrderedNames", name := "order", desc := "()V" } : Jvm.MethodName)).before a0 Z = true := hw _ (List.mem_of_getElem? (i := 74) rfl)
theorem wd_75 {a0 : Array Value} {Z : State} (hw : ∀ d ∈ tables_1, d.before a0 Z = true) : (Jvm.Cond.instanceMethod ({ cls := "com/example/kawi/kawi/OrderedNames", name := "order", desc := "()V" } : Jvm.MethodName)).before a0 Z = true := hw _ (List.mem_of_getElem? (i := 75) rfl)
theorem wd_50 {a0 : Array Value} {Z : State} (hw : ∀ d ∈ tables_1, d.before a0 Z = true) : (Jvm.Cond.methodLink "com/example/kawi/kawi/OrderedNamesEndsWithPinLaw" (15 : Nat) ({ cls := "com/example/kawi/kawi/OrderedNames", name := "append", desc := "(I)V" } : Jvm.MethodName)).before a0 Z = true := hw _ (List.mem_of_getElem? (i := 50) rfl)
theorem wd_54 {a0 : Array Value} {Z : State} (hw : ∀ d ∈ tables_1, d.before a0 Z = true) : (Jvm.Cond.code ({ cls := "com/example/kawi/kawi/OrderedNames", name := "append", desc := "(I)V" } : Jvm.MethodName) prog_68_method_2_code (2 : Nat) (Option.none : Option Jvm.ClassFile.FieldType)).before a0 Z = true := hw _ (List.mem_of_getElem? (i := 54) rfl)
theorem pd__I_V : parseMethodDescriptor "(I)V" = some ⟨[.int], none⟩ := by decide +kernel
theorem wd_53 {a0 : Array Value} {Z : State} (hw : ∀ d ∈ tables_1, d.before a0 Z = true) : (Jvm.Cond.selects "com/example/kawi/kawi/OrderedNames" ({ cls := "com/example/kawi/kawi/OrderedNames", name := "append", desc := "(I)V" } : Jvm.MethodName) ({ cls := "com/example/kawi/kawi/OrderedNames", name := "append", desc := "(I)V" } : Jvm.MethodName)).before a0 Z = true := hw _ (List.mem_of_getElem? (i := 53) rfl)
theorem wd_51 {a0 : Array Value} {Z : State} (hw : ∀ d ∈ tables_1, d.before a0 Z = true) : (Jvm.Cond.declares ({ cls := "com/example/kawi/kawi/OrderedNames", name := "append", desc := "(I)V" } : Jvm.MethodName)).before a0 Z = true := hw _ (List.mem_of_getElem? (i := 51) rfl)
theorem wd_52 {a0 : Array Value} {Z : State} (hw : ∀ d ∈ tables_1, d.before a0 Z = true) : (Jvm.Cond.instanceMethod ({ cls := "com/example/kawi/kawi/OrderedNames", name := "append", desc := "(I)V" } : Jvm.MethodName)).before a0 Z = true := hw _ (List.mem_of_getElem? (i := 52) rfl)
theorem wd_78 {a0 : Array Value} {Z : State} (hw : ∀ d ∈ tables_1, d.before a0 Z = true) : (Jvm.Cond.methodLink "com/example/kawi/kawi/OrderedNamesEndsWithPinLaw" (22 : Nat) ({ cls := "java/lang/Math", name := "max", desc := "(II)I" } : Jvm.MethodName)).before a0 Z = true := hw _ (List.mem_of_getElem? (i := 78) rfl)
theorem ef_0 (m : MethodId) (x0 : Int32) (x1 : Int32) (x2 : Int32) (x3 : Int32) (x4 : Int32) : entryFrame m #[(.int x0), (.int x1), (.int x2), (.int x3), (.int x4)] maxLocals = mkF m 0 #[.val (.int x0), .val (.int x1), .val (.int x2), .val (.int x3), .val (.int x4), .unset, .unset, .unset, .unset, .unset, .unset, .unset] [] := by first | (simp [entryFrame, mkF, argsToLocals, Value.category, maxLocals]; done) | rfl
theorem pn_com_example_kawi_kawi_OrderedNamesEndsWithPinLaw : plainName "com/example/kawi/kawi/OrderedNamesEndsWithPinLaw" = true := by first | (simp [plainName, overriddenIn]; done) | decide +kernel
def Q_rm0 (Z : State) (p1 : Int32) (p2 : Int32) (p3 : Int32) (p4 : Int32) (p5 : Int32) (wD : Addr) (wN : Addr) (kN : ClassId) (h0 : Heap) (n0 : Nat) (v : Option Value) (h : Heap) (L : List Loc) : Prop := v = some (.int (1 : Int32)) ∧ Fr n0 L ∧ True
set_option maxRecDepth 65536 in
set_option maxHeartbeats 40000000 in
theorem rm0 (l : Launch) (Z : State) (a0 : Array Value) (hw : ∀ d ∈ tables_1, d.before a0 Z = true) (ws : List Jvm.Cond) (p1 : Int32) (p2 : Int32) (p3 : Int32) (p4 : Int32) (p5 : Int32) (wD : Addr) (wN : Addr) (kN : ClassId) (h0 : Heap) (n0 : Nat) (Z0 : n0 ≤ h0.size) (Old0 : Old Z n0 h0) (S_DEFAULTCAPACITY_EMPTY_ELEMENTDATA : Sta Z Z.heap "java/util/ArrayList" "DEFAULTCAPACITY_EMPTY_ELEMENTDATA" "[Ljava/lang/Object;" (.ref wD)) (S_NONE : Sta Z Z.heap "com/example/kawi/kawi/OrderedNames" "NONE" "[I" (.ref wN)) (V_wN : Arv Z h0 wN kN .int (0 : Int32) [] (.int (0 : Int32))) :
    MetFree l x (head1 (Jvm.Cond.code x code maxLocals ret :: ws) room_1) (fun a U => a = #[(.int p1), (.int p2), (.int p3), (.int p4), (.int p5)] ∧ Z.Warmed39 U.vm ∧ U.heap = h0) (fun _ _ _ _ _ => True) (fun _ U o U' => ∃ v L, o = .returned v ∧ Q_rm0 Z p1 p2 p3 p4 p5 wD wN kN h0 n0 v U'.heap L ∧ FrameEnd U o U' L room_1.cells room_1.slots) := by
  refine MetFree.of_bodySF (plainFor_of_name pn_com_example_kawi_kawi_OrderedNamesEndsWithPinLaw) hisR ?_
  intro p e s m args below meth c s₁ Bd hml0 hP hK
  obtain ⟨rfl, hZ, hh⟩ := hP
  have hx := Bd.exec
  have hby := Bd.bytes
  have hml : c.maxLocals = 12 := hml0
  have hown : s.vm.findClass "com/example/kawi/kawi/OrderedNamesEndsWithPinLaw" = some m.cls := findClass_of_methodNamed Bd.named
  have hnm := (name_of_methodNamed Bd.named Bd.method).1
  have X0 : Stand p l e room_1 s m #[(.int p1), (.int p2), (.int p3), (.int p4), (.int p5)] below meth c s₁ [] 0 0 := Stand.of_body Bd
  have e0 : s₁.heap = h0 := by rw [← hh, Bd.state]; rfl
  have N0 := Fr.nil n0
  have pre0 : ∀ t, Steps p.tables e below (s₁.setTop (mkF m 0 #[.val (.int p1), .val (.int p2), .val (.int p3), .val (.int p4), .val (.int p5), .unset, .unset, .unset, .unset, .unset, .unset, .unset] [])) t → Steps p.tables e below (s₁.setTop (entryFrame m #[(.int p1), (.int p2), (.int p3), (.int p4), (.int p5)] maxLocals)) t := fun t k => castTop (ef_0 m p1 p2 p3 p4 p5) k
  obtain ⟨nn, hnn⟩ : ∃ z : Int32, z = (p5 &&& (3 : Int32)) := ⟨_, rfl⟩
  have pre392 : ∀ t, Steps p.tables e below (s₁.setTop (mkF m 6 #[.val (.int p1), .val (.int p2), .val (.int p3), .val (.int p4), .val (.int p5), .val (.int nn), .unset, .unset, .unset, .unset, .unset, .unset] [])) t → Steps p.tables e below (s₁.setTop (entryFrame m #[(.int p1), (.int p2), (.int p3), (.int p4), (.int p5)] maxLocals)) t := by
    intro t kt
    rw [hnn] at kt
    refine pre0 _ ?_
    show Steps p.tables e below (s₁.setTop (mkF m 0 #[.val (.int p1), .val (.int p2), .val (.int p3), .val (.int p4), .val (.int p5), .unset, .unset, .unset, .unset, .unset, .unset, .unset] [])) _
    refine XS.iload X0.here hx rfl (hb hby at_0) rfl ?_
    refine XS.iconst X0.here hx rfl (hb hby at_2) ?_
    refine XS.iand X0.here hx rfl (hb hby at_3) rfl ?_
    refine XS.istore X0.here hx rfl (hb hby at_4) rfl (l' := #[.val (.int p1), .val (.int p2), .val (.int p3), .val (.int p4), .val (.int p5), .val (.int (p5 &&& (3 : Int32))), .unset, .unset, .unset, .unset, .unset, .unset]) rfl ?_
    show Steps p.tables e below (s₁.setTop (mkF m 6 #[.val (.int p1), .val (.int p2), .val (.int p3), .val (.int p4), .val (.int p5), .val (.int (p5 &&& (3 : Int32))), .unset, .unset, .unset, .unset, .unset, .unset] [])) _
    exact kt
  have hn4 := own_three p5
  rw [← hnn] at hn4
  clear hnn
  rcases hn4 with rfl | rfl | rfl | rfl
  · obtain ⟨v394, hv394⟩ : ∃ z : Int32, z = (if (((p5.toUInt32 >>> ((2 : Int32) &&& 31).toUInt32).toInt32) &&& (1 : Int32)) = (0 : Int32) then (0 : Int32) else (1 : Int32)) := ⟨_, rfl⟩
    have pre395 : ∀ t, Steps p.tables e below (s₁.setTop (mkF m 20 #[.val (.int p1), .val (.int p2), .val (.int p3), .val (.int p4), .val (.int p5), .val (.int (0 : Int32)), .unset, .unset, .unset, .unset, .unset, .unset] [(.int v394)])) t → Steps p.tables e below (s₁.setTop (entryFrame m #[(.int p1), (.int p2), (.int p3), (.int p4), (.int p5)] maxLocals)) t := by
      intro t kt
      refine pre392 _ ?_
      rw [hv394] at kt
      show Steps p.tables e below (s₁.setTop (mkF m 6 #[.val (.int p1), .val (.int p2), .val (.int p3), .val (.int p4), .val (.int p5), .val (.int (0 : Int32)), .unset, .unset, .unset, .unset, .unset, .unset] [])) _
      refine XS.iload X0.here hx rfl (hb hby at_6) rfl ?_
      refine XS.iconst X0.here hx rfl (hb hby at_8) ?_
      refine XS.iushr X0.here hx rfl (hb hby at_9) rfl ?_
      refine XS.iconst X0.here hx rfl (hb hby at_10) ?_
      show Steps p.tables e below (s₁.setTop (mkF m 11 #[.val (.int p1), .val (.int p2), .val (.int p3), .val (.int p4), .val (.int p5), .val (.int (0 : Int32)), .unset, .unset, .unset, .unset, .unset, .unset] [(.int (1 : Int32)), (.int ((p5.toUInt32 >>> ((2 : Int32) &&& 31).toUInt32).toInt32))])) _
      refine XS.iand X0.here hx rfl (hb hby at_11) rfl ?_
      by_cases hc12_393 : (((p5.toUInt32 >>> ((2 : Int32) &&& 31).toUInt32).toInt32) &&& (1 : Int32)) = (0 : Int32)
      · try simp only [if_pos hc12_393] at kt
        refine XS.ifYes X0.here hx rfl (pc0 := 12) (pc' := 19) rfl (hb hby at_12) rfl ((if0 _ _).trans (teq hc12_393).1) (by decide) (by decide) ?_
        refine XS.iconst X0.here hx rfl (hb hby at_19) ?_
        exact kt
      · try simp only [if_neg hc12_393] at kt
        refine XS.ifNo X0.here hx rfl (hb hby at_12) rfl ((if0 _ _).trans (feq hc12_393).1) ?_
        refine XS.iconst X0.here hx rfl (hb hby at_15) ?_
        refine XS.goto X0.here hx rfl (pc0 := 16) (pc' := 20) rfl (hb hby at_16) (by decide) (by decide) ?_
        show Steps p.tables e below (s₁.setTop (mkF m 20 #[.val (.int p1), .val (.int p2), .val (.int p3), .val (.int p4), .val (.int p5), .val (.int (0 : Int32)), .unset, .unset, .unset, .unset, .unset, .unset] [(.int (1 : Int32))])) _
        exact kt
    obtain ⟨T396, h396, X396, e396, E396, A396, D396, -, st396⟩ := newO X0 hx hZ hown (wd_0 hw) (wd_1 hw) (wd_2 hw) e0 (g := (mkF m 61 #[.val (.int p1), .val (.int p2), .val (.int p3), .val (.int p4), .val (.int p5), .val (.int (0 : Int32)), .val (.int v394), .val (.int (((p5.toUInt32 >>> ((3 : Int32) &&& 31).toUInt32).toInt32) &&& (3 : Int32))), .unset, .unset, .unset, .unset] [])) rfl (hb hby at_61) (by decide) (by decide)
    obtain ⟨b396, g396⟩ : ∃ z, z = h0.size := ⟨_, rfl⟩
    rw [← g396] at A396 D396 st396
    have g_b396 : n0 ≤ b396 := Nat.le_trans Z0 (Nat.le_of_eq g396.symm)
    have ne_wN_b396 : wN ≠ b396 := Nat.ne_of_lt (Nat.lt_of_lt_of_le (V_wN).lt (Nat.le_of_eq g396.symm))
    have Z397 : n0 ≤ h396.size := Nat.le_trans Z0 E396.1
    have F_modCount_b396 : Fld Z h396 b396 "java/util/AbstractList" "modCount" "I" (.int (0 : Int32)) := D396 (Or.inl (wd_34 hw)) (ty := .int) (by decide)
    have F_places_b396 : Fld Z h396 b396 "com/example/kawi/kawi/OrderedNames" "places" "[I" .null := D396 (Or.inl (wd_38 hw)) (ty := (.array .int)) (by decide)
    have F_ordered_b396 : Fld Z h396 b396 "com/example/kawi/kawi/OrderedNames" "ordered" "Z" (.int (0 : Int32)) := D396 (Or.inl (wd_40 hw)) (ty := .boolean) (by decide)
    have F_beans_b396 : Fld Z h396 b396 "com/example/kawi/kawi/OrderedNames" "beans" "Ljava/util/List;" .null := D396 (Or.inr (wd_42 hw)) (ty := (.object "java/util/List")) (by decide)
    have F_size_b396 : Fld Z h396 b396 "com/example/kawi/kawi/OrderedNames" "size" "I" (.int (0 : Int32)) := D396 (Or.inl (wd_49 hw)) (ty := .int) (by decide)
    obtain ⟨T398, h398, X398, e398, E398, A398, D398, -, st398⟩ := newO X396 hx hZ hown (wd_3 hw) (wd_4 hw) (wd_5 hw) e396 (g := (mkF m 65 #[.val (.int p1), .val (.int p2), .val (.int p3), .val (.int p4), .val (.int p5), .val (.int (0 : Int32)), .val (.int v394), .val (.int (((p5.toUInt32 >>> ((3 : Int32) &&& 31).toUInt32).toInt32) &&& (3 : Int32))), .unset, .unset, .unset, .unset] [(.ref b396), (.ref b396)])) rfl (hb hby at_65) (by decide) (by decide)
    obtain ⟨b398, g398⟩ : ∃ z, z = h396.size := ⟨_, rfl⟩
    rw [← g398] at A398 D398 st398
    have g_b398 : n0 ≤ b398 := Nat.le_trans Z397 (Nat.le_of_eq g398.symm)
    have ne_wN_b398 : wN ≠ b398 := Nat.ne_of_lt (Nat.lt_of_lt_of_le ((V_wN.ext E396)).lt (Nat.le_of_eq g398.symm))
    have ne_b396_b398 : b396 ≠ b398 := Nat.ne_of_lt (Nat.lt_of_lt_of_le (A396).lt (Nat.le_of_eq g398.symm))
    have Z399 : n0 ≤ h398.size := Nat.le_trans Z397 E398.1
    have F_modCount_b398 : Fld Z h398 b398 "java/util/AbstractList" "modCount" "I" (.int (0 : Int32)) := D398 (Or.inl (wd_25 hw)) (ty := .int) (by decide)
    have F_elementData_b398 : Fld Z h398 b398 "java/util/ArrayList" "elementData" "[Ljava/lang/Object;" .null := D398 (Or.inl (wd_28 hw)) (ty := (.array (.object "java/lang/Object"))) (by decide)
    obtain ⟨_, _, ⟨T400, L400, k400, n400⟩, -, X400, ⟨Lc400, hQ400, l400, y400, z400⟩, st400⟩ := X398.specialBack hx (y := (⟨"java/util/ArrayList", "<init>", "()V"⟩ : MethodName)) rfl hown (mvT hZ (wd_6 hw)) (mvT hZ (wd_7 hw)) (mvT hZ (wd_8 hw)) (by decide) (backOf (W := 3) (rm1 l Z a0 hw [] b398 .null (.int (0 : Int32)) wD h398 n0 Z399 F_elementData_b398 F_modCount_b398 A398 g_b398 ((Old0.ext E396).ext E398) S_DEFAULTCAPACITY_EMPTY_ELEMENTDATA) hZ (wd_8 hw) (wd_5 hw) (by decide) (by decide)) (g := (mkF m 69 #[.val (.int p1), .val (.int p2), .val (.int p3), .val (.int p4), .val (.int p5), .val (.int (0 : Int32)), .val (.int v394), .val (.int (((p5.toUInt32 >>> ((3 : Int32) &&& 31).toUInt32).toInt32) &&& (3 : Int32))), .unset, .unset, .unset, .unset] [(.ref b398), (.ref b398), (.ref b396), (.ref b396)])) rfl (by rw [hml]; rfl) (Steps.refl _) (a := b398) (argsL := []) (rest := [(.ref b398), (.ref b396), (.ref b396)]) (lenOf pd___V rfl) rfl (by show 2 * 0 + _ ≤ _; exact Nat.le_of_eq rfl) (hb hby at_69) (fun _ _ => ⟨rfl, e398, (by decide : 2 + 0 ≤ _), (by decide : 8 + 0 ≤ _)⟩)
    dsimp only [Pt.U, Pt.locs, Pt.cells, Pt.slots] at X400 l400 y400 z400 st400 hQ400
    subst l400 y400 z400
    obtain ⟨rfl, N400q, K400q⟩ := hQ400
    have N400 := Fr.app N0 N400q
    have Z401 : n0 ≤ T400.heap.size := Nat.le_trans Z399 K400q.1
    obtain ⟨_, _, ⟨T402, L402, k402, n402⟩, -, X402, ⟨Lc402, hQ402, l402, y402, z402⟩, st402⟩ := X400.specialBack hx (y := (⟨"com/example/kawi/kawi/OrderedNames", "<init>", "(Ljava/util/List;)V"⟩ : MethodName)) rfl hown (mvT hZ (wd_29 hw)) (mvT hZ (wd_30 hw)) (mvT hZ (wd_31 hw)) (by decide) (backOf (W := 1) (rm5 l Z a0 hw [] b396 b398 .null (.int (0 : Int32)) (.int (0 : Int32)) .null (.int (0 : Int32)) wN T400.heap n0 Z401 ((F_places_b396.ext E398).keep K400q (ninS ne_b396_b398 nin0)) ((F_ordered_b396.ext E398).keep K400q (ninS ne_b396_b398 nin0)) ((F_size_b396.ext E398).keep K400q (ninS ne_b396_b398 nin0)) ((F_beans_b396.ext E398).keep K400q (ninS ne_b396_b398 nin0)) ((F_modCount_b396.ext E398).keep K400q (ninS ne_b396_b398 nin0)) ((A396.ext E398).keep K400q) g_b396 (((Old0.ext E396).ext E398).keep K400q (allS g_b398 all0)) S_NONE) hZ (wd_31 hw) (wd_2 hw) (by decide) (by decide)) (g := (mkF m 72 #[.val (.int p1), .val (.int p2), .val (.int p3), .val (.int p4), .val (.int p5), .val (.int (0 : Int32)), .val (.int v394), .val (.int (((p5.toUInt32 >>> ((3 : Int32) &&& 31).toUInt32).toInt32) &&& (3 : Int32))), .unset, .unset, .unset, .unset] [(.ref b398), (.ref b396), (.ref b396)])) rfl (by rw [hml]; rfl) (Steps.refl _) (a := b396) (argsL := [(.ref b398)]) (rest := [(.ref b396)]) (lenOf pd__Ljava_util_List__V rfl) rfl (by show 2 * 0 + _ ≤ _; exact Nat.le_of_eq rfl) (hb hby at_72) (fun _ _ => ⟨rfl, rfl, (by decide : 2 + 0 ≤ _), (by decide : 8 + 0 ≤ _)⟩)
    dsimp only [Pt.U, Pt.locs, Pt.cells, Pt.slots] at X402 l402 y402 z402 st402 hQ402
    subst l402 y402 z402
    obtain ⟨rfl, N402q, K402q, g402_0, g402_1, g402_2, g402_3⟩ := hQ402
    have N402 := Fr.app N400 N402q
    have Z403 : n0 ≤ T402.heap.size := Nat.le_trans Z401 K402q.1
    have pre405 : ∀ t, Steps p.tables e below (T402.setTop (mkF m 115 #[.val (.int p1), .val (.int p2), .val (.int p3), .val (.int p4), .val (.int p5), .val (.int (0 : Int32)), .val (.int v394), .val (.int (((p5.toUInt32 >>> ((3 : Int32) &&& 31).toUInt32).toInt32) &&& (3 : Int32))), .val (.ref b396), .unset, .unset, .unset] [(.int v394)])) t → Steps p.tables e below (s₁.setTop (entryFrame m #[(.int p1), (.int p2), (.int p3), (.int p4), (.int p5)] maxLocals)) t := by
      intro t kt
      refine pre395 _ ?_
      show Steps p.tables e below (s₁.setTop (mkF m 20 #[.val (.int p1), .val (.int p2), .val (.int p3), .val (.int p4), .val (.int p5), .val (.int (0 : Int32)), .unset, .unset, .unset, .unset, .unset, .unset] [(.int v394)])) _
      refine XS.istore X0.here hx rfl (hb hby at_20) rfl (l' := #[.val (.int p1), .val (.int p2), .val (.int p3), .val (.int p4), .val (.int p5), .val (.int (0 : Int32)), .val (.int v394), .unset, .unset, .unset, .unset, .unset]) rfl ?_
      refine XS.iload X0.here hx rfl (hb hby at_22) rfl ?_
      refine XS.iconst X0.here hx rfl (hb hby at_24) ?_
      refine XS.iushr X0.here hx rfl (hb hby at_25) rfl ?_
      show Steps p.tables e below (s₁.setTop (mkF m 26 #[.val (.int p1), .val (.int p2), .val (.int p3), .val (.int p4), .val (.int p5), .val (.int (0 : Int32)), .val (.int v394), .unset, .unset, .unset, .unset, .unset] [(.int ((p5.toUInt32 >>> ((3 : Int32) &&& 31).toUInt32).toInt32))])) _
      refine XS.iconst X0.here hx rfl (hb hby at_26) ?_
      refine XS.iand X0.here hx rfl (hb hby at_27) rfl ?_
      refine XS.istore X0.here hx rfl (hb hby at_28) rfl (l' := #[.val (.int p1), .val (.int p2), .val (.int p3), .val (.int p4), .val (.int p5), .val (.int (0 : Int32)), .val (.int v394), .val (.int (((p5.toUInt32 >>> ((3 : Int32) &&& 31).toUInt32).toInt32) &&& (3 : Int32))), .unset, .unset, .unset, .unset]) rfl ?_
      refine XS.iload X0.here hx rfl (hb hby at_30) rfl ?_
      show Steps p.tables e below (s₁.setTop (mkF m 32 #[.val (.int p1), .val (.int p2), .val (.int p3), .val (.int p4), .val (.int p5), .val (.int (0 : Int32)), .val (.int v394), .val (.int (((p5.toUInt32 >>> ((3 : Int32) &&& 31).toUInt32).toInt32) &&& (3 : Int32))), .unset, .unset, .unset, .unset] [(.int (0 : Int32))])) _
      refine XS.iconst X0.here hx rfl (hb hby at_32) ?_
      refine XS.icmpYes X0.here hx rfl (pc0 := 33) (pc' := 43) rfl (hb hby at_33) rfl (tlt (by decide)).1 (by decide) (by decide) ?_
      refine XS.iload X0.here hx rfl (hb hby at_43) rfl ?_
      refine XS.iconst X0.here hx rfl (hb hby at_45) ?_
      show Steps p.tables e below (s₁.setTop (mkF m 46 #[.val (.int p1), .val (.int p2), .val (.int p3), .val (.int p4), .val (.int p5), .val (.int (0 : Int32)), .val (.int v394), .val (.int (((p5.toUInt32 >>> ((3 : Int32) &&& 31).toUInt32).toInt32) &&& (3 : Int32))), .unset, .unset, .unset, .unset] [(.int (3 : Int32)), (.int (0 : Int32))])) _
      refine XS.icmpYes X0.here hx rfl (pc0 := 46) (pc' := 61) rfl (hb hby at_46) rfl (tlt (by decide)).1 (by decide) (by decide) ?_
      refine st396 _ ?_
      refine XS.dup X396.here hx rfl (hb hby at_64) rfl rfl ?_
      refine st398 _ ?_
      show Steps p.tables e below (T398.setTop (mkF m 68 #[.val (.int p1), .val (.int p2), .val (.int p3), .val (.int p4), .val (.int p5), .val (.int (0 : Int32)), .val (.int v394), .val (.int (((p5.toUInt32 >>> ((3 : Int32) &&& 31).toUInt32).toInt32) &&& (3 : Int32))), .unset, .unset, .unset, .unset] [(.ref b398), (.ref b396), (.ref b396)])) _
      refine XS.dup X398.here hx rfl (hb hby at_68) rfl rfl ?_
      refine st400.trans ?_
      refine st402.trans ?_
      refine XS.astore X402.here hx rfl (hb hby at_75) rfl rfl (l' := #[.val (.int p1), .val (.int p2), .val (.int p3), .val (.int p4), .val (.int p5), .val (.int (0 : Int32)), .val (.int v394), .val (.int (((p5.toUInt32 >>> ((3 : Int32) &&& 31).toUInt32).toInt32) &&& (3 : Int32))), .val (.ref b396), .unset, .unset, .unset]) rfl ?_
      show Steps p.tables e below (T402.setTop (mkF m 77 #[.val (.int p1), .val (.int p2), .val (.int p3), .val (.int p4), .val (.int p5), .val (.int (0 : Int32)), .val (.int v394), .val (.int (((p5.toUInt32 >>> ((3 : Int32) &&& 31).toUInt32).toInt32) &&& (3 : Int32))), .val (.ref b396), .unset, .unset, .unset] [])) _
      refine XS.iload X402.here hx rfl (hb hby at_77) rfl ?_
      refine XS.iconst X402.here hx rfl (hb hby at_79) ?_
      refine XS.icmpYes X402.here hx rfl (pc0 := 80) (pc' := 89) rfl (hb hby at_80) rfl (tlt (by decide)).1 (by decide) (by decide) ?_
      refine XS.iload X402.here hx rfl (hb hby at_89) rfl ?_
      show Steps p.tables e below (T402.setTop (mkF m 91 #[.val (.int p1), .val (.int p2), .val (.int p3), .val (.int p4), .val (.int p5), .val (.int (0 : Int32)), .val (.int v394), .val (.int (((p5.toUInt32 >>> ((3 : Int32) &&& 31).toUInt32).toInt32) &&& (3 : Int32))), .val (.ref b396), .unset, .unset, .unset] [(.int (0 : Int32))])) _
      refine XS.iconst X402.here hx rfl (hb hby at_91) ?_
      refine XS.icmpYes X402.here hx rfl (pc0 := 92) (pc' := 101) rfl (hb hby at_92) rfl (tlt (by decide)).1 (by decide) (by decide) ?_
      refine XS.iload X402.here hx rfl (hb hby at_101) rfl ?_
      refine XS.iconst X402.here hx rfl (hb hby at_103) ?_
      show Steps p.tables e below (T402.setTop (mkF m 104 #[.val (.int p1), .val (.int p2), .val (.int p3), .val (.int p4), .val (.int p5), .val (.int (0 : Int32)), .val (.int v394), .val (.int (((p5.toUInt32 >>> ((3 : Int32) &&& 31).toUInt32).toInt32) &&& (3 : Int32))), .val (.ref b396), .unset, .unset, .unset] [(.int (3 : Int32)), (.int (0 : Int32))])) _
      refine XS.icmpYes X402.here hx rfl (pc0 := 104) (pc' := 113) rfl (hb hby at_104) rfl (tlt (by decide)).1 (by decide) (by decide) ?_
      refine XS.iload X402.here hx rfl (hb hby at_113) rfl ?_
      exact kt
    by_cases hc115_404 : v394 = (0 : Int32)
    · obtain ⟨v409, hv409⟩ : ∃ z : Int32, z = (if (((p5.toUInt32 >>> ((3 : Int32) &&& 31).toUInt32).toInt32) &&& (3 : Int32)) = (0 : Int32) then p4 else (if (((p5.toUInt32 >>> ((3 : Int32) &&& 31).toUInt32).toInt32) &&& (3 : Int32)) = (1 : Int32) then p1 else (if (((p5.toUInt32 >>> ((3 : Int32) &&& 31).toUInt32).toInt32) &&& (3 : Int32)) = (2 : Int32) then p2 else p3))) := ⟨_, rfl⟩
      have pre410 : ∀ t, Steps p.tables e below (T402.setTop (mkF m 153 #[.val (.int p1), .val (.int p2), .val (.int p3), .val (.int p4), .val (.int p5), .val (.int (0 : Int32)), .val (.int v394), .val (.int (((p5.toUInt32 >>> ((3 : Int32) &&& 31).toUInt32).toInt32) &&& (3 : Int32))), .val (.ref b396), .unset, .unset, .unset] [(.int v409)])) t → Steps p.tables e below (s₁.setTop (entryFrame m #[(.int p1), (.int p2), (.int p3), (.int p4), (.int p5)] maxLocals)) t := by
        intro t kt
        refine pre405 _ ?_
        rw [hv409] at kt
        show Steps p.tables e below (T402.setTop (mkF m 115 #[.val (.int p1), .val (.int p2), .val (.int p3), .val (.int p4), .val (.int p5), .val (.int (0 : Int32)), .val (.int v394), .val (.int (((p5.toUInt32 >>> ((3 : Int32) &&& 31).toUInt32).toInt32) &&& (3 : Int32))), .val (.ref b396), .unset, .unset, .unset] [(.int v394)])) _
        refine XS.ifYes X402.here hx rfl (pc0 := 115) (pc' := 123) rfl (hb hby at_115) rfl ((if0 _ _).trans (teq hc115_404).1) (by decide) (by decide) ?_
        refine XS.iload X402.here hx rfl (hb hby at_123) rfl ?_
        show Steps p.tables e below (T402.setTop (mkF m 125 #[.val (.int p1), .val (.int p2), .val (.int p3), .val (.int p4), .val (.int p5), .val (.int (0 : Int32)), .val (.int v394), .val (.int (((p5.toUInt32 >>> ((3 : Int32) &&& 31).toUInt32).toInt32) &&& (3 : Int32))), .val (.ref b396), .unset, .unset, .unset] [(.int (((p5.toUInt32 >>> ((3 : Int32) &&& 31).toUInt32).toInt32) &&& (3 : Int32)))])) _
        by_cases hc125_406 : (((p5.toUInt32 >>> ((3 : Int32) &&& 31).toUInt32).toInt32) &&& (3 : Int32)) = (0 : Int32)
        · try simp only [if_pos hc125_406] at kt
          refine XS.ifNo X402.here hx rfl (hb hby at_125) rfl ((if0 _ _).trans (teq hc125_406).2) ?_
          refine XS.iloadN X402.here hx rfl (hb hby at_128) rfl ?_
          refine XS.goto X402.here hx rfl (pc0 := 129) (pc' := 153) rfl (hb hby at_129) (by decide) (by decide) ?_
          exact kt
        · try simp only [if_neg hc125_406] at kt
          refine XS.ifYes X402.here hx rfl (pc0 := 125) (pc' := 132) rfl (hb hby at_125) rfl ((if0 _ _).trans (feq hc125_406).2) (by decide) (by decide) ?_
          refine XS.iload X402.here hx rfl (hb hby at_132) rfl ?_
          refine XS.iconst X402.here hx rfl (hb hby at_134) ?_
          by_cases hc135_407 : (((p5.toUInt32 >>> ((3 : Int32) &&& 31).toUInt32).toInt32) &&& (3 : Int32)) = (1 : Int32)
          · try simp only [if_pos hc135_407] at kt
            refine XS.icmpNo X402.here hx rfl (hb hby at_135) rfl (teq hc135_407).2 ?_
            show Steps p.tables e below (T402.setTop (mkF m 138 #[.val (.int p1), .val (.int p2), .val (.int p3), .val (.int p4), .val (.int p5), .val (.int (0 : Int32)), .val (.int v394), .val (.int (((p5.toUInt32 >>> ((3 : Int32) &&& 31).toUInt32).toInt32) &&& (3 : Int32))), .val (.ref b396), .unset, .unset, .unset] [])) _
            refine XS.iloadN X402.here hx rfl (hb hby at_138) rfl ?_
            refine XS.goto X402.here hx rfl (pc0 := 139) (pc' := 153) rfl (hb hby at_139) (by decide) (by decide) ?_
            exact kt
          · try simp only [if_neg hc135_407] at kt
            refine XS.icmpYes X402.here hx rfl (pc0 := 135) (pc' := 142) rfl (hb hby at_135) rfl (feq hc135_407).2 (by decide) (by decide) ?_
            show Steps p.tables e below (T402.setTop (mkF m 142 #[.val (.int p1), .val (.int p2), .val (.int p3), .val (.int p4), .val (.int p5), .val (.int (0 : Int32)), .val (.int v394), .val (.int (((p5.toUInt32 >>> ((3 : Int32) &&& 31).toUInt32).toInt32) &&& (3 : Int32))), .val (.ref b396), .unset, .unset, .unset] [])) _
            refine XS.iload X402.here hx rfl (hb hby at_142) rfl ?_
            refine XS.iconst X402.here hx rfl (hb hby at_144) ?_
            by_cases hc145_408 : (((p5.toUInt32 >>> ((3 : Int32) &&& 31).toUInt32).toInt32) &&& (3 : Int32)) = (2 : Int32)
            · try simp only [if_pos hc145_408] at kt
              refine XS.icmpNo X402.here hx rfl (hb hby at_145) rfl (teq hc145_408).2 ?_
              refine XS.iloadN X402.here hx rfl (hb hby at_148) rfl ?_
              show Steps p.tables e below (T402.setTop (mkF m 149 #[.val (.int p1), .val (.int p2), .val (.int p3), .val (.int p4), .val (.int p5), .val (.int (0 : Int32)), .val (.int v394), .val (.int (((p5.toUInt32 >>> ((3 : Int32) &&& 31).toUInt32).toInt32) &&& (3 : Int32))), .val (.ref b396), .unset, .unset, .unset] [(.int p2)])) _
              refine XS.goto X402.here hx rfl (pc0 := 149) (pc' := 153) rfl (hb hby at_149) (by decide) (by decide) ?_
              exact kt
            · try simp only [if_neg hc145_408] at kt
              refine XS.icmpYes X402.here hx rfl (pc0 := 145) (pc' := 152) rfl (hb hby at_145) rfl (feq hc145_408).2 (by decide) (by decide) ?_
              refine XS.iloadN X402.here hx rfl (hb hby at_152) rfl ?_
              show Steps p.tables e below (T402.setTop (mkF m 153 #[.val (.int p1), .val (.int p2), .val (.int p3), .val (.int p4), .val (.int p5), .val (.int (0 : Int32)), .val (.int v394), .val (.int (((p5.toUInt32 >>> ((3 : Int32) &&& 31).toUInt32).toInt32) &&& (3 : Int32))), .val (.ref b396), .unset, .unset, .unset] [(.int p3)])) _
              exact kt
      obtain ⟨cq411, kq411, q411a, q411b, q411c⟩ := isOf hZ rfl ((((A396.ext E398).keep K400q).keep K402q))
      obtain ⟨_, _, ⟨T411, L411, k411, n411⟩, -, X411, ⟨Lc411, hQ411, l411, y411, z411⟩, st411⟩ := X402.virtualBack hx (y := (⟨"com/example/kawi/kawi/OrderedNames", "endsWith", "(I)Z"⟩ : MethodName)) (z := (⟨"com/example/kawi/kawi/OrderedNames", "endsWith", "(I)Z"⟩ : MethodName)) hown (mvT hZ (wd_43 hw)) (mvT hZ (wd_44 hw)) (notFace_of_selects (args := #[]) (mvT hZ (wd_46 hw))) (mvT hZ (wd_46 hw)) (mvT hZ (wd_45 hw)) (by decide) (backOf (W := 0) (rmew0 l Z a0 hw [] b396 v409 T402.heap n0 Z403 g402_2) hZ (wd_47 hw) (wd_2 hw) (by decide) (by decide)) q411a q411c (g := (mkF m 250 #[.val (.int p1), .val (.int p2), .val (.int p3), .val (.int p4), .val (.int p5), .val (.int (0 : Int32)), .val (.int v394), .val (.int (((p5.toUInt32 >>> ((3 : Int32) &&& 31).toUInt32).toInt32) &&& (3 : Int32))), .val (.ref b396), .val (.int v409), .val (.int (0 : Int32)), .unset] [(.int v409), (.ref b396)])) rfl (by rw [hml]; rfl) (Steps.refl _) (argsL := [(.int v409)]) (rest := []) (lenOf pd__I_Z rfl) rfl (by show 2 * 0 + _ ≤ _; exact Nat.le_of_eq rfl) (hb hby at_250) (fun _ _ => ⟨rfl, rfl, (by decide : 2 + 0 ≤ _), (by decide : 8 + 0 ≤ _)⟩)
      dsimp only [Pt.U, Pt.locs, Pt.cells, Pt.slots] at X411 l411 y411 z411 st411 hQ411
      subst l411 y411 z411
      obtain ⟨rfl, N411q, e411⟩ := hQ411
      have N411 := Fr.app N402 N411q
      obtain ⟨fs, hr, hrun, hended, hW, hsame⟩ := X411.leave (v := some (.int (1 : Int32))) (fun h => by rw [Bd.returns] at h; cases h)
      refine ⟨_, _, pre410 _ ?_, hrun, hended, _, _, rfl, ?_, ⟨_, rfl⟩, hW, hsame.mono (by decide) (by decide)⟩
      · show Steps p.tables e below (T402.setTop (mkF m 153 #[.val (.int p1), .val (.int p2), .val (.int p3), .val (.int p4), .val (.int p5), .val (.int (0 : Int32)), .val (.int v394), .val (.int (((p5.toUInt32 >>> ((3 : Int32) &&& 31).toUInt32).toInt32) &&& (3 : Int32))), .val (.ref b396), .unset, .unset, .unset] [(.int v409)])) _
        refine XS.istore X402.here hx rfl (hb hby at_153) rfl (l' := #[.val (.int p1), .val (.int p2), .val (.int p3), .val (.int p4), .val (.int p5), .val (.int (0 : Int32)), .val (.int v394), .val (.int (((p5.toUInt32 >>> ((3 : Int32) &&& 31).toUInt32).toInt32) &&& (3 : Int32))), .val (.ref b396), .val (.int v409), .unset, .unset]) rfl ?_
        refine XS.iload X402.here hx rfl (hb hby at_155) rfl ?_
        refine XS.ifNo X402.here hx rfl (hb hby at_157) rfl ((if0 _ _).trans (teq (rfl : (0 : Int32) = (0 : Int32))).2) ?_
        refine XS.iconst X402.here hx rfl (hb hby at_160) ?_
        show Steps p.tables e below (T402.setTop (mkF m 161 #[.val (.int p1), .val (.int p2), .val (.int p3), .val (.int p4), .val (.int p5), .val (.int (0 : Int32)), .val (.int v394), .val (.int (((p5.toUInt32 >>> ((3 : Int32) &&& 31).toUInt32).toInt32) &&& (3 : Int32))), .val (.ref b396), .val (.int v409), .unset, .unset] [(.int (0 : Int32))])) _
        refine XS.istore X402.here hx rfl (hb hby at_161) rfl (l' := #[.val (.int p1), .val (.int p2), .val (.int p3), .val (.int p4), .val (.int p5), .val (.int (0 : Int32)), .val (.int v394), .val (.int (((p5.toUInt32 >>> ((3 : Int32) &&& 31).toUInt32).toInt32) &&& (3 : Int32))), .val (.ref b396), .val (.int v409), .val (.int (0 : Int32)), .unset]) rfl ?_
        refine XS.goto X402.here hx rfl (pc0 := 163) (pc' := 246) rfl (hb hby at_163) (by decide) (by decide) ?_
        refine XS.aload X402.here hx rfl (hb hby at_246) rfl rfl ?_
        refine XS.iload X402.here hx rfl (hb hby at_248) rfl ?_
        show Steps p.tables e below (T402.setTop (mkF m 250 #[.val (.int p1), .val (.int p2), .val (.int p3), .val (.int p4), .val (.int p5), .val (.int (0 : Int32)), .val (.int v394), .val (.int (((p5.toUInt32 >>> ((3 : Int32) &&& 31).toUInt32).toInt32) &&& (3 : Int32))), .val (.ref b396), .val (.int v409), .val (.int (0 : Int32)), .unset] [(.int v409), (.ref b396)])) _
        refine st411.trans ?_
        refine XS.iload X411.here hx rfl (hb hby at_253) rfl ?_
        refine XS.icmpNo X411.here hx rfl (hb hby at_255) rfl (teq rfl).2 ?_
        refine XS.iconst X411.here hx rfl (hb hby at_258) ?_
        show Steps p.tables e below (T411.setTop (mkF m 259 #[.val (.int p1), .val (.int p2), .val (.int p3), .val (.int p4), .val (.int p5), .val (.int (0 : Int32)), .val (.int v394), .val (.int (((p5.toUInt32 >>> ((3 : Int32) &&& 31).toUInt32).toInt32) &&& (3 : Int32))), .val (.ref b396), .val (.int v409), .val (.int (0 : Int32)), .unset] [(.int (1 : Int32))])) _
        refine XS.goto X411.here hx rfl (pc0 := 259) (pc' := 263) rfl (hb hby at_259) (by decide) (by decide) ?_
        exact retN X411 hx (t := .boolean) Bd.returns (by simp) (hb hby at_263) hr
      · show Q_rm0 Z p1 p2 p3 p4 p5 wD wN kN h0 n0 _ T411.heap _
        rw [e411]
        exact ⟨rfl, N411, trivial⟩
    · obtain ⟨cq412, kq412, q412a, q412b, q412c⟩ := isOf hZ rfl ((((A396.ext E398).keep K400q).keep K402q))
      obtain ⟨_, _, ⟨T412, L412, k412, n412⟩, -, X412, ⟨Lc412, hQ412, l412, y412, z412⟩, st412⟩ := X402.virtualBack hx (y := (⟨"com/example/kawi/kawi/OrderedNames", "order", "()V"⟩ : MethodName)) (z := (⟨"com/example/kawi/kawi/OrderedNames", "order", "()V"⟩ : MethodName)) hown (mvT hZ (wd_73 hw)) (mvT hZ (wd_74 hw)) (notFace_of_selects (args := #[]) (mvT hZ (wd_76 hw))) (mvT hZ (wd_76 hw)) (mvT hZ (wd_75 hw)) (by decide) (backOf (W := 0) (rmo1 l Z a0 hw [] b396 T402.heap n0 Z403 g402_1) hZ (wd_77 hw) (wd_2 hw) (by decide) (by decide)) q412a q412c (g := (mkF m 120 #[.val (.int p1), .val (.int p2), .val (.int p3), .val (.int p4), .val (.int p5), .val (.int (0 : Int32)), .val (.int v394), .val (.int (((p5.toUInt32 >>> ((3 : Int32) &&& 31).toUInt32).toInt32) &&& (3 : Int32))), .val (.ref b396), .unset, .unset, .unset] [(.ref b396)])) rfl (by rw [hml]; rfl) (Steps.refl _) (argsL := []) (rest := []) (lenOf pd___V rfl) rfl (by show 2 * 0 + _ ≤ _; exact Nat.le_of_eq rfl) (hb hby at_120) (fun _ _ => ⟨rfl, rfl, (by decide : 2 + 0 ≤ _), (by decide : 8 + 0 ≤ _)⟩)
      dsimp only [Pt.U, Pt.locs, Pt.cells, Pt.slots] at X412 l412 y412 z412 st412 hQ412
      subst l412 y412 z412
      obtain ⟨rfl, N412q, e412⟩ := hQ412
      have N412 := Fr.app N402 N412q
      obtain ⟨v416, hv416⟩ : ∃ z : Int32, z = (if (((p5.toUInt32 >>> ((3 : Int32) &&& 31).toUInt32).toInt32) &&& (3 : Int32)) = (0 : Int32) then p4 else (if (((p5.toUInt32 >>> ((3 : Int32) &&& 31).toUInt32).toInt32) &&& (3 : Int32)) = (1 : Int32) then p1 else (if (((p5.toUInt32 >>> ((3 : Int32) &&& 31).toUInt32).toInt32) &&& (3 : Int32)) = (2 : Int32) then p2 else p3))) := ⟨_, rfl⟩
      have pre417 : ∀ t, Steps p.tables e below (T412.setTop (mkF m 153 #[.val (.int p1), .val (.int p2), .val (.int p3), .val (.int p4), .val (.int p5), .val (.int (0 : Int32)), .val (.int v394), .val (.int (((p5.toUInt32 >>> ((3 : Int32) &&& 31).toUInt32).toInt32) &&& (3 : Int32))), .val (.ref b396), .unset, .unset, .unset] [(.int v416)])) t → Steps p.tables e below (s₁.setTop (entryFrame m #[(.int p1), (.int p2), (.int p3), (.int p4), (.int p5)] maxLocals)) t := by
        intro t kt
        refine pre405 _ ?_
        rw [hv416] at kt
        show Steps p.tables e below (T402.setTop (mkF m 115 #[.val (.int p1), .val (.int p2), .val (.int p3), .val (.int p4), .val (.int p5), .val (.int (0 : Int32)), .val (.int v394), .val (.int (((p5.toUInt32 >>> ((3 : Int32) &&& 31).toUInt32).toInt32) &&& (3 : Int32))), .val (.ref b396), .unset, .unset, .unset] [(.int v394)])) _
        refine XS.ifNo X402.here hx rfl (hb hby at_115) rfl ((if0 _ _).trans (feq hc115_404).1) ?_
        refine XS.aload X402.here hx rfl (hb hby at_118) rfl rfl ?_
        show Steps p.tables e below (T402.setTop (mkF m 120 #[.val (.int p1), .val (.int p2), .val (.int p3), .val (.int p4), .val (.int p5), .val (.int (0 : Int32)), .val (.int v394), .val (.int (((p5.toUInt32 >>> ((3 : Int32) &&& 31).toUInt32).toInt32) &&& (3 : Int32))), .val (.ref b396), .unset, .unset, .unset] [(.ref b396)])) _
        refine st412.trans ?_
        refine XS.iload X412.here hx rfl (hb hby at_123) rfl ?_
        by_cases hc125_413 : (((p5.toUInt32 >>> ((3 : Int32) &&& 31).toUInt32).toInt32) &&& (3 : Int32)) = (0 : Int32)
        · try simp only [if_pos hc125_413] at kt
          refine XS.ifNo X412.here hx rfl (hb hby at_125) rfl ((if0 _ _).trans (teq hc125_413).2) ?_
          refine XS.iloadN X412.here hx rfl (hb hby at_128) rfl ?_
          show Steps p.tables e below (T412.setTop (mkF m 129 #[.val (.int p1), .val (.int p2), .val (.int p3), .val (.int p4), .val (.int p5), .val (.int (0 : Int32)), .val (.int v394), .val (.int (((p5.toUInt32 >>> ((3 : Int32) &&& 31).toUInt32).toInt32) &&& (3 : Int32))), .val (.ref b396), .unset, .unset, .unset] [(.int p4)])) _
          refine XS.goto X412.here hx rfl (pc0 := 129) (pc' := 153) rfl (hb hby at_129) (by decide) (by decide) ?_
          exact kt
        · try simp only [if_neg hc125_413] at kt
          refine XS.ifYes X412.here hx rfl (pc0 := 125) (pc' := 132) rfl (hb hby at_125) rfl ((if0 _ _).trans (feq hc125_413).2) (by decide) (by decide) ?_
          refine XS.iload X412.here hx rfl (hb hby at_132) rfl ?_
          show Steps p.tables e below (T412.setTop (mkF m 134 #[.val (.int p1), .val (.int p2), .val (.int p3), .val (.int p4), .val (.int p5), .val (.int (0 : Int32)), .val (.int v394), .val (.int (((p5.toUInt32 >>> ((3 : Int32) &&& 31).toUInt32).toInt32) &&& (3 : Int32))), .val (.ref b396), .unset, .unset, .unset] [(.int (((p5.toUInt32 >>> ((3 : Int32) &&& 31).toUInt32).toInt32) &&& (3 : Int32)))])) _
          refine XS.iconst X412.here hx rfl (hb hby at_134) ?_
          by_cases hc135_414 : (((p5.toUInt32 >>> ((3 : Int32) &&& 31).toUInt32).toInt32) &&& (3 : Int32)) = (1 : Int32)
          · try simp only [if_pos hc135_414] at kt
            refine XS.icmpNo X412.here hx rfl (hb hby at_135) rfl (teq hc135_414).2 ?_
            refine XS.iloadN X412.here hx rfl (hb hby at_138) rfl ?_
            refine XS.goto X412.here hx rfl (pc0 := 139) (pc' := 153) rfl (hb hby at_139) (by decide) (by decide) ?_
            show Steps p.tables e below (T412.setTop (mkF m 153 #[.val (.int p1), .val (.int p2), .val (.int p3), .val (.int p4), .val (.int p5), .val (.int (0 : Int32)), .val (.int v394), .val (.int (((p5.toUInt32 >>> ((3 : Int32) &&& 31).toUInt32).toInt32) &&& (3 : Int32))), .val (.ref b396), .unset, .unset, .unset] [(.int p1)])) _
            exact kt
          · try simp only [if_neg hc135_414] at kt
            refine XS.icmpYes X412.here hx rfl (pc0 := 135) (pc' := 142) rfl (hb hby at_135) rfl (feq hc135_414).2 (by decide) (by decide) ?_
            refine XS.iload X412.here hx rfl (hb hby at_142) rfl ?_
            refine XS.iconst X412.here hx rfl (hb hby at_144) ?_
            show Steps p.tables e below (T412.setTop (mkF m 145 #[.val (.int p1), .val (.int p2), .val (.int p3), .val (.int p4), .val (.int p5), .val (.int (0 : Int32)), .val (.int v394), .val (.int (((p5.toUInt32 >>> ((3 : Int32) &&& 31).toUInt32).toInt32) &&& (3 : Int32))), .val (.ref b396), .unset, .unset, .unset] [(.int (2 : Int32)), (.int (((p5.toUInt32 >>> ((3 : Int32) &&& 31).toUInt32).toInt32) &&& (3 : Int32)))])) _
            by_cases hc145_415 : (((p5.toUInt32 >>> ((3 : Int32) &&& 31).toUInt32).toInt32) &&& (3 : Int32)) = (2 : Int32)
            · try simp only [if_pos hc145_415] at kt
              refine XS.icmpNo X412.here hx rfl (hb hby at_145) rfl (teq hc145_415).2 ?_
              refine XS.iloadN X412.here hx rfl (hb hby at_148) rfl ?_
              refine XS.goto X412.here hx rfl (pc0 := 149) (pc' := 153) rfl (hb hby at_149) (by decide) (by decide) ?_
              exact kt
            · try simp only [if_neg hc145_415] at kt
              refine XS.icmpYes X412.here hx rfl (pc0 := 145) (pc' := 152) rfl (hb hby at_145) rfl (feq hc145_415).2 (by decide) (by decide) ?_
              refine XS.iloadN X412.here hx rfl (hb hby at_152) rfl ?_
              exact kt
      obtain ⟨cq418, kq418, q418a, q418b, q418c⟩ := isOf hZ e412 ((((A396.ext E398).keep K400q).keep K402q))
      obtain ⟨_, _, ⟨T418, L418, k418, n418⟩, -, X418, ⟨Lc418, hQ418, l418, y418, z418⟩, st418⟩ := X412.virtualBack hx (y := (⟨"com/example/kawi/kawi/OrderedNames", "endsWith", "(I)Z"⟩ : MethodName)) (z := (⟨"com/example/kawi/kawi/OrderedNames", "endsWith", "(I)Z"⟩ : MethodName)) hown (mvT hZ (wd_43 hw)) (mvT hZ (wd_44 hw)) (notFace_of_selects (args := #[]) (mvT hZ (wd_46 hw))) (mvT hZ (wd_46 hw)) (mvT hZ (wd_45 hw)) (by decide) (backOf (W := 0) (rmew0 l Z a0 hw [] b396 v416 T402.heap n0 Z403 g402_2) hZ (wd_47 hw) (wd_2 hw) (by decide) (by decide)) q418a q418c (g := (mkF m 250 #[.val (.int p1), .val (.int p2), .val (.int p3), .val (.int p4), .val (.int p5), .val (.int (0 : Int32)), .val (.int v394), .val (.int (((p5.toUInt32 >>> ((3 : Int32) &&& 31).toUInt32).toInt32) &&& (3 : Int32))), .val (.ref b396), .val (.int v416), .val (.int (0 : Int32)), .unset] [(.int v416), (.ref b396)])) rfl (by rw [hml]; rfl) (Steps.refl _) (argsL := [(.int v416)]) (rest := []) (lenOf pd__I_Z rfl) rfl (by show 2 * 0 + _ ≤ _; exact Nat.le_of_eq rfl) (hb hby at_250) (fun _ _ => ⟨rfl, e412, (by decide : 2 + 0 ≤ _), (by decide : 8 + 0 ≤ _)⟩)
      dsimp only [Pt.U, Pt.locs, Pt.cells, Pt.slots] at X418 l418 y418 z418 st418 hQ418
      subst l418 y418 z418
      obtain ⟨rfl, N418q, e418⟩ := hQ418
      have N418 := Fr.app N412 N418q
      obtain ⟨fs, hr, hrun, hended, hW, hsame⟩ := X418.leave (v := some (.int (1 : Int32))) (fun h => by rw [Bd.returns] at h; cases h)
      refine ⟨_, _, pre417 _ ?_, hrun, hended, _, _, rfl, ?_, ⟨_, rfl⟩, hW, hsame.mono (by decide) (by decide)⟩
      · show Steps p.tables e below (T412.setTop (mkF m 153 #[.val (.int p1), .val (.int p2), .val (.int p3), .val (.int p4), .val (.int p5), .val (.int (0 : Int32)), .val (.int v394), .val (.int (((p5.toUInt32 >>> ((3 : Int32) &&& 31).toUInt32).toInt32) &&& (3 : Int32))), .val (.ref b396), .unset, .unset, .unset] [(.int v416)])) _
        refine XS.istore X412.here hx rfl (hb hby at_153) rfl (l' := #[.val (.int p1), .val (.int p2), .val (.int p3), .val (.int p4), .val (.int p5), .val (.int (0 : Int32)), .val (.int v394), .val (.int (((p5.toUInt32 >>> ((3 : Int32) &&& 31).toUInt32).toInt32) &&& (3 : Int32))), .val (.ref b396), .val (.int v416), .unset, .unset]) rfl ?_
        refine XS.iload X412.here hx rfl (hb hby at_155) rfl ?_
        refine XS.ifNo X412.here hx rfl (hb hby at_157) rfl ((if0 _ _).trans (teq (rfl : (0 : Int32) = (0 : Int32))).2) ?_
        refine XS.iconst X412.here hx rfl (hb hby at_160) ?_
        show Steps p.tables e below (T412.setTop (mkF m 161 #[.val (.int p1), .val (.int p2), .val (.int p3), .val (.int p4), .val (.int p5), .val (.int (0 : Int32)), .val (.int v394), .val (.int (((p5.toUInt32 >>> ((3 : Int32) &&& 31).toUInt32).toInt32) &&& (3 : Int32))), .val (.ref b396), .val (.int v416), .unset, .unset] [(.int (0 : Int32))])) _
        refine XS.istore X412.here hx rfl (hb hby at_161) rfl (l' := #[.val (.int p1), .val (.int p2), .val (.int p3), .val (.int p4), .val (.int p5), .val (.int (0 : Int32)), .val (.int v394), .val (.int (((p5.toUInt32 >>> ((3 : Int32) &&& 31).toUInt32).toInt32) &&& (3 : Int32))), .val (.ref b396), .val (.int v416), .val (.int (0 : Int32)), .unset]) rfl ?_
        refine XS.goto X412.here hx rfl (pc0 := 163) (pc' := 246) rfl (hb hby at_163) (by decide) (by decide) ?_
        refine XS.aload X412.here hx rfl (hb hby at_246) rfl rfl ?_
        refine XS.iload X412.here hx rfl (hb hby at_248) rfl ?_
        show Steps p.tables e below (T412.setTop (mkF m 250 #[.val (.int p1), .val (.int p2), .val (.int p3), .val (.int p4), .val (.int p5), .val (.int (0 : Int32)), .val (.int v394), .val (.int (((p5.toUInt32 >>> ((3 : Int32) &&& 31).toUInt32).toInt32) &&& (3 : Int32))), .val (.ref b396), .val (.int v416), .val (.int (0 : Int32)), .unset] [(.int v416), (.ref b396)])) _
        refine st418.trans ?_
        refine XS.iload X418.here hx rfl (hb hby at_253) rfl ?_
        refine XS.icmpNo X418.here hx rfl (hb hby at_255) rfl (teq rfl).2 ?_
        refine XS.iconst X418.here hx rfl (hb hby at_258) ?_
        show Steps p.tables e below (T418.setTop (mkF m 259 #[.val (.int p1), .val (.int p2), .val (.int p3), .val (.int p4), .val (.int p5), .val (.int (0 : Int32)), .val (.int v394), .val (.int (((p5.toUInt32 >>> ((3 : Int32) &&& 31).toUInt32).toInt32) &&& (3 : Int32))), .val (.ref b396), .val (.int v416), .val (.int (0 : Int32)), .unset] [(.int (1 : Int32))])) _
        refine XS.goto X418.here hx rfl (pc0 := 259) (pc' := 263) rfl (hb hby at_259) (by decide) (by decide) ?_
        exact retN X418 hx (t := .boolean) Bd.returns (by simp) (hb hby at_263) hr
      · show Q_rm0 Z p1 p2 p3 p4 p5 wD wN kN h0 n0 _ T418.heap _
        rw [e418]
        exact ⟨rfl, N418, trivial⟩
  · obtain ⟨v420, hv420⟩ : ∃ z : Int32, z = (if (((p5.toUInt32 >>> ((2 : Int32) &&& 31).toUInt32).toInt32) &&& (1 : Int32)) = (0 : Int32) then (0 : Int32) else (1 : Int32)) := ⟨_, rfl⟩
    have pre421 : ∀ t, Steps p.tables e below (s₁.setTop (mkF m 20 #[.val (.int p1), .val (.int p2), .val (.int p3), .val (.int p4), .val (.int p5), .val (.int (1 : Int32)), .unset, .unset, .unset, .unset, .unset, .unset] [(.int v420)])) t → Steps p.tables e below (s₁.setTop (entryFrame m #[(.int p1), (.int p2), (.int p3), (.int p4), (.int p5)] maxLocals)) t := by
      intro t kt
      refine pre392 _ ?_
      rw [hv420] at kt
      show Steps p.tables e below (s₁.setTop (mkF m 6 #[.val (.int p1), .val (.int p2), .val (.int p3), .val (.int p4), .val (.int p5), .val (.int (1 : Int32)), .unset, .unset, .unset, .unset, .unset, .unset] [])) _
      refine XS.iload X0.here hx rfl (hb hby at_6) rfl ?_
      refine XS.iconst X0.here hx rfl (hb hby at_8) ?_
      refine XS.iushr X0.here hx rfl (hb hby at_9) rfl ?_
      refine XS.iconst X0.here hx rfl (hb hby at_10) ?_
      show Steps p.tables e below (s₁.setTop (mkF m 11 #[.val (.int p1), .val (.int p2), .val (.int p3), .val (.int p4), .val (.int p5), .val (.int (1 : Int32)), .unset, .unset, .unset, .unset, .unset, .unset] [(.int (1 : Int32)), (.int ((p5.toUInt32 >>> ((2 : Int32) &&& 31).toUInt32).toInt32))])) _
      refine XS.iand X0.here hx rfl (hb hby at_11) rfl ?_
      by_cases hc12_419 : (((p5.toUInt32 >>> ((2 : Int32) &&& 31).toUInt32).toInt32) &&& (1 : Int32)) = (0 : Int32)
      · try simp only [if_pos hc12_419] at kt
        refine XS.ifYes X0.here hx rfl (pc0 := 12) (pc' := 19) rfl (hb hby at_12) rfl ((if0 _ _).trans (teq hc12_419).1) (by decide) (by decide) ?_
        refine XS.iconst X0.here hx rfl (hb hby at_19) ?_
        exact kt
      · try simp only [if_neg hc12_419] at kt
        refine XS.ifNo X0.here hx rfl (hb hby at_12) rfl ((if0 _ _).trans (feq hc12_419).1) ?_
        refine XS.iconst X0.here hx rfl (hb hby at_15) ?_
        refine XS.goto X0.here hx rfl (pc0 := 16) (pc' := 20) rfl (hb hby at_16) (by decide) (by decide) ?_
        show Steps p.tables e below (s₁.setTop (mkF m 20 #[.val (.int p1), .val (.int p2), .val (.int p3), .val (.int p4), .val (.int p5), .val (.int (1 : Int32)), .unset, .unset, .unset, .unset, .unset, .unset] [(.int (1 : Int32))])) _
        exact kt
    obtain ⟨T422, h422, X422, e422, E422, A422, D422, -, st422⟩ := newO X0 hx hZ hown (wd_0 hw) (wd_1 hw) (wd_2 hw) e0 (g := (mkF m 61 #[.val (.int p1), .val (.int p2), .val (.int p3), .val (.int p4), .val (.int p5), .val (.int (1 : Int32)), .val (.int v420), .val (.int (((p5.toUInt32 >>> ((3 : Int32) &&& 31).toUInt32).toInt32) &&& (3 : Int32))), .unset, .unset, .unset, .unset] [])) rfl (hb hby at_61) (by decide) (by decide)
    obtain ⟨b422, g422⟩ : ∃ z, z = h0.size := ⟨_, rfl⟩
    rw [← g422] at A422 D422 st422
    have g_b422 : n0 ≤ b422 := Nat.le_trans Z0 (Nat.le_of_eq g422.symm)
    have ne_wN_b422 : wN ≠ b422 := Nat.ne_of_lt (Nat.lt_of_lt_of_le (V_wN).lt (Nat.le_of_eq g422.symm))
    have Z423 : n0 ≤ h422.size := Nat.le_trans Z0 E422.1
    have F_modCount_b422 : Fld Z h422 b422 "java/util/AbstractList" "modCount" "I" (.int (0 : Int32)) := D422 (Or.inl (wd_34 hw)) (ty := .int) (by decide)
    have F_places_b422 : Fld Z h422 b422 "com/example/kawi/kawi/OrderedNames" "places" "[I" .null := D422 (Or.inl (wd_38 hw)) (ty := (.array .int)) (by decide)
    have F_ordered_b422 : Fld Z h422 b422 "com/example/kawi/kawi/OrderedNames" "ordered" "Z" (.int (0 : Int32)) := D422 (Or.inl (wd_40 hw)) (ty := .boolean) (by decide)
    have F_beans_b422 : Fld Z h422 b422 "com/example/kawi/kawi/OrderedNames" "beans" "Ljava/util/List;" .null := D422 (Or.inr (wd_42 hw)) (ty := (.object "java/util/List")) (by decide)
    have F_size_b422 : Fld Z h422 b422 "com/example/kawi/kawi/OrderedNames" "size" "I" (.int (0 : Int32)) := D422 (Or.inl (wd_49 hw)) (ty := .int) (by decide)
    obtain ⟨T424, h424, X424, e424, E424, A424, D424, -, st424⟩ := newO X422 hx hZ hown (wd_3 hw) (wd_4 hw) (wd_5 hw) e422 (g := (mkF m 65 #[.val (.int p1), .val (.int p2), .val (.int p3), .val (.int p4), .val (.int p5), .val (.int (1 : Int32)), .val (.int v420), .val (.int (((p5.toUInt32 >>> ((3 : Int32) &&& 31).toUInt32).toInt32) &&& (3 : Int32))), .unset, .unset, .unset, .unset] [(.ref b422), (.ref b422)])) rfl (hb hby at_65) (by decide) (by decide)
    obtain ⟨b424, g424⟩ : ∃ z, z = h422.size := ⟨_, rfl⟩
    rw [← g424] at A424 D424 st424
    have g_b424 : n0 ≤ b424 := Nat.le_trans Z423 (Nat.le_of_eq g424.symm)
    have ne_wN_b424 : wN ≠ b424 := Nat.ne_of_lt (Nat.lt_of_lt_of_le ((V_wN.ext E422)).lt (Nat.le_of_eq g424.symm))
    have ne_b422_b424 : b422 ≠ b424 := Nat.ne_of_lt (Nat.lt_of_lt_of_le (A422).lt (Nat.le_of_eq g424.symm))
    have Z425 : n0 ≤ h424.size := Nat.le_trans Z423 E424.1
    have F_modCount_b424 : Fld Z h424 b424 "java/util/AbstractList" "modCount" "I" (.int (0 : Int32)) := D424 (Or.inl (wd_25 hw)) (ty := .int) (by decide)
    have F_elementData_b424 : Fld Z h424 b424 "java/util/ArrayList" "elementData" "[Ljava/lang/Object;" .null := D424 (Or.inl (wd_28 hw)) (ty := (.array (.object "java/lang/Object"))) (by decide)
    obtain ⟨_, _, ⟨T426, L426, k426, n426⟩, -, X426, ⟨Lc426, hQ426, l426, y426, z426⟩, st426⟩ := X424.specialBack hx (y := (⟨"java/util/ArrayList", "<init>", "()V"⟩ : MethodName)) rfl hown (mvT hZ (wd_6 hw)) (mvT hZ (wd_7 hw)) (mvT hZ (wd_8 hw)) (by decide) (backOf (W := 3) (rm1 l Z a0 hw [] b424 .null (.int (0 : Int32)) wD h424 n0 Z425 F_elementData_b424 F_modCount_b424 A424 g_b424 ((Old0.ext E422).ext E424) S_DEFAULTCAPACITY_EMPTY_ELEMENTDATA) hZ (wd_8 hw) (wd_5 hw) (by decide) (by decide)) (g := (mkF m 69 #[.val (.int p1), .val (.int p2), .val (.int p3), .val (.int p4), .val (.int p5), .val (.int (1 : Int32)), .val (.int v420), .val (.int (((p5.toUInt32 >>> ((3 : Int32) &&& 31).toUInt32).toInt32) &&& (3 : Int32))), .unset, .unset, .unset, .unset] [(.ref b424), (.ref b424), (.ref b422), (.ref b422)])) rfl (by rw [hml]; rfl) (Steps.refl _) (a := b424) (argsL := []) (rest := [(.ref b424), (.ref b422), (.ref b422)]) (lenOf pd___V rfl) rfl (by show 2 * 0 + _ ≤ _; exact Nat.le_of_eq rfl) (hb hby at_69) (fun _ _ => ⟨rfl, e424, (by decide : 2 + 0 ≤ _), (by decide : 8 + 0 ≤ _)⟩)
    dsimp only [Pt.U, Pt.locs, Pt.cells, Pt.slots] at X426 l426 y426 z426 st426 hQ426
    subst l426 y426 z426
    obtain ⟨rfl, N426q, K426q⟩ := hQ426
    have N426 := Fr.app N0 N426q
    have Z427 : n0 ≤ T426.heap.size := Nat.le_trans Z425 K426q.1
    obtain ⟨_, _, ⟨T428, L428, k428, n428⟩, -, X428, ⟨Lc428, hQ428, l428, y428, z428⟩, st428⟩ := X426.specialBack hx (y := (⟨"com/example/kawi/kawi/OrderedNames", "<init>", "(Ljava/util/List;)V"⟩ : MethodName)) rfl hown (mvT hZ (wd_29 hw)) (mvT hZ (wd_30 hw)) (mvT hZ (wd_31 hw)) (by decide) (backOf (W := 1) (rm5 l Z a0 hw [] b422 b424 .null (.int (0 : Int32)) (.int (0 : Int32)) .null (.int (0 : Int32)) wN T426.heap n0 Z427 ((F_places_b422.ext E424).keep K426q (ninS ne_b422_b424 nin0)) ((F_ordered_b422.ext E424).keep K426q (ninS ne_b422_b424 nin0)) ((F_size_b422.ext E424).keep K426q (ninS ne_b422_b424 nin0)) ((F_beans_b422.ext E424).keep K426q (ninS ne_b422_b424 nin0)) ((F_modCount_b422.ext E424).keep K426q (ninS ne_b422_b424 nin0)) ((A422.ext E424).keep K426q) g_b422 (((Old0.ext E422).ext E424).keep K426q (allS g_b424 all0)) S_NONE) hZ (wd_31 hw) (wd_2 hw) (by decide) (by decide)) (g := (mkF m 72 #[.val (.int p1), .val (.int p2), .val (.int p3), .val (.int p4), .val (.int p5), .val (.int (1 : Int32)), .val (.int v420), .val (.int (((p5.toUInt32 >>> ((3 : Int32) &&& 31).toUInt32).toInt32) &&& (3 : Int32))), .unset, .unset, .unset, .unset] [(.ref b424), (.ref b422), (.ref b422)])) rfl (by rw [hml]; rfl) (Steps.refl _) (a := b422) (argsL := [(.ref b424)]) (rest := [(.ref b422)]) (lenOf pd__Ljava_util_List__V rfl) rfl (by show 2 * 0 + _ ≤ _; exact Nat.le_of_eq rfl) (hb hby at_72) (fun _ _ => ⟨rfl, rfl, (by decide : 2 + 0 ≤ _), (by decide : 8 + 0 ≤ _)⟩)
    dsimp only [Pt.U, Pt.locs, Pt.cells, Pt.slots] at X428 l428 y428 z428 st428 hQ428
    subst l428 y428 z428
    obtain ⟨rfl, N428q, K428q, g428_0, g428_1, g428_2, g428_3⟩ := hQ428
    have N428 := Fr.app N426 N428q
    have Z429 : n0 ≤ T428.heap.size := Nat.le_trans Z427 K428q.1
    obtain ⟨cq430, kq430, q430a, q430b, q430c⟩ := isOf hZ rfl ((((A422.ext E424).keep K426q).keep K428q))
    obtain ⟨_, _, ⟨T430, L430, k430, n430⟩, -, X430, ⟨Lc430, hQ430, l430, y430, z430⟩, st430⟩ := X428.virtualBack hx (y := (⟨"com/example/kawi/kawi/OrderedNames", "append", "(I)V"⟩ : MethodName)) (z := (⟨"com/example/kawi/kawi/OrderedNames", "append", "(I)V"⟩ : MethodName)) hown (mvT hZ (wd_50 hw)) (mvT hZ (wd_51 hw)) (notFace_of_selects (args := #[]) (mvT hZ (wd_53 hw))) (mvT hZ (wd_53 hw)) (mvT hZ (wd_52 hw)) (by decide) (backOf (W := 0) (rmap01 l Z a0 hw [] b422 p1 (0 : Int32) wN kN T428.heap n0 Z429 g428_0 g428_1 g428_2 g428_3 (((A422.ext E424).keep K426q).keep K428q) g_b422 ((((V_wN.ext E422).ext E424).keep K426q (ninS ne_wN_b424 nin0)).keep K428q (ninS ne_wN_b422 nin0)) ne_wN_b422) hZ (wd_54 hw) (wd_2 hw) (by decide) (by decide)) q430a q430c (g := (mkF m 86 #[.val (.int p1), .val (.int p2), .val (.int p3), .val (.int p4), .val (.int p5), .val (.int (1 : Int32)), .val (.int v420), .val (.int (((p5.toUInt32 >>> ((3 : Int32) &&& 31).toUInt32).toInt32) &&& (3 : Int32))), .val (.ref b422), .unset, .unset, .unset] [(.int p1), (.ref b422)])) rfl (by rw [hml]; rfl) (Steps.refl _) (argsL := [(.int p1)]) (rest := []) (lenOf pd__I_V rfl) rfl (by show 2 * 0 + _ ≤ _; exact Nat.le_of_eq rfl) (hb hby at_86) (fun _ _ => ⟨rfl, rfl, (by decide : 2 + 1 ≤ _), (by decide : 8 + 1 ≤ _)⟩)
    dsimp only [Pt.U, Pt.locs, Pt.cells, Pt.slots] at X430 l430 y430 z430 st430 hQ430
    subst l430 y430 z430
    obtain ⟨b_430, kb_430, rfl, N430q, K430q, g430_0, g430_1, g430_2, g430_3, g430_4, g430_5⟩ := hQ430
    have N430 := Fr.app N428 N430q
    have Z431 : n0 ≤ T430.heap.size := Nat.le_trans Z429 K430q.1
    have ne_wN_b_430 : wN ≠ b_430 := Nat.ne_of_lt (Nat.lt_of_lt_of_le (((((V_wN.ext E422).ext E424).keep K426q (ninS ne_wN_b424 nin0)).keep K428q (ninS ne_wN_b422 nin0))).lt g430_0)
    have ne_b422_b_430 : b422 ≠ b_430 := Nat.ne_of_lt (Nat.lt_of_lt_of_le ((((A422.ext E424).keep K426q).keep K428q)).lt g430_0)
    have ne_b424_b_430 : b424 ≠ b_430 := Nat.ne_of_lt (Nat.lt_of_lt_of_le (((A424.keep K426q).keep K428q)).lt g430_0)
    have g432 : n0 ≤ b_430 := Nat.le_trans Z429 g430_0
    have pre434 : ∀ t, Steps p.tables e below (T430.setTop (mkF m 115 #[.val (.int p1), .val (.int p2), .val (.int p3), .val (.int p4), .val (.int p5), .val (.int (1 : Int32)), .val (.int v420), .val (.int (((p5.toUInt32 >>> ((3 : Int32) &&& 31).toUInt32).toInt32) &&& (3 : Int32))), .val (.ref b422), .unset, .unset, .unset] [(.int v420)])) t → Steps p.tables e below (s₁.setTop (entryFrame m #[(.int p1), (.int p2), (.int p3), (.int p4), (.int p5)] maxLocals)) t := by
      intro t kt
      refine pre421 _ ?_
      show Steps p.tables e below (s₁.setTop (mkF m 20 #[.val (.int p1), .val (.int p2), .val (.int p3), .val (.int p4), .val (.int p5), .val (.int (1 : Int32)), .unset, .unset, .unset, .unset, .unset, .unset] [(.int v420)])) _
      refine XS.istore X0.here hx rfl (hb hby at_20) rfl (l' := #[.val (.int p1), .val (.int p2), .val (.int p3), .val (.int p4), .val (.int p5), .val (.int (1 : Int32)), .val (.int v420), .unset, .unset, .unset, .unset, .unset]) rfl ?_
      refine XS.iload X0.here hx rfl (hb hby at_22) rfl ?_
      refine XS.iconst X0.here hx rfl (hb hby at_24) ?_
      refine XS.iushr X0.here hx rfl (hb hby at_25) rfl ?_
      show Steps p.tables e below (s₁.setTop (mkF m 26 #[.val (.int p1), .val (.int p2), .val (.int p3), .val (.int p4), .val (.int p5), .val (.int (1 : Int32)), .val (.int v420), .unset, .unset, .unset, .unset, .unset] [(.int ((p5.toUInt32 >>> ((3 : Int32) &&& 31).toUInt32).toInt32))])) _
      refine XS.iconst X0.here hx rfl (hb hby at_26) ?_
      refine XS.iand X0.here hx rfl (hb hby at_27) rfl ?_
      refine XS.istore X0.here hx rfl (hb hby at_28) rfl (l' := #[.val (.int p1), .val (.int p2), .val (.int p3), .val (.int p4), .val (.int p5), .val (.int (1 : Int32)), .val (.int v420), .val (.int (((p5.toUInt32 >>> ((3 : Int32) &&& 31).toUInt32).toInt32) &&& (3 : Int32))), .unset, .unset, .unset, .unset]) rfl ?_
      refine XS.iload X0.here hx rfl (hb hby at_30) rfl ?_
      show Steps p.tables e below (s₁.setTop (mkF m 32 #[.val (.int p1), .val (.int p2), .val (.int p3), .val (.int p4), .val (.int p5), .val (.int (1 : Int32)), .val (.int v420), .val (.int (((p5.toUInt32 >>> ((3 : Int32) &&& 31).toUInt32).toInt32) &&& (3 : Int32))), .unset, .unset, .unset, .unset] [(.int (1 : Int32))])) _
      refine XS.iconst X0.here hx rfl (hb hby at_32) ?_
      refine XS.icmpYes X0.here hx rfl (pc0 := 33) (pc' := 43) rfl (hb hby at_33) rfl (tlt (by decide)).1 (by decide) (by decide) ?_
      refine XS.iload X0.here hx rfl (hb hby at_43) rfl ?_
      refine XS.iconst X0.here hx rfl (hb hby at_45) ?_
      show Steps p.tables e below (s₁.setTop (mkF m 46 #[.val (.int p1), .val (.int p2), .val (.int p3), .val (.int p4), .val (.int p5), .val (.int (1 : Int32)), .val (.int v420), .val (.int (((p5.toUInt32 >>> ((3 : Int32) &&& 31).toUInt32).toInt32) &&& (3 : Int32))), .unset, .unset, .unset, .unset] [(.int (3 : Int32)), (.int (1 : Int32))])) _
      refine XS.icmpYes X0.here hx rfl (pc0 := 46) (pc' := 61) rfl (hb hby at_46) rfl (tlt (by decide)).1 (by decide) (by decide) ?_
      refine st422 _ ?_
      refine XS.dup X422.here hx rfl (hb hby at_64) rfl rfl ?_
      refine st424 _ ?_
      show Steps p.tables e below (T424.setTop (mkF m 68 #[.val (.int p1), .val (.int p2), .val (.int p3), .val (.int p4), .val (.int p5), .val (.int (1 : Int32)), .val (.int v420), .val (.int (((p5.toUInt32 >>> ((3 : Int32) &&& 31).toUInt32).toInt32) &&& (3 : Int32))), .unset, .unset, .unset, .unset] [(.ref b424), (.ref b422), (.ref b422)])) _
      refine XS.dup X424.here hx rfl (hb hby at_68) rfl rfl ?_
      refine st426.trans ?_
      refine st428.trans ?_
      refine XS.astore X428.here hx rfl (hb hby at_75) rfl rfl (l' := #[.val (.int p1), .val (.int p2), .val (.int p3), .val (.int p4), .val (.int p5), .val (.int (1 : Int32)), .val (.int v420), .val (.int (((p5.toUInt32 >>> ((3 : Int32) &&& 31).toUInt32).toInt32) &&& (3 : Int32))), .val (.ref b422), .unset, .unset, .unset]) rfl ?_
      show Steps p.tables e below (T428.setTop (mkF m 77 #[.val (.int p1), .val (.int p2), .val (.int p3), .val (.int p4), .val (.int p5), .val (.int (1 : Int32)), .val (.int v420), .val (.int (((p5.toUInt32 >>> ((3 : Int32) &&& 31).toUInt32).toInt32) &&& (3 : Int32))), .val (.ref b422), .unset, .unset, .unset] [])) _
      refine XS.iload X428.here hx rfl (hb hby at_77) rfl ?_
      refine XS.iconst X428.here hx rfl (hb hby at_79) ?_
      refine XS.icmpNo X428.here hx rfl (hb hby at_80) rfl (flt (by decide)).1 ?_
      refine XS.aload X428.here hx rfl (hb hby at_83) rfl rfl ?_
      show Steps p.tables e below (T428.setTop (mkF m 85 #[.val (.int p1), .val (.int p2), .val (.int p3), .val (.int p4), .val (.int p5), .val (.int (1 : Int32)), .val (.int v420), .val (.int (((p5.toUInt32 >>> ((3 : Int32) &&& 31).toUInt32).toInt32) &&& (3 : Int32))), .val (.ref b422), .unset, .unset, .unset] [(.ref b422)])) _
      refine XS.iloadN X428.here hx rfl (hb hby at_85) rfl ?_
      refine st430.trans ?_
      refine XS.iload X430.here hx rfl (hb hby at_89) rfl ?_
      refine XS.iconst X430.here hx rfl (hb hby at_91) ?_
      show Steps p.tables e below (T430.setTop (mkF m 92 #[.val (.int p1), .val (.int p2), .val (.int p3), .val (.int p4), .val (.int p5), .val (.int (1 : Int32)), .val (.int v420), .val (.int (((p5.toUInt32 >>> ((3 : Int32) &&& 31).toUInt32).toInt32) &&& (3 : Int32))), .val (.ref b422), .unset, .unset, .unset] [(.int (2 : Int32)), (.int (1 : Int32))])) _
      refine XS.icmpYes X430.here hx rfl (pc0 := 92) (pc' := 101) rfl (hb hby at_92) rfl (tlt (by decide)).1 (by decide) (by decide) ?_
      refine XS.iload X430.here hx rfl (hb hby at_101) rfl ?_
      refine XS.iconst X430.here hx rfl (hb hby at_103) ?_
      refine XS.icmpYes X430.here hx rfl (pc0 := 104) (pc' := 113) rfl (hb hby at_104) rfl (tlt (by decide)).1 (by decide) (by decide) ?_
      show Steps p.tables e below (T430.setTop (mkF m 113 #[.val (.int p1), .val (.int p2), .val (.int p3), .val (.int p4), .val (.int p5), .val (.int (1 : Int32)), .val (.int v420), .val (.int (((p5.toUInt32 >>> ((3 : Int32) &&& 31).toUInt32).toInt32) &&& (3 : Int32))), .val (.ref b422), .unset, .unset, .unset] [])) _
      refine XS.iload X430.here hx rfl (hb hby at_113) rfl ?_
      exact kt
    by_cases hc115_433 : v420 = (0 : Int32)
    · obtain ⟨v438, hv438⟩ : ∃ z : Int32, z = (if (((p5.toUInt32 >>> ((3 : Int32) &&& 31).toUInt32).toInt32) &&& (3 : Int32)) = (0 : Int32) then p4 else (if (((p5.toUInt32 >>> ((3 : Int32) &&& 31).toUInt32).toInt32) &&& (3 : Int32)) = (1 : Int32) then p1 else (if (((p5.toUInt32 >>> ((3 : Int32) &&& 31).toUInt32).toInt32) &&& (3 : Int32)) = (2 : Int32) then p2 else p3))) := ⟨_, rfl⟩
      have pre439 : ∀ t, Steps p.tables e below (T430.setTop (mkF m 153 #[.val (.int p1), .val (.int p2), .val (.int p3), .val (.int p4), .val (.int p5), .val (.int (1 : Int32)), .val (.int v420), .val (.int (((p5.toUInt32 >>> ((3 : Int32) &&& 31).toUInt32).toInt32) &&& (3 : Int32))), .val (.ref b422), .unset, .unset, .unset] [(.int v438)])) t → Steps p.tables e below (s₁.setTop (entryFrame m #[(.int p1), (.int p2), (.int p3), (.int p4), (.int p5)] maxLocals)) t := by
        intro t kt
        refine pre434 _ ?_
        rw [hv438] at kt
        show Steps p.tables e below (T430.setTop (mkF m 115 #[.val (.int p1), .val (.int p2), .val (.int p3), .val (.int p4), .val (.int p5), .val (.int (1 : Int32)), .val (.int v420), .val (.int (((p5.toUInt32 >>> ((3 : Int32) &&& 31).toUInt32).toInt32) &&& (3 : Int32))), .val (.ref b422), .unset, .unset, .unset] [(.int v420)])) _
        refine XS.ifYes X430.here hx rfl (pc0 := 115) (pc' := 123) rfl (hb hby at_115) rfl ((if0 _ _).trans (teq hc115_433).1) (by decide) (by decide) ?_
        refine XS.iload X430.here hx rfl (hb hby at_123) rfl ?_
        by_cases hc125_435 : (((p5.toUInt32 >>> ((3 : Int32) &&& 31).toUInt32).toInt32) &&& (3 : Int32)) = (0 : Int32)
        · try simp only [if_pos hc125_435] at kt
          refine XS.ifNo X430.here hx rfl (hb hby at_125) rfl ((if0 _ _).trans (teq hc125_435).2) ?_
          show Steps p.tables e below (T430.setTop (mkF m 128 #[.val (.int p1), .val (.int p2), .val (.int p3), .val (.int p4), .val (.int p5), .val (.int (1 : Int32)), .val (.int v420), .val (.int (((p5.toUInt32 >>> ((3 : Int32) &&& 31).toUInt32).toInt32) &&& (3 : Int32))), .val (.ref b422), .unset, .unset, .unset] [])) _
          refine XS.iloadN X430.here hx rfl (hb hby at_128) rfl ?_
          refine XS.goto X430.here hx rfl (pc0 := 129) (pc' := 153) rfl (hb hby at_129) (by decide) (by decide) ?_
          exact kt
        · try simp only [if_neg hc125_435] at kt
          refine XS.ifYes X430.here hx rfl (pc0 := 125) (pc' := 132) rfl (hb hby at_125) rfl ((if0 _ _).trans (feq hc125_435).2) (by decide) (by decide) ?_
          show Steps p.tables e below (T430.setTop (mkF m 132 #[.val (.int p1), .val (.int p2), .val (.int p3), .val (.int p4), .val (.int p5), .val (.int (1 : Int32)), .val (.int v420), .val (.int (((p5.toUInt32 >>> ((3 : Int32) &&& 31).toUInt32).toInt32) &&& (3 : Int32))), .val (.ref b422), .unset, .unset, .unset] [])) _
          refine XS.iload X430.here hx rfl (hb hby at_132) rfl ?_
          refine XS.iconst X430.here hx rfl (hb hby at_134) ?_
          by_cases hc135_436 : (((p5.toUInt32 >>> ((3 : Int32) &&& 31).toUInt32).toInt32) &&& (3 : Int32)) = (1 : Int32)
          · try simp only [if_pos hc135_436] at kt
            refine XS.icmpNo X430.here hx rfl (hb hby at_135) rfl (teq hc135_436).2 ?_
            refine XS.iloadN X430.here hx rfl (hb hby at_138) rfl ?_
            show Steps p.tables e below (T430.setTop (mkF m 139 #[.val (.int p1), .val (.int p2), .val (.int p3), .val (.int p4), .val (.int p5), .val (.int (1 : Int32)), .val (.int v420), .val (.int (((p5.toUInt32 >>> ((3 : Int32) &&& 31).toUInt32).toInt32) &&& (3 : Int32))), .val (.ref b422), .unset, .unset, .unset] [(.int p1)])) _
            refine XS.goto X430.here hx rfl (pc0 := 139) (pc' := 153) rfl (hb hby at_139) (by decide) (by decide) ?_
            exact kt
          · try simp only [if_neg hc135_436] at kt
            refine XS.icmpYes X430.here hx rfl (pc0 := 135) (pc' := 142) rfl (hb hby at_135) rfl (feq hc135_436).2 (by decide) (by decide) ?_
            refine XS.iload X430.here hx rfl (hb hby at_142) rfl ?_
            show Steps p.tables e below (T430.setTop (mkF m 144 #[.val (.int p1), .val (.int p2), .val (.int p3), .val (.int p4), .val (.int p5), .val (.int (1 : Int32)), .val (.int v420), .val (.int (((p5.toUInt32 >>> ((3 : Int32) &&& 31).toUInt32).toInt32) &&& (3 : Int32))), .val (.ref b422), .unset, .unset, .unset] [(.int (((p5.toUInt32 >>> ((3 : Int32) &&& 31).toUInt32).toInt32) &&& (3 : Int32)))])) _
            refine XS.iconst X430.here hx rfl (hb hby at_144) ?_
            by_cases hc145_437 : (((p5.toUInt32 >>> ((3 : Int32) &&& 31).toUInt32).toInt32) &&& (3 : Int32)) = (2 : Int32)
            · try simp only [if_pos hc145_437] at kt
              refine XS.icmpNo X430.here hx rfl (hb hby at_145) rfl (teq hc145_437).2 ?_
              refine XS.iloadN X430.here hx rfl (hb hby at_148) rfl ?_
              refine XS.goto X430.here hx rfl (pc0 := 149) (pc' := 153) rfl (hb hby at_149) (by decide) (by decide) ?_
              show Steps p.tables e below (T430.setTop (mkF m 153 #[.val (.int p1), .val (.int p2), .val (.int p3), .val (.int p4), .val (.int p5), .val (.int (1 : Int32)), .val (.int v420), .val (.int (((p5.toUInt32 >>> ((3 : Int32) &&& 31).toUInt32).toInt32) &&& (3 : Int32))), .val (.ref b422), .unset, .unset, .unset] [(.int p2)])) _
              exact kt
            · try simp only [if_neg hc145_437] at kt
              refine XS.icmpYes X430.here hx rfl (pc0 := 145) (pc' := 152) rfl (hb hby at_145) rfl (feq hc145_437).2 (by decide) (by decide) ?_
              refine XS.iloadN X430.here hx rfl (hb hby at_152) rfl ?_
              exact kt
      have pre441 : ∀ t, Steps p.tables e below (T430.setTop (mkF m 236 #[.val (.int p1), .val (.int p2), .val (.int p3), .val (.int p4), .val (.int p5), .val (.int (1 : Int32)), .val (.int v420), .val (.int (((p5.toUInt32 >>> ((3 : Int32) &&& 31).toUInt32).toInt32) &&& (3 : Int32))), .val (.ref b422), .val (.int v438), .unset, .val (.int p1)] [(.int v438), (.int p1)])) t → Steps p.tables e below (s₁.setTop (entryFrame m #[(.int p1), (.int p2), (.int p3), (.int p4), (.int p5)] maxLocals)) t := by
        intro t kt
        refine pre439 _ ?_
        show Steps p.tables e below (T430.setTop (mkF m 153 #[.val (.int p1), .val (.int p2), .val (.int p3), .val (.int p4), .val (.int p5), .val (.int (1 : Int32)), .val (.int v420), .val (.int (((p5.toUInt32 >>> ((3 : Int32) &&& 31).toUInt32).toInt32) &&& (3 : Int32))), .val (.ref b422), .unset, .unset, .unset] [(.int v438)])) _
        refine XS.istore X430.here hx rfl (hb hby at_153) rfl (l' := #[.val (.int p1), .val (.int p2), .val (.int p3), .val (.int p4), .val (.int p5), .val (.int (1 : Int32)), .val (.int v420), .val (.int (((p5.toUInt32 >>> ((3 : Int32) &&& 31).toUInt32).toInt32) &&& (3 : Int32))), .val (.ref b422), .val (.int v438), .unset, .unset]) rfl ?_
        refine XS.iload X430.here hx rfl (hb hby at_155) rfl ?_
        refine XS.ifYes X430.here hx rfl (pc0 := 157) (pc' := 166) rfl (hb hby at_157) rfl ((if0 _ _).trans (feq (by decide)).2) (by decide) (by decide) ?_
        refine XS.iload X430.here hx rfl (hb hby at_166) rfl ?_
        show Steps p.tables e below (T430.setTop (mkF m 168 #[.val (.int p1), .val (.int p2), .val (.int p3), .val (.int p4), .val (.int p5), .val (.int (1 : Int32)), .val (.int v420), .val (.int (((p5.toUInt32 >>> ((3 : Int32) &&& 31).toUInt32).toInt32) &&& (3 : Int32))), .val (.ref b422), .val (.int v438), .unset, .unset] [(.int v420)])) _
        refine XS.ifYes X430.here hx rfl (pc0 := 168) (pc' := 209) rfl (hb hby at_168) rfl ((if0 _ _).trans (teq hc115_433).1) (by decide) (by decide) ?_
        refine XS.iload X430.here hx rfl (hb hby at_209) rfl ?_
        refine XS.iconst X430.here hx rfl (hb hby at_211) ?_
        refine XS.icmpNo X430.here hx rfl (hb hby at_212) rfl (teq (rfl : (1 : Int32) = (1 : Int32))).2 ?_
        show Steps p.tables e below (T430.setTop (mkF m 215 #[.val (.int p1), .val (.int p2), .val (.int p3), .val (.int p4), .val (.int p5), .val (.int (1 : Int32)), .val (.int v420), .val (.int (((p5.toUInt32 >>> ((3 : Int32) &&& 31).toUInt32).toInt32) &&& (3 : Int32))), .val (.ref b422), .val (.int v438), .unset, .unset] [])) _
        refine XS.iloadN X430.here hx rfl (hb hby at_215) rfl ?_
        refine XS.goto X430.here hx rfl (pc0 := 216) (pc' := 230) rfl (hb hby at_216) (by decide) (by decide) ?_
        refine XS.istore X430.here hx rfl (hb hby at_230) rfl (l' := #[.val (.int p1), .val (.int p2), .val (.int p3), .val (.int p4), .val (.int p5), .val (.int (1 : Int32)), .val (.int v420), .val (.int (((p5.toUInt32 >>> ((3 : Int32) &&& 31).toUInt32).toInt32) &&& (3 : Int32))), .val (.ref b422), .val (.int v438), .unset, .val (.int p1)]) rfl ?_
        refine XS.iload X430.here hx rfl (hb hby at_232) rfl ?_
        show Steps p.tables e below (T430.setTop (mkF m 234 #[.val (.int p1), .val (.int p2), .val (.int p3), .val (.int p4), .val (.int p5), .val (.int (1 : Int32)), .val (.int v420), .val (.int (((p5.toUInt32 >>> ((3 : Int32) &&& 31).toUInt32).toInt32) &&& (3 : Int32))), .val (.ref b422), .val (.int v438), .unset, .val (.int p1)] [(.int p1)])) _
        refine XS.iload X430.here hx rfl (hb hby at_234) rfl ?_
        exact kt
      by_cases hc236_440 : p1 = v438
      · obtain ⟨cq442, kq442, q442a, q442b, q442c⟩ := isOf hZ rfl (((((A422.ext E424).keep K426q).keep K428q).keep K430q))
        obtain ⟨_, _, ⟨T442, L442, k442, n442⟩, -, X442, ⟨Lc442, hQ442, l442, y442, z442⟩, st442⟩ := X430.virtualBack hx (y := (⟨"com/example/kawi/kawi/OrderedNames", "endsWith", "(I)Z"⟩ : MethodName)) (z := (⟨"com/example/kawi/kawi/OrderedNames", "endsWith", "(I)Z"⟩ : MethodName)) hown (mvT hZ (wd_43 hw)) (mvT hZ (wd_44 hw)) (notFace_of_selects (args := #[]) (mvT hZ (wd_46 hw))) (mvT hZ (wd_46 hw)) (mvT hZ (wd_45 hw)) (by decide) (backOf (W := 0) (rmew1 l Z a0 hw [] b422 v438 b_430 kb_430 p1 T430.heap n0 Z431 g430_1 g430_3 g430_5) hZ (wd_47 hw) (wd_2 hw) (by decide) (by decide)) q442a q442c (g := (mkF m 250 #[.val (.int p1), .val (.int p2), .val (.int p3), .val (.int p4), .val (.int p5), .val (.int (1 : Int32)), .val (.int v420), .val (.int (((p5.toUInt32 >>> ((3 : Int32) &&& 31).toUInt32).toInt32) &&& (3 : Int32))), .val (.ref b422), .val (.int v438), .val (.int (1 : Int32)), .val (.int p1)] [(.int v438), (.ref b422)])) rfl (by rw [hml]; rfl) (Steps.refl _) (argsL := [(.int v438)]) (rest := []) (lenOf pd__I_Z rfl) rfl (by show 2 * 0 + _ ≤ _; exact Nat.le_of_eq rfl) (hb hby at_250) (fun _ _ => ⟨rfl, rfl, (by decide : 3 + 0 ≤ _), (by decide : 9 + 0 ≤ _)⟩)
        dsimp only [Pt.U, Pt.locs, Pt.cells, Pt.slots] at X442 l442 y442 z442 st442 hQ442
        subst l442 y442 z442
        obtain ⟨rfl, N442q, e442⟩ := hQ442
        have N442 := Fr.app N430 N442q
        obtain ⟨fs, hr, hrun, hended, hW, hsame⟩ := X442.leave (v := some (.int (1 : Int32))) (fun h => by rw [Bd.returns] at h; cases h)
        refine ⟨_, _, pre441 _ ?_, hrun, hended, _, _, rfl, ?_, ⟨_, rfl⟩, hW, hsame.mono (by decide) (by decide)⟩
        · show Steps p.tables e below (T430.setTop (mkF m 236 #[.val (.int p1), .val (.int p2), .val (.int p3), .val (.int p4), .val (.int p5), .val (.int (1 : Int32)), .val (.int v420), .val (.int (((p5.toUInt32 >>> ((3 : Int32) &&& 31).toUInt32).toInt32) &&& (3 : Int32))), .val (.ref b422), .val (.int v438), .unset, .val (.int p1)] [(.int v438), (.int p1)])) _
          refine XS.icmpNo X430.here hx rfl (hb hby at_236) rfl (teq hc236_440).2 ?_
          refine XS.iconst X430.here hx rfl (hb hby at_239) ?_
          refine XS.goto X430.here hx rfl (pc0 := 240) (pc' := 244) rfl (hb hby at_240) (by decide) (by decide) ?_
          show Steps p.tables e below (T430.setTop (mkF m 244 #[.val (.int p1), .val (.int p2), .val (.int p3), .val (.int p4), .val (.int p5), .val (.int (1 : Int32)), .val (.int v420), .val (.int (((p5.toUInt32 >>> ((3 : Int32) &&& 31).toUInt32).toInt32) &&& (3 : Int32))), .val (.ref b422), .val (.int v438), .unset, .val (.int p1)] [(.int (1 : Int32))])) _
          refine XS.istore X430.here hx rfl (hb hby at_244) rfl (l' := #[.val (.int p1), .val (.int p2), .val (.int p3), .val (.int p4), .val (.int p5), .val (.int (1 : Int32)), .val (.int v420), .val (.int (((p5.toUInt32 >>> ((3 : Int32) &&& 31).toUInt32).toInt32) &&& (3 : Int32))), .val (.ref b422), .val (.int v438), .val (.int (1 : Int32)), .val (.int p1)]) rfl ?_
          refine XS.aload X430.here hx rfl (hb hby at_246) rfl rfl ?_
          refine XS.iload X430.here hx rfl (hb hby at_248) rfl ?_
          refine st442.trans ?_
          show Steps p.tables e below (T442.setTop (mkF m 253 #[.val (.int p1), .val (.int p2), .val (.int p3), .val (.int p4), .val (.int p5), .val (.int (1 : Int32)), .val (.int v420), .val (.int (((p5.toUInt32 >>> ((3 : Int32) &&& 31).toUInt32).toInt32) &&& (3 : Int32))), .val (.ref b422), .val (.int v438), .val (.int (1 : Int32)), .val (.int p1)] [(.int (if p1 = v438 then (1 : Int32) else (0 : Int32)))])) _
          refine XS.iload X442.here hx rfl (hb hby at_253) rfl ?_
          refine XS.icmpNo X442.here hx rfl (hb hby at_255) rfl (teq (by simp only [if_pos hc236_440])).2 ?_
          refine XS.iconst X442.here hx rfl (hb hby at_258) ?_
          refine XS.goto X442.here hx rfl (pc0 := 259) (pc' := 263) rfl (hb hby at_259) (by decide) (by decide) ?_
          show Steps p.tables e below (T442.setTop (mkF m 263 #[.val (.int p1), .val (.int p2), .val (.int p3), .val (.int p4), .val (.int p5), .val (.int (1 : Int32)), .val (.int v420), .val (.int (((p5.toUInt32 >>> ((3 : Int32) &&& 31).toUInt32).toInt32) &&& (3 : Int32))), .val (.ref b422), .val (.int v438), .val (.int (1 : Int32)), .val (.int p1)] [(.int (1 : Int32))])) _
          exact retN X442 hx (t := .boolean) Bd.returns (by simp) (hb hby at_263) hr
        · show Q_rm0 Z p1 p2 p3 p4 p5 wD wN kN h0 n0 _ T442.heap _
          rw [e442]
          exact ⟨rfl, N442, trivial⟩
      · obtain ⟨cq443, kq443, q443a, q443b, q443c⟩ := isOf hZ rfl (((((A422.ext E424).keep K426q).keep K428q).keep K430q))
        obtain ⟨_, _, ⟨T443, L443, k443, n443⟩, -, X443, ⟨Lc443, hQ443, l443, y443, z443⟩, st443⟩ := X430.virtualBack hx (y := (⟨"com/example/kawi/kawi/OrderedNames", "endsWith", "(I)Z"⟩ : MethodName)) (z := (⟨"com/example/kawi/kawi/OrderedNames", "endsWith", "(I)Z"⟩ : MethodName)) hown (mvT hZ (wd_43 hw)) (mvT hZ (wd_44 hw)) (notFace_of_selects (args := #[]) (mvT hZ (wd_46 hw))) (mvT hZ (wd_46 hw)) (mvT hZ (wd_45 hw)) (by decide) (backOf (W := 0) (rmew1 l Z a0 hw [] b422 v438 b_430 kb_430 p1 T430.heap n0 Z431 g430_1 g430_3 g430_5) hZ (wd_47 hw) (wd_2 hw) (by decide) (by decide)) q443a q443c (g := (mkF m 250 #[.val (.int p1), .val (.int p2), .val (.int p3), .val (.int p4), .val (.int p5), .val (.int (1 : Int32)), .val (.int v420), .val (.int (((p5.toUInt32 >>> ((3 : Int32) &&& 31).toUInt32).toInt32) &&& (3 : Int32))), .val (.ref b422), .val (.int v438), .val (.int (0 : Int32)), .val (.int p1)] [(.int v438), (.ref b422)])) rfl (by rw [hml]; rfl) (Steps.refl _) (argsL := [(.int v438)]) (rest := []) (lenOf pd__I_Z rfl) rfl (by show 2 * 0 + _ ≤ _; exact Nat.le_of_eq rfl) (hb hby at_250) (fun _ _ => ⟨rfl, rfl, (by decide : 3 + 0 ≤ _), (by decide : 9 + 0 ≤ _)⟩)
        dsimp only [Pt.U, Pt.locs, Pt.cells, Pt.slots] at X443 l443 y443 z443 st443 hQ443
        subst l443 y443 z443
        obtain ⟨rfl, N443q, e443⟩ := hQ443
        have N443 := Fr.app N430 N443q
        obtain ⟨fs, hr, hrun, hended, hW, hsame⟩ := X443.leave (v := some (.int (1 : Int32))) (fun h => by rw [Bd.returns] at h; cases h)
        refine ⟨_, _, pre441 _ ?_, hrun, hended, _, _, rfl, ?_, ⟨_, rfl⟩, hW, hsame.mono (by decide) (by decide)⟩
        · show Steps p.tables e below (T430.setTop (mkF m 236 #[.val (.int p1), .val (.int p2), .val (.int p3), .val (.int p4), .val (.int p5), .val (.int (1 : Int32)), .val (.int v420), .val (.int (((p5.toUInt32 >>> ((3 : Int32) &&& 31).toUInt32).toInt32) &&& (3 : Int32))), .val (.ref b422), .val (.int v438), .unset, .val (.int p1)] [(.int v438), (.int p1)])) _
          refine XS.icmpYes X430.here hx rfl (pc0 := 236) (pc' := 243) rfl (hb hby at_236) rfl (feq hc236_440).2 (by decide) (by decide) ?_
          refine XS.iconst X430.here hx rfl (hb hby at_243) ?_
          refine XS.istore X430.here hx rfl (hb hby at_244) rfl (l' := #[.val (.int p1), .val (.int p2), .val (.int p3), .val (.int p4), .val (.int p5), .val (.int (1 : Int32)), .val (.int v420), .val (.int (((p5.toUInt32 >>> ((3 : Int32) &&& 31).toUInt32).toInt32) &&& (3 : Int32))), .val (.ref b422), .val (.int v438), .val (.int (0 : Int32)), .val (.int p1)]) rfl ?_
          show Steps p.tables e below (T430.setTop (mkF m 246 #[.val (.int p1), .val (.int p2), .val (.int p3), .val (.int p4), .val (.int p5), .val (.int (1 : Int32)), .val (.int v420), .val (.int (((p5.toUInt32 >>> ((3 : Int32) &&& 31).toUInt32).toInt32) &&& (3 : Int32))), .val (.ref b422), .val (.int v438), .val (.int (0 : Int32)), .val (.int p1)] [])) _
          refine XS.aload X430.here hx rfl (hb hby at_246) rfl rfl ?_
          refine XS.iload X430.here hx rfl (hb hby at_248) rfl ?_
          refine st443.trans ?_
          refine XS.iload X443.here hx rfl (hb hby at_253) rfl ?_
          show Steps p.tables e below (T443.setTop (mkF m 255 #[.val (.int p1), .val (.int p2), .val (.int p3), .val (.int p4), .val (.int p5), .val (.int (1 : Int32)), .val (.int v420), .val (.int (((p5.toUInt32 >>> ((3 : Int32) &&& 31).toUInt32).toInt32) &&& (3 : Int32))), .val (.ref b422), .val (.int v438), .val (.int (0 : Int32)), .val (.int p1)] [(.int (0 : Int32)), (.int (if p1 = v438 then (1 : Int32) else (0 : Int32)))])) _
          refine XS.icmpNo X443.here hx rfl (hb hby at_255) rfl (teq (by simp only [if_neg hc236_440])).2 ?_
          refine XS.iconst X443.here hx rfl (hb hby at_258) ?_
          refine XS.goto X443.here hx rfl (pc0 := 259) (pc' := 263) rfl (hb hby at_259) (by decide) (by decide) ?_
          exact retN X443 hx (t := .boolean) Bd.returns (by simp) (hb hby at_263) hr
        · show Q_rm0 Z p1 p2 p3 p4 p5 wD wN kN h0 n0 _ T443.heap _
          rw [e443]
          exact ⟨rfl, N443, trivial⟩
    · obtain ⟨cq444, kq444, q444a, q444b, q444c⟩ := isOf hZ rfl (((((A422.ext E424).keep K426q).keep K428q).keep K430q))
      obtain ⟨_, _, ⟨T444, L444, k444, n444⟩, -, X444, ⟨Lc444, hQ444, l444, y444, z444⟩, st444⟩ := X430.virtualBack hx (y := (⟨"com/example/kawi/kawi/OrderedNames", "order", "()V"⟩ : MethodName)) (z := (⟨"com/example/kawi/kawi/OrderedNames", "order", "()V"⟩ : MethodName)) hown (mvT hZ (wd_73 hw)) (mvT hZ (wd_74 hw)) (notFace_of_selects (args := #[]) (mvT hZ (wd_76 hw))) (mvT hZ (wd_76 hw)) (mvT hZ (wd_75 hw)) (by decide) (backOf (W := 0) (rmo1 l Z a0 hw [] b422 T430.heap n0 Z431 g430_2) hZ (wd_77 hw) (wd_2 hw) (by decide) (by decide)) q444a q444c (g := (mkF m 120 #[.val (.int p1), .val (.int p2), .val (.int p3), .val (.int p4), .val (.int p5), .val (.int (1 : Int32)), .val (.int v420), .val (.int (((p5.toUInt32 >>> ((3 : Int32) &&& 31).toUInt32).toInt32) &&& (3 : Int32))), .val (.ref b422), .unset, .unset, .unset] [(.ref b422)])) rfl (by rw [hml]; rfl) (Steps.refl _) (argsL := []) (rest := []) (lenOf pd___V rfl) rfl (by show 2 * 0 + _ ≤ _; exact Nat.le_of_eq rfl) (hb hby at_120) (fun _ _ => ⟨rfl, rfl, (by decide : 3 + 0 ≤ _), (by decide : 9 + 0 ≤ _)⟩)
      dsimp only [Pt.U, Pt.locs, Pt.cells, Pt.slots] at X444 l444 y444 z444 st444 hQ444
      subst l444 y444 z444
      obtain ⟨rfl, N444q, e444⟩ := hQ444
      have N444 := Fr.app N430 N444q
      obtain ⟨v448, hv448⟩ : ∃ z : Int32, z = (if (((p5.toUInt32 >>> ((3 : Int32) &&& 31).toUInt32).toInt32) &&& (3 : Int32)) = (0 : Int32) then p4 else (if (((p5.toUInt32 >>> ((3 : Int32) &&& 31).toUInt32).toInt32) &&& (3 : Int32)) = (1 : Int32) then p1 else (if (((p5.toUInt32 >>> ((3 : Int32) &&& 31).toUInt32).toInt32) &&& (3 : Int32)) = (2 : Int32) then p2 else p3))) := ⟨_, rfl⟩
      have pre449 : ∀ t, Steps p.tables e below (T444.setTop (mkF m 153 #[.val (.int p1), .val (.int p2), .val (.int p3), .val (.int p4), .val (.int p5), .val (.int (1 : Int32)), .val (.int v420), .val (.int (((p5.toUInt32 >>> ((3 : Int32) &&& 31).toUInt32).toInt32) &&& (3 : Int32))), .val (.ref b422), .unset, .unset, .unset] [(.int v448)])) t → Steps p.tables e below (s₁.setTop (entryFrame m #[(.int p1), (.int p2), (.int p3), (.int p4), (.int p5)] maxLocals)) t := by
        intro t kt
        refine pre434 _ ?_
        rw [hv448] at kt
        show Steps p.tables e below (T430.setTop (mkF m 115 #[.val (.int p1), .val (.int p2), .val (.int p3), .val (.int p4), .val (.int p5), .val (.int (1 : Int32)), .val (.int v420), .val (.int (((p5.toUInt32 >>> ((3 : Int32) &&& 31).toUInt32).toInt32) &&& (3 : Int32))), .val (.ref b422), .unset, .unset, .unset] [(.int v420)])) _
        refine XS.ifNo X430.here hx rfl (hb hby at_115) rfl ((if0 _ _).trans (feq hc115_433).1) ?_
        refine XS.aload X430.here hx rfl (hb hby at_118) rfl rfl ?_
        refine st444.trans ?_
        show Steps p.tables e below (T444.setTop (mkF m 123 #[.val (.int p1), .val (.int p2), .val (.int p3), .val (.int p4), .val (.int p5), .val (.int (1 : Int32)), .val (.int v420), .val (.int (((p5.toUInt32 >>> ((3 : Int32) &&& 31).toUInt32).toInt32) &&& (3 : Int32))), .val (.ref b422), .unset, .unset, .unset] [])) _
        refine XS.iload X444.here hx rfl (hb hby at_123) rfl ?_
        by_cases hc125_445 : (((p5.toUInt32 >>> ((3 : Int32) &&& 31).toUInt32).toInt32) &&& (3 : Int32)) = (0 : Int32)
        · try simp only [if_pos hc125_445] at kt
          refine XS.ifNo X444.here hx rfl (hb hby at_125) rfl ((if0 _ _).trans (teq hc125_445).2) ?_
          refine XS.iloadN X444.here hx rfl (hb hby at_128) rfl ?_
          refine XS.goto X444.here hx rfl (pc0 := 129) (pc' := 153) rfl (hb hby at_129) (by decide) (by decide) ?_
          show Steps p.tables e below (T444.setTop (mkF m 153 #[.val (.int p1), .val (.int p2), .val (.int p3), .val (.int p4), .val (.int p5), .val (.int (1 : Int32)), .val (.int v420), .val (.int (((p5.toUInt32 >>> ((3 : Int32) &&& 31).toUInt32).toInt32) &&& (3 : Int32))), .val (.ref b422), .unset, .unset, .unset] [(.int p4)])) _
          exact kt
        · try simp only [if_neg hc125_445] at kt
          refine XS.ifYes X444.here hx rfl (pc0 := 125) (pc' := 132) rfl (hb hby at_125) rfl ((if0 _ _).trans (feq hc125_445).2) (by decide) (by decide) ?_
          refine XS.iload X444.here hx rfl (hb hby at_132) rfl ?_
          refine XS.iconst X444.here hx rfl (hb hby at_134) ?_
          show Steps p.tables e below (T444.setTop (mkF m 135 #[.val (.int p1), .val (.int p2), .val (.int p3), .val (.int p4), .val (.int p5), .val (.int (1 : Int32)), .val (.int v420), .val (.int (((p5.toUInt32 >>> ((3 : Int32) &&& 31).toUInt32).toInt32) &&& (3 : Int32))), .val (.ref b422), .unset, .unset, .unset] [(.int (1 : Int32)), (.int (((p5.toUInt32 >>> ((3 : Int32) &&& 31).toUInt32).toInt32) &&& (3 : Int32)))])) _
          by_cases hc135_446 : (((p5.toUInt32 >>> ((3 : Int32) &&& 31).toUInt32).toInt32) &&& (3 : Int32)) = (1 : Int32)
          · try simp only [if_pos hc135_446] at kt
            refine XS.icmpNo X444.here hx rfl (hb hby at_135) rfl (teq hc135_446).2 ?_
            refine XS.iloadN X444.here hx rfl (hb hby at_138) rfl ?_
            refine XS.goto X444.here hx rfl (pc0 := 139) (pc' := 153) rfl (hb hby at_139) (by decide) (by decide) ?_
            exact kt
          · try simp only [if_neg hc135_446] at kt
            refine XS.icmpYes X444.here hx rfl (pc0 := 135) (pc' := 142) rfl (hb hby at_135) rfl (feq hc135_446).2 (by decide) (by decide) ?_
            refine XS.iload X444.here hx rfl (hb hby at_142) rfl ?_
            refine XS.iconst X444.here hx rfl (hb hby at_144) ?_
            by_cases hc145_447 : (((p5.toUInt32 >>> ((3 : Int32) &&& 31).toUInt32).toInt32) &&& (3 : Int32)) = (2 : Int32)
            · try simp only [if_pos hc145_447] at kt
              refine XS.icmpNo X444.here hx rfl (hb hby at_145) rfl (teq hc145_447).2 ?_
              show Steps p.tables e below (T444.setTop (mkF m 148 #[.val (.int p1), .val (.int p2), .val (.int p3), .val (.int p4), .val (.int p5), .val (.int (1 : Int32)), .val (.int v420), .val (.int (((p5.toUInt32 >>> ((3 : Int32) &&& 31).toUInt32).toInt32) &&& (3 : Int32))), .val (.ref b422), .unset, .unset, .unset] [])) _
              refine XS.iloadN X444.here hx rfl (hb hby at_148) rfl ?_
              refine XS.goto X444.here hx rfl (pc0 := 149) (pc' := 153) rfl (hb hby at_149) (by decide) (by decide) ?_
              exact kt
            · try simp only [if_neg hc145_447] at kt
              refine XS.icmpYes X444.here hx rfl (pc0 := 145) (pc' := 152) rfl (hb hby at_145) rfl (feq hc145_447).2 (by decide) (by decide) ?_
              show Steps p.tables e below (T444.setTop (mkF m 152 #[.val (.int p1), .val (.int p2), .val (.int p3), .val (.int p4), .val (.int p5), .val (.int (1 : Int32)), .val (.int v420), .val (.int (((p5.toUInt32 >>> ((3 : Int32) &&& 31).toUInt32).toInt32) &&& (3 : Int32))), .val (.ref b422), .unset, .unset, .unset] [])) _
              refine XS.iloadN X444.here hx rfl (hb hby at_152) rfl ?_
              exact kt
      have pre451 : ∀ t, Steps p.tables e below (T444.setTop (mkF m 236 #[.val (.int p1), .val (.int p2), .val (.int p3), .val (.int p4), .val (.int p5), .val (.int (1 : Int32)), .val (.int v420), .val (.int (((p5.toUInt32 >>> ((3 : Int32) &&& 31).toUInt32).toInt32) &&& (3 : Int32))), .val (.ref b422), .val (.int v448), .unset, .val (.int p1)] [(.int v448), (.int p1)])) t → Steps p.tables e below (s₁.setTop (entryFrame m #[(.int p1), (.int p2), (.int p3), (.int p4), (.int p5)] maxLocals)) t := by
        intro t kt
        refine pre449 _ ?_
        show Steps p.tables e below (T444.setTop (mkF m 153 #[.val (.int p1), .val (.int p2), .val (.int p3), .val (.int p4), .val (.int p5), .val (.int (1 : Int32)), .val (.int v420), .val (.int (((p5.toUInt32 >>> ((3 : Int32) &&& 31).toUInt32).toInt32) &&& (3 : Int32))), .val (.ref b422), .unset, .unset, .unset] [(.int v448)])) _
        refine XS.istore X444.here hx rfl (hb hby at_153) rfl (l' := #[.val (.int p1), .val (.int p2), .val (.int p3), .val (.int p4), .val (.int p5), .val (.int (1 : Int32)), .val (.int v420), .val (.int (((p5.toUInt32 >>> ((3 : Int32) &&& 31).toUInt32).toInt32) &&& (3 : Int32))), .val (.ref b422), .val (.int v448), .unset, .unset]) rfl ?_
        refine XS.iload X444.here hx rfl (hb hby at_155) rfl ?_
        refine XS.ifYes X444.here hx rfl (pc0 := 157) (pc' := 166) rfl (hb hby at_157) rfl ((if0 _ _).trans (feq (by decide)).2) (by decide) (by decide) ?_
        refine XS.iload X444.here hx rfl (hb hby at_166) rfl ?_
        show Steps p.tables e below (T444.setTop (mkF m 168 #[.val (.int p1), .val (.int p2), .val (.int p3), .val (.int p4), .val (.int p5), .val (.int (1 : Int32)), .val (.int v420), .val (.int (((p5.toUInt32 >>> ((3 : Int32) &&& 31).toUInt32).toInt32) &&& (3 : Int32))), .val (.ref b422), .val (.int v448), .unset, .unset] [(.int v420)])) _
        refine XS.ifNo X444.here hx rfl (hb hby at_168) rfl ((if0 _ _).trans (feq hc115_433).1) ?_
        refine XS.iload X444.here hx rfl (hb hby at_171) rfl ?_
        refine XS.iconst X444.here hx rfl (hb hby at_173) ?_
        refine XS.icmpNo X444.here hx rfl (hb hby at_174) rfl (teq (rfl : (1 : Int32) = (1 : Int32))).2 ?_
        show Steps p.tables e below (T444.setTop (mkF m 177 #[.val (.int p1), .val (.int p2), .val (.int p3), .val (.int p4), .val (.int p5), .val (.int (1 : Int32)), .val (.int v420), .val (.int (((p5.toUInt32 >>> ((3 : Int32) &&& 31).toUInt32).toInt32) &&& (3 : Int32))), .val (.ref b422), .val (.int v448), .unset, .unset] [])) _
        refine XS.iloadN X444.here hx rfl (hb hby at_177) rfl ?_
        refine XS.goto X444.here hx rfl (pc0 := 178) (pc' := 204) rfl (hb hby at_178) (by decide) (by decide) ?_
        refine XS.istore X444.here hx rfl (hb hby at_204) rfl (l' := #[.val (.int p1), .val (.int p2), .val (.int p3), .val (.int p4), .val (.int p5), .val (.int (1 : Int32)), .val (.int v420), .val (.int (((p5.toUInt32 >>> ((3 : Int32) &&& 31).toUInt32).toInt32) &&& (3 : Int32))), .val (.ref b422), .val (.int v448), .unset, .val (.int p1)]) rfl ?_
        refine XS.goto X444.here hx rfl (pc0 := 206) (pc' := 232) rfl (hb hby at_206) (by decide) (by decide) ?_
        show Steps p.tables e below (T444.setTop (mkF m 232 #[.val (.int p1), .val (.int p2), .val (.int p3), .val (.int p4), .val (.int p5), .val (.int (1 : Int32)), .val (.int v420), .val (.int (((p5.toUInt32 >>> ((3 : Int32) &&& 31).toUInt32).toInt32) &&& (3 : Int32))), .val (.ref b422), .val (.int v448), .unset, .val (.int p1)] [])) _
        refine XS.iload X444.here hx rfl (hb hby at_232) rfl ?_
        refine XS.iload X444.here hx rfl (hb hby at_234) rfl ?_
        exact kt
      by_cases hc236_450 : p1 = v448
      · obtain ⟨cq452, kq452, q452a, q452b, q452c⟩ := isOf hZ e444 (((((A422.ext E424).keep K426q).keep K428q).keep K430q))
        obtain ⟨_, _, ⟨T452, L452, k452, n452⟩, -, X452, ⟨Lc452, hQ452, l452, y452, z452⟩, st452⟩ := X444.virtualBack hx (y := (⟨"com/example/kawi/kawi/OrderedNames", "endsWith", "(I)Z"⟩ : MethodName)) (z := (⟨"com/example/kawi/kawi/OrderedNames", "endsWith", "(I)Z"⟩ : MethodName)) hown (mvT hZ (wd_43 hw)) (mvT hZ (wd_44 hw)) (notFace_of_selects (args := #[]) (mvT hZ (wd_46 hw))) (mvT hZ (wd_46 hw)) (mvT hZ (wd_45 hw)) (by decide) (backOf (W := 0) (rmew1 l Z a0 hw [] b422 v448 b_430 kb_430 p1 T430.heap n0 Z431 g430_1 g430_3 g430_5) hZ (wd_47 hw) (wd_2 hw) (by decide) (by decide)) q452a q452c (g := (mkF m 250 #[.val (.int p1), .val (.int p2), .val (.int p3), .val (.int p4), .val (.int p5), .val (.int (1 : Int32)), .val (.int v420), .val (.int (((p5.toUInt32 >>> ((3 : Int32) &&& 31).toUInt32).toInt32) &&& (3 : Int32))), .val (.ref b422), .val (.int v448), .val (.int (1 : Int32)), .val (.int p1)] [(.int v448), (.ref b422)])) rfl (by rw [hml]; rfl) (Steps.refl _) (argsL := [(.int v448)]) (rest := []) (lenOf pd__I_Z rfl) rfl (by show 2 * 0 + _ ≤ _; exact Nat.le_of_eq rfl) (hb hby at_250) (fun _ _ => ⟨rfl, e444, (by decide : 3 + 0 ≤ _), (by decide : 9 + 0 ≤ _)⟩)
        dsimp only [Pt.U, Pt.locs, Pt.cells, Pt.slots] at X452 l452 y452 z452 st452 hQ452
        subst l452 y452 z452
        obtain ⟨rfl, N452q, e452⟩ := hQ452
        have N452 := Fr.app N444 N452q
        obtain ⟨fs, hr, hrun, hended, hW, hsame⟩ := X452.leave (v := some (.int (1 : Int32))) (fun h => by rw [Bd.returns] at h; cases h)
        refine ⟨_, _, pre451 _ ?_, hrun, hended, _, _, rfl, ?_, ⟨_, rfl⟩, hW, hsame.mono (by decide) (by decide)⟩
        · show Steps p.tables e below (T444.setTop (mkF m 236 #[.val (.int p1), .val (.int p2), .val (.int p3), .val (.int p4), .val (.int p5), .val (.int (1 : Int32)), .val (.int v420), .val (.int (((p5.toUInt32 >>> ((3 : Int32) &&& 31).toUInt32).toInt32) &&& (3 : Int32))), .val (.ref b422), .val (.int v448), .unset, .val (.int p1)] [(.int v448), (.int p1)])) _
          refine XS.icmpNo X444.here hx rfl (hb hby at_236) rfl (teq hc236_450).2 ?_
          refine XS.iconst X444.here hx rfl (hb hby at_239) ?_
          show Steps p.tables e below (T444.setTop (mkF m 240 #[.val (.int p1), .val (.int p2), .val (.int p3), .val (.int p4), .val (.int p5), .val (.int (1 : Int32)), .val (.int v420), .val (.int (((p5.toUInt32 >>> ((3 : Int32) &&& 31).toUInt32).toInt32) &&& (3 : Int32))), .val (.ref b422), .val (.int v448), .unset, .val (.int p1)] [(.int (1 : Int32))])) _
          refine XS.goto X444.here hx rfl (pc0 := 240) (pc' := 244) rfl (hb hby at_240) (by decide) (by decide) ?_
          refine XS.istore X444.here hx rfl (hb hby at_244) rfl (l' := #[.val (.int p1), .val (.int p2), .val (.int p3), .val (.int p4), .val (.int p5), .val (.int (1 : Int32)), .val (.int v420), .val (.int (((p5.toUInt32 >>> ((3 : Int32) &&& 31).toUInt32).toInt32) &&& (3 : Int32))), .val (.ref b422), .val (.int v448), .val (.int (1 : Int32)), .val (.int p1)]) rfl ?_
          refine XS.aload X444.here hx rfl (hb hby at_246) rfl rfl ?_
          refine XS.iload X444.here hx rfl (hb hby at_248) rfl ?_
          show Steps p.tables e below (T444.setTop (mkF m 250 #[.val (.int p1), .val (.int p2), .val (.int p3), .val (.int p4), .val (.int p5), .val (.int (1 : Int32)), .val (.int v420), .val (.int (((p5.toUInt32 >>> ((3 : Int32) &&& 31).toUInt32).toInt32) &&& (3 : Int32))), .val (.ref b422), .val (.int v448), .val (.int (1 : Int32)), .val (.int p1)] [(.int v448), (.ref b422)])) _
          refine st452.trans ?_
          refine XS.iload X452.here hx rfl (hb hby at_253) rfl ?_
          refine XS.icmpNo X452.here hx rfl (hb hby at_255) rfl (teq (by simp only [if_pos hc236_450])).2 ?_
          refine XS.iconst X452.here hx rfl (hb hby at_258) ?_
          show Steps p.tables e below (T452.setTop (mkF m 259 #[.val (.int p1), .val (.int p2), .val (.int p3), .val (.int p4), .val (.int p5), .val (.int (1 : Int32)), .val (.int v420), .val (.int (((p5.toUInt32 >>> ((3 : Int32) &&& 31).toUInt32).toInt32) &&& (3 : Int32))), .val (.ref b422), .val (.int v448), .val (.int (1 : Int32)), .val (.int p1)] [(.int (1 : Int32))])) _
          refine XS.goto X452.here hx rfl (pc0 := 259) (pc' := 263) rfl (hb hby at_259) (by decide) (by decide) ?_
          exact retN X452 hx (t := .boolean) Bd.returns (by simp) (hb hby at_263) hr
        · show Q_rm0 Z p1 p2 p3 p4 p5 wD wN kN h0 n0 _ T452.heap _
          rw [e452]
          exact ⟨rfl, N452, trivial⟩
      · obtain ⟨cq453, kq453, q453a, q453b, q453c⟩ := isOf hZ e444 (((((A422.ext E424).keep K426q).keep K428q).keep K430q))
        obtain ⟨_, _, ⟨T453, L453, k453, n453⟩, -, X453, ⟨Lc453, hQ453, l453, y453, z453⟩, st453⟩ := X444.virtualBack hx (y := (⟨"com/example/kawi/kawi/OrderedNames", "endsWith", "(I)Z"⟩ : MethodName)) (z := (⟨"com/example/kawi/kawi/OrderedNames", "endsWith", "(I)Z"⟩ : MethodName)) hown (mvT hZ (wd_43 hw)) (mvT hZ (wd_44 hw)) (notFace_of_selects (args := #[]) (mvT hZ (wd_46 hw))) (mvT hZ (wd_46 hw)) (mvT hZ (wd_45 hw)) (by decide) (backOf (W := 0) (rmew1 l Z a0 hw [] b422 v448 b_430 kb_430 p1 T430.heap n0 Z431 g430_1 g430_3 g430_5) hZ (wd_47 hw) (wd_2 hw) (by decide) (by decide)) q453a q453c (g := (mkF m 250 #[.val (.int p1), .val (.int p2), .val (.int p3), .val (.int p4), .val (.int p5), .val (.int (1 : Int32)), .val (.int v420), .val (.int (((p5.toUInt32 >>> ((3 : Int32) &&& 31).toUInt32).toInt32) &&& (3 : Int32))), .val (.ref b422), .val (.int v448), .val (.int (0 : Int32)), .val (.int p1)] [(.int v448), (.ref b422)])) rfl (by rw [hml]; rfl) (Steps.refl _) (argsL := [(.int v448)]) (rest := []) (lenOf pd__I_Z rfl) rfl (by show 2 * 0 + _ ≤ _; exact Nat.le_of_eq rfl) (hb hby at_250) (fun _ _ => ⟨rfl, e444, (by decide : 3 + 0 ≤ _), (by decide : 9 + 0 ≤ _)⟩)
        dsimp only [Pt.U, Pt.locs, Pt.cells, Pt.slots] at X453 l453 y453 z453 st453 hQ453
        subst l453 y453 z453
        obtain ⟨rfl, N453q, e453⟩ := hQ453
        have N453 := Fr.app N444 N453q
        obtain ⟨fs, hr, hrun, hended, hW, hsame⟩ := X453.leave (v := some (.int (1 : Int32))) (fun h => by rw [Bd.returns] at h; cases h)
        refine ⟨_, _, pre451 _ ?_, hrun, hended, _, _, rfl, ?_, ⟨_, rfl⟩, hW, hsame.mono (by decide) (by decide)⟩
        · show Steps p.tables e below (T444.setTop (mkF m 236 #[.val (.int p1), .val (.int p2), .val (.int p3), .val (.int p4), .val (.int p5), .val (.int (1 : Int32)), .val (.int v420), .val (.int (((p5.toUInt32 >>> ((3 : Int32) &&& 31).toUInt32).toInt32) &&& (3 : Int32))), .val (.ref b422), .val (.int v448), .unset, .val (.int p1)] [(.int v448), (.int p1)])) _
          refine XS.icmpYes X444.here hx rfl (pc0 := 236) (pc' := 243) rfl (hb hby at_236) rfl (feq hc236_450).2 (by decide) (by decide) ?_
          refine XS.iconst X444.here hx rfl (hb hby at_243) ?_
          show Steps p.tables e below (T444.setTop (mkF m 244 #[.val (.int p1), .val (.int p2), .val (.int p3), .val (.int p4), .val (.int p5), .val (.int (1 : Int32)), .val (.int v420), .val (.int (((p5.toUInt32 >>> ((3 : Int32) &&& 31).toUInt32).toInt32) &&& (3 : Int32))), .val (.ref b422), .val (.int v448), .unset, .val (.int p1)] [(.int (0 : Int32))])) _
          refine XS.istore X444.here hx rfl (hb hby at_244) rfl (l' := #[.val (.int p1), .val (.int p2), .val (.int p3), .val (.int p4), .val (.int p5), .val (.int (1 : Int32)), .val (.int v420), .val (.int (((p5.toUInt32 >>> ((3 : Int32) &&& 31).toUInt32).toInt32) &&& (3 : Int32))), .val (.ref b422), .val (.int v448), .val (.int (0 : Int32)), .val (.int p1)]) rfl ?_
          refine XS.aload X444.here hx rfl (hb hby at_246) rfl rfl ?_
          refine XS.iload X444.here hx rfl (hb hby at_248) rfl ?_
          refine st453.trans ?_
          show Steps p.tables e below (T453.setTop (mkF m 253 #[.val (.int p1), .val (.int p2), .val (.int p3), .val (.int p4), .val (.int p5), .val (.int (1 : Int32)), .val (.int v420), .val (.int (((p5.toUInt32 >>> ((3 : Int32) &&& 31).toUInt32).toInt32) &&& (3 : Int32))), .val (.ref b422), .val (.int v448), .val (.int (0 : Int32)), .val (.int p1)] [(.int (if p1 = v448 then (1 : Int32) else (0 : Int32)))])) _
          refine XS.iload X453.here hx rfl (hb hby at_253) rfl ?_
          refine XS.icmpNo X453.here hx rfl (hb hby at_255) rfl (teq (by simp only [if_neg hc236_450])).2 ?_
          refine XS.iconst X453.here hx rfl (hb hby at_258) ?_
          refine XS.goto X453.here hx rfl (pc0 := 259) (pc' := 263) rfl (hb hby at_259) (by decide) (by decide) ?_
          show Steps p.tables e below (T453.setTop (mkF m 263 #[.val (.int p1), .val (.int p2), .val (.int p3), .val (.int p4), .val (.int p5), .val (.int (1 : Int32)), .val (.int v420), .val (.int (((p5.toUInt32 >>> ((3 : Int32) &&& 31).toUInt32).toInt32) &&& (3 : Int32))), .val (.ref b422), .val (.int v448), .val (.int (0 : Int32)), .val (.int p1)] [(.int (1 : Int32))])) _
          exact retN X453 hx (t := .boolean) Bd.returns (by simp) (hb hby at_263) hr
        · show Q_rm0 Z p1 p2 p3 p4 p5 wD wN kN h0 n0 _ T453.heap _
          rw [e453]
          exact ⟨rfl, N453, trivial⟩
  · obtain ⟨v455, hv455⟩ : ∃ z : Int32, z = (if (((p5.toUInt32 >>> ((2 : Int32) &&& 31).toUInt32).toInt32) &&& (1 : Int32)) = (0 : Int32) then (0 : Int32) else (1 : Int32)) := ⟨_, rfl⟩
    have pre456 : ∀ t, Steps p.tables e below (s₁.setTop (mkF m 20 #[.val (.int p1), .val (.int p2), .val (.int p3), .val (.int p4), .val (.int p5), .val (.int (2 : Int32)), .unset, .unset, .unset, .unset, .unset, .unset] [(.int v455)])) t → Steps p.tables e below (s₁.setTop (entryFrame m #[(.int p1), (.int p2), (.int p3), (.int p4), (.int p5)] maxLocals)) t := by
      intro t kt
      refine pre392 _ ?_
      rw [hv455] at kt
      show Steps p.tables e below (s₁.setTop (mkF m 6 #[.val (.int p1), .val (.int p2), .val (.int p3), .val (.int p4), .val (.int p5), .val (.int (2 : Int32)), .unset, .unset, .unset, .unset, .unset, .unset] [])) _
      refine XS.iload X0.here hx rfl (hb hby at_6) rfl ?_
      refine XS.iconst X0.here hx rfl (hb hby at_8) ?_
      refine XS.iushr X0.here hx rfl (hb hby at_9) rfl ?_
      refine XS.iconst X0.here hx rfl (hb hby at_10) ?_
      show Steps p.tables e below (s₁.setTop (mkF m 11 #[.val (.int p1), .val (.int p2), .val (.int p3), .val (.int p4), .val (.int p5), .val (.int (2 : Int32)), .unset, .unset, .unset, .unset, .unset, .unset] [(.int (1 : Int32)), (.int ((p5.toUInt32 >>> ((2 : Int32) &&& 31).toUInt32).toInt32))])) _
      refine XS.iand X0.here hx rfl (hb hby at_11) rfl ?_
      by_cases hc12_454 : (((p5.toUInt32 >>> ((2 : Int32) &&& 31).toUInt32).toInt32) &&& (1 : Int32)) = (0 : Int32)
      · try simp only [if_pos hc12_454] at kt
        refine XS.ifYes X0.here hx rfl (pc0 := 12) (pc' := 19) rfl (hb hby at_12) rfl ((if0 _ _).trans (teq hc12_454).1) (by decide) (by decide) ?_
        refine XS.iconst X0.here hx rfl (hb hby at_19) ?_
        exact kt
      · try simp only [if_neg hc12_454] at kt
        refine XS.ifNo X0.here hx rfl (hb hby at_12) rfl ((if0 _ _).trans (feq hc12_454).1) ?_
        refine XS.iconst X0.here hx rfl (hb hby at_15) ?_
        refine XS.goto X0.here hx rfl (pc0 := 16) (pc' := 20) rfl (hb hby at_16) (by decide) (by decide) ?_
        show Steps p.tables e below (s₁.setTop (mkF m 20 #[.val (.int p1), .val (.int p2), .val (.int p3), .val (.int p4), .val (.int p5), .val (.int (2 : Int32)), .unset, .unset, .unset, .unset, .unset, .unset] [(.int (1 : Int32))])) _
        exact kt
    have pre458 : ∀ t, Steps p.tables e below (s₁.setTop (mkF m 38 #[.val (.int p1), .val (.int p2), .val (.int p3), .val (.int p4), .val (.int p5), .val (.int (2 : Int32)), .val (.int v455), .val (.int (((p5.toUInt32 >>> ((3 : Int32) &&& 31).toUInt32).toInt32) &&& (3 : Int32))), .unset, .unset, .unset, .unset] [(.int p2), (.int p1)])) t → Steps p.tables e below (s₁.setTop (entryFrame m #[(.int p1), (.int p2), (.int p3), (.int p4), (.int p5)] maxLocals)) t := by
      intro t kt
      refine pre456 _ ?_
      show Steps p.tables e below (s₁.setTop (mkF m 20 #[.val (.int p1), .val (.int p2), .val (.int p3), .val (.int p4), .val (.int p5), .val (.int (2 : Int32)), .unset, .unset, .unset, .unset, .unset, .unset] [(.int v455)])) _
      refine XS.istore X0.here hx rfl (hb hby at_20) rfl (l' := #[.val (.int p1), .val (.int p2), .val (.int p3), .val (.int p4), .val (.int p5), .val (.int (2 : Int32)), .val (.int v455), .unset, .unset, .unset, .unset, .unset]) rfl ?_
      refine XS.iload X0.here hx rfl (hb hby at_22) rfl ?_
      refine XS.iconst X0.here hx rfl (hb hby at_24) ?_
      refine XS.iushr X0.here hx rfl (hb hby at_25) rfl ?_
      show Steps p.tables e below (s₁.setTop (mkF m 26 #[.val (.int p1), .val (.int p2), .val (.int p3), .val (.int p4), .val (.int p5), .val (.int (2 : Int32)), .val (.int v455), .unset, .unset, .unset, .unset, .unset] [(.int ((p5.toUInt32 >>> ((3 : Int32) &&& 31).toUInt32).toInt32))])) _
      refine XS.iconst X0.here hx rfl (hb hby at_26) ?_
      refine XS.iand X0.here hx rfl (hb hby at_27) rfl ?_
      refine XS.istore X0.here hx rfl (hb hby at_28) rfl (l' := #[.val (.int p1), .val (.int p2), .val (.int p3), .val (.int p4), .val (.int p5), .val (.int (2 : Int32)), .val (.int v455), .val (.int (((p5.toUInt32 >>> ((3 : Int32) &&& 31).toUInt32).toInt32) &&& (3 : Int32))), .unset, .unset, .unset, .unset]) rfl ?_
      refine XS.iload X0.here hx rfl (hb hby at_30) rfl ?_
      show Steps p.tables e below (s₁.setTop (mkF m 32 #[.val (.int p1), .val (.int p2), .val (.int p3), .val (.int p4), .val (.int p5), .val (.int (2 : Int32)), .val (.int v455), .val (.int (((p5.toUInt32 >>> ((3 : Int32) &&& 31).toUInt32).toInt32) &&& (3 : Int32))), .unset, .unset, .unset, .unset] [(.int (2 : Int32))])) _
      refine XS.iconst X0.here hx rfl (hb hby at_32) ?_
      refine XS.icmpNo X0.here hx rfl (hb hby at_33) rfl (flt (by decide)).1 ?_
      refine XS.iloadN X0.here hx rfl (hb hby at_36) rfl ?_
      refine XS.iloadN X0.here hx rfl (hb hby at_37) rfl ?_
      show Steps p.tables e below (s₁.setTop (mkF m 38 #[.val (.int p1), .val (.int p2), .val (.int p3), .val (.int p4), .val (.int p5), .val (.int (2 : Int32)), .val (.int v455), .val (.int (((p5.toUInt32 >>> ((3 : Int32) &&& 31).toUInt32).toInt32) &&& (3 : Int32))), .unset, .unset, .unset, .unset] [(.int p2), (.int p1)])) _
      exact kt
    by_cases hc38_457 : p1 = p2
    · obtain ⟨fs, hr, hrun, hended, hW, hsame⟩ := X0.leave (v := some (.int (1 : Int32))) (fun h => by rw [Bd.returns] at h; cases h)
      refine ⟨_, _, pre458 _ ?_, hrun, hended, _, _, rfl, ?_, ⟨_, rfl⟩, hW, hsame.mono (by decide) (by decide)⟩
      · show Steps p.tables e below (s₁.setTop (mkF m 38 #[.val (.int p1), .val (.int p2), .val (.int p3), .val (.int p4), .val (.int p5), .val (.int (2 : Int32)), .val (.int v455), .val (.int (((p5.toUInt32 >>> ((3 : Int32) &&& 31).toUInt32).toInt32) &&& (3 : Int32))), .unset, .unset, .unset, .unset] [(.int p2), (.int p1)])) _
        refine XS.icmpNo X0.here hx rfl (hb hby at_38) rfl (teq hc38_457).2 ?_
        refine XS.iconst X0.here hx rfl (hb hby at_41) ?_
        exact retN X0 hx (t := .boolean) Bd.returns (by simp) (hb hby at_42) hr
      · show Q_rm0 Z p1 p2 p3 p4 p5 wD wN kN h0 n0 _ s₁.heap _
        rw [e0]
        exact ⟨rfl, N0, trivial⟩
    · obtain ⟨T459, h459, X459, e459, E459, A459, D459, -, st459⟩ := newO X0 hx hZ hown (wd_0 hw) (wd_1 hw) (wd_2 hw) e0 (g := (mkF m 61 #[.val (.int p1), .val (.int p2), .val (.int p3), .val (.int p4), .val (.int p5), .val (.int (2 : Int32)), .val (.int v455), .val (.int (((p5.toUInt32 >>> ((3 : Int32) &&& 31).toUInt32).toInt32) &&& (3 : Int32))), .unset, .unset, .unset, .unset] [])) rfl (hb hby at_61) (by decide) (by decide)
      obtain ⟨b459, g459⟩ : ∃ z, z = h0.size := ⟨_, rfl⟩
      rw [← g459] at A459 D459 st459
      have g_b459 : n0 ≤ b459 := Nat.le_trans Z0 (Nat.le_of_eq g459.symm)
      have ne_wN_b459 : wN ≠ b459 := Nat.ne_of_lt (Nat.lt_of_lt_of_le (V_wN).lt (Nat.le_of_eq g459.symm))
      have Z460 : n0 ≤ h459.size := Nat.le_trans Z0 E459.1
      have F_modCount_b459 : Fld Z h459 b459 "java/util/AbstractList" "modCount" "I" (.int (0 : Int32)) := D459 (Or.inl (wd_34 hw)) (ty := .int) (by decide)
      have F_places_b459 : Fld Z h459 b459 "com/example/kawi/kawi/OrderedNames" "places" "[I" .null := D459 (Or.inl (wd_38 hw)) (ty := (.array .int)) (by decide)
      have F_ordered_b459 : Fld Z h459 b459 "com/example/kawi/kawi/OrderedNames" "ordered" "Z" (.int (0 : Int32)) := D459 (Or.inl (wd_40 hw)) (ty := .boolean) (by decide)
      have F_beans_b459 : Fld Z h459 b459 "com/example/kawi/kawi/OrderedNames" "beans" "Ljava/util/List;" .null := D459 (Or.inr (wd_42 hw)) (ty := (.object "java/util/List")) (by decide)
      have F_size_b459 : Fld Z h459 b459 "com/example/kawi/kawi/OrderedNames" "size" "I" (.int (0 : Int32)) := D459 (Or.inl (wd_49 hw)) (ty := .int) (by decide)
      obtain ⟨T461, h461, X461, e461, E461, A461, D461, -, st461⟩ := newO X459 hx hZ hown (wd_3 hw) (wd_4 hw) (wd_5 hw) e459 (g := (mkF m 65 #[.val (.int p1), .val (.int p2), .val (.int p3), .val (.int p4), .val (.int p5), .val (.int (2 : Int32)), .val (.int v455), .val (.int (((p5.toUInt32 >>> ((3 : Int32) &&& 31).toUInt32).toInt32) &&& (3 : Int32))), .unset, .unset, .unset, .unset] [(.ref b459), (.ref b459)])) rfl (hb hby at_65) (by decide) (by decide)
      obtain ⟨b461, g461⟩ : ∃ z, z = h459.size := ⟨_, rfl⟩
      rw [← g461] at A461 D461 st461
      have g_b461 : n0 ≤ b461 := Nat.le_trans Z460 (Nat.le_of_eq g461.symm)
      have ne_wN_b461 : wN ≠ b461 := Nat.ne_of_lt (Nat.lt_of_lt_of_le ((V_wN.ext E459)).lt (Nat.le_of_eq g461.symm))
      have ne_b459_b461 : b459 ≠ b461 := Nat.ne_of_lt (Nat.lt_of_lt_of_le (A459).lt (Nat.le_of_eq g461.symm))
      have Z462 : n0 ≤ h461.size := Nat.le_trans Z460 E461.1
      have F_modCount_b461 : Fld Z h461 b461 "java/util/AbstractList" "modCount" "I" (.int (0 : Int32)) := D461 (Or.inl (wd_25 hw)) (ty := .int) (by decide)
      have F_elementData_b461 : Fld Z h461 b461 "java/util/ArrayList" "elementData" "[Ljava/lang/Object;" .null := D461 (Or.inl (wd_28 hw)) (ty := (.array (.object "java/lang/Object"))) (by decide)
      obtain ⟨_, _, ⟨T463, L463, k463, n463⟩, -, X463, ⟨Lc463, hQ463, l463, y463, z463⟩, st463⟩ := X461.specialBack hx (y := (⟨"java/util/ArrayList", "<init>", "()V"⟩ : MethodName)) rfl hown (mvT hZ (wd_6 hw)) (mvT hZ (wd_7 hw)) (mvT hZ (wd_8 hw)) (by decide) (backOf (W := 3) (rm1 l Z a0 hw [] b461 .null (.int (0 : Int32)) wD h461 n0 Z462 F_elementData_b461 F_modCount_b461 A461 g_b461 ((Old0.ext E459).ext E461) S_DEFAULTCAPACITY_EMPTY_ELEMENTDATA) hZ (wd_8 hw) (wd_5 hw) (by decide) (by decide)) (g := (mkF m 69 #[.val (.int p1), .val (.int p2), .val (.int p3), .val (.int p4), .val (.int p5), .val (.int (2 : Int32)), .val (.int v455), .val (.int (((p5.toUInt32 >>> ((3 : Int32) &&& 31).toUInt32).toInt32) &&& (3 : Int32))), .unset, .unset, .unset, .unset] [(.ref b461), (.ref b461), (.ref b459), (.ref b459)])) rfl (by rw [hml]; rfl) (Steps.refl _) (a := b461) (argsL := []) (rest := [(.ref b461), (.ref b459), (.ref b459)]) (lenOf pd___V rfl) rfl (by show 2 * 0 + _ ≤ _; exact Nat.le_of_eq rfl) (hb hby at_69) (fun _ _ => ⟨rfl, e461, (by decide : 2 + 0 ≤ _), (by decide : 8 + 0 ≤ _)⟩)
      dsimp only [Pt.U, Pt.locs, Pt.cells, Pt.slots] at X463 l463 y463 z463 st463 hQ463
      subst l463 y463 z463
      obtain ⟨rfl, N463q, K463q⟩ := hQ463
      have N463 := Fr.app N0 N463q
      have Z464 : n0 ≤ T463.heap.size := Nat.le_trans Z462 K463q.1
      obtain ⟨_, _, ⟨T465, L465, k465, n465⟩, -, X465, ⟨Lc465, hQ465, l465, y465, z465⟩, st465⟩ := X463.specialBack hx (y := (⟨"com/example/kawi/kawi/OrderedNames", "<init>", "(Ljava/util/List;)V"⟩ : MethodName)) rfl hown (mvT hZ (wd_29 hw)) (mvT hZ (wd_30 hw)) (mvT hZ (wd_31 hw)) (by decide) (backOf (W := 1) (rm5 l Z a0 hw [] b459 b461 .null (.int (0 : Int32)) (.int (0 : Int32)) .null (.int (0 : Int32)) wN T463.heap n0 Z464 ((F_places_b459.ext E461).keep K463q (ninS ne_b459_b461 nin0)) ((F_ordered_b459.ext E461).keep K463q (ninS ne_b459_b461 nin0)) ((F_size_b459.ext E461).keep K463q (ninS ne_b459_b461 nin0)) ((F_beans_b459.ext E461).keep K463q (ninS ne_b459_b461 nin0)) ((F_modCount_b459.ext E461).keep K463q (ninS ne_b459_b461 nin0)) ((A459.ext E461).keep K463q) g_b459 (((Old0.ext E459).ext E461).keep K463q (allS g_b461 all0)) S_NONE) hZ (wd_31 hw) (wd_2 hw) (by decide) (by decide)) (g := (mkF m 72 #[.val (.int p1), .val (.int p2), .val (.int p3), .val (.int p4), .val (.int p5), .val (.int (2 : Int32)), .val (.int v455), .val (.int (((p5.toUInt32 >>> ((3 : Int32) &&& 31).toUInt32).toInt32) &&& (3 : Int32))), .unset, .unset, .unset, .unset] [(.ref b461), (.ref b459), (.ref b459)])) rfl (by rw [hml]; rfl) (Steps.refl _) (a := b459) (argsL := [(.ref b461)]) (rest := [(.ref b459)]) (lenOf pd__Ljava_util_List__V rfl) rfl (by show 2 * 0 + _ ≤ _; exact Nat.le_of_eq rfl) (hb hby at_72) (fun _ _ => ⟨rfl, rfl, (by decide : 2 + 0 ≤ _), (by decide : 8 + 0 ≤ _)⟩)
      dsimp only [Pt.U, Pt.locs, Pt.cells, Pt.slots] at X465 l465 y465 z465 st465 hQ465
      subst l465 y465 z465
      obtain ⟨rfl, N465q, K465q, g465_0, g465_1, g465_2, g465_3⟩ := hQ465
      have N465 := Fr.app N463 N465q
      have Z466 : n0 ≤ T465.heap.size := Nat.le_trans Z464 K465q.1
      obtain ⟨cq467, kq467, q467a, q467b, q467c⟩ := isOf hZ rfl ((((A459.ext E461).keep K463q).keep K465q))
      obtain ⟨_, _, ⟨T467, L467, k467, n467⟩, -, X467, ⟨Lc467, hQ467, l467, y467, z467⟩, st467⟩ := X465.virtualBack hx (y := (⟨"com/example/kawi/kawi/OrderedNames", "append", "(I)V"⟩ : MethodName)) (z := (⟨"com/example/kawi/kawi/OrderedNames", "append", "(I)V"⟩ : MethodName)) hown (mvT hZ (wd_50 hw)) (mvT hZ (wd_51 hw)) (notFace_of_selects (args := #[]) (mvT hZ (wd_53 hw))) (mvT hZ (wd_53 hw)) (mvT hZ (wd_52 hw)) (by decide) (backOf (W := 0) (rmap01 l Z a0 hw [] b459 p1 (0 : Int32) wN kN T465.heap n0 Z466 g465_0 g465_1 g465_2 g465_3 (((A459.ext E461).keep K463q).keep K465q) g_b459 ((((V_wN.ext E459).ext E461).keep K463q (ninS ne_wN_b461 nin0)).keep K465q (ninS ne_wN_b459 nin0)) ne_wN_b459) hZ (wd_54 hw) (wd_2 hw) (by decide) (by decide)) q467a q467c (g := (mkF m 86 #[.val (.int p1), .val (.int p2), .val (.int p3), .val (.int p4), .val (.int p5), .val (.int (2 : Int32)), .val (.int v455), .val (.int (((p5.toUInt32 >>> ((3 : Int32) &&& 31).toUInt32).toInt32) &&& (3 : Int32))), .val (.ref b459), .unset, .unset, .unset] [(.int p1), (.ref b459)])) rfl (by rw [hml]; rfl) (Steps.refl _) (argsL := [(.int p1)]) (rest := []) (lenOf pd__I_V rfl) rfl (by show 2 * 0 + _ ≤ _; exact Nat.le_of_eq rfl) (hb hby at_86) (fun _ _ => ⟨rfl, rfl, (by decide : 2 + 1 ≤ _), (by decide : 8 + 1 ≤ _)⟩)
      dsimp only [Pt.U, Pt.locs, Pt.cells, Pt.slots] at X467 l467 y467 z467 st467 hQ467
      subst l467 y467 z467
      obtain ⟨b_467, kb_467, rfl, N467q, K467q, g467_0, g467_1, g467_2, g467_3, g467_4, g467_5⟩ := hQ467
      have N467 := Fr.app N465 N467q
      have Z468 : n0 ≤ T467.heap.size := Nat.le_trans Z466 K467q.1
      have ne_wN_b_467 : wN ≠ b_467 := Nat.ne_of_lt (Nat.lt_of_lt_of_le (((((V_wN.ext E459).ext E461).keep K463q (ninS ne_wN_b461 nin0)).keep K465q (ninS ne_wN_b459 nin0))).lt g467_0)
      have ne_b459_b_467 : b459 ≠ b_467 := Nat.ne_of_lt (Nat.lt_of_lt_of_le ((((A459.ext E461).keep K463q).keep K465q)).lt g467_0)
      have ne_b461_b_467 : b461 ≠ b_467 := Nat.ne_of_lt (Nat.lt_of_lt_of_le (((A461.keep K463q).keep K465q)).lt g467_0)
      have g469 : n0 ≤ b_467 := Nat.le_trans Z466 g467_0
      have pre471 : ∀ t, Steps p.tables e below (T467.setTop (mkF m 98 #[.val (.int p1), .val (.int p2), .val (.int p3), .val (.int p4), .val (.int p5), .val (.int (2 : Int32)), .val (.int v455), .val (.int (((p5.toUInt32 >>> ((3 : Int32) &&& 31).toUInt32).toInt32) &&& (3 : Int32))), .val (.ref b459), .unset, .unset, .unset] [(.int p2), (.ref b459)])) t → Steps p.tables e below (s₁.setTop (entryFrame m #[(.int p1), (.int p2), (.int p3), (.int p4), (.int p5)] maxLocals)) t := by
        intro t kt
        refine pre458 _ ?_
        show Steps p.tables e below (s₁.setTop (mkF m 38 #[.val (.int p1), .val (.int p2), .val (.int p3), .val (.int p4), .val (.int p5), .val (.int (2 : Int32)), .val (.int v455), .val (.int (((p5.toUInt32 >>> ((3 : Int32) &&& 31).toUInt32).toInt32) &&& (3 : Int32))), .unset, .unset, .unset, .unset] [(.int p2), (.int p1)])) _
        refine XS.icmpYes X0.here hx rfl (pc0 := 38) (pc' := 43) rfl (hb hby at_38) rfl (feq hc38_457).2 (by decide) (by decide) ?_
        refine XS.iload X0.here hx rfl (hb hby at_43) rfl ?_
        refine XS.iconst X0.here hx rfl (hb hby at_45) ?_
        refine XS.icmpYes X0.here hx rfl (pc0 := 46) (pc' := 61) rfl (hb hby at_46) rfl (tlt (by decide)).1 (by decide) (by decide) ?_
        show Steps p.tables e below (s₁.setTop (mkF m 61 #[.val (.int p1), .val (.int p2), .val (.int p3), .val (.int p4), .val (.int p5), .val (.int (2 : Int32)), .val (.int v455), .val (.int (((p5.toUInt32 >>> ((3 : Int32) &&& 31).toUInt32).toInt32) &&& (3 : Int32))), .unset, .unset, .unset, .unset] [])) _
        refine st459 _ ?_
        refine XS.dup X459.here hx rfl (hb hby at_64) rfl rfl ?_
        refine st461 _ ?_
        refine XS.dup X461.here hx rfl (hb hby at_68) rfl rfl ?_
        show Steps p.tables e below (T461.setTop (mkF m 69 #[.val (.int p1), .val (.int p2), .val (.int p3), .val (.int p4), .val (.int p5), .val (.int (2 : Int32)), .val (.int v455), .val (.int (((p5.toUInt32 >>> ((3 : Int32) &&& 31).toUInt32).toInt32) &&& (3 : Int32))), .unset, .unset, .unset, .unset] [(.ref b461), (.ref b461), (.ref b459), (.ref b459)])) _
        refine st463.trans ?_
        refine st465.trans ?_
        refine XS.astore X465.here hx rfl (hb hby at_75) rfl rfl (l' := #[.val (.int p1), .val (.int p2), .val (.int p3), .val (.int p4), .val (.int p5), .val (.int (2 : Int32)), .val (.int v455), .val (.int (((p5.toUInt32 >>> ((3 : Int32) &&& 31).toUInt32).toInt32) &&& (3 : Int32))), .val (.ref b459), .unset, .unset, .unset]) rfl ?_
        refine XS.iload X465.here hx rfl (hb hby at_77) rfl ?_
        show Steps p.tables e below (T465.setTop (mkF m 79 #[.val (.int p1), .val (.int p2), .val (.int p3), .val (.int p4), .val (.int p5), .val (.int (2 : Int32)), .val (.int v455), .val (.int (((p5.toUInt32 >>> ((3 : Int32) &&& 31).toUInt32).toInt32) &&& (3 : Int32))), .val (.ref b459), .unset, .unset, .unset] [(.int (2 : Int32))])) _
        refine XS.iconst X465.here hx rfl (hb hby at_79) ?_
        refine XS.icmpNo X465.here hx rfl (hb hby at_80) rfl (flt (by decide)).1 ?_
        refine XS.aload X465.here hx rfl (hb hby at_83) rfl rfl ?_
        refine XS.iloadN X465.here hx rfl (hb hby at_85) rfl ?_
        show Steps p.tables e below (T465.setTop (mkF m 86 #[.val (.int p1), .val (.int p2), .val (.int p3), .val (.int p4), .val (.int p5), .val (.int (2 : Int32)), .val (.int v455), .val (.int (((p5.toUInt32 >>> ((3 : Int32) &&& 31).toUInt32).toInt32) &&& (3 : Int32))), .val (.ref b459), .unset, .unset, .unset] [(.int p1), (.ref b459)])) _
        refine st467.trans ?_
        refine XS.iload X467.here hx rfl (hb hby at_89) rfl ?_
        refine XS.iconst X467.here hx rfl (hb hby at_91) ?_
        refine XS.icmpNo X467.here hx rfl (hb hby at_92) rfl (flt (by decide)).1 ?_
        show Steps p.tables e below (T467.setTop (mkF m 95 #[.val (.int p1), .val (.int p2), .val (.int p3), .val (.int p4), .val (.int p5), .val (.int (2 : Int32)), .val (.int v455), .val (.int (((p5.toUInt32 >>> ((3 : Int32) &&& 31).toUInt32).toInt32) &&& (3 : Int32))), .val (.ref b459), .unset, .unset, .unset] [])) _
        refine XS.aload X467.here hx rfl (hb hby at_95) rfl rfl ?_
        refine XS.iloadN X467.here hx rfl (hb hby at_97) rfl ?_
        exact kt
      by_cases hc98_470 : p2 < p1
      · obtain ⟨cq472, kq472, q472a, q472b, q472c⟩ := isOf hZ rfl (((((A459.ext E461).keep K463q).keep K465q).keep K467q))
        obtain ⟨_, _, ⟨T472, L472, k472, n472⟩, -, X472, ⟨Lc472, hQ472, l472, y472, z472⟩, st472⟩ := X467.virtualBack hx (y := (⟨"com/example/kawi/kawi/OrderedNames", "append", "(I)V"⟩ : MethodName)) (z := (⟨"com/example/kawi/kawi/OrderedNames", "append", "(I)V"⟩ : MethodName)) hown (mvT hZ (wd_50 hw)) (mvT hZ (wd_51 hw)) (notFace_of_selects (args := #[]) (mvT hZ (wd_53 hw))) (mvT hZ (wd_53 hw)) (mvT hZ (wd_52 hw)) (by decide) (backOf (W := 0) (rmap11t l Z a0 hw [] b459 p2 ((0 : Int32) + (1 : Int32)) b_467 kb_467 p1 T467.heap n0 Z468 g467_1 g467_2 g467_3 g467_4 ((((A459.ext E461).keep K463q).keep K465q).keep K467q) g_b459 g467_5 (Ne.symm ne_b459_b_467) hc98_470) hZ (wd_54 hw) (wd_2 hw) (by decide) (by decide)) q472a q472c (g := (mkF m 98 #[.val (.int p1), .val (.int p2), .val (.int p3), .val (.int p4), .val (.int p5), .val (.int (2 : Int32)), .val (.int v455), .val (.int (((p5.toUInt32 >>> ((3 : Int32) &&& 31).toUInt32).toInt32) &&& (3 : Int32))), .val (.ref b459), .unset, .unset, .unset] [(.int p2), (.ref b459)])) rfl (by rw [hml]; rfl) (Steps.refl _) (argsL := [(.int p2)]) (rest := []) (lenOf pd__I_V rfl) rfl (by show 2 * 0 + _ ≤ _; exact Nat.le_of_eq rfl) (hb hby at_98) (fun _ _ => ⟨rfl, rfl, (by decide : 3 + 1 ≤ _), (by decide : 9 + 2 ≤ _)⟩)
        dsimp only [Pt.U, Pt.locs, Pt.cells, Pt.slots] at X472 l472 y472 z472 st472 hQ472
        subst l472 y472 z472
        obtain ⟨b_472, kb_472, rfl, N472q, K472q, g472_0, g472_1, g472_2, g472_3, g472_4, g472_5⟩ := hQ472
        have N472 := Fr.app N467 N472q
        have Z473 : n0 ≤ T472.heap.size := Nat.le_trans Z468 K472q.1
        have ne_wN_b_472 : wN ≠ b_472 := Nat.ne_of_lt (Nat.lt_of_lt_of_le ((((((V_wN.ext E459).ext E461).keep K463q (ninS ne_wN_b461 nin0)).keep K465q (ninS ne_wN_b459 nin0)).keep K467q (ninS ne_wN_b459 nin0))).lt g472_0)
        have ne_b459_b_472 : b459 ≠ b_472 := Nat.ne_of_lt (Nat.lt_of_lt_of_le (((((A459.ext E461).keep K463q).keep K465q).keep K467q)).lt g472_0)
        have ne_b461_b_472 : b461 ≠ b_472 := Nat.ne_of_lt (Nat.lt_of_lt_of_le ((((A461.keep K463q).keep K465q).keep K467q)).lt g472_0)
        have ne_b_467_b_472 : b_467 ≠ b_472 := Nat.ne_of_lt (Nat.lt_of_lt_of_le (g467_5).lt g472_0)
        have g474 : n0 ≤ b_472 := Nat.le_trans Z468 g472_0
        have pre476 : ∀ t, Steps p.tables e below (T472.setTop (mkF m 115 #[.val (.int p1), .val (.int p2), .val (.int p3), .val (.int p4), .val (.int p5), .val (.int (2 : Int32)), .val (.int v455), .val (.int (((p5.toUInt32 >>> ((3 : Int32) &&& 31).toUInt32).toInt32) &&& (3 : Int32))), .val (.ref b459), .unset, .unset, .unset] [(.int v455)])) t → Steps p.tables e below (s₁.setTop (entryFrame m #[(.int p1), (.int p2), (.int p3), (.int p4), (.int p5)] maxLocals)) t := by
          intro t kt
          refine pre471 _ ?_
          show Steps p.tables e below (T467.setTop (mkF m 98 #[.val (.int p1), .val (.int p2), .val (.int p3), .val (.int p4), .val (.int p5), .val (.int (2 : Int32)), .val (.int v455), .val (.int (((p5.toUInt32 >>> ((3 : Int32) &&& 31).toUInt32).toInt32) &&& (3 : Int32))), .val (.ref b459), .unset, .unset, .unset] [(.int p2), (.ref b459)])) _
          refine st472.trans ?_
          refine XS.iload X472.here hx rfl (hb hby at_101) rfl ?_
          show Steps p.tables e below (T472.setTop (mkF m 103 #[.val (.int p1), .val (.int p2), .val (.int p3), .val (.int p4), .val (.int p5), .val (.int (2 : Int32)), .val (.int v455), .val (.int (((p5.toUInt32 >>> ((3 : Int32) &&& 31).toUInt32).toInt32) &&& (3 : Int32))), .val (.ref b459), .unset, .unset, .unset] [(.int (2 : Int32))])) _
          refine XS.iconst X472.here hx rfl (hb hby at_103) ?_
          refine XS.icmpYes X472.here hx rfl (pc0 := 104) (pc' := 113) rfl (hb hby at_104) rfl (tlt (by decide)).1 (by decide) (by decide) ?_
          refine XS.iload X472.here hx rfl (hb hby at_113) rfl ?_
          exact kt
        by_cases hc115_475 : v455 = (0 : Int32)
        · obtain ⟨v480, hv480⟩ : ∃ z : Int32, z = (if (((p5.toUInt32 >>> ((3 : Int32) &&& 31).toUInt32).toInt32) &&& (3 : Int32)) = (0 : Int32) then p4 else (if (((p5.toUInt32 >>> ((3 : Int32) &&& 31).toUInt32).toInt32) &&& (3 : Int32)) = (1 : Int32) then p1 else (if (((p5.toUInt32 >>> ((3 : Int32) &&& 31).toUInt32).toInt32) &&& (3 : Int32)) = (2 : Int32) then p2 else p3))) := ⟨_, rfl⟩
          have pre481 : ∀ t, Steps p.tables e below (T472.setTop (mkF m 153 #[.val (.int p1), .val (.int p2), .val (.int p3), .val (.int p4), .val (.int p5), .val (.int (2 : Int32)), .val (.int v455), .val (.int (((p5.toUInt32 >>> ((3 : Int32) &&& 31).toUInt32).toInt32) &&& (3 : Int32))), .val (.ref b459), .unset, .unset, .unset] [(.int v480)])) t → Steps p.tables e below (s₁.setTop (entryFrame m #[(.int p1), (.int p2), (.int p3), (.int p4), (.int p5)] maxLocals)) t := by
            intro t kt
            refine pre476 _ ?_
            rw [hv480] at kt
            show Steps p.tables e below (T472.setTop (mkF m 115 #[.val (.int p1), .val (.int p2), .val (.int p3), .val (.int p4), .val (.int p5), .val (.int (2 : Int32)), .val (.int v455), .val (.int (((p5.toUInt32 >>> ((3 : Int32) &&& 31).toUInt32).toInt32) &&& (3 : Int32))), .val (.ref b459), .unset, .unset, .unset] [(.int v455)])) _
            refine XS.ifYes X472.here hx rfl (pc0 := 115) (pc' := 123) rfl (hb hby at_115) rfl ((if0 _ _).trans (teq hc115_475).1) (by decide) (by decide) ?_
            show Steps p.tables e below (T472.setTop (mkF m 123 #[.val (.int p1), .val (.int p2), .val (.int p3), .val (.int p4), .val (.int p5), .val (.int (2 : Int32)), .val (.int v455), .val (.int (((p5.toUInt32 >>> ((3 : Int32) &&& 31).toUInt32).toInt32) &&& (3 : Int32))), .val (.ref b459), .unset, .unset, .unset] [])) _
            refine XS.iload X472.here hx rfl (hb hby at_123) rfl ?_
            by_cases hc125_477 : (((p5.toUInt32 >>> ((3 : Int32) &&& 31).toUInt32).toInt32) &&& (3 : Int32)) = (0 : Int32)
            · try simp only [if_pos hc125_477] at kt
              refine XS.ifNo X472.here hx rfl (hb hby at_125) rfl ((if0 _ _).trans (teq hc125_477).2) ?_
              refine XS.iloadN X472.here hx rfl (hb hby at_128) rfl ?_
              refine XS.goto X472.here hx rfl (pc0 := 129) (pc' := 153) rfl (hb hby at_129) (by decide) (by decide) ?_
              show Steps p.tables e below (T472.setTop (mkF m 153 #[.val (.int p1), .val (.int p2), .val (.int p3), .val (.int p4), .val (.int p5), .val (.int (2 : Int32)), .val (.int v455), .val (.int (((p5.toUInt32 >>> ((3 : Int32) &&& 31).toUInt32).toInt32) &&& (3 : Int32))), .val (.ref b459), .unset, .unset, .unset] [(.int p4)])) _
              exact kt
            · try simp only [if_neg hc125_477] at kt
              refine XS.ifYes X472.here hx rfl (pc0 := 125) (pc' := 132) rfl (hb hby at_125) rfl ((if0 _ _).trans (feq hc125_477).2) (by decide) (by decide) ?_
              refine XS.iload X472.here hx rfl (hb hby at_132) rfl ?_
              refine XS.iconst X472.here hx rfl (hb hby at_134) ?_
              show Steps p.tables e below (T472.setTop (mkF m 135 #[.val (.int p1), .val (.int p2), .val (.int p3), .val (.int p4), .val (.int p5), .val (.int (2 : Int32)), .val (.int v455), .val (.int (((p5.toUInt32 >>> ((3 : Int32) &&& 31).toUInt32).toInt32) &&& (3 : Int32))), .val (.ref b459), .unset, .unset, .unset] [(.int (1 : Int32)), (.int (((p5.toUInt32 >>> ((3 : Int32) &&& 31).toUInt32).toInt32) &&& (3 : Int32)))])) _
              by_cases hc135_478 : (((p5.toUInt32 >>> ((3 : Int32) &&& 31).toUInt32).toInt32) &&& (3 : Int32)) = (1 : Int32)
              · try simp only [if_pos hc135_478] at kt
                refine XS.icmpNo X472.here hx rfl (hb hby at_135) rfl (teq hc135_478).2 ?_
                refine XS.iloadN X472.here hx rfl (hb hby at_138) rfl ?_
                refine XS.goto X472.here hx rfl (pc0 := 139) (pc' := 153) rfl (hb hby at_139) (by decide) (by decide) ?_
                exact kt
              · try simp only [if_neg hc135_478] at kt
                refine XS.icmpYes X472.here hx rfl (pc0 := 135) (pc' := 142) rfl (hb hby at_135) rfl (feq hc135_478).2 (by decide) (by decide) ?_
                refine XS.iload X472.here hx rfl (hb hby at_142) rfl ?_
                refine XS.iconst X472.here hx rfl (hb hby at_144) ?_
                by_cases hc145_479 : (((p5.toUInt32 >>> ((3 : Int32) &&& 31).toUInt32).toInt32) &&& (3 : Int32)) = (2 : Int32)
                · try simp only [if_pos hc145_479] at kt
                  refine XS.icmpNo X472.here hx rfl (hb hby at_145) rfl (teq hc145_479).2 ?_
                  show Steps p.tables e below (T472.setTop (mkF m 148 #[.val (.int p1), .val (.int p2), .val (.int p3), .val (.int p4), .val (.int p5), .val (.int (2 : Int32)), .val (.int v455), .val (.int (((p5.toUInt32 >>> ((3 : Int32) &&& 31).toUInt32).toInt32) &&& (3 : Int32))), .val (.ref b459), .unset, .unset, .unset] [])) _
                  refine XS.iloadN X472.here hx rfl (hb hby at_148) rfl ?_
                  refine XS.goto X472.here hx rfl (pc0 := 149) (pc' := 153) rfl (hb hby at_149) (by decide) (by decide) ?_
                  exact kt
                · try simp only [if_neg hc145_479] at kt
                  refine XS.icmpYes X472.here hx rfl (pc0 := 145) (pc' := 152) rfl (hb hby at_145) rfl (feq hc145_479).2 (by decide) (by decide) ?_
                  show Steps p.tables e below (T472.setTop (mkF m 152 #[.val (.int p1), .val (.int p2), .val (.int p3), .val (.int p4), .val (.int p5), .val (.int (2 : Int32)), .val (.int v455), .val (.int (((p5.toUInt32 >>> ((3 : Int32) &&& 31).toUInt32).toInt32) &&& (3 : Int32))), .val (.ref b459), .unset, .unset, .unset] [])) _
                  refine XS.iloadN X472.here hx rfl (hb hby at_152) rfl ?_
                  exact kt
          have pre483 : ∀ t, Steps p.tables e below (T472.setTop (mkF m 236 #[.val (.int p1), .val (.int p2), .val (.int p3), .val (.int p4), .val (.int p5), .val (.int (2 : Int32)), .val (.int v455), .val (.int (((p5.toUInt32 >>> ((3 : Int32) &&& 31).toUInt32).toInt32) &&& (3 : Int32))), .val (.ref b459), .val (.int v480), .unset, .val (.int p2)] [(.int v480), (.int p2)])) t → Steps p.tables e below (s₁.setTop (entryFrame m #[(.int p1), (.int p2), (.int p3), (.int p4), (.int p5)] maxLocals)) t := by
            intro t kt
            refine pre481 _ ?_
            show Steps p.tables e below (T472.setTop (mkF m 153 #[.val (.int p1), .val (.int p2), .val (.int p3), .val (.int p4), .val (.int p5), .val (.int (2 : Int32)), .val (.int v455), .val (.int (((p5.toUInt32 >>> ((3 : Int32) &&& 31).toUInt32).toInt32) &&& (3 : Int32))), .val (.ref b459), .unset, .unset, .unset] [(.int v480)])) _
            refine XS.istore X472.here hx rfl (hb hby at_153) rfl (l' := #[.val (.int p1), .val (.int p2), .val (.int p3), .val (.int p4), .val (.int p5), .val (.int (2 : Int32)), .val (.int v455), .val (.int (((p5.toUInt32 >>> ((3 : Int32) &&& 31).toUInt32).toInt32) &&& (3 : Int32))), .val (.ref b459), .val (.int v480), .unset, .unset]) rfl ?_
            refine XS.iload X472.here hx rfl (hb hby at_155) rfl ?_
            refine XS.ifYes X472.here hx rfl (pc0 := 157) (pc' := 166) rfl (hb hby at_157) rfl ((if0 _ _).trans (feq (by decide)).2) (by decide) (by decide) ?_
            refine XS.iload X472.here hx rfl (hb hby at_166) rfl ?_
            show Steps p.tables e below (T472.setTop (mkF m 168 #[.val (.int p1), .val (.int p2), .val (.int p3), .val (.int p4), .val (.int p5), .val (.int (2 : Int32)), .val (.int v455), .val (.int (((p5.toUInt32 >>> ((3 : Int32) &&& 31).toUInt32).toInt32) &&& (3 : Int32))), .val (.ref b459), .val (.int v480), .unset, .unset] [(.int v455)])) _
            refine XS.ifYes X472.here hx rfl (pc0 := 168) (pc' := 209) rfl (hb hby at_168) rfl ((if0 _ _).trans (teq hc115_475).1) (by decide) (by decide) ?_
            refine XS.iload X472.here hx rfl (hb hby at_209) rfl ?_
            refine XS.iconst X472.here hx rfl (hb hby at_211) ?_
            refine XS.icmpYes X472.here hx rfl (pc0 := 212) (pc' := 219) rfl (hb hby at_212) rfl (feq (by decide)).2 (by decide) (by decide) ?_
            show Steps p.tables e below (T472.setTop (mkF m 219 #[.val (.int p1), .val (.int p2), .val (.int p3), .val (.int p4), .val (.int p5), .val (.int (2 : Int32)), .val (.int v455), .val (.int (((p5.toUInt32 >>> ((3 : Int32) &&& 31).toUInt32).toInt32) &&& (3 : Int32))), .val (.ref b459), .val (.int v480), .unset, .unset] [])) _
            refine XS.iload X472.here hx rfl (hb hby at_219) rfl ?_
            refine XS.iconst X472.here hx rfl (hb hby at_221) ?_
            refine XS.icmpNo X472.here hx rfl (hb hby at_222) rfl (teq (rfl : (2 : Int32) = (2 : Int32))).2 ?_
            refine XS.iloadN X472.here hx rfl (hb hby at_225) rfl ?_
            show Steps p.tables e below (T472.setTop (mkF m 226 #[.val (.int p1), .val (.int p2), .val (.int p3), .val (.int p4), .val (.int p5), .val (.int (2 : Int32)), .val (.int v455), .val (.int (((p5.toUInt32 >>> ((3 : Int32) &&& 31).toUInt32).toInt32) &&& (3 : Int32))), .val (.ref b459), .val (.int v480), .unset, .unset] [(.int p2)])) _
            refine XS.goto X472.here hx rfl (pc0 := 226) (pc' := 230) rfl (hb hby at_226) (by decide) (by decide) ?_
            refine XS.istore X472.here hx rfl (hb hby at_230) rfl (l' := #[.val (.int p1), .val (.int p2), .val (.int p3), .val (.int p4), .val (.int p5), .val (.int (2 : Int32)), .val (.int v455), .val (.int (((p5.toUInt32 >>> ((3 : Int32) &&& 31).toUInt32).toInt32) &&& (3 : Int32))), .val (.ref b459), .val (.int v480), .unset, .val (.int p2)]) rfl ?_
            refine XS.iload X472.here hx rfl (hb hby at_232) rfl ?_
            refine XS.iload X472.here hx rfl (hb hby at_234) rfl ?_
            show Steps p.tables e below (T472.setTop (mkF m 236 #[.val (.int p1), .val (.int p2), .val (.int p3), .val (.int p4), .val (.int p5), .val (.int (2 : Int32)), .val (.int v455), .val (.int (((p5.toUInt32 >>> ((3 : Int32) &&& 31).toUInt32).toInt32) &&& (3 : Int32))), .val (.ref b459), .val (.int v480), .unset, .val (.int p2)] [(.int v480), (.int p2)])) _
            exact kt
          by_cases hc236_482 : p2 = v480
          · obtain ⟨cq484, kq484, q484a, q484b, q484c⟩ := isOf hZ rfl ((((((A459.ext E461).keep K463q).keep K465q).keep K467q).keep K472q))
            obtain ⟨_, _, ⟨T484, L484, k484, n484⟩, -, X484, ⟨Lc484, hQ484, l484, y484, z484⟩, st484⟩ := X472.virtualBack hx (y := (⟨"com/example/kawi/kawi/OrderedNames", "endsWith", "(I)Z"⟩ : MethodName)) (z := (⟨"com/example/kawi/kawi/OrderedNames", "endsWith", "(I)Z"⟩ : MethodName)) hown (mvT hZ (wd_43 hw)) (mvT hZ (wd_44 hw)) (notFace_of_selects (args := #[]) (mvT hZ (wd_46 hw))) (mvT hZ (wd_46 hw)) (mvT hZ (wd_45 hw)) (by decide) (backOf (W := 0) (rmew2 l Z a0 hw [] b459 v480 b_472 kb_472 p1 p2 T472.heap n0 Z473 g472_1 g472_3 g472_5) hZ (wd_47 hw) (wd_2 hw) (by decide) (by decide)) q484a q484c (g := (mkF m 250 #[.val (.int p1), .val (.int p2), .val (.int p3), .val (.int p4), .val (.int p5), .val (.int (2 : Int32)), .val (.int v455), .val (.int (((p5.toUInt32 >>> ((3 : Int32) &&& 31).toUInt32).toInt32) &&& (3 : Int32))), .val (.ref b459), .val (.int v480), .val (.int (1 : Int32)), .val (.int p2)] [(.int v480), (.ref b459)])) rfl (by rw [hml]; rfl) (Steps.refl _) (argsL := [(.int v480)]) (rest := []) (lenOf pd__I_Z rfl) rfl (by show 2 * 0 + _ ≤ _; exact Nat.le_of_eq rfl) (hb hby at_250) (fun _ _ => ⟨rfl, rfl, (by decide : 4 + 0 ≤ _), (by decide : 11 + 0 ≤ _)⟩)
            dsimp only [Pt.U, Pt.locs, Pt.cells, Pt.slots] at X484 l484 y484 z484 st484 hQ484
            subst l484 y484 z484
            obtain ⟨rfl, N484q, e484⟩ := hQ484
            have N484 := Fr.app N472 N484q
            obtain ⟨fs, hr, hrun, hended, hW, hsame⟩ := X484.leave (v := some (.int (1 : Int32))) (fun h => by rw [Bd.returns] at h; cases h)
            refine ⟨_, _, pre483 _ ?_, hrun, hended, _, _, rfl, ?_, ⟨_, rfl⟩, hW, hsame.mono (by decide) (by decide)⟩
            · show Steps p.tables e below (T472.setTop (mkF m 236 #[.val (.int p1), .val (.int p2), .val (.int p3), .val (.int p4), .val (.int p5), .val (.int (2 : Int32)), .val (.int v455), .val (.int (((p5.toUInt32 >>> ((3 : Int32) &&& 31).toUInt32).toInt32) &&& (3 : Int32))), .val (.ref b459), .val (.int v480), .unset, .val (.int p2)] [(.int v480), (.int p2)])) _
              refine XS.icmpNo X472.here hx rfl (hb hby at_236) rfl (teq hc236_482).2 ?_
              refine XS.iconst X472.here hx rfl (hb hby at_239) ?_
              refine XS.goto X472.here hx rfl (pc0 := 240) (pc' := 244) rfl (hb hby at_240) (by decide) (by decide) ?_
              refine XS.istore X472.here hx rfl (hb hby at_244) rfl (l' := #[.val (.int p1), .val (.int p2), .val (.int p3), .val (.int p4), .val (.int p5), .val (.int (2 : Int32)), .val (.int v455), .val (.int (((p5.toUInt32 >>> ((3 : Int32) &&& 31).toUInt32).toInt32) &&& (3 : Int32))), .val (.ref b459), .val (.int v480), .val (.int (1 : Int32)), .val (.int p2)]) rfl ?_
              show Steps p.tables e below (T472.setTop (mkF m 246 #[.val (.int p1), .val (.int p2), .val (.int p3), .val (.int p4), .val (.int p5), .val (.int (2 : Int32)), .val (.int v455), .val (.int (((p5.toUInt32 >>> ((3 : Int32) &&& 31).toUInt32).toInt32) &&& (3 : Int32))), .val (.ref b459), .val (.int v480), .val (.int (1 : Int32)), .val (.int p2)] [])) _
              refine XS.aload X472.here hx rfl (hb hby at_246) rfl rfl ?_
              refine XS.iload X472.here hx rfl (hb hby at_248) rfl ?_
              refine st484.trans ?_
              refine XS.iload X484.here hx rfl (hb hby at_253) rfl ?_
              show Steps p.tables e below (T484.setTop (mkF m 255 #[.val (.int p1), .val (.int p2), .val (.int p3), .val (.int p4), .val (.int p5), .val (.int (2 : Int32)), .val (.int v455), .val (.int (((p5.toUInt32 >>> ((3 : Int32) &&& 31).toUInt32).toInt32) &&& (3 : Int32))), .val (.ref b459), .val (.int v480), .val (.int (1 : Int32)), .val (.int p2)] [(.int (1 : Int32)), (.int (if p2 = v480 then (1 : Int32) else (0 : Int32)))])) _
              refine XS.icmpNo X484.here hx rfl (hb hby at_255) rfl (teq (by simp only [if_pos hc236_482])).2 ?_
              refine XS.iconst X484.here hx rfl (hb hby at_258) ?_
              refine XS.goto X484.here hx rfl (pc0 := 259) (pc' := 263) rfl (hb hby at_259) (by decide) (by decide) ?_
              exact retN X484 hx (t := .boolean) Bd.returns (by simp) (hb hby at_263) hr
            · show Q_rm0 Z p1 p2 p3 p4 p5 wD wN kN h0 n0 _ T484.heap _
              rw [e484]
              exact ⟨rfl, N484, trivial⟩
          · obtain ⟨cq485, kq485, q485a, q485b, q485c⟩ := isOf hZ rfl ((((((A459.ext E461).keep K463q).keep K465q).keep K467q).keep K472q))
            obtain ⟨_, _, ⟨T485, L485, k485, n485⟩, -, X485, ⟨Lc485, hQ485, l485, y485, z485⟩, st485⟩ := X472.virtualBack hx (y := (⟨"com/example/kawi/kawi/OrderedNames", "endsWith", "(I)Z"⟩ : MethodName)) (z := (⟨"com/example/kawi/kawi/OrderedNames", "endsWith", "(I)Z"⟩ : MethodName)) hown (mvT hZ (wd_43 hw)) (mvT hZ (wd_44 hw)) (notFace_of_selects (args := #[]) (mvT hZ (wd_46 hw))) (mvT hZ (wd_46 hw)) (mvT hZ (wd_45 hw)) (by decide) (backOf (W := 0) (rmew2 l Z a0 hw [] b459 v480 b_472 kb_472 p1 p2 T472.heap n0 Z473 g472_1 g472_3 g472_5) hZ (wd_47 hw) (wd_2 hw) (by decide) (by decide)) q485a q485c (g := (mkF m 250 #[.val (.int p1), .val (.int p2), .val (.int p3), .val (.int p4), .val (.int p5), .val (.int (2 : Int32)), .val (.int v455), .val (.int (((p5.toUInt32 >>> ((3 : Int32) &&& 31).toUInt32).toInt32) &&& (3 : Int32))), .val (.ref b459), .val (.int v480), .val (.int (0 : Int32)), .val (.int p2)] [(.int v480), (.ref b459)])) rfl (by rw [hml]; rfl) (Steps.refl _) (argsL := [(.int v480)]) (rest := []) (lenOf pd__I_Z rfl) rfl (by show 2 * 0 + _ ≤ _; exact Nat.le_of_eq rfl) (hb hby at_250) (fun _ _ => ⟨rfl, rfl, (by decide : 4 + 0 ≤ _), (by decide : 11 + 0 ≤ _)⟩)
            dsimp only [Pt.U, Pt.locs, Pt.cells, Pt.slots] at X485 l485 y485 z485 st485 hQ485
            subst l485 y485 z485
            obtain ⟨rfl, N485q, e485⟩ := hQ485
            have N485 := Fr.app N472 N485q
            obtain ⟨fs, hr, hrun, hended, hW, hsame⟩ := X485.leave (v := some (.int (1 : Int32))) (fun h => by rw [Bd.returns] at h; cases h)
            refine ⟨_, _, pre483 _ ?_, hrun, hended, _, _, rfl, ?_, ⟨_, rfl⟩, hW, hsame.mono (by decide) (by decide)⟩
            · show Steps p.tables e below (T472.setTop (mkF m 236 #[.val (.int p1), .val (.int p2), .val (.int p3), .val (.int p4), .val (.int p5), .val (.int (2 : Int32)), .val (.int v455), .val (.int (((p5.toUInt32 >>> ((3 : Int32) &&& 31).toUInt32).toInt32) &&& (3 : Int32))), .val (.ref b459), .val (.int v480), .unset, .val (.int p2)] [(.int v480), (.int p2)])) _
              refine XS.icmpYes X472.here hx rfl (pc0 := 236) (pc' := 243) rfl (hb hby at_236) rfl (feq hc236_482).2 (by decide) (by decide) ?_
              refine XS.iconst X472.here hx rfl (hb hby at_243) ?_
              refine XS.istore X472.here hx rfl (hb hby at_244) rfl (l' := #[.val (.int p1), .val (.int p2), .val (.int p3), .val (.int p4), .val (.int p5), .val (.int (2 : Int32)), .val (.int v455), .val (.int (((p5.toUInt32 >>> ((3 : Int32) &&& 31).toUInt32).toInt32) &&& (3 : Int32))), .val (.ref b459), .val (.int v480), .val (.int (0 : Int32)), .val (.int p2)]) rfl ?_
              refine XS.aload X472.here hx rfl (hb hby at_246) rfl rfl ?_
              show Steps p.tables e below (T472.setTop (mkF m 248 #[.val (.int p1), .val (.int p2), .val (.int p3), .val (.int p4), .val (.int p5), .val (.int (2 : Int32)), .val (.int v455), .val (.int (((p5.toUInt32 >>> ((3 : Int32) &&& 31).toUInt32).toInt32) &&& (3 : Int32))), .val (.ref b459), .val (.int v480), .val (.int (0 : Int32)), .val (.int p2)] [(.ref b459)])) _
              refine XS.iload X472.here hx rfl (hb hby at_248) rfl ?_
              refine st485.trans ?_
              refine XS.iload X485.here hx rfl (hb hby at_253) rfl ?_
              refine XS.icmpNo X485.here hx rfl (hb hby at_255) rfl (teq (by simp only [if_neg hc236_482])).2 ?_
              show Steps p.tables e below (T485.setTop (mkF m 258 #[.val (.int p1), .val (.int p2), .val (.int p3), .val (.int p4), .val (.int p5), .val (.int (2 : Int32)), .val (.int v455), .val (.int (((p5.toUInt32 >>> ((3 : Int32) &&& 31).toUInt32).toInt32) &&& (3 : Int32))), .val (.ref b459), .val (.int v480), .val (.int (0 : Int32)), .val (.int p2)] [])) _
              refine XS.iconst X485.here hx rfl (hb hby at_258) ?_
              refine XS.goto X485.here hx rfl (pc0 := 259) (pc' := 263) rfl (hb hby at_259) (by decide) (by decide) ?_
              exact retN X485 hx (t := .boolean) Bd.returns (by simp) (hb hby at_263) hr
            · show Q_rm0 Z p1 p2 p3 p4 p5 wD wN kN h0 n0 _ T485.heap _
              rw [e485]
              exact ⟨rfl, N485, trivial⟩
        · obtain ⟨cq486, kq486, q486a, q486b, q486c⟩ := isOf hZ rfl ((((((A459.ext E461).keep K463q).keep K465q).keep K467q).keep K472q))
          obtain ⟨_, _, ⟨T486, L486, k486, n486⟩, -, X486, ⟨Lc486, hQ486, l486, y486, z486⟩, st486⟩ := X472.virtualBack hx (y := (⟨"com/example/kawi/kawi/OrderedNames", "order", "()V"⟩ : MethodName)) (z := (⟨"com/example/kawi/kawi/OrderedNames", "order", "()V"⟩ : MethodName)) hown (mvT hZ (wd_73 hw)) (mvT hZ (wd_74 hw)) (notFace_of_selects (args := #[]) (mvT hZ (wd_76 hw))) (mvT hZ (wd_76 hw)) (mvT hZ (wd_75 hw)) (by decide) (backOf (W := 0) (rmo2 l Z a0 hw [] b459 b_472 kb_472 p1 p2 T472.heap n0 Z473 g472_1 g472_2 g472_3 (((((A459.ext E461).keep K463q).keep K465q).keep K467q).keep K472q) g_b459 g474 g472_5 (Ne.symm ne_b459_b_472)) hZ (wd_77 hw) (wd_2 hw) (by decide) (by decide)) q486a q486c (g := (mkF m 120 #[.val (.int p1), .val (.int p2), .val (.int p3), .val (.int p4), .val (.int p5), .val (.int (2 : Int32)), .val (.int v455), .val (.int (((p5.toUInt32 >>> ((3 : Int32) &&& 31).toUInt32).toInt32) &&& (3 : Int32))), .val (.ref b459), .unset, .unset, .unset] [(.ref b459)])) rfl (by rw [hml]; rfl) (Steps.refl _) (argsL := []) (rest := []) (lenOf pd___V rfl) rfl (by show 2 * 0 + _ ≤ _; exact Nat.le_of_eq rfl) (hb hby at_120) (fun _ _ => ⟨rfl, rfl, (by decide : 4 + 0 ≤ _), (by decide : 11 + 0 ≤ _)⟩)
          dsimp only [Pt.U, Pt.locs, Pt.cells, Pt.slots] at X486 l486 y486 z486 st486 hQ486
          subst l486 y486 z486
          obtain ⟨r0_486, r1_486, rfl, N486q, K486q, g486_0, g486_1, g486_2, g486_3⟩ := hQ486
          have N486 := Fr.app N472 N486q
          have Z487 : n0 ≤ T486.heap.size := Nat.le_trans Z473 K486q.1
          obtain ⟨v491, hv491⟩ : ∃ z : Int32, z = (if (((p5.toUInt32 >>> ((3 : Int32) &&& 31).toUInt32).toInt32) &&& (3 : Int32)) = (0 : Int32) then p4 else (if (((p5.toUInt32 >>> ((3 : Int32) &&& 31).toUInt32).toInt32) &&& (3 : Int32)) = (1 : Int32) then p1 else (if (((p5.toUInt32 >>> ((3 : Int32) &&& 31).toUInt32).toInt32) &&& (3 : Int32)) = (2 : Int32) then p2 else p3))) := ⟨_, rfl⟩
          have pre492 : ∀ t, Steps p.tables e below (T486.setTop (mkF m 153 #[.val (.int p1), .val (.int p2), .val (.int p3), .val (.int p4), .val (.int p5), .val (.int (2 : Int32)), .val (.int v455), .val (.int (((p5.toUInt32 >>> ((3 : Int32) &&& 31).toUInt32).toInt32) &&& (3 : Int32))), .val (.ref b459), .unset, .unset, .unset] [(.int v491)])) t → Steps p.tables e below (s₁.setTop (entryFrame m #[(.int p1), (.int p2), (.int p3), (.int p4), (.int p5)] maxLocals)) t := by
            intro t kt
            refine pre476 _ ?_
            rw [hv491] at kt
            show Steps p.tables e below (T472.setTop (mkF m 115 #[.val (.int p1), .val (.int p2), .val (.int p3), .val (.int p4), .val (.int p5), .val (.int (2 : Int32)), .val (.int v455), .val (.int (((p5.toUInt32 >>> ((3 : Int32) &&& 31).toUInt32).toInt32) &&& (3 : Int32))), .val (.ref b459), .unset, .unset, .unset] [(.int v455)])) _
            refine XS.ifNo X472.here hx rfl (hb hby at_115) rfl ((if0 _ _).trans (feq hc115_475).1) ?_
            show Steps p.tables e below (T472.setTop (mkF m 118 #[.val (.int p1), .val (.int p2), .val (.int p3), .val (.int p4), .val (.int p5), .val (.int (2 : Int32)), .val (.int v455), .val (.int (((p5.toUInt32 >>> ((3 : Int32) &&& 31).toUInt32).toInt32) &&& (3 : Int32))), .val (.ref b459), .unset, .unset, .unset] [])) _
            refine XS.aload X472.here hx rfl (hb hby at_118) rfl rfl ?_
            refine st486.trans ?_
            refine XS.iload X486.here hx rfl (hb hby at_123) rfl ?_
            by_cases hc125_488 : (((p5.toUInt32 >>> ((3 : Int32) &&& 31).toUInt32).toInt32) &&& (3 : Int32)) = (0 : Int32)
            · try simp only [if_pos hc125_488] at kt
              refine XS.ifNo X486.here hx rfl (hb hby at_125) rfl ((if0 _ _).trans (teq hc125_488).2) ?_
              show Steps p.tables e below (T486.setTop (mkF m 128 #[.val (.int p1), .val (.int p2), .val (.int p3), .val (.int p4), .val (.int p5), .val (.int (2 : Int32)), .val (.int v455), .val (.int (((p5.toUInt32 >>> ((3 : Int32) &&& 31).toUInt32).toInt32) &&& (3 : Int32))), .val (.ref b459), .unset, .unset, .unset] [])) _
              refine XS.iloadN X486.here hx rfl (hb hby at_128) rfl ?_
              refine XS.goto X486.here hx rfl (pc0 := 129) (pc' := 153) rfl (hb hby at_129) (by decide) (by decide) ?_
              exact kt
            · try simp only [if_neg hc125_488] at kt
              refine XS.ifYes X486.here hx rfl (pc0 := 125) (pc' := 132) rfl (hb hby at_125) rfl ((if0 _ _).trans (feq hc125_488).2) (by decide) (by decide) ?_
              show Steps p.tables e below (T486.setTop (mkF m 132 #[.val (.int p1), .val (.int p2), .val (.int p3), .val (.int p4), .val (.int p5), .val (.int (2 : Int32)), .val (.int v455), .val (.int (((p5.toUInt32 >>> ((3 : Int32) &&& 31).toUInt32).toInt32) &&& (3 : Int32))), .val (.ref b459), .unset, .unset, .unset] [])) _
              refine XS.iload X486.here hx rfl (hb hby at_132) rfl ?_
              refine XS.iconst X486.here hx rfl (hb hby at_134) ?_
              by_cases hc135_489 : (((p5.toUInt32 >>> ((3 : Int32) &&& 31).toUInt32).toInt32) &&& (3 : Int32)) = (1 : Int32)
              · try simp only [if_pos hc135_489] at kt
                refine XS.icmpNo X486.here hx rfl (hb hby at_135) rfl (teq hc135_489).2 ?_
                refine XS.iloadN X486.here hx rfl (hb hby at_138) rfl ?_
                show Steps p.tables e below (T486.setTop (mkF m 139 #[.val (.int p1), .val (.int p2), .val (.int p3), .val (.int p4), .val (.int p5), .val (.int (2 : Int32)), .val (.int v455), .val (.int (((p5.toUInt32 >>> ((3 : Int32) &&& 31).toUInt32).toInt32) &&& (3 : Int32))), .val (.ref b459), .unset, .unset, .unset] [(.int p1)])) _
                refine XS.goto X486.here hx rfl (pc0 := 139) (pc' := 153) rfl (hb hby at_139) (by decide) (by decide) ?_
                exact kt
              · try simp only [if_neg hc135_489] at kt
                refine XS.icmpYes X486.here hx rfl (pc0 := 135) (pc' := 142) rfl (hb hby at_135) rfl (feq hc135_489).2 (by decide) (by decide) ?_
                refine XS.iload X486.here hx rfl (hb hby at_142) rfl ?_
                show Steps p.tables e below (T486.setTop (mkF m 144 #[.val (.int p1), .val (.int p2), .val (.int p3), .val (.int p4), .val (.int p5), .val (.int (2 : Int32)), .val (.int v455), .val (.int (((p5.toUInt32 >>> ((3 : Int32) &&& 31).toUInt32).toInt32) &&& (3 : Int32))), .val (.ref b459), .unset, .unset, .unset] [(.int (((p5.toUInt32 >>> ((3 : Int32) &&& 31).toUInt32).toInt32) &&& (3 : Int32)))])) _
                refine XS.iconst X486.here hx rfl (hb hby at_144) ?_
                by_cases hc145_490 : (((p5.toUInt32 >>> ((3 : Int32) &&& 31).toUInt32).toInt32) &&& (3 : Int32)) = (2 : Int32)
                · try simp only [if_pos hc145_490] at kt
                  refine XS.icmpNo X486.here hx rfl (hb hby at_145) rfl (teq hc145_490).2 ?_
                  refine XS.iloadN X486.here hx rfl (hb hby at_148) rfl ?_
                  refine XS.goto X486.here hx rfl (pc0 := 149) (pc' := 153) rfl (hb hby at_149) (by decide) (by decide) ?_
                  show Steps p.tables e below (T486.setTop (mkF m 153 #[.val (.int p1), .val (.int p2), .val (.int p3), .val (.int p4), .val (.int p5), .val (.int (2 : Int32)), .val (.int v455), .val (.int (((p5.toUInt32 >>> ((3 : Int32) &&& 31).toUInt32).toInt32) &&& (3 : Int32))), .val (.ref b459), .unset, .unset, .unset] [(.int p2)])) _
                  exact kt
                · try simp only [if_neg hc145_490] at kt
                  refine XS.icmpYes X486.here hx rfl (pc0 := 145) (pc' := 152) rfl (hb hby at_145) rfl (feq hc145_490).2 (by decide) (by decide) ?_
                  refine XS.iloadN X486.here hx rfl (hb hby at_152) rfl ?_
                  exact kt
          obtain ⟨_, _, ⟨T493, L493, k493, n493⟩, -, X493, ⟨Lc493, hQ493, l493, y493, z493⟩, st493⟩ := Jvm.LawKit.callS X486 hx (y := (⟨"java/lang/Math", "max", "(II)I"⟩ : MethodName)) hown (mvT hZ (wd_78 hw)) (mvT hZ (wd_56 hw)) (mvT hZ (wd_57 hw)) (mvT hZ (wd_58 hw)) (by decide) (backOf (W := 0) (rm8 l Z a0 hw [] p1 p2 T486.heap n0 Z487) hZ (wd_58 hw) (wd_57 hw) (by decide) (by decide)) (g := (mkF m 189 #[.val (.int p1), .val (.int p2), .val (.int p3), .val (.int p4), .val (.int p5), .val (.int (2 : Int32)), .val (.int v455), .val (.int (((p5.toUInt32 >>> ((3 : Int32) &&& 31).toUInt32).toInt32) &&& (3 : Int32))), .val (.ref b459), .val (.int v491), .unset, .unset] [(.int p2), (.int p1)])) rfl (by rw [hml]; rfl) (argsL := [(.int p1), (.int p2)]) (rest := []) (lenOf pd__II_I rfl) rfl (by show 2 * 0 + _ ≤ _; exact Nat.le_of_eq rfl) (hb hby at_189) (fun _ _ => ⟨rfl, rfl, (by decide : 4 + 0 ≤ _), (by decide : 11 + 0 ≤ _)⟩)
          dsimp only [Pt.U, Pt.locs, Pt.cells, Pt.slots] at X493 l493 y493 z493 st493 hQ493
          subst l493 y493 z493
          obtain ⟨rfl, N493q, e493⟩ := hQ493
          have N493 := Fr.app N486 N493q
          have pre495 : ∀ t, Steps p.tables e below (T493.setTop (mkF m 236 #[.val (.int p1), .val (.int p2), .val (.int p3), .val (.int p4), .val (.int p5), .val (.int (2 : Int32)), .val (.int v455), .val (.int (((p5.toUInt32 >>> ((3 : Int32) &&& 31).toUInt32).toInt32) &&& (3 : Int32))), .val (.ref b459), .val (.int v491), .unset, .val (.int (if p1 < p2 then p2 else p1))] [(.int v491), (.int (if p1 < p2 then p2 else p1))])) t → Steps p.tables e below (s₁.setTop (entryFrame m #[(.int p1), (.int p2), (.int p3), (.int p4), (.int p5)] maxLocals)) t := by
            intro t kt
            refine pre492 _ ?_
            show Steps p.tables e below (T486.setTop (mkF m 153 #[.val (.int p1), .val (.int p2), .val (.int p3), .val (.int p4), .val (.int p5), .val (.int (2 : Int32)), .val (.int v455), .val (.int (((p5.toUInt32 >>> ((3 : Int32) &&& 31).toUInt32).toInt32) &&& (3 : Int32))), .val (.ref b459), .unset, .unset, .unset] [(.int v491)])) _
            refine XS.istore X486.here hx rfl (hb hby at_153) rfl (l' := #[.val (.int p1), .val (.int p2), .val (.int p3), .val (.int p4), .val (.int p5), .val (.int (2 : Int32)), .val (.int v455), .val (.int (((p5.toUInt32 >>> ((3 : Int32) &&& 31).toUInt32).toInt32) &&& (3 : Int32))), .val (.ref b459), .val (.int v491), .unset, .unset]) rfl ?_
            refine XS.iload X486.here hx rfl (hb hby at_155) rfl ?_
            refine XS.ifYes X486.here hx rfl (pc0 := 157) (pc' := 166) rfl (hb hby at_157) rfl ((if0 _ _).trans (feq (by decide)).2) (by decide) (by decide) ?_
            refine XS.iload X486.here hx rfl (hb hby at_166) rfl ?_
            show Steps p.tables e below (T486.setTop (mkF m 168 #[.val (.int p1), .val (.int p2), .val (.int p3), .val (.int p4), .val (.int p5), .val (.int (2 : Int32)), .val (.int v455), .val (.int (((p5.toUInt32 >>> ((3 : Int32) &&& 31).toUInt32).toInt32) &&& (3 : Int32))), .val (.ref b459), .val (.int v491), .unset, .unset] [(.int v455)])) _
            refine XS.ifNo X486.here hx rfl (hb hby at_168) rfl ((if0 _ _).trans (feq hc115_475).1) ?_
            refine XS.iload X486.here hx rfl (hb hby at_171) rfl ?_
            refine XS.iconst X486.here hx rfl (hb hby at_173) ?_
            refine XS.icmpYes X486.here hx rfl (pc0 := 174) (pc' := 181) rfl (hb hby at_174) rfl (feq (by decide)).2 (by decide) (by decide) ?_
            show Steps p.tables e below (T486.setTop (mkF m 181 #[.val (.int p1), .val (.int p2), .val (.int p3), .val (.int p4), .val (.int p5), .val (.int (2 : Int32)), .val (.int v455), .val (.int (((p5.toUInt32 >>> ((3 : Int32) &&& 31).toUInt32).toInt32) &&& (3 : Int32))), .val (.ref b459), .val (.int v491), .unset, .unset] [])) _
            refine XS.iload X486.here hx rfl (hb hby at_181) rfl ?_
            refine XS.iconst X486.here hx rfl (hb hby at_183) ?_
            refine XS.icmpNo X486.here hx rfl (hb hby at_184) rfl (teq (rfl : (2 : Int32) = (2 : Int32))).2 ?_
            refine XS.iloadN X486.here hx rfl (hb hby at_187) rfl ?_
            show Steps p.tables e below (T486.setTop (mkF m 188 #[.val (.int p1), .val (.int p2), .val (.int p3), .val (.int p4), .val (.int p5), .val (.int (2 : Int32)), .val (.int v455), .val (.int (((p5.toUInt32 >>> ((3 : Int32) &&& 31).toUInt32).toInt32) &&& (3 : Int32))), .val (.ref b459), .val (.int v491), .unset, .unset] [(.int p1)])) _
            refine XS.iloadN X486.here hx rfl (hb hby at_188) rfl ?_
            refine st493 _ ?_
            refine XS.goto X493.here hx rfl (pc0 := 192) (pc' := 204) rfl (hb hby at_192) (by decide) (by decide) ?_
            refine XS.istore X493.here hx rfl (hb hby at_204) rfl (l' := #[.val (.int p1), .val (.int p2), .val (.int p3), .val (.int p4), .val (.int p5), .val (.int (2 : Int32)), .val (.int v455), .val (.int (((p5.toUInt32 >>> ((3 : Int32) &&& 31).toUInt32).toInt32) &&& (3 : Int32))), .val (.ref b459), .val (.int v491), .unset, .val (.int (if p1 < p2 then p2 else p1))]) rfl ?_
            show Steps p.tables e below (T493.setTop (mkF m 206 #[.val (.int p1), .val (.int p2), .val (.int p3), .val (.int p4), .val (.int p5), .val (.int (2 : Int32)), .val (.int v455), .val (.int (((p5.toUInt32 >>> ((3 : Int32) &&& 31).toUInt32).toInt32) &&& (3 : Int32))), .val (.ref b459), .val (.int v491), .unset, .val (.int (if p1 < p2 then p2 else p1))] [])) _
            refine XS.goto X493.here hx rfl (pc0 := 206) (pc' := 232) rfl (hb hby at_206) (by decide) (by decide) ?_
            refine XS.iload X493.here hx rfl (hb hby at_232) rfl ?_
            refine XS.iload X493.here hx rfl (hb hby at_234) rfl ?_
            exact kt
          by_cases hc236_494 : (if p1 < p2 then p2 else p1) = v491
          · obtain ⟨cq496, kq496, q496a, q496b, q496c⟩ := isOf hZ e493 (((((((A459.ext E461).keep K463q).keep K465q).keep K467q).keep K472q).keep K486q))
            obtain ⟨_, _, ⟨T496, L496, k496, n496⟩, -, X496, ⟨Lc496, hQ496, l496, y496, z496⟩, st496⟩ := X493.virtualBack hx (y := (⟨"com/example/kawi/kawi/OrderedNames", "endsWith", "(I)Z"⟩ : MethodName)) (z := (⟨"com/example/kawi/kawi/OrderedNames", "endsWith", "(I)Z"⟩ : MethodName)) hown (mvT hZ (wd_43 hw)) (mvT hZ (wd_44 hw)) (notFace_of_selects (args := #[]) (mvT hZ (wd_46 hw))) (mvT hZ (wd_46 hw)) (mvT hZ (wd_45 hw)) (by decide) (backOf (W := 0) (rmew2 l Z a0 hw [] b459 v491 b_472 kb_472 r0_486 r1_486 T486.heap n0 Z487 g486_0 g486_1 g486_2) hZ (wd_47 hw) (wd_2 hw) (by decide) (by decide)) q496a q496c (g := (mkF m 250 #[.val (.int p1), .val (.int p2), .val (.int p3), .val (.int p4), .val (.int p5), .val (.int (2 : Int32)), .val (.int v455), .val (.int (((p5.toUInt32 >>> ((3 : Int32) &&& 31).toUInt32).toInt32) &&& (3 : Int32))), .val (.ref b459), .val (.int v491), .val (.int (1 : Int32)), .val (.int (if p1 < p2 then p2 else p1))] [(.int v491), (.ref b459)])) rfl (by rw [hml]; rfl) (Steps.refl _) (argsL := [(.int v491)]) (rest := []) (lenOf pd__I_Z rfl) rfl (by show 2 * 0 + _ ≤ _; exact Nat.le_of_eq rfl) (hb hby at_250) (fun _ _ => ⟨rfl, e493, (by decide : 4 + 0 ≤ _), (by decide : 11 + 0 ≤ _)⟩)
            dsimp only [Pt.U, Pt.locs, Pt.cells, Pt.slots] at X496 l496 y496 z496 st496 hQ496
            subst l496 y496 z496
            obtain ⟨rfl, N496q, e496⟩ := hQ496
            have N496 := Fr.app N493 N496q
            obtain ⟨fs, hr, hrun, hended, hW, hsame⟩ := X496.leave (v := some (.int (1 : Int32))) (fun h => by rw [Bd.returns] at h; cases h)
            refine ⟨_, _, pre495 _ ?_, hrun, hended, _, _, rfl, ?_, ⟨_, rfl⟩, hW, hsame.mono (by decide) (by decide)⟩
            · show Steps p.tables e below (T493.setTop (mkF m 236 #[.val (.int p1), .val (.int p2), .val (.int p3), .val (.int p4), .val (.int p5), .val (.int (2 : Int32)), .val (.int v455), .val (.int (((p5.toUInt32 >>> ((3 : Int32) &&& 31).toUInt32).toInt32) &&& (3 : Int32))), .val (.ref b459), .val (.int v491), .unset, .val (.int (if p1 < p2 then p2 else p1))] [(.int v491), (.int (if p1 < p2 then p2 else p1))])) _
              refine XS.icmpNo X493.here hx rfl (hb hby at_236) rfl (teq hc236_494).2 ?_
              show Steps p.tables e below (T493.setTop (mkF m 239 #[.val (.int p1), .val (.int p2), .val (.int p3), .val (.int p4), .val (.int p5), .val (.int (2 : Int32)), .val (.int v455), .val (.int (((p5.toUInt32 >>> ((3 : Int32) &&& 31).toUInt32).toInt32) &&& (3 : Int32))), .val (.ref b459), .val (.int v491), .unset, .val (.int (if p1 < p2 then p2 else p1))] [])) _
              refine XS.iconst X493.here hx rfl (hb hby at_239) ?_
              refine XS.goto X493.here hx rfl (pc0 := 240) (pc' := 244) rfl (hb hby at_240) (by decide) (by decide) ?_
              refine XS.istore X493.here hx rfl (hb hby at_244) rfl (l' := #[.val (.int p1), .val (.int p2), .val (.int p3), .val (.int p4), .val (.int p5), .val (.int (2 : Int32)), .val (.int v455), .val (.int (((p5.toUInt32 >>> ((3 : Int32) &&& 31).toUInt32).toInt32) &&& (3 : Int32))), .val (.ref b459), .val (.int v491), .val (.int (1 : Int32)), .val (.int (if p1 < p2 then p2 else p1))]) rfl ?_
              refine XS.aload X493.here hx rfl (hb hby at_246) rfl rfl ?_
              show Steps p.tables e below (T493.setTop (mkF m 248 #[.val (.int p1), .val (.int p2), .val (.int p3), .val (.int p4), .val (.int p5), .val (.int (2 : Int32)), .val (.int v455), .val (.int (((p5.toUInt32 >>> ((3 : Int32) &&& 31).toUInt32).toInt32) &&& (3 : Int32))), .val (.ref b459), .val (.int v491), .val (.int (1 : Int32)), .val (.int (if p1 < p2 then p2 else p1))] [(.ref b459)])) _
              refine XS.iload X493.here hx rfl (hb hby at_248) rfl ?_
              refine st496.trans ?_
              refine XS.iload X496.here hx rfl (hb hby at_253) rfl ?_
              refine XS.icmpNo X496.here hx rfl (hb hby at_255) rfl (teq (by (have e : r1_486 = (if p1 < p2 then p2 else p1) := g486_3; rw [e]; simp only [if_pos hc236_494]))).2 ?_
              show Steps p.tables e below (T496.setTop (mkF m 258 #[.val (.int p1), .val (.int p2), .val (.int p3), .val (.int p4), .val (.int p5), .val (.int (2 : Int32)), .val (.int v455), .val (.int (((p5.toUInt32 >>> ((3 : Int32) &&& 31).toUInt32).toInt32) &&& (3 : Int32))), .val (.ref b459), .val (.int v491), .val (.int (1 : Int32)), .val (.int (if p1 < p2 then p2 else p1))] [])) _
              refine XS.iconst X496.here hx rfl (hb hby at_258) ?_
              refine XS.goto X496.here hx rfl (pc0 := 259) (pc' := 263) rfl (hb hby at_259) (by decide) (by decide) ?_
              exact retN X496 hx (t := .boolean) Bd.returns (by simp) (hb hby at_263) hr
            · show Q_rm0 Z p1 p2 p3 p4 p5 wD wN kN h0 n0 _ T496.heap _
              rw [e496]
              exact ⟨rfl, N496, trivial⟩
          · obtain ⟨cq497, kq497, q497a, q497b, q497c⟩ := isOf hZ e493 (((((((A459.ext E461).keep K463q).keep K465q).keep K467q).keep K472q).keep K486q))
            obtain ⟨_, _, ⟨T497, L497, k497, n497⟩, -, X497, ⟨Lc497, hQ497, l497, y497, z497⟩, st497⟩ := X493.virtualBack hx (y := (⟨"com/example/kawi/kawi/OrderedNames", "endsWith", "(I)Z"⟩ : MethodName)) (z := (⟨"com/example/kawi/kawi/OrderedNames", "endsWith", "(I)Z"⟩ : MethodName)) hown (mvT hZ (wd_43 hw)) (mvT hZ (wd_44 hw)) (notFace_of_selects (args := #[]) (mvT hZ (wd_46 hw))) (mvT hZ (wd_46 hw)) (mvT hZ (wd_45 hw)) (by decide) (backOf (W := 0) (rmew2 l Z a0 hw [] b459 v491 b_472 kb_472 r0_486 r1_486 T486.heap n0 Z487 g486_0 g486_1 g486_2) hZ (wd_47 hw) (wd_2 hw) (by decide) (by decide)) q497a q497c (g := (mkF m 250 #[.val (.int p1), .val (.int p2), .val (.int p3), .val (.int p4), .val (.int p5), .val (.int (2 : Int32)), .val (.int v455), .val (.int (((p5.toUInt32 >>> ((3 : Int32) &&& 31).toUInt32).toInt32) &&& (3 : Int32))), .val (.ref b459), .val (.int v491), .val (.int (0 : Int32)), .val (.int (if p1 < p2 then p2 else p1))] [(.int v491), (.ref b459)])) rfl (by rw [hml]; rfl) (Steps.refl _) (argsL := [(.int v491)]) (rest := []) (lenOf pd__I_Z rfl) rfl (by show 2 * 0 + _ ≤ _; exact Nat.le_of_eq rfl) (hb hby at_250) (fun _ _ => ⟨rfl, e493, (by decide : 4 + 0 ≤ _), (by decide : 11 + 0 ≤ _)⟩)
            dsimp only [Pt.U, Pt.locs, Pt.cells, Pt.slots] at X497 l497 y497 z497 st497 hQ497
            subst l497 y497 z497
            obtain ⟨rfl, N497q, e497⟩ := hQ497
            have N497 := Fr.app N493 N497q
            obtain ⟨fs, hr, hrun, hended, hW, hsame⟩ := X497.leave (v := some (.int (1 : Int32))) (fun h => by rw [Bd.returns] at h; cases h)
            refine ⟨_, _, pre495 _ ?_, hrun, hended, _, _, rfl, ?_, ⟨_, rfl⟩, hW, hsame.mono (by decide) (by decide)⟩
            · show Steps p.tables e below (T493.setTop (mkF m 236 #[.val (.int p1), .val (.int p2), .val (.int p3), .val (.int p4), .val (.int p5), .val (.int (2 : Int32)), .val (.int v455), .val (.int (((p5.toUInt32 >>> ((3 : Int32) &&& 31).toUInt32).toInt32) &&& (3 : Int32))), .val (.ref b459), .val (.int v491), .unset, .val (.int (if p1 < p2 then p2 else p1))] [(.int v491), (.int (if p1 < p2 then p2 else p1))])) _
              refine XS.icmpYes X493.here hx rfl (pc0 := 236) (pc' := 243) rfl (hb hby at_236) rfl (feq hc236_494).2 (by decide) (by decide) ?_
              show Steps p.tables e below (T493.setTop (mkF m 243 #[.val (.int p1), .val (.int p2), .val (.int p3), .val (.int p4), .val (.int p5), .val (.int (2 : Int32)), .val (.int v455), .val (.int (((p5.toUInt32 >>> ((3 : Int32) &&& 31).toUInt32).toInt32) &&& (3 : Int32))), .val (.ref b459), .val (.int v491), .unset, .val (.int (if p1 < p2 then p2 else p1))] [])) _
              refine XS.iconst X493.here hx rfl (hb hby at_243) ?_
              refine XS.istore X493.here hx rfl (hb hby at_244) rfl (l' := #[.val (.int p1), .val (.int p2), .val (.int p3), .val (.int p4), .val (.int p5), .val (.int (2 : Int32)), .val (.int v455), .val (.int (((p5.toUInt32 >>> ((3 : Int32) &&& 31).toUInt32).toInt32) &&& (3 : Int32))), .val (.ref b459), .val (.int v491), .val (.int (0 : Int32)), .val (.int (if p1 < p2 then p2 else p1))]) rfl ?_
              refine XS.aload X493.here hx rfl (hb hby at_246) rfl rfl ?_
              refine XS.iload X493.here hx rfl (hb hby at_248) rfl ?_
              show Steps p.tables e below (T493.setTop (mkF m 250 #[.val (.int p1), .val (.int p2), .val (.int p3), .val (.int p4), .val (.int p5), .val (.int (2 : Int32)), .val (.int v455), .val (.int (((p5.toUInt32 >>> ((3 : Int32) &&& 31).toUInt32).toInt32) &&& (3 : Int32))), .val (.ref b459), .val (.int v491), .val (.int (0 : Int32)), .val (.int (if p1 < p2 then p2 else p1))] [(.int v491), (.ref b459)])) _
              refine st497.trans ?_
              refine XS.iload X497.here hx rfl (hb hby at_253) rfl ?_
              refine XS.icmpNo X497.here hx rfl (hb hby at_255) rfl (teq (by (have e : r1_486 = (if p1 < p2 then p2 else p1) := g486_3; rw [e]; simp only [if_neg hc236_494]))).2 ?_
              refine XS.iconst X497.here hx rfl (hb hby at_258) ?_
              show Steps p.tables e below (T497.setTop (mkF m 259 #[.val (.int p1), .val (.int p2), .val (.int p3), .val (.int p4), .val (.int p5), .val (.int (2 : Int32)), .val (.int v455), .val (.int (((p5.toUInt32 >>> ((3 : Int32) &&& 31).toUInt32).toInt32) &&& (3 : Int32))), .val (.ref b459), .val (.int v491), .val (.int (0 : Int32)), .val (.int (if p1 < p2 then p2 else p1))] [(.int (1 : Int32))])) _
              refine XS.goto X497.here hx rfl (pc0 := 259) (pc' := 263) rfl (hb hby at_259) (by decide) (by decide) ?_
              exact retN X497 hx (t := .boolean) Bd.returns (by simp) (hb hby at_263) hr
            · show Q_rm0 Z p1 p2 p3 p4 p5 wD wN kN h0 n0 _ T497.heap _
              rw [e497]
              exact ⟨rfl, N497, trivial⟩
      · obtain ⟨cq498, kq498, q498a, q498b, q498c⟩ := isOf hZ rfl (((((A459.ext E461).keep K463q).keep K465q).keep K467q))
        obtain ⟨_, _, ⟨T498, L498, k498, n498⟩, -, X498, ⟨Lc498, hQ498, l498, y498, z498⟩, st498⟩ := X467.virtualBack hx (y := (⟨"com/example/kawi/kawi/OrderedNames", "append", "(I)V"⟩ : MethodName)) (z := (⟨"com/example/kawi/kawi/OrderedNames", "append", "(I)V"⟩ : MethodName)) hown (mvT hZ (wd_50 hw)) (mvT hZ (wd_51 hw)) (notFace_of_selects (args := #[]) (mvT hZ (wd_53 hw))) (mvT hZ (wd_53 hw)) (mvT hZ (wd_52 hw)) (by decide) (backOf (W := 0) (rmap11f l Z a0 hw [] b459 p2 ((0 : Int32) + (1 : Int32)) b_467 kb_467 p1 T467.heap n0 Z468 g467_1 g467_2 g467_3 g467_4 ((((A459.ext E461).keep K463q).keep K465q).keep K467q) g_b459 g467_5 (Ne.symm ne_b459_b_467) hc98_470) hZ (wd_54 hw) (wd_2 hw) (by decide) (by decide)) q498a q498c (g := (mkF m 98 #[.val (.int p1), .val (.int p2), .val (.int p3), .val (.int p4), .val (.int p5), .val (.int (2 : Int32)), .val (.int v455), .val (.int (((p5.toUInt32 >>> ((3 : Int32) &&& 31).toUInt32).toInt32) &&& (3 : Int32))), .val (.ref b459), .unset, .unset, .unset] [(.int p2), (.ref b459)])) rfl (by rw [hml]; rfl) (Steps.refl _) (argsL := [(.int p2)]) (rest := []) (lenOf pd__I_V rfl) rfl (by show 2 * 0 + _ ≤ _; exact Nat.le_of_eq rfl) (hb hby at_98) (fun _ _ => ⟨rfl, rfl, (by decide : 3 + 1 ≤ _), (by decide : 9 + 2 ≤ _)⟩)
        dsimp only [Pt.U, Pt.locs, Pt.cells, Pt.slots] at X498 l498 y498 z498 st498 hQ498
        subst l498 y498 z498
        obtain ⟨b_498, kb_498, rfl, N498q, K498q, g498_0, g498_1, g498_2, g498_3, g498_4, g498_5⟩ := hQ498
        have N498 := Fr.app N467 N498q
        have Z499 : n0 ≤ T498.heap.size := Nat.le_trans Z468 K498q.1
        have ne_wN_b_498 : wN ≠ b_498 := Nat.ne_of_lt (Nat.lt_of_lt_of_le ((((((V_wN.ext E459).ext E461).keep K463q (ninS ne_wN_b461 nin0)).keep K465q (ninS ne_wN_b459 nin0)).keep K467q (ninS ne_wN_b459 nin0))).lt g498_0)
        have ne_b459_b_498 : b459 ≠ b_498 := Nat.ne_of_lt (Nat.lt_of_lt_of_le (((((A459.ext E461).keep K463q).keep K465q).keep K467q)).lt g498_0)
        have ne_b461_b_498 : b461 ≠ b_498 := Nat.ne_of_lt (Nat.lt_of_lt_of_le ((((A461.keep K463q).keep K465q).keep K467q)).lt g498_0)
        have ne_b_467_b_498 : b_467 ≠ b_498 := Nat.ne_of_lt (Nat.lt_of_lt_of_le (g467_5).lt g498_0)
        have g500 : n0 ≤ b_498 := Nat.le_trans Z468 g498_0
        have pre502 : ∀ t, Steps p.tables e below (T498.setTop (mkF m 115 #[.val (.int p1), .val (.int p2), .val (.int p3), .val (.int p4), .val (.int p5), .val (.int (2 : Int32)), .val (.int v455), .val (.int (((p5.toUInt32 >>> ((3 : Int32) &&& 31).toUInt32).toInt32) &&& (3 : Int32))), .val (.ref b459), .unset, .unset, .unset] [(.int v455)])) t → Steps p.tables e below (s₁.setTop (entryFrame m #[(.int p1), (.int p2), (.int p3), (.int p4), (.int p5)] maxLocals)) t := by
          intro t kt
          refine pre471 _ ?_
          show Steps p.tables e below (T467.setTop (mkF m 98 #[.val (.int p1), .val (.int p2), .val (.int p3), .val (.int p4), .val (.int p5), .val (.int (2 : Int32)), .val (.int v455), .val (.int (((p5.toUInt32 >>> ((3 : Int32) &&& 31).toUInt32).toInt32) &&& (3 : Int32))), .val (.ref b459), .unset, .unset, .unset] [(.int p2), (.ref b459)])) _
          refine st498.trans ?_
          refine XS.iload X498.here hx rfl (hb hby at_101) rfl ?_
          show Steps p.tables e below (T498.setTop (mkF m 103 #[.val (.int p1), .val (.int p2), .val (.int p3), .val (.int p4), .val (.int p5), .val (.int (2 : Int32)), .val (.int v455), .val (.int (((p5.toUInt32 >>> ((3 : Int32) &&& 31).toUInt32).toInt32) &&& (3 : Int32))), .val (.ref b459), .unset, .unset, .unset] [(.int (2 : Int32))])) _
          refine XS.iconst X498.here hx rfl (hb hby at_103) ?_
          refine XS.icmpYes X498.here hx rfl (pc0 := 104) (pc' := 113) rfl (hb hby at_104) rfl (tlt (by decide)).1 (by decide) (by decide) ?_
          refine XS.iload X498.here hx rfl (hb hby at_113) rfl ?_
          exact kt
        by_cases hc115_501 : v455 = (0 : Int32)
        · obtain ⟨v506, hv506⟩ : ∃ z : Int32, z = (if (((p5.toUInt32 >>> ((3 : Int32) &&& 31).toUInt32).toInt32) &&& (3 : Int32)) = (0 : Int32) then p4 else (if (((p5.toUInt32 >>> ((3 : Int32) &&& 31).toUInt32).toInt32) &&& (3 : Int32)) = (1 : Int32) then p1 else (if (((p5.toUInt32 >>> ((3 : Int32) &&& 31).toUInt32).toInt32) &&& (3 : Int32)) = (2 : Int32) then p2 else p3))) := ⟨_, rfl⟩
          have pre507 : ∀ t, Steps p.tables e below (T498.setTop (mkF m 153 #[.val (.int p1), .val (.int p2), .val (.int p3), .val (.int p4), .val (.int p5), .val (.int (2 : Int32)), .val (.int v455), .val (.int (((p5.toUInt32 >>> ((3 : Int32) &&& 31).toUInt32).toInt32) &&& (3 : Int32))), .val (.ref b459), .unset, .unset, .unset] [(.int v506)])) t → Steps p.tables e below (s₁.setTop (entryFrame m #[(.int p1), (.int p2), (.int p3), (.int p4), (.int p5)] maxLocals)) t := by
            intro t kt
            refine pre502 _ ?_
            rw [hv506] at kt
            show Steps p.tables e below (T498.setTop (mkF m 115 #[.val (.int p1), .val (.int p2), .val (.int p3), .val (.int p4), .val (.int p5), .val (.int (2 : Int32)), .val (.int v455), .val (.int (((p5.toUInt32 >>> ((3 : Int32) &&& 31).toUInt32).toInt32) &&& (3 : Int32))), .val (.ref b459), .unset, .unset, .unset] [(.int v455)])) _
            refine XS.ifYes X498.here hx rfl (pc0 := 115) (pc' := 123) rfl (hb hby at_115) rfl ((if0 _ _).trans (teq hc115_501).1) (by decide) (by decide) ?_
            show Steps p.tables e below (T498.setTop (mkF m 123 #[.val (.int p1), .val (.int p2), .val (.int p3), .val (.int p4), .val (.int p5), .val (.int (2 : Int32)), .val (.int v455), .val (.int (((p5.toUInt32 >>> ((3 : Int32) &&& 31).toUInt32).toInt32) &&& (3 : Int32))), .val (.ref b459), .unset, .unset, .unset] [])) _
            refine XS.iload X498.here hx rfl (hb hby at_123) rfl ?_
            by_cases hc125_503 : (((p5.toUInt32 >>> ((3 : Int32) &&& 31).toUInt32).toInt32) &&& (3 : Int32)) = (0 : Int32)
            · try simp only [if_pos hc125_503] at kt
              refine XS.ifNo X498.here hx rfl (hb hby at_125) rfl ((if0 _ _).trans (teq hc125_503).2) ?_
              refine XS.iloadN X498.here hx rfl (hb hby at_128) rfl ?_
              refine XS.goto X498.here hx rfl (pc0 := 129) (pc' := 153) rfl (hb hby at_129) (by decide) (by decide) ?_
              show Steps p.tables e below (T498.setTop (mkF m 153 #[.val (.int p1), .val (.int p2), .val (.int p3), .val (.int p4), .val (.int p5), .val (.int (2 : Int32)), .val (.int v455), .val (.int (((p5.toUInt32 >>> ((3 : Int32) &&& 31).toUInt32).toInt32) &&& (3 : Int32))), .val (.ref b459), .unset, .unset, .unset] [(.int p4)])) _
              exact kt
            · try simp only [if_neg hc125_503] at kt
              refine XS.ifYes X498.here hx rfl (pc0 := 125) (pc' := 132) rfl (hb hby at_125) rfl ((if0 _ _).trans (feq hc125_503).2) (by decide) (by decide) ?_
              refine XS.iload X498.here hx rfl (hb hby at_132) rfl ?_
              refine XS.iconst X498.here hx rfl (hb hby at_134) ?_
              show Steps p.tables e below (T498.setTop (mkF m 135 #[.val (.int p1), .val (.int p2), .val (.int p3), .val (.int p4), .val (.int p5), .val (.int (2 : Int32)), .val (.int v455), .val (.int (((p5.toUInt32 >>> ((3 : Int32) &&& 31).toUInt32).toInt32) &&& (3 : Int32))), .val (.ref b459), .unset, .unset, .unset] [(.int (1 : Int32)), (.int (((p5.toUInt32 >>> ((3 : Int32) &&& 31).toUInt32).toInt32) &&& (3 : Int32)))])) _
              by_cases hc135_504 : (((p5.toUInt32 >>> ((3 : Int32) &&& 31).toUInt32).toInt32) &&& (3 : Int32)) = (1 : Int32)
              · try simp only [if_pos hc135_504] at kt
                refine XS.icmpNo X498.here hx rfl (hb hby at_135) rfl (teq hc135_504).2 ?_
                refine XS.iloadN X498.here hx rfl (hb hby at_138) rfl ?_
                refine XS.goto X498.here hx rfl (pc0 := 139) (pc' := 153) rfl (hb hby at_139) (by decide) (by decide) ?_
                exact kt
              · try simp only [if_neg hc135_504] at kt
                refine XS.icmpYes X498.here hx rfl (pc0 := 135) (pc' := 142) rfl (hb hby at_135) rfl (feq hc135_504).2 (by decide) (by decide) ?_
                refine XS.iload X498.here hx rfl (hb hby at_142) rfl ?_
                refine XS.iconst X498.here hx rfl (hb hby at_144) ?_
                by_cases hc145_505 : (((p5.toUInt32 >>> ((3 : Int32) &&& 31).toUInt32).toInt32) &&& (3 : Int32)) = (2 : Int32)
                · try simp only [if_pos hc145_505] at kt
                  refine XS.icmpNo X498.here hx rfl (hb hby at_145) rfl (teq hc145_505).2 ?_
                  show Steps p.tables e below (T498.setTop (mkF m 148 #[.val (.int p1), .val (.int p2), .val (.int p3), .val (.int p4), .val (.int p5), .val (.int (2 : Int32)), .val (.int v455), .val (.int (((p5.toUInt32 >>> ((3 : Int32) &&& 31).toUInt32).toInt32) &&& (3 : Int32))), .val (.ref b459), .unset, .unset, .unset] [])) _
                  refine XS.iloadN X498.here hx rfl (hb hby at_148) rfl ?_
                  refine XS.goto X498.here hx rfl (pc0 := 149) (pc' := 153) rfl (hb hby at_149) (by decide) (by decide) ?_
                  exact kt
                · try simp only [if_neg hc145_505] at kt
                  refine XS.icmpYes X498.here hx rfl (pc0 := 145) (pc' := 152) rfl (hb hby at_145) rfl (feq hc145_505).2 (by decide) (by decide) ?_
                  show Steps p.tables e below (T498.setTop (mkF m 152 #[.val (.int p1), .val (.int p2), .val (.int p3), .val (.int p4), .val (.int p5), .val (.int (2 : Int32)), .val (.int v455), .val (.int (((p5.toUInt32 >>> ((3 : Int32) &&& 31).toUInt32).toInt32) &&& (3 : Int32))), .val (.ref b459), .unset, .unset, .unset] [])) _
                  refine XS.iloadN X498.here hx rfl (hb hby at_152) rfl ?_
                  exact kt
          have pre509 : ∀ t, Steps p.tables e below (T498.setTop (mkF m 236 #[.val (.int p1), .val (.int p2), .val (.int p3), .val (.int p4), .val (.int p5), .val (.int (2 : Int32)), .val (.int v455), .val (.int (((p5.toUInt32 >>> ((3 : Int32) &&& 31).toUInt32).toInt32) &&& (3 : Int32))), .val (.ref b459), .val (.int v506), .unset, .val (.int p2)] [(.int v506), (.int p2)])) t → Steps p.tables e below (s₁.setTop (entryFrame m #[(.int p1), (.int p2), (.int p3), (.int p4), (.int p5)] maxLocals)) t := by
            intro t kt
            refine pre507 _ ?_
            show Steps p.tables e below (T498.setTop (mkF m 153 #[.val (.int p1), .val (.int p2), .val (.int p3), .val (.int p4), .val (.int p5), .val (.int (2 : Int32)), .val (.int v455), .val (.int (((p5.toUInt32 >>> ((3 : Int32) &&& 31).toUInt32).toInt32) &&& (3 : Int32))), .val (.ref b459), .unset, .unset, .unset] [(.int v506)])) _
            refine XS.istore X498.here hx rfl (hb hby at_153) rfl (l' := #[.val (.int p1), .val (.int p2), .val (.int p3), .val (.int p4), .val (.int p5), .val (.int (2 : Int32)), .val (.int v455), .val (.int (((p5.toUInt32 >>> ((3 : Int32) &&& 31).toUInt32).toInt32) &&& (3 : Int32))), .val (.ref b459), .val (.int v506), .unset, .unset]) rfl ?_
            refine XS.iload X498.here hx rfl (hb hby at_155) rfl ?_
            refine XS.ifYes X498.here hx rfl (pc0 := 157) (pc' := 166) rfl (hb hby at_157) rfl ((if0 _ _).trans (feq (by decide)).2) (by decide) (by decide) ?_
            refine XS.iload X498.here hx rfl (hb hby at_166) rfl ?_
            show Steps p.tables e below (T498.setTop (mkF m 168 #[.val (.int p1), .val (.int p2), .val (.int p3), .val (.int p4), .val (.int p5), .val (.int (2 : Int32)), .val (.int v455), .val (.int (((p5.toUInt32 >>> ((3 : Int32) &&& 31).toUInt32).toInt32) &&& (3 : Int32))), .val (.ref b459), .val (.int v506), .unset, .unset] [(.int v455)])) _
            refine XS.ifYes X498.here hx rfl (pc0 := 168) (pc' := 209) rfl (hb hby at_168) rfl ((if0 _ _).trans (teq hc115_501).1) (by decide) (by decide) ?_
            refine XS.iload X498.here hx rfl (hb hby at_209) rfl ?_
            refine XS.iconst X498.here hx rfl (hb hby at_211) ?_
            refine XS.icmpYes X498.here hx rfl (pc0 := 212) (pc' := 219) rfl (hb hby at_212) rfl (feq (by decide)).2 (by decide) (by decide) ?_
            show Steps p.tables e below (T498.setTop (mkF m 219 #[.val (.int p1), .val (.int p2), .val (.int p3), .val (.int p4), .val (.int p5), .val (.int (2 : Int32)), .val (.int v455), .val (.int (((p5.toUInt32 >>> ((3 : Int32) &&& 31).toUInt32).toInt32) &&& (3 : Int32))), .val (.ref b459), .val (.int v506), .unset, .unset] [])) _
            refine XS.iload X498.here hx rfl (hb hby at_219) rfl ?_
            refine XS.iconst X498.here hx rfl (hb hby at_221) ?_
            refine XS.icmpNo X498.here hx rfl (hb hby at_222) rfl (teq (rfl : (2 : Int32) = (2 : Int32))).2 ?_
            refine XS.iloadN X498.here hx rfl (hb hby at_225) rfl ?_
            show Steps p.tables e below (T498.setTop (mkF m 226 #[.val (.int p1), .val (.int p2), .val (.int p3), .val (.int p4), .val (.int p5), .val (.int (2 : Int32)), .val (.int v455), .val (.int (((p5.toUInt32 >>> ((3 : Int32) &&& 31).toUInt32).toInt32) &&& (3 : Int32))), .val (.ref b459), .val (.int v506), .unset, .unset] [(.int p2)])) _
            refine XS.goto X498.here hx rfl (pc0 := 226) (pc' := 230) rfl (hb hby at_226) (by decide) (by decide) ?_
            refine XS.istore X498.here hx rfl (hb hby at_230) rfl (l' := #[.val (.int p1), .val (.int p2), .val (.int p3), .val (.int p4), .val (.int p5), .val (.int (2 : Int32)), .val (.int v455), .val (.int (((p5.toUInt32 >>> ((3 : Int32) &&& 31).toUInt32).toInt32) &&& (3 : Int32))), .val (.ref b459), .val (.int v506), .unset, .val (.int p2)]) rfl ?_
            refine XS.iload X498.here hx rfl (hb hby at_232) rfl ?_
            refine XS.iload X498.here hx rfl (hb hby at_234) rfl ?_
            show Steps p.tables e below (T498.setTop (mkF m 236 #[.val (.int p1), .val (.int p2), .val (.int p3), .val (.int p4), .val (.int p5), .val (.int (2 : Int32)), .val (.int v455), .val (.int (((p5.toUInt32 >>> ((3 : Int32) &&& 31).toUInt32).toInt32) &&& (3 : Int32))), .val (.ref b459), .val (.int v506), .unset, .val (.int p2)] [(.int v506), (.int p2)])) _
            exact kt
          by_cases hc236_508 : p2 = v506
          · obtain ⟨cq510, kq510, q510a, q510b, q510c⟩ := isOf hZ rfl ((((((A459.ext E461).keep K463q).keep K465q).keep K467q).keep K498q))
            obtain ⟨_, _, ⟨T510, L510, k510, n510⟩, -, X510, ⟨Lc510, hQ510, l510, y510, z510⟩, st510⟩ := X498.virtualBack hx (y := (⟨"com/example/kawi/kawi/OrderedNames", "endsWith", "(I)Z"⟩ : MethodName)) (z := (⟨"com/example/kawi/kawi/OrderedNames", "endsWith", "(I)Z"⟩ : MethodName)) hown (mvT hZ (wd_43 hw)) (mvT hZ (wd_44 hw)) (notFace_of_selects (args := #[]) (mvT hZ (wd_46 hw))) (mvT hZ (wd_46 hw)) (mvT hZ (wd_45 hw)) (by decide) (backOf (W := 0) (rmew2 l Z a0 hw [] b459 v506 b_498 kb_498 p1 p2 T498.heap n0 Z499 g498_1 g498_3 g498_5) hZ (wd_47 hw) (wd_2 hw) (by decide) (by decide)) q510a q510c (g := (mkF m 250 #[.val (.int p1), .val (.int p2), .val (.int p3), .val (.int p4), .val (.int p5), .val (.int (2 : Int32)), .val (.int v455), .val (.int (((p5.toUInt32 >>> ((3 : Int32) &&& 31).toUInt32).toInt32) &&& (3 : Int32))), .val (.ref b459), .val (.int v506), .val (.int (1 : Int32)), .val (.int p2)] [(.int v506), (.ref b459)])) rfl (by rw [hml]; rfl) (Steps.refl _) (argsL := [(.int v506)]) (rest := []) (lenOf pd__I_Z rfl) rfl (by show 2 * 0 + _ ≤ _; exact Nat.le_of_eq rfl) (hb hby at_250) (fun _ _ => ⟨rfl, rfl, (by decide : 4 + 0 ≤ _), (by decide : 11 + 0 ≤ _)⟩)
            dsimp only [Pt.U, Pt.locs, Pt.cells, Pt.slots] at X510 l510 y510 z510 st510 hQ510
            subst l510 y510 z510
            obtain ⟨rfl, N510q, e510⟩ := hQ510
            have N510 := Fr.app N498 N510q
            obtain ⟨fs, hr, hrun, hended, hW, hsame⟩ := X510.leave (v := some (.int (1 : Int32))) (fun h => by rw [Bd.returns] at h; cases h)
            refine ⟨_, _, pre509 _ ?_, hrun, hended, _, _, rfl, ?_, ⟨_, rfl⟩, hW, hsame.mono (by decide) (by decide)⟩
            · show Steps p.tables e below (T498.setTop (mkF m 236 #[.val (.int p1), .val (.int p2), .val (.int p3), .val (.int p4), .val (.int p5), .val (.int (2 : Int32)), .val (.int v455), .val (.int (((p5.toUInt32 >>> ((3 : Int32) &&& 31).toUInt32).toInt32) &&& (3 : Int32))), .val (.ref b459), .val (.int v506), .unset, .val (.int p2)] [(.int v506), (.int p2)])) _
              refine XS.icmpNo X498.here hx rfl (hb hby at_236) rfl (teq hc236_508).2 ?_
              refine XS.iconst X498.here hx rfl (hb hby at_239) ?_
              refine XS.goto X498.here hx rfl (pc0 := 240) (pc' := 244) rfl (hb hby at_240) (by decide) (by decide) ?_
              refine XS.istore X498.here hx rfl (hb hby at_244) rfl (l' := #[.val (.int p1), .val (.int p2), .val (.int p3), .val (.int p4), .val (.int p5), .val (.int (2 : Int32)), .val (.int v455), .val (.int (((p5.toUInt32 >>> ((3 : Int32) &&& 31).toUInt32).toInt32) &&& (3 : Int32))), .val (.ref b459), .val (.int v506), .val (.int (1 : Int32)), .val (.int p2)]) rfl ?_
              show Steps p.tables e below (T498.setTop (mkF m 246 #[.val (.int p1), .val (.int p2), .val (.int p3), .val (.int p4), .val (.int p5), .val (.int (2 : Int32)), .val (.int v455), .val (.int (((p5.toUInt32 >>> ((3 : Int32) &&& 31).toUInt32).toInt32) &&& (3 : Int32))), .val (.ref b459), .val (.int v506), .val (.int (1 : Int32)), .val (.int p2)] [])) _
              refine XS.aload X498.here hx rfl (hb hby at_246) rfl rfl ?_
              refine XS.iload X498.here hx rfl (hb hby at_248) rfl ?_
              refine st510.trans ?_
              refine XS.iload X510.here hx rfl (hb hby at_253) rfl ?_
              show Steps p.tables e below (T510.setTop (mkF m 255 #[.val (.int p1), .val (.int p2), .val (.int p3), .val (.int p4), .val (.int p5), .val (.int (2 : Int32)), .val (.int v455), .val (.int (((p5.toUInt32 >>> ((3 : Int32) &&& 31).toUInt32).toInt32) &&& (3 : Int32))), .val (.ref b459), .val (.int v506), .val (.int (1 : Int32)), .val (.int p2)] [(.int (1 : Int32)), (.int (if p2 = v506 then (1 : Int32) else (0 : Int32)))])) _
              refine XS.icmpNo X510.here hx rfl (hb hby at_255) rfl (teq (by simp only [if_pos hc236_508])).2 ?_
              refine XS.iconst X510.here hx rfl (hb hby at_258) ?_
              refine XS.goto X510.here hx rfl (pc0 := 259) (pc' := 263) rfl (hb hby at_259) (by decide) (by decide) ?_
              exact retN X510 hx (t := .boolean) Bd.returns (by simp) (hb hby at_263) hr
            · show Q_rm0 Z p1 p2 p3 p4 p5 wD wN kN h0 n0 _ T510.heap _
              rw [e510]
              exact ⟨rfl, N510, trivial⟩
          · obtain ⟨cq511, kq511, q511a, q511b, q511c⟩ := isOf hZ rfl ((((((A459.ext E461).keep K463q).keep K465q).keep K467q).keep K498q))
            obtain ⟨_, _, ⟨T511, L511, k511, n511⟩, -, X511, ⟨Lc511, hQ511, l511, y511, z511⟩, st511⟩ := X498.virtualBack hx (y := (⟨"com/example/kawi/kawi/OrderedNames", "endsWith", "(I)Z"⟩ : MethodName)) (z := (⟨"com/example/kawi/kawi/OrderedNames", "endsWith", "(I)Z"⟩ : MethodName)) hown (mvT hZ (wd_43 hw)) (mvT hZ (wd_44 hw)) (notFace_of_selects (args := #[]) (mvT hZ (wd_46 hw))) (mvT hZ (wd_46 hw)) (mvT hZ (wd_45 hw)) (by decide) (backOf (W := 0) (rmew2 l Z a0 hw [] b459 v506 b_498 kb_498 p1 p2 T498.heap n0 Z499 g498_1 g498_3 g498_5) hZ (wd_47 hw) (wd_2 hw) (by decide) (by decide)) q511a q511c (g := (mkF m 250 #[.val (.int p1), .val (.int p2), .val (.int p3), .val (.int p4), .val (.int p5), .val (.int (2 : Int32)), .val (.int v455), .val (.int (((p5.toUInt32 >>> ((3 : Int32) &&& 31).toUInt32).toInt32) &&& (3 : Int32))), .val (.ref b459), .val (.int v506), .val (.int (0 : Int32)), .val (.int p2)] [(.int v506), (.ref b459)])) rfl (by rw [hml]; rfl) (Steps.refl _) (argsL := [(.int v506)]) (rest := []) (lenOf pd__I_Z rfl) rfl (by show 2 * 0 + _ ≤ _; exact Nat.le_of_eq rfl) (hb hby at_250) (fun _ _ => ⟨rfl, rfl, (by decide : 4 + 0 ≤ _), (by decide : 11 + 0 ≤ _)⟩)
            dsimp only [Pt.U, Pt.locs, Pt.cells, Pt.slots] at X511 l511 y511 z511 st511 hQ511
            subst l511 y511 z511
            obtain ⟨rfl, N511q, e511⟩ := hQ511
            have N511 := Fr.app N498 N511q
            obtain ⟨fs, hr, hrun, hended, hW, hsame⟩ := X511.leave (v := some (.int (1 : Int32))) (fun h => by rw [Bd.returns] at h; cases h)
            refine ⟨_, _, pre509 _ ?_, hrun, hended, _, _, rfl, ?_, ⟨_, rfl⟩, hW, hsame.mono (by decide) (by decide)⟩
            · show Steps p.tables e below (T498.setTop (mkF m 236 #[.val (.int p1), .val (.int p2), .val (.int p3), .val (.int p4), .val (.int p5), .val (.int (2 : Int32)), .val (.int v455), .val (.int (((p5.toUInt32 >>> ((3 : Int32) &&& 31).toUInt32).toInt32) &&& (3 : Int32))), .val (.ref b459), .val (.int v506), .unset, .val (.int p2)] [(.int v506), (.int p2)])) _
              refine XS.icmpYes X498.here hx rfl (pc0 := 236) (pc' := 243) rfl (hb hby at_236) rfl (feq hc236_508).2 (by decide) (by decide) ?_
              refine XS.iconst X498.here hx rfl (hb hby at_243) ?_
              refine XS.istore X498.here hx rfl (hb hby at_244) rfl (l' := #[.val (.int p1), .val (.int p2), .val (.int p3), .val (.int p4), .val (.int p5), .val (.int (2 : Int32)), .val (.int v455), .val (.int (((p5.toUInt32 >>> ((3 : Int32) &&& 31).toUInt32).toInt32) &&& (3 : Int32))), .val (.ref b459), .val (.int v506), .val (.int (0 : Int32)), .val (.int p2)]) rfl ?_
              refine XS.aload X498.here hx rfl (hb hby at_246) rfl rfl ?_
              show Steps p.tables e below (T498.setTop (mkF m 248 #[.val (.int p1), .val (.int p2), .val (.int p3), .val (.int p4), .val (.int p5), .val (.int (2 : Int32)), .val (.int v455), .val (.int (((p5.toUInt32 >>> ((3 : Int32) &&& 31).toUInt32).toInt32) &&& (3 : Int32))), .val (.ref b459), .val (.int v506), .val (.int (0 : Int32)), .val (.int p2)] [(.ref b459)])) _
              refine XS.iload X498.here hx rfl (hb hby at_248) rfl ?_
              refine st511.trans ?_
              refine XS.iload X511.here hx rfl (hb hby at_253) rfl ?_
              refine XS.icmpNo X511.here hx rfl (hb hby at_255) rfl (teq (by simp only [if_neg hc236_508])).2 ?_
              show Steps p.tables e below (T511.setTop (mkF m 258 #[.val (.int p1), .val (.int p2), .val (.int p3), .val (.int p4), .val (.int p5), .val (.int (2 : Int32)), .val (.int v455), .val (.int (((p5.toUInt32 >>> ((3 : Int32) &&& 31).toUInt32).toInt32) &&& (3 : Int32))), .val (.ref b459), .val (.int v506), .val (.int (0 : Int32)), .val (.int p2)] [])) _
              refine XS.iconst X511.here hx rfl (hb hby at_258) ?_
              refine XS.goto X511.here hx rfl (pc0 := 259) (pc' := 263) rfl (hb hby at_259) (by decide) (by decide) ?_
              exact retN X511 hx (t := .boolean) Bd.returns (by simp) (hb hby at_263) hr
            · show Q_rm0 Z p1 p2 p3 p4 p5 wD wN kN h0 n0 _ T511.heap _
              rw [e511]
              exact ⟨rfl, N511, trivial⟩
        · obtain ⟨cq512, kq512, q512a, q512b, q512c⟩ := isOf hZ rfl ((((((A459.ext E461).keep K463q).keep K465q).keep K467q).keep K498q))
          obtain ⟨_, _, ⟨T512, L512, k512, n512⟩, -, X512, ⟨Lc512, hQ512, l512, y512, z512⟩, st512⟩ := X498.virtualBack hx (y := (⟨"com/example/kawi/kawi/OrderedNames", "order", "()V"⟩ : MethodName)) (z := (⟨"com/example/kawi/kawi/OrderedNames", "order", "()V"⟩ : MethodName)) hown (mvT hZ (wd_73 hw)) (mvT hZ (wd_74 hw)) (notFace_of_selects (args := #[]) (mvT hZ (wd_76 hw))) (mvT hZ (wd_76 hw)) (mvT hZ (wd_75 hw)) (by decide) (backOf (W := 0) (rmo1 l Z a0 hw [] b459 T498.heap n0 Z499 g498_2) hZ (wd_77 hw) (wd_2 hw) (by decide) (by decide)) q512a q512c (g := (mkF m 120 #[.val (.int p1), .val (.int p2), .val (.int p3), .val (.int p4), .val (.int p5), .val (.int (2 : Int32)), .val (.int v455), .val (.int (((p5.toUInt32 >>> ((3 : Int32) &&& 31).toUInt32).toInt32) &&& (3 : Int32))), .val (.ref b459), .unset, .unset, .unset] [(.ref b459)])) rfl (by rw [hml]; rfl) (Steps.refl _) (argsL := []) (rest := []) (lenOf pd___V rfl) rfl (by show 2 * 0 + _ ≤ _; exact Nat.le_of_eq rfl) (hb hby at_120) (fun _ _ => ⟨rfl, rfl, (by decide : 4 + 0 ≤ _), (by decide : 11 + 0 ≤ _)⟩)
          dsimp only [Pt.U, Pt.locs, Pt.cells, Pt.slots] at X512 l512 y512 z512 st512 hQ512
          subst l512 y512 z512
          obtain ⟨rfl, N512q, e512⟩ := hQ512
          have N512 := Fr.app N498 N512q
          obtain ⟨v516, hv516⟩ : ∃ z : Int32, z = (if (((p5.toUInt32 >>> ((3 : Int32) &&& 31).toUInt32).toInt32) &&& (3 : Int32)) = (0 : Int32) then p4 else (if (((p5.toUInt32 >>> ((3 : Int32) &&& 31).toUInt32).toInt32) &&& (3 : Int32)) = (1 : Int32) then p1 else (if (((p5.toUInt32 >>> ((3 : Int32) &&& 31).toUInt32).toInt32) &&& (3 : Int32)) = (2 : Int32) then p2 else p3))) := ⟨_, rfl⟩
          have pre517 : ∀ t, Steps p.tables e below (T512.setTop (mkF m 153 #[.val (.int p1), .val (.int p2), .val (.int p3), .val (.int p4), .val (.int p5), .val (.int (2 : Int32)), .val (.int v455), .val (.int (((p5.toUInt32 >>> ((3 : Int32) &&& 31).toUInt32).toInt32) &&& (3 : Int32))), .val (.ref b459), .unset, .unset, .unset] [(.int v516)])) t → Steps p.tables e below (s₁.setTop (entryFrame m #[(.int p1), (.int p2), (.int p3), (.int p4), (.int p5)] maxLocals)) t := by
            intro t kt
            refine pre502 _ ?_
            rw [hv516] at kt
            show Steps p.tables e below (T498.setTop (mkF m 115 #[.val (.int p1), .val (.int p2), .val (.int p3), .val (.int p4), .val (.int p5), .val (.int (2 : Int32)), .val (.int v455), .val (.int (((p5.toUInt32 >>> ((3 : Int32) &&& 31).toUInt32).toInt32) &&& (3 : Int32))), .val (.ref b459), .unset, .unset, .unset] [(.int v455)])) _
            refine XS.ifNo X498.here hx rfl (hb hby at_115) rfl ((if0 _ _).trans (feq hc115_501).1) ?_
            show Steps p.tables e below (T498.setTop (mkF m 118 #[.val (.int p1), .val (.int p2), .val (.int p3), .val (.int p4), .val (.int p5), .val (.int (2 : Int32)), .val (.int v455), .val (.int (((p5.toUInt32 >>> ((3 : Int32) &&& 31).toUInt32).toInt32) &&& (3 : Int32))), .val (.ref b459), .unset, .unset, .unset] [])) _
            refine XS.aload X498.here hx rfl (hb hby at_118) rfl rfl ?_
            refine st512.trans ?_
            refine XS.iload X512.here hx rfl (hb hby at_123) rfl ?_
            by_cases hc125_513 : (((p5.toUInt32 >>> ((3 : Int32) &&& 31).toUInt32).toInt32) &&& (3 : Int32)) = (0 : Int32)
            · try simp only [if_pos hc125_513] at kt
              refine XS.ifNo X512.here hx rfl (hb hby at_125) rfl ((if0 _ _).trans (teq hc125_513).2) ?_
              show Steps p.tables e below (T512.setTop (mkF m 128 #[.val (.int p1), .val (.int p2), .val (.int p3), .val (.int p4), .val (.int p5), .val (.int (2 : Int32)), .val (.int v455), .val (.int (((p5.toUInt32 >>> ((3 : Int32) &&& 31).toUInt32).toInt32) &&& (3 : Int32))), .val (.ref b459), .unset, .unset, .unset] [])) _
              refine XS.iloadN X512.here hx rfl (hb hby at_128) rfl ?_
              refine XS.goto X512.here hx rfl (pc0 := 129) (pc' := 153) rfl (hb hby at_129) (by decide) (by decide) ?_
              exact kt
            · try simp only [if_neg hc125_513] at kt
              refine XS.ifYes X512.here hx rfl (pc0 := 125) (pc' := 132) rfl (hb hby at_125) rfl ((if0 _ _).trans (feq hc125_513).2) (by decide) (by decide) ?_
              show Steps p.tables e below (T512.setTop (mkF m 132 #[.val (.int p1), .val (.int p2), .val (.int p3), .val (.int p4), .val (.int p5), .val (.int (2 : Int32)), .val (.int v455), .val (.int (((p5.toUInt32 >>> ((3 : Int32) &&& 31).toUInt32).toInt32) &&& (3 : Int32))), .val (.ref b459), .unset, .unset, .unset] [])) _
              refine XS.iload X512.here hx rfl (hb hby at_132) rfl ?_
              refine XS.iconst X512.here hx rfl (hb hby at_134) ?_
              by_cases hc135_514 : (((p5.toUInt32 >>> ((3 : Int32) &&& 31).toUInt32).toInt32) &&& (3 : Int32)) = (1 : Int32)
              · try simp only [if_pos hc135_514] at kt
                refine XS.icmpNo X512.here hx rfl (hb hby at_135) rfl (teq hc135_514).2 ?_
                refine XS.iloadN X512.here hx rfl (hb hby at_138) rfl ?_
                show Steps p.tables e below (T512.setTop (mkF m 139 #[.val (.int p1), .val (.int p2), .val (.int p3), .val (.int p4), .val (.int p5), .val (.int (2 : Int32)), .val (.int v455), .val (.int (((p5.toUInt32 >>> ((3 : Int32) &&& 31).toUInt32).toInt32) &&& (3 : Int32))), .val (.ref b459), .unset, .unset, .unset] [(.int p1)])) _
                refine XS.goto X512.here hx rfl (pc0 := 139) (pc' := 153) rfl (hb hby at_139) (by decide) (by decide) ?_
                exact kt
              · try simp only [if_neg hc135_514] at kt
                refine XS.icmpYes X512.here hx rfl (pc0 := 135) (pc' := 142) rfl (hb hby at_135) rfl (feq hc135_514).2 (by decide) (by decide) ?_
                refine XS.iload X512.here hx rfl (hb hby at_142) rfl ?_
                show Steps p.tables e below (T512.setTop (mkF m 144 #[.val (.int p1), .val (.int p2), .val (.int p3), .val (.int p4), .val (.int p5), .val (.int (2 : Int32)), .val (.int v455), .val (.int (((p5.toUInt32 >>> ((3 : Int32) &&& 31).toUInt32).toInt32) &&& (3 : Int32))), .val (.ref b459), .unset, .unset, .unset] [(.int (((p5.toUInt32 >>> ((3 : Int32) &&& 31).toUInt32).toInt32) &&& (3 : Int32)))])) _
                refine XS.iconst X512.here hx rfl (hb hby at_144) ?_
                by_cases hc145_515 : (((p5.toUInt32 >>> ((3 : Int32) &&& 31).toUInt32).toInt32) &&& (3 : Int32)) = (2 : Int32)
                · try simp only [if_pos hc145_515] at kt
                  refine XS.icmpNo X512.here hx rfl (hb hby at_145) rfl (teq hc145_515).2 ?_
                  refine XS.iloadN X512.here hx rfl (hb hby at_148) rfl ?_
                  refine XS.goto X512.here hx rfl (pc0 := 149) (pc' := 153) rfl (hb hby at_149) (by decide) (by decide) ?_
                  show Steps p.tables e below (T512.setTop (mkF m 153 #[.val (.int p1), .val (.int p2), .val (.int p3), .val (.int p4), .val (.int p5), .val (.int (2 : Int32)), .val (.int v455), .val (.int (((p5.toUInt32 >>> ((3 : Int32) &&& 31).toUInt32).toInt32) &&& (3 : Int32))), .val (.ref b459), .unset, .unset, .unset] [(.int p2)])) _
                  exact kt
                · try simp only [if_neg hc145_515] at kt
                  refine XS.icmpYes X512.here hx rfl (pc0 := 145) (pc' := 152) rfl (hb hby at_145) rfl (feq hc145_515).2 (by decide) (by decide) ?_
                  refine XS.iloadN X512.here hx rfl (hb hby at_152) rfl ?_
                  exact kt
          obtain ⟨_, _, ⟨T518, L518, k518, n518⟩, -, X518, ⟨Lc518, hQ518, l518, y518, z518⟩, st518⟩ := Jvm.LawKit.callS X512 hx (y := (⟨"java/lang/Math", "max", "(II)I"⟩ : MethodName)) hown (mvT hZ (wd_78 hw)) (mvT hZ (wd_56 hw)) (mvT hZ (wd_57 hw)) (mvT hZ (wd_58 hw)) (by decide) (backOf (W := 0) (rm8 l Z a0 hw [] p1 p2 T498.heap n0 Z499) hZ (wd_58 hw) (wd_57 hw) (by decide) (by decide)) (g := (mkF m 189 #[.val (.int p1), .val (.int p2), .val (.int p3), .val (.int p4), .val (.int p5), .val (.int (2 : Int32)), .val (.int v455), .val (.int (((p5.toUInt32 >>> ((3 : Int32) &&& 31).toUInt32).toInt32) &&& (3 : Int32))), .val (.ref b459), .val (.int v516), .unset, .unset] [(.int p2), (.int p1)])) rfl (by rw [hml]; rfl) (argsL := [(.int p1), (.int p2)]) (rest := []) (lenOf pd__II_I rfl) rfl (by show 2 * 0 + _ ≤ _; exact Nat.le_of_eq rfl) (hb hby at_189) (fun _ _ => ⟨rfl, e512, (by decide : 4 + 0 ≤ _), (by decide : 11 + 0 ≤ _)⟩)
          dsimp only [Pt.U, Pt.locs, Pt.cells, Pt.slots] at X518 l518 y518 z518 st518 hQ518
          subst l518 y518 z518
          obtain ⟨rfl, N518q, e518⟩ := hQ518
          have N518 := Fr.app N512 N518q
          have pre520 : ∀ t, Steps p.tables e below (T518.setTop (mkF m 236 #[.val (.int p1), .val (.int p2), .val (.int p3), .val (.int p4), .val (.int p5), .val (.int (2 : Int32)), .val (.int v455), .val (.int (((p5.toUInt32 >>> ((3 : Int32) &&& 31).toUInt32).toInt32) &&& (3 : Int32))), .val (.ref b459), .val (.int v516), .unset, .val (.int (if p1 < p2 then p2 else p1))] [(.int v516), (.int (if p1 < p2 then p2 else p1))])) t → Steps p.tables e below (s₁.setTop (entryFrame m #[(.int p1), (.int p2), (.int p3), (.int p4), (.int p5)] maxLocals)) t := by
            intro t kt
            refine pre517 _ ?_
            show Steps p.tables e below (T512.setTop (mkF m 153 #[.val (.int p1), .val (.int p2), .val (.int p3), .val (.int p4), .val (.int p5), .val (.int (2 : Int32)), .val (.int v455), .val (.int (((p5.toUInt32 >>> ((3 : Int32) &&& 31).toUInt32).toInt32) &&& (3 : Int32))), .val (.ref b459), .unset, .unset, .unset] [(.int v516)])) _
            refine XS.istore X512.here hx rfl (hb hby at_153) rfl (l' := #[.val (.int p1), .val (.int p2), .val (.int p3), .val (.int p4), .val (.int p5), .val (.int (2 : Int32)), .val (.int v455), .val (.int (((p5.toUInt32 >>> ((3 : Int32) &&& 31).toUInt32).toInt32) &&& (3 : Int32))), .val (.ref b459), .val (.int v516), .unset, .unset]) rfl ?_
            refine XS.iload X512.here hx rfl (hb hby at_155) rfl ?_
            refine XS.ifYes X512.here hx rfl (pc0 := 157) (pc' := 166) rfl (hb hby at_157) rfl ((if0 _ _).trans (feq (by decide)).2) (by decide) (by decide) ?_
            refine XS.iload X512.here hx rfl (hb hby at_166) rfl ?_
            show Steps p.tables e below (T512.setTop (mkF m 168 #[.val (.int p1), .val (.int p2), .val (.int p3), .val (.int p4), .val (.int p5), .val (.int (2 : Int32)), .val (.int v455), .val (.int (((p5.toUInt32 >>> ((3 : Int32) &&& 31).toUInt32).toInt32) &&& (3 : Int32))), .val (.ref b459), .val (.int v516), .unset, .unset] [(.int v455)])) _
            refine XS.ifNo X512.here hx rfl (hb hby at_168) rfl ((if0 _ _).trans (feq hc115_501).1) ?_
            refine XS.iload X512.here hx rfl (hb hby at_171) rfl ?_
            refine XS.iconst X512.here hx rfl (hb hby at_173) ?_
            refine XS.icmpYes X512.here hx rfl (pc0 := 174) (pc' := 181) rfl (hb hby at_174) rfl (feq (by decide)).2 (by decide) (by decide) ?_
            show Steps p.tables e below (T512.setTop (mkF m 181 #[.val (.int p1), .val (.int p2), .val (.int p3), .val (.int p4), .val (.int p5), .val (.int (2 : Int32)), .val (.int v455), .val (.int (((p5.toUInt32 >>> ((3 : Int32) &&& 31).toUInt32).toInt32) &&& (3 : Int32))), .val (.ref b459), .val (.int v516), .unset, .unset] [])) _
            refine XS.iload X512.here hx rfl (hb hby at_181) rfl ?_
            refine XS.iconst X512.here hx rfl (hb hby at_183) ?_
            refine XS.icmpNo X512.here hx rfl (hb hby at_184) rfl (teq (rfl : (2 : Int32) = (2 : Int32))).2 ?_
            refine XS.iloadN X512.here hx rfl (hb hby at_187) rfl ?_
            show Steps p.tables e below (T512.setTop (mkF m 188 #[.val (.int p1), .val (.int p2), .val (.int p3), .val (.int p4), .val (.int p5), .val (.int (2 : Int32)), .val (.int v455), .val (.int (((p5.toUInt32 >>> ((3 : Int32) &&& 31).toUInt32).toInt32) &&& (3 : Int32))), .val (.ref b459), .val (.int v516), .unset, .unset] [(.int p1)])) _
            refine XS.iloadN X512.here hx rfl (hb hby at_188) rfl ?_
            refine st518 _ ?_
            refine XS.goto X518.here hx rfl (pc0 := 192) (pc' := 204) rfl (hb hby at_192) (by decide) (by decide) ?_
            refine XS.istore X518.here hx rfl (hb hby at_204) rfl (l' := #[.val (.int p1), .val (.int p2), .val (.int p3), .val (.int p4), .val (.int p5), .val (.int (2 : Int32)), .val (.int v455), .val (.int (((p5.toUInt32 >>> ((3 : Int32) &&& 31).toUInt32).toInt32) &&& (3 : Int32))), .val (.ref b459), .val (.int v516), .unset, .val (.int (if p1 < p2 then p2 else p1))]) rfl ?_
            show Steps p.tables e below (T518.setTop (mkF m 206 #[.val (.int p1), .val (.int p2), .val (.int p3), .val (.int p4), .val (.int p5), .val (.int (2 : Int32)), .val (.int v455), .val (.int (((p5.toUInt32 >>> ((3 : Int32) &&& 31).toUInt32).toInt32) &&& (3 : Int32))), .val (.ref b459), .val (.int v516), .unset, .val (.int (if p1 < p2 then p2 else p1))] [])) _
            refine XS.goto X518.here hx rfl (pc0 := 206) (pc' := 232) rfl (hb hby at_206) (by decide) (by decide) ?_
            refine XS.iload X518.here hx rfl (hb hby at_232) rfl ?_
            refine XS.iload X518.here hx rfl (hb hby at_234) rfl ?_
            exact kt
          by_cases hc236_519 : (if p1 < p2 then p2 else p1) = v516
          · obtain ⟨cq521, kq521, q521a, q521b, q521c⟩ := isOf hZ e518 ((((((A459.ext E461).keep K463q).keep K465q).keep K467q).keep K498q))
            obtain ⟨_, _, ⟨T521, L521, k521, n521⟩, -, X521, ⟨Lc521, hQ521, l521, y521, z521⟩, st521⟩ := X518.virtualBack hx (y := (⟨"com/example/kawi/kawi/OrderedNames", "endsWith", "(I)Z"⟩ : MethodName)) (z := (⟨"com/example/kawi/kawi/OrderedNames", "endsWith", "(I)Z"⟩ : MethodName)) hown (mvT hZ (wd_43 hw)) (mvT hZ (wd_44 hw)) (notFace_of_selects (args := #[]) (mvT hZ (wd_46 hw))) (mvT hZ (wd_46 hw)) (mvT hZ (wd_45 hw)) (by decide) (backOf (W := 0) (rmew2 l Z a0 hw [] b459 v516 b_498 kb_498 p1 p2 T498.heap n0 Z499 g498_1 g498_3 g498_5) hZ (wd_47 hw) (wd_2 hw) (by decide) (by decide)) q521a q521c (g := (mkF m 250 #[.val (.int p1), .val (.int p2), .val (.int p3), .val (.int p4), .val (.int p5), .val (.int (2 : Int32)), .val (.int v455), .val (.int (((p5.toUInt32 >>> ((3 : Int32) &&& 31).toUInt32).toInt32) &&& (3 : Int32))), .val (.ref b459), .val (.int v516), .val (.int (1 : Int32)), .val (.int (if p1 < p2 then p2 else p1))] [(.int v516), (.ref b459)])) rfl (by rw [hml]; rfl) (Steps.refl _) (argsL := [(.int v516)]) (rest := []) (lenOf pd__I_Z rfl) rfl (by show 2 * 0 + _ ≤ _; exact Nat.le_of_eq rfl) (hb hby at_250) (fun _ _ => ⟨rfl, e518, (by decide : 4 + 0 ≤ _), (by decide : 11 + 0 ≤ _)⟩)
            dsimp only [Pt.U, Pt.locs, Pt.cells, Pt.slots] at X521 l521 y521 z521 st521 hQ521
            subst l521 y521 z521
            obtain ⟨rfl, N521q, e521⟩ := hQ521
            have N521 := Fr.app N518 N521q
            obtain ⟨fs, hr, hrun, hended, hW, hsame⟩ := X521.leave (v := some (.int (1 : Int32))) (fun h => by rw [Bd.returns] at h; cases h)
            refine ⟨_, _, pre520 _ ?_, hrun, hended, _, _, rfl, ?_, ⟨_, rfl⟩, hW, hsame.mono (by decide) (by decide)⟩
            · show Steps p.tables e below (T518.setTop (mkF m 236 #[.val (.int p1), .val (.int p2), .val (.int p3), .val (.int p4), .val (.int p5), .val (.int (2 : Int32)), .val (.int v455), .val (.int (((p5.toUInt32 >>> ((3 : Int32) &&& 31).toUInt32).toInt32) &&& (3 : Int32))), .val (.ref b459), .val (.int v516), .unset, .val (.int (if p1 < p2 then p2 else p1))] [(.int v516), (.int (if p1 < p2 then p2 else p1))])) _
              refine XS.icmpNo X518.here hx rfl (hb hby at_236) rfl (teq hc236_519).2 ?_
              show Steps p.tables e below (T518.setTop (mkF m 239 #[.val (.int p1), .val (.int p2), .val (.int p3), .val (.int p4), .val (.int p5), .val (.int (2 : Int32)), .val (.int v455), .val (.int (((p5.toUInt32 >>> ((3 : Int32) &&& 31).toUInt32).toInt32) &&& (3 : Int32))), .val (.ref b459), .val (.int v516), .unset, .val (.int (if p1 < p2 then p2 else p1))] [])) _
              refine XS.iconst X518.here hx rfl (hb hby at_239) ?_
              refine XS.goto X518.here hx rfl (pc0 := 240) (pc' := 244) rfl (hb hby at_240) (by decide) (by decide) ?_
              refine XS.istore X518.here hx rfl (hb hby at_244) rfl (l' := #[.val (.int p1), .val (.int p2), .val (.int p3), .val (.int p4), .val (.int p5), .val (.int (2 : Int32)), .val (.int v455), .val (.int (((p5.toUInt32 >>> ((3 : Int32) &&& 31).toUInt32).toInt32) &&& (3 : Int32))), .val (.ref b459), .val (.int v516), .val (.int (1 : Int32)), .val (.int (if p1 < p2 then p2 else p1))]) rfl ?_
              refine XS.aload X518.here hx rfl (hb hby at_246) rfl rfl ?_
              show Steps p.tables e below (T518.setTop (mkF m 248 #[.val (.int p1), .val (.int p2), .val (.int p3), .val (.int p4), .val (.int p5), .val (.int (2 : Int32)), .val (.int v455), .val (.int (((p5.toUInt32 >>> ((3 : Int32) &&& 31).toUInt32).toInt32) &&& (3 : Int32))), .val (.ref b459), .val (.int v516), .val (.int (1 : Int32)), .val (.int (if p1 < p2 then p2 else p1))] [(.ref b459)])) _
              refine XS.iload X518.here hx rfl (hb hby at_248) rfl ?_
              refine st521.trans ?_
              refine XS.iload X521.here hx rfl (hb hby at_253) rfl ?_
              refine XS.icmpNo X521.here hx rfl (hb hby at_255) rfl (teq (by (have e : p2 = (if p1 < p2 then p2 else p1) := (by (have := own_ne (a := (p1).toInt) (b := (p2).toInt) hc38_457 rfl rfl; have := own_nlt (a := (p2).toInt) (b := (p1).toInt) hc98_470 rfl rfl; have := own_ne (a := (v455).toInt) (b := 0) hc115_501 rfl rfl; have := own_eq (a := ((if p1 < p2 then p2 else p1)).toInt) (b := (v516).toInt) hc236_519 rfl rfl; exact own_last2 (by omega) (by omega) (by omega))); rw [e]; simp only [if_pos hc236_519]))).2 ?_
              show Steps p.tables e below (T521.setTop (mkF m 258 #[.val (.int p1), .val (.int p2), .val (.int p3), .val (.int p4), .val (.int p5), .val (.int (2 : Int32)), .val (.int v455), .val (.int (((p5.toUInt32 >>> ((3 : Int32) &&& 31).toUInt32).toInt32) &&& (3 : Int32))), .val (.ref b459), .val (.int v516), .val (.int (1 : Int32)), .val (.int (if p1 < p2 then p2 else p1))] [])) _
              refine XS.iconst X521.here hx rfl (hb hby at_258) ?_
              refine XS.goto X521.here hx rfl (pc0 := 259) (pc' := 263) rfl (hb hby at_259) (by decide) (by decide) ?_
              exact retN X521 hx (t := .boolean) Bd.returns (by simp) (hb hby at_263) hr
            · show Q_rm0 Z p1 p2 p3 p4 p5 wD wN kN h0 n0 _ T521.heap _
              rw [e521]
              exact ⟨rfl, N521, trivial⟩
          · obtain ⟨cq522, kq522, q522a, q522b, q522c⟩ := isOf hZ e518 ((((((A459.ext E461).keep K463q).keep K465q).keep K467q).keep K498q))
            obtain ⟨_, _, ⟨T522, L522, k522, n522⟩, -, X522, ⟨Lc522, hQ522, l522, y522, z522⟩, st522⟩ := X518.virtualBack hx (y := (⟨"com/example/kawi/kawi/OrderedNames", "endsWith", "(I)Z"⟩ : MethodName)) (z := (⟨"com/example/kawi/kawi/OrderedNames", "endsWith", "(I)Z"⟩ : MethodName)) hown (mvT hZ (wd_43 hw)) (mvT hZ (wd_44 hw)) (notFace_of_selects (args := #[]) (mvT hZ (wd_46 hw))) (mvT hZ (wd_46 hw)) (mvT hZ (wd_45 hw)) (by decide) (backOf (W := 0) (rmew2 l Z a0 hw [] b459 v516 b_498 kb_498 p1 p2 T498.heap n0 Z499 g498_1 g498_3 g498_5) hZ (wd_47 hw) (wd_2 hw) (by decide) (by decide)) q522a q522c (g := (mkF m 250 #[.val (.int p1), .val (.int p2), .val (.int p3), .val (.int p4), .val (.int p5), .val (.int (2 : Int32)), .val (.int v455), .val (.int (((p5.toUInt32 >>> ((3 : Int32) &&& 31).toUInt32).toInt32) &&& (3 : Int32))), .val (.ref b459), .val (.int v516), .val (.int (0 : Int32)), .val (.int (if p1 < p2 then p2 else p1))] [(.int v516), (.ref b459)])) rfl (by rw [hml]; rfl) (Steps.refl _) (argsL := [(.int v516)]) (rest := []) (lenOf pd__I_Z rfl) rfl (by show 2 * 0 + _ ≤ _; exact Nat.le_of_eq rfl) (hb hby at_250) (fun _ _ => ⟨rfl, e518, (by decide : 4 + 0 ≤ _), (by decide : 11 + 0 ≤ _)⟩)
            dsimp only [Pt.U, Pt.locs, Pt.cells, Pt.slots] at X522 l522 y522 z522 st522 hQ522
            subst l522 y522 z522
            obtain ⟨rfl, N522q, e522⟩ := hQ522
            have N522 := Fr.app N518 N522q
            obtain ⟨fs, hr, hrun, hended, hW, hsame⟩ := X522.leave (v := some (.int (1 : Int32))) (fun h => by rw [Bd.returns] at h; cases h)
            refine ⟨_, _, pre520 _ ?_, hrun, hended, _, _, rfl, ?_, ⟨_, rfl⟩, hW, hsame.mono (by decide) (by decide)⟩
            · show Steps p.tables e below (T518.setTop (mkF m 236 #[.val (.int p1), .val (.int p2), .val (.int p3), .val (.int p4), .val (.int p5), .val (.int (2 : Int32)), .val (.int v455), .val (.int (((p5.toUInt32 >>> ((3 : Int32) &&& 31).toUInt32).toInt32) &&& (3 : Int32))), .val (.ref b459), .val (.int v516), .unset, .val (.int (if p1 < p2 then p2 else p1))] [(.int v516), (.int (if p1 < p2 then p2 else p1))])) _
              refine XS.icmpYes X518.here hx rfl (pc0 := 236) (pc' := 243) rfl (hb hby at_236) rfl (feq hc236_519).2 (by decide) (by decide) ?_
              show Steps p.tables e below (T518.setTop (mkF m 243 #[.val (.int p1), .val (.int p2), .val (.int p3), .val (.int p4), .val (.int p5), .val (.int (2 : Int32)), .val (.int v455), .val (.int (((p5.toUInt32 >>> ((3 : Int32) &&& 31).toUInt32).toInt32) &&& (3 : Int32))), .val (.ref b459), .val (.int v516), .unset, .val (.int (if p1 < p2 then p2 else p1))] [])) _
              refine XS.iconst X518.here hx rfl (hb hby at_243) ?_
              refine XS.istore X518.here hx rfl (hb hby at_244) rfl (l' := #[.val (.int p1), .val (.int p2), .val (.int p3), .val (.int p4), .val (.int p5), .val (.int (2 : Int32)), .val (.int v455), .val (.int (((p5.toUInt32 >>> ((3 : Int32) &&& 31).toUInt32).toInt32) &&& (3 : Int32))), .val (.ref b459), .val (.int v516), .val (.int (0 : Int32)), .val (.int (if p1 < p2 then p2 else p1))]) rfl ?_
              refine XS.aload X518.here hx rfl (hb hby at_246) rfl rfl ?_
              refine XS.iload X518.here hx rfl (hb hby at_248) rfl ?_
              show Steps p.tables e below (T518.setTop (mkF m 250 #[.val (.int p1), .val (.int p2), .val (.int p3), .val (.int p4), .val (.int p5), .val (.int (2 : Int32)), .val (.int v455), .val (.int (((p5.toUInt32 >>> ((3 : Int32) &&& 31).toUInt32).toInt32) &&& (3 : Int32))), .val (.ref b459), .val (.int v516), .val (.int (0 : Int32)), .val (.int (if p1 < p2 then p2 else p1))] [(.int v516), (.ref b459)])) _
              refine st522.trans ?_
              refine XS.iload X522.here hx rfl (hb hby at_253) rfl ?_
              refine XS.icmpNo X522.here hx rfl (hb hby at_255) rfl (teq (by (have e : p2 = (if p1 < p2 then p2 else p1) := (by (have := own_ne (a := (p1).toInt) (b := (p2).toInt) hc38_457 rfl rfl; have := own_nlt (a := (p2).toInt) (b := (p1).toInt) hc98_470 rfl rfl; have := own_ne (a := (v455).toInt) (b := 0) hc115_501 rfl rfl; have := own_ne (a := ((if p1 < p2 then p2 else p1)).toInt) (b := (v516).toInt) hc236_519 rfl rfl; exact own_last2 (by omega) (by omega) (by omega))); rw [e]; simp only [if_neg hc236_519]))).2 ?_
              refine XS.iconst X522.here hx rfl (hb hby at_258) ?_
              show Steps p.tables e below (T522.setTop (mkF m 259 #[.val (.int p1), .val (.int p2), .val (.int p3), .val (.int p4), .val (.int p5), .val (.int (2 : Int32)), .val (.int v455), .val (.int (((p5.toUInt32 >>> ((3 : Int32) &&& 31).toUInt32).toInt32) &&& (3 : Int32))), .val (.ref b459), .val (.int v516), .val (.int (0 : Int32)), .val (.int (if p1 < p2 then p2 else p1))] [(.int (1 : Int32))])) _
              refine XS.goto X522.here hx rfl (pc0 := 259) (pc' := 263) rfl (hb hby at_259) (by decide) (by decide) ?_
              exact retN X522 hx (t := .boolean) Bd.returns (by simp) (hb hby at_263) hr
            · show Q_rm0 Z p1 p2 p3 p4 p5 wD wN kN h0 n0 _ T522.heap _
              rw [e522]
              exact ⟨rfl, N522, trivial⟩
  · obtain ⟨v524, hv524⟩ : ∃ z : Int32, z = (if (((p5.toUInt32 >>> ((2 : Int32) &&& 31).toUInt32).toInt32) &&& (1 : Int32)) = (0 : Int32) then (0 : Int32) else (1 : Int32)) := ⟨_, rfl⟩
    have pre525 : ∀ t, Steps p.tables e below (s₁.setTop (mkF m 20 #[.val (.int p1), .val (.int p2), .val (.int p3), .val (.int p4), .val (.int p5), .val (.int (3 : Int32)), .unset, .unset, .unset, .unset, .unset, .unset] [(.int v524)])) t → Steps p.tables e below (s₁.setTop (entryFrame m #[(.int p1), (.int p2), (.int p3), (.int p4), (.int p5)] maxLocals)) t := by
      intro t kt
      refine pre392 _ ?_
      rw [hv524] at kt
      show Steps p.tables e below (s₁.setTop (mkF m 6 #[.val (.int p1), .val (.int p2), .val (.int p3), .val (.int p4), .val (.int p5), .val (.int (3 : Int32)), .unset, .unset, .unset, .unset, .unset, .unset] [])) _
      refine XS.iload X0.here hx rfl (hb hby at_6) rfl ?_
      refine XS.iconst X0.here hx rfl (hb hby at_8) ?_
      refine XS.iushr X0.here hx rfl (hb hby at_9) rfl ?_
      refine XS.iconst X0.here hx rfl (hb hby at_10) ?_
      show Steps p.tables e below (s₁.setTop (mkF m 11 #[.val (.int p1), .val (.int p2), .val (.int p3), .val (.int p4), .val (.int p5), .val (.int (3 : Int32)), .unset, .unset, .unset, .unset, .unset, .unset] [(.int (1 : Int32)), (.int ((p5.toUInt32 >>> ((2 : Int32) &&& 31).toUInt32).toInt32))])) _
      refine XS.iand X0.here hx rfl (hb hby at_11) rfl ?_
      by_cases hc12_523 : (((p5.toUInt32 >>> ((2 : Int32) &&& 31).toUInt32).toInt32) &&& (1 : Int32)) = (0 : Int32)
      · try simp only [if_pos hc12_523] at kt
        refine XS.ifYes X0.here hx rfl (pc0 := 12) (pc' := 19) rfl (hb hby at_12) rfl ((if0 _ _).trans (teq hc12_523).1) (by decide) (by decide) ?_
        refine XS.iconst X0.here hx rfl (hb hby at_19) ?_
        exact kt
      · try simp only [if_neg hc12_523] at kt
        refine XS.ifNo X0.here hx rfl (hb hby at_12) rfl ((if0 _ _).trans (feq hc12_523).1) ?_
        refine XS.iconst X0.here hx rfl (hb hby at_15) ?_
        refine XS.goto X0.here hx rfl (pc0 := 16) (pc' := 20) rfl (hb hby at_16) (by decide) (by decide) ?_
        show Steps p.tables e below (s₁.setTop (mkF m 20 #[.val (.int p1), .val (.int p2), .val (.int p3), .val (.int p4), .val (.int p5), .val (.int (3 : Int32)), .unset, .unset, .unset, .unset, .unset, .unset] [(.int (1 : Int32))])) _
        exact kt
    have pre527 : ∀ t, Steps p.tables e below (s₁.setTop (mkF m 38 #[.val (.int p1), .val (.int p2), .val (.int p3), .val (.int p4), .val (.int p5), .val (.int (3 : Int32)), .val (.int v524), .val (.int (((p5.toUInt32 >>> ((3 : Int32) &&& 31).toUInt32).toInt32) &&& (3 : Int32))), .unset, .unset, .unset, .unset] [(.int p2), (.int p1)])) t → Steps p.tables e below (s₁.setTop (entryFrame m #[(.int p1), (.int p2), (.int p3), (.int p4), (.int p5)] maxLocals)) t := by
      intro t kt
      refine pre525 _ ?_
      show Steps p.tables e below (s₁.setTop (mkF m 20 #[.val (.int p1), .val (.int p2), .val (.int p3), .val (.int p4), .val (.int p5), .val (.int (3 : Int32)), .unset, .unset, .unset, .unset, .unset, .unset] [(.int v524)])) _
      refine XS.istore X0.here hx rfl (hb hby at_20) rfl (l' := #[.val (.int p1), .val (.int p2), .val (.int p3), .val (.int p4), .val (.int p5), .val (.int (3 : Int32)), .val (.int v524), .unset, .unset, .unset, .unset, .unset]) rfl ?_
      refine XS.iload X0.here hx rfl (hb hby at_22) rfl ?_
      refine XS.iconst X0.here hx rfl (hb hby at_24) ?_
      refine XS.iushr X0.here hx rfl (hb hby at_25) rfl ?_
      show Steps p.tables e below (s₁.setTop (mkF m 26 #[.val (.int p1), .val (.int p2), .val (.int p3), .val (.int p4), .val (.int p5), .val (.int (3 : Int32)), .val (.int v524), .unset, .unset, .unset, .unset, .unset] [(.int ((p5.toUInt32 >>> ((3 : Int32) &&& 31).toUInt32).toInt32))])) _
      refine XS.iconst X0.here hx rfl (hb hby at_26) ?_
      refine XS.iand X0.here hx rfl (hb hby at_27) rfl ?_
      refine XS.istore X0.here hx rfl (hb hby at_28) rfl (l' := #[.val (.int p1), .val (.int p2), .val (.int p3), .val (.int p4), .val (.int p5), .val (.int (3 : Int32)), .val (.int v524), .val (.int (((p5.toUInt32 >>> ((3 : Int32) &&& 31).toUInt32).toInt32) &&& (3 : Int32))), .unset, .unset, .unset, .unset]) rfl ?_
      refine XS.iload X0.here hx rfl (hb hby at_30) rfl ?_
      show Steps p.tables e below (s₁.setTop (mkF m 32 #[.val (.int p1), .val (.int p2), .val (.int p3), .val (.int p4), .val (.int p5), .val (.int (3 : Int32)), .val (.int v524), .val (.int (((p5.toUInt32 >>> ((3 : Int32) &&& 31).toUInt32).toInt32) &&& (3 : Int32))), .unset, .unset, .unset, .unset] [(.int (3 : Int32))])) _
      refine XS.iconst X0.here hx rfl (hb hby at_32) ?_
      refine XS.icmpNo X0.here hx rfl (hb hby at_33) rfl (flt (by decide)).1 ?_
      refine XS.iloadN X0.here hx rfl (hb hby at_36) rfl ?_
      refine XS.iloadN X0.here hx rfl (hb hby at_37) rfl ?_
      show Steps p.tables e below (s₁.setTop (mkF m 38 #[.val (.int p1), .val (.int p2), .val (.int p3), .val (.int p4), .val (.int p5), .val (.int (3 : Int32)), .val (.int v524), .val (.int (((p5.toUInt32 >>> ((3 : Int32) &&& 31).toUInt32).toInt32) &&& (3 : Int32))), .unset, .unset, .unset, .unset] [(.int p2), (.int p1)])) _
      exact kt
    by_cases hc38_526 : p1 = p2
    · obtain ⟨fs, hr, hrun, hended, hW, hsame⟩ := X0.leave (v := some (.int (1 : Int32))) (fun h => by rw [Bd.returns] at h; cases h)
      refine ⟨_, _, pre527 _ ?_, hrun, hended, _, _, rfl, ?_, ⟨_, rfl⟩, hW, hsame.mono (by decide) (by decide)⟩
      · show Steps p.tables e below (s₁.setTop (mkF m 38 #[.val (.int p1), .val (.int p2), .val (.int p3), .val (.int p4), .val (.int p5), .val (.int (3 : Int32)), .val (.int v524), .val (.int (((p5.toUInt32 >>> ((3 : Int32) &&& 31).toUInt32).toInt32) &&& (3 : Int32))), .unset, .unset, .unset, .unset] [(.int p2), (.int p1)])) _
        refine XS.icmpNo X0.here hx rfl (hb hby at_38) rfl (teq hc38_526).2 ?_
        refine XS.iconst X0.here hx rfl (hb hby at_41) ?_
        exact retN X0 hx (t := .boolean) Bd.returns (by simp) (hb hby at_42) hr
      · show Q_rm0 Z p1 p2 p3 p4 p5 wD wN kN h0 n0 _ s₁.heap _
        rw [e0]
        exact ⟨rfl, N0, trivial⟩
    · have pre529 : ∀ t, Steps p.tables e below (s₁.setTop (mkF m 51 #[.val (.int p1), .val (.int p2), .val (.int p3), .val (.int p4), .val (.int p5), .val (.int (3 : Int32)), .val (.int v524), .val (.int (((p5.toUInt32 >>> ((3 : Int32) &&& 31).toUInt32).toInt32) &&& (3 : Int32))), .unset, .unset, .unset, .unset] [(.int p3), (.int p1)])) t → Steps p.tables e below (s₁.setTop (entryFrame m #[(.int p1), (.int p2), (.int p3), (.int p4), (.int p5)] maxLocals)) t := by
        intro t kt
        refine pre527 _ ?_
        show Steps p.tables e below (s₁.setTop (mkF m 38 #[.val (.int p1), .val (.int p2), .val (.int p3), .val (.int p4), .val (.int p5), .val (.int (3 : Int32)), .val (.int v524), .val (.int (((p5.toUInt32 >>> ((3 : Int32) &&& 31).toUInt32).toInt32) &&& (3 : Int32))), .unset, .unset, .unset, .unset] [(.int p2), (.int p1)])) _
        refine XS.icmpYes X0.here hx rfl (pc0 := 38) (pc' := 43) rfl (hb hby at_38) rfl (feq hc38_526).2 (by decide) (by decide) ?_
        refine XS.iload X0.here hx rfl (hb hby at_43) rfl ?_
        refine XS.iconst X0.here hx rfl (hb hby at_45) ?_
        refine XS.icmpNo X0.here hx rfl (hb hby at_46) rfl (flt (by decide)).1 ?_
        show Steps p.tables e below (s₁.setTop (mkF m 49 #[.val (.int p1), .val (.int p2), .val (.int p3), .val (.int p4), .val (.int p5), .val (.int (3 : Int32)), .val (.int v524), .val (.int (((p5.toUInt32 >>> ((3 : Int32) &&& 31).toUInt32).toInt32) &&& (3 : Int32))), .unset, .unset, .unset, .unset] [])) _
        refine XS.iloadN X0.here hx rfl (hb hby at_49) rfl ?_
        refine XS.iloadN X0.here hx rfl (hb hby at_50) rfl ?_
        exact kt
      by_cases hc51_528 : p1 = p3
      · obtain ⟨fs, hr, hrun, hended, hW, hsame⟩ := X0.leave (v := some (.int (1 : Int32))) (fun h => by rw [Bd.returns] at h; cases h)
        refine ⟨_, _, pre529 _ ?_, hrun, hended, _, _, rfl, ?_, ⟨_, rfl⟩, hW, hsame.mono (by decide) (by decide)⟩
        · show Steps p.tables e below (s₁.setTop (mkF m 51 #[.val (.int p1), .val (.int p2), .val (.int p3), .val (.int p4), .val (.int p5), .val (.int (3 : Int32)), .val (.int v524), .val (.int (((p5.toUInt32 >>> ((3 : Int32) &&& 31).toUInt32).toInt32) &&& (3 : Int32))), .unset, .unset, .unset, .unset] [(.int p3), (.int p1)])) _
          refine XS.icmpYes X0.here hx rfl (pc0 := 51) (pc' := 59) rfl (hb hby at_51) rfl (teq hc51_528).1 (by decide) (by decide) ?_
          refine XS.iconst X0.here hx rfl (hb hby at_59) ?_
          show Steps p.tables e below (s₁.setTop (mkF m 60 #[.val (.int p1), .val (.int p2), .val (.int p3), .val (.int p4), .val (.int p5), .val (.int (3 : Int32)), .val (.int v524), .val (.int (((p5.toUInt32 >>> ((3 : Int32) &&& 31).toUInt32).toInt32) &&& (3 : Int32))), .unset, .unset, .unset, .unset] [(.int (1 : Int32))])) _
          exact retN X0 hx (t := .boolean) Bd.returns (by simp) (hb hby at_60) hr
        · show Q_rm0 Z p1 p2 p3 p4 p5 wD wN kN h0 n0 _ s₁.heap _
          rw [e0]
          exact ⟨rfl, N0, trivial⟩
      · have pre531 : ∀ t, Steps p.tables e below (s₁.setTop (mkF m 56 #[.val (.int p1), .val (.int p2), .val (.int p3), .val (.int p4), .val (.int p5), .val (.int (3 : Int32)), .val (.int v524), .val (.int (((p5.toUInt32 >>> ((3 : Int32) &&& 31).toUInt32).toInt32) &&& (3 : Int32))), .unset, .unset, .unset, .unset] [(.int p3), (.int p2)])) t → Steps p.tables e below (s₁.setTop (entryFrame m #[(.int p1), (.int p2), (.int p3), (.int p4), (.int p5)] maxLocals)) t := by
          intro t kt
          refine pre529 _ ?_
          show Steps p.tables e below (s₁.setTop (mkF m 51 #[.val (.int p1), .val (.int p2), .val (.int p3), .val (.int p4), .val (.int p5), .val (.int (3 : Int32)), .val (.int v524), .val (.int (((p5.toUInt32 >>> ((3 : Int32) &&& 31).toUInt32).toInt32) &&& (3 : Int32))), .unset, .unset, .unset, .unset] [(.int p3), (.int p1)])) _
          refine XS.icmpNo X0.here hx rfl (hb hby at_51) rfl (feq hc51_528).1 ?_
          refine XS.iloadN X0.here hx rfl (hb hby at_54) rfl ?_
          show Steps p.tables e below (s₁.setTop (mkF m 55 #[.val (.int p1), .val (.int p2), .val (.int p3), .val (.int p4), .val (.int p5), .val (.int (3 : Int32)), .val (.int v524), .val (.int (((p5.toUInt32 >>> ((3 : Int32) &&& 31).toUInt32).toInt32) &&& (3 : Int32))), .unset, .unset, .unset, .unset] [(.int p2)])) _
          refine XS.iloadN X0.here hx rfl (hb hby at_55) rfl ?_
          exact kt
        by_cases hc56_530 : p2 = p3
        · obtain ⟨fs, hr, hrun, hended, hW, hsame⟩ := X0.leave (v := some (.int (1 : Int32))) (fun h => by rw [Bd.returns] at h; cases h)
          refine ⟨_, _, pre531 _ ?_, hrun, hended, _, _, rfl, ?_, ⟨_, rfl⟩, hW, hsame.mono (by decide) (by decide)⟩
          · show Steps p.tables e below (s₁.setTop (mkF m 56 #[.val (.int p1), .val (.int p2), .val (.int p3), .val (.int p4), .val (.int p5), .val (.int (3 : Int32)), .val (.int v524), .val (.int (((p5.toUInt32 >>> ((3 : Int32) &&& 31).toUInt32).toInt32) &&& (3 : Int32))), .unset, .unset, .unset, .unset] [(.int p3), (.int p2)])) _
            refine XS.icmpNo X0.here hx rfl (hb hby at_56) rfl (teq hc56_530).2 ?_
            refine XS.iconst X0.here hx rfl (hb hby at_59) ?_
            exact retN X0 hx (t := .boolean) Bd.returns (by simp) (hb hby at_60) hr
          · show Q_rm0 Z p1 p2 p3 p4 p5 wD wN kN h0 n0 _ s₁.heap _
            rw [e0]
            exact ⟨rfl, N0, trivial⟩
        · obtain ⟨T532, h532, X532, e532, E532, A532, D532, -, st532⟩ := newO X0 hx hZ hown (wd_0 hw) (wd_1 hw) (wd_2 hw) e0 (g := (mkF m 61 #[.val (.int p1), .val (.int p2), .val (.int p3), .val (.int p4), .val (.int p5), .val (.int (3 : Int32)), .val (.int v524), .val (.int (((p5.toUInt32 >>> ((3 : Int32) &&& 31).toUInt32).toInt32) &&& (3 : Int32))), .unset, .unset, .unset, .unset] [])) rfl (hb hby at_61) (by decide) (by decide)
          obtain ⟨b532, g532⟩ : ∃ z, z = h0.size := ⟨_, rfl⟩
          rw [← g532] at A532 D532 st532
          have g_b532 : n0 ≤ b532 := Nat.le_trans Z0 (Nat.le_of_eq g532.symm)
          have ne_wN_b532 : wN ≠ b532 := Nat.ne_of_lt (Nat.lt_of_lt_of_le (V_wN).lt (Nat.le_of_eq g532.symm))
          have Z533 : n0 ≤ h532.size := Nat.le_trans Z0 E532.1
          have F_modCount_b532 : Fld Z h532 b532 "java/util/AbstractList" "modCount" "I" (.int (0 : Int32)) := D532 (Or.inl (wd_34 hw)) (ty := .int) (by decide)
          have F_places_b532 : Fld Z h532 b532 "com/example/kawi/kawi/OrderedNames" "places" "[I" .null := D532 (Or.inl (wd_38 hw)) (ty := (.array .int)) (by decide)
          have F_ordered_b532 : Fld Z h532 b532 "com/example/kawi/kawi/OrderedNames" "ordered" "Z" (.int (0 : Int32)) := D532 (Or.inl (wd_40 hw)) (ty := .boolean) (by decide)
          have F_beans_b532 : Fld Z h532 b532 "com/example/kawi/kawi/OrderedNames" "beans" "Ljava/util/List;" .null := D532 (Or.inr (wd_42 hw)) (ty := (.object "java/util/List")) (by decide)
          have F_size_b532 : Fld Z h532 b532 "com/example/kawi/kawi/OrderedNames" "size" "I" (.int (0 : Int32)) := D532 (Or.inl (wd_49 hw)) (ty := .int) (by decide)
          obtain ⟨T534, h534, X534, e534, E534, A534, D534, -, st534⟩ := newO X532 hx hZ hown (wd_3 hw) (wd_4 hw) (wd_5 hw) e532 (g := (mkF m 65 #[.val (.int p1), .val (.int p2), .val (.int p3), .val (.int p4), .val (.int p5), .val (.int (3 : Int32)), .val (.int v524), .val (.int (((p5.toUInt32 >>> ((3 : Int32) &&& 31).toUInt32).toInt32) &&& (3 : Int32))), .unset, .unset, .unset, .unset] [(.ref b532), (.ref b532)])) rfl (hb hby at_65) (by decide) (by decide)
          obtain ⟨b534, g534⟩ : ∃ z, z = h532.size := ⟨_, rfl⟩
          rw [← g534] at A534 D534 st534
          have g_b534 : n0 ≤ b534 := Nat.le_trans Z533 (Nat.le_of_eq g534.symm)
          have ne_wN_b534 : wN ≠ b534 := Nat.ne_of_lt (Nat.lt_of_lt_of_le ((V_wN.ext E532)).lt (Nat.le_of_eq g534.symm))
          have ne_b532_b534 : b532 ≠ b534 := Nat.ne_of_lt (Nat.lt_of_lt_of_le (A532).lt (Nat.le_of_eq g534.symm))
          have Z535 : n0 ≤ h534.size := Nat.le_trans Z533 E534.1
          have F_modCount_b534 : Fld Z h534 b534 "java/util/AbstractList" "modCount" "I" (.int (0 : Int32)) := D534 (Or.inl (wd_25 hw)) (ty := .int) (by decide)
          have F_elementData_b534 : Fld Z h534 b534 "java/util/ArrayList" "elementData" "[Ljava/lang/Object;" .null := D534 (Or.inl (wd_28 hw)) (ty := (.array (.object "java/lang/Object"))) (by decide)
          obtain ⟨_, _, ⟨T536, L536, k536, n536⟩, -, X536, ⟨Lc536, hQ536, l536, y536, z536⟩, st536⟩ := X534.specialBack hx (y := (⟨"java/util/ArrayList", "<init>", "()V"⟩ : MethodName)) rfl hown (mvT hZ (wd_6 hw)) (mvT hZ (wd_7 hw)) (mvT hZ (wd_8 hw)) (by decide) (backOf (W := 3) (rm1 l Z a0 hw [] b534 .null (.int (0 : Int32)) wD h534 n0 Z535 F_elementData_b534 F_modCount_b534 A534 g_b534 ((Old0.ext E532).ext E534) S_DEFAULTCAPACITY_EMPTY_ELEMENTDATA) hZ (wd_8 hw) (wd_5 hw) (by decide) (by decide)) (g := (mkF m 69 #[.val (.int p1), .val (.int p2), .val (.int p3), .val (.int p4), .val (.int p5), .val (.int (3 : Int32)), .val (.int v524), .val (.int (((p5.toUInt32 >>> ((3 : Int32) &&& 31).toUInt32).toInt32) &&& (3 : Int32))), .unset, .unset, .unset, .unset] [(.ref b534), (.ref b534), (.ref b532), (.ref b532)])) rfl (by rw [hml]; rfl) (Steps.refl _) (a := b534) (argsL := []) (rest := [(.ref b534), (.ref b532), (.ref b532)]) (lenOf pd___V rfl) rfl (by show 2 * 0 + _ ≤ _; exact Nat.le_of_eq rfl) (hb hby at_69) (fun _ _ => ⟨rfl, e534, (by decide : 2 + 0 ≤ _), (by decide : 8 + 0 ≤ _)⟩)
          dsimp only [Pt.U, Pt.locs, Pt.cells, Pt.slots] at X536 l536 y536 z536 st536 hQ536
          subst l536 y536 z536
          obtain ⟨rfl, N536q, K536q⟩ := hQ536
          have N536 := Fr.app N0 N536q
          have Z537 : n0 ≤ T536.heap.size := Nat.le_trans Z535 K536q.1
          obtain ⟨_, _, ⟨T538, L538, k538, n538⟩, -, X538, ⟨Lc538, hQ538, l538, y538, z538⟩, st538⟩ := X536.specialBack hx (y := (⟨"com/example/kawi/kawi/OrderedNames", "<init>", "(Ljava/util/List;)V"⟩ : MethodName)) rfl hown (mvT hZ (wd_29 hw)) (mvT hZ (wd_30 hw)) (mvT hZ (wd_31 hw)) (by decide) (backOf (W := 1) (rm5 l Z a0 hw [] b532 b534 .null (.int (0 : Int32)) (.int (0 : Int32)) .null (.int (0 : Int32)) wN T536.heap n0 Z537 ((F_places_b532.ext E534).keep K536q (ninS ne_b532_b534 nin0)) ((F_ordered_b532.ext E534).keep K536q (ninS ne_b532_b534 nin0)) ((F_size_b532.ext E534).keep K536q (ninS ne_b532_b534 nin0)) ((F_beans_b532.ext E534).keep K536q (ninS ne_b532_b534 nin0)) ((F_modCount_b532.ext E534).keep K536q (ninS ne_b532_b534 nin0)) ((A532.ext E534).keep K536q) g_b532 (((Old0.ext E532).ext E534).keep K536q (allS g_b534 all0)) S_NONE) hZ (wd_31 hw) (wd_2 hw) (by decide) (by decide)) (g := (mkF m 72 #[.val (.int p1), .val (.int p2), .val (.int p3), .val (.int p4), .val (.int p5), .val (.int (3 : Int32)), .val (.int v524), .val (.int (((p5.toUInt32 >>> ((3 : Int32) &&& 31).toUInt32).toInt32) &&& (3 : Int32))), .unset, .unset, .unset, .unset] [(.ref b534), (.ref b532), (.ref b532)])) rfl (by rw [hml]; rfl) (Steps.refl _) (a := b532) (argsL := [(.ref b534)]) (rest := [(.ref b532)]) (lenOf pd__Ljava_util_List__V rfl) rfl (by show 2 * 0 + _ ≤ _; exact Nat.le_of_eq rfl) (hb hby at_72) (fun _ _ => ⟨rfl, rfl, (by decide : 2 + 0 ≤ _), (by decide : 8 + 0 ≤ _)⟩)
          dsimp only [Pt.U, Pt.locs, Pt.cells, Pt.slots] at X538 l538 y538 z538 st538 hQ538
          subst l538 y538 z538
          obtain ⟨rfl, N538q, K538q, g538_0, g538_1, g538_2, g538_3⟩ := hQ538
          have N538 := Fr.app N536 N538q
          have Z539 : n0 ≤ T538.heap.size := Nat.le_trans Z537 K538q.1
          obtain ⟨cq540, kq540, q540a, q540b, q540c⟩ := isOf hZ rfl ((((A532.ext E534).keep K536q).keep K538q))
          obtain ⟨_, _, ⟨T540, L540, k540, n540⟩, -, X540, ⟨Lc540, hQ540, l540, y540, z540⟩, st540⟩ := X538.virtualBack hx (y := (⟨"com/example/kawi/kawi/OrderedNames", "append", "(I)V"⟩ : MethodName)) (z := (⟨"com/example/kawi/kawi/OrderedNames", "append", "(I)V"⟩ : MethodName)) hown (mvT hZ (wd_50 hw)) (mvT hZ (wd_51 hw)) (notFace_of_selects (args := #[]) (mvT hZ (wd_53 hw))) (mvT hZ (wd_53 hw)) (mvT hZ (wd_52 hw)) (by decide) (backOf (W := 0) (rmap01 l Z a0 hw [] b532 p1 (0 : Int32) wN kN T538.heap n0 Z539 g538_0 g538_1 g538_2 g538_3 (((A532.ext E534).keep K536q).keep K538q) g_b532 ((((V_wN.ext E532).ext E534).keep K536q (ninS ne_wN_b534 nin0)).keep K538q (ninS ne_wN_b532 nin0)) ne_wN_b532) hZ (wd_54 hw) (wd_2 hw) (by decide) (by decide)) q540a q540c (g := (mkF m 86 #[.val (.int p1), .val (.int p2), .val (.int p3), .val (.int p4), .val (.int p5), .val (.int (3 : Int32)), .val (.int v524), .val (.int (((p5.toUInt32 >>> ((3 : Int32) &&& 31).toUInt32).toInt32) &&& (3 : Int32))), .val (.ref b532), .unset, .unset, .unset] [(.int p1), (.ref b532)])) rfl (by rw [hml]; rfl) (Steps.refl _) (argsL := [(.int p1)]) (rest := []) (lenOf pd__I_V rfl) rfl (by show 2 * 0 + _ ≤ _; exact Nat.le_of_eq rfl) (hb hby at_86) (fun _ _ => ⟨rfl, rfl, (by decide : 2 + 1 ≤ _), (by decide : 8 + 1 ≤ _)⟩)
          dsimp only [Pt.U, Pt.locs, Pt.cells, Pt.slots] at X540 l540 y540 z540 st540 hQ540
          subst l540 y540 z540
          obtain ⟨b_540, kb_540, rfl, N540q, K540q, g540_0, g540_1, g540_2, g540_3, g540_4, g540_5⟩ := hQ540
          have N540 := Fr.app N538 N540q
          have Z541 : n0 ≤ T540.heap.size := Nat.le_trans Z539 K540q.1
          have ne_wN_b_540 : wN ≠ b_540 := Nat.ne_of_lt (Nat.lt_of_lt_of_le (((((V_wN.ext E532).ext E534).keep K536q (ninS ne_wN_b534 nin0)).keep K538q (ninS ne_wN_b532 nin0))).lt g540_0)
          have ne_b532_b_540 : b532 ≠ b_540 := Nat.ne_of_lt (Nat.lt_of_lt_of_le ((((A532.ext E534).keep K536q).keep K538q)).lt g540_0)
          have ne_b534_b_540 : b534 ≠ b_540 := Nat.ne_of_lt (Nat.lt_of_lt_of_le (((A534.keep K536q).keep K538q)).lt g540_0)
          have g542 : n0 ≤ b_540 := Nat.le_trans Z539 g540_0
          have pre544 : ∀ t, Steps p.tables e below (T540.setTop (mkF m 98 #[.val (.int p1), .val (.int p2), .val (.int p3), .val (.int p4), .val (.int p5), .val (.int (3 : Int32)), .val (.int v524), .val (.int (((p5.toUInt32 >>> ((3 : Int32) &&& 31).toUInt32).toInt32) &&& (3 : Int32))), .val (.ref b532), .unset, .unset, .unset] [(.int p2), (.ref b532)])) t → Steps p.tables e below (s₁.setTop (entryFrame m #[(.int p1), (.int p2), (.int p3), (.int p4), (.int p5)] maxLocals)) t := by
            intro t kt
            refine pre531 _ ?_
            show Steps p.tables e below (s₁.setTop (mkF m 56 #[.val (.int p1), .val (.int p2), .val (.int p3), .val (.int p4), .val (.int p5), .val (.int (3 : Int32)), .val (.int v524), .val (.int (((p5.toUInt32 >>> ((3 : Int32) &&& 31).toUInt32).toInt32) &&& (3 : Int32))), .unset, .unset, .unset, .unset] [(.int p3), (.int p2)])) _
            refine XS.icmpYes X0.here hx rfl (pc0 := 56) (pc' := 61) rfl (hb hby at_56) rfl (feq hc56_530).2 (by decide) (by decide) ?_
            refine st532 _ ?_
            refine XS.dup X532.here hx rfl (hb hby at_64) rfl rfl ?_
            show Steps p.tables e below (T532.setTop (mkF m 65 #[.val (.int p1), .val (.int p2), .val (.int p3), .val (.int p4), .val (.int p5), .val (.int (3 : Int32)), .val (.int v524), .val (.int (((p5.toUInt32 >>> ((3 : Int32) &&& 31).toUInt32).toInt32) &&& (3 : Int32))), .unset, .unset, .unset, .unset] [(.ref b532), (.ref b532)])) _
            refine st534 _ ?_
            refine XS.dup X534.here hx rfl (hb hby at_68) rfl rfl ?_
            refine st536.trans ?_
            refine st538.trans ?_
            show Steps p.tables e below (T538.setTop (mkF m 75 #[.val (.int p1), .val (.int p2), .val (.int p3), .val (.int p4), .val (.int p5), .val (.int (3 : Int32)), .val (.int v524), .val (.int (((p5.toUInt32 >>> ((3 : Int32) &&& 31).toUInt32).toInt32) &&& (3 : Int32))), .unset, .unset, .unset, .unset] [(.ref b532)])) _
            refine XS.astore X538.here hx rfl (hb hby at_75) rfl rfl (l' := #[.val (.int p1), .val (.int p2), .val (.int p3), .val (.int p4), .val (.int p5), .val (.int (3 : Int32)), .val (.int v524), .val (.int (((p5.toUInt32 >>> ((3 : Int32) &&& 31).toUInt32).toInt32) &&& (3 : Int32))), .val (.ref b532), .unset, .unset, .unset]) rfl ?_
            refine XS.iload X538.here hx rfl (hb hby at_77) rfl ?_
            refine XS.iconst X538.here hx rfl (hb hby at_79) ?_
            refine XS.icmpNo X538.here hx rfl (hb hby at_80) rfl (flt (by decide)).1 ?_
            show Steps p.tables e below (T538.setTop (mkF m 83 #[.val (.int p1), .val (.int p2), .val (.int p3), .val (.int p4), .val (.int p5), .val (.int (3 : Int32)), .val (.int v524), .val (.int (((p5.toUInt32 >>> ((3 : Int32) &&& 31).toUInt32).toInt32) &&& (3 : Int32))), .val (.ref b532), .unset, .unset, .unset] [])) _
            refine XS.aload X538.here hx rfl (hb hby at_83) rfl rfl ?_
            refine XS.iloadN X538.here hx rfl (hb hby at_85) rfl ?_
            refine st540.trans ?_
            refine XS.iload X540.here hx rfl (hb hby at_89) rfl ?_
            show Steps p.tables e below (T540.setTop (mkF m 91 #[.val (.int p1), .val (.int p2), .val (.int p3), .val (.int p4), .val (.int p5), .val (.int (3 : Int32)), .val (.int v524), .val (.int (((p5.toUInt32 >>> ((3 : Int32) &&& 31).toUInt32).toInt32) &&& (3 : Int32))), .val (.ref b532), .unset, .unset, .unset] [(.int (3 : Int32))])) _
            refine XS.iconst X540.here hx rfl (hb hby at_91) ?_
            refine XS.icmpNo X540.here hx rfl (hb hby at_92) rfl (flt (by decide)).1 ?_
            refine XS.aload X540.here hx rfl (hb hby at_95) rfl rfl ?_
            refine XS.iloadN X540.here hx rfl (hb hby at_97) rfl ?_
            show Steps p.tables e below (T540.setTop (mkF m 98 #[.val (.int p1), .val (.int p2), .val (.int p3), .val (.int p4), .val (.int p5), .val (.int (3 : Int32)), .val (.int v524), .val (.int (((p5.toUInt32 >>> ((3 : Int32) &&& 31).toUInt32).toInt32) &&& (3 : Int32))), .val (.ref b532), .unset, .unset, .unset] [(.int p2), (.ref b532)])) _
            exact kt
          by_cases hc98_543 : p2 < p1
          · obtain ⟨cq545, kq545, q545a, q545b, q545c⟩ := isOf hZ rfl (((((A532.ext E534).keep K536q).keep K538q).keep K540q))
            obtain ⟨_, _, ⟨T545, L545, k545, n545⟩, -, X545, ⟨Lc545, hQ545, l545, y545, z545⟩, st545⟩ := X540.virtualBack hx (y := (⟨"com/example/kawi/kawi/OrderedNames", "append", "(I)V"⟩ : MethodName)) (z := (⟨"com/example/kawi/kawi/OrderedNames", "append", "(I)V"⟩ : MethodName)) hown (mvT hZ (wd_50 hw)) (mvT hZ (wd_51 hw)) (notFace_of_selects (args := #[]) (mvT hZ (wd_53 hw))) (mvT hZ (wd_53 hw)) (mvT hZ (wd_52 hw)) (by decide) (backOf (W := 0) (rmap11t l Z a0 hw [] b532 p2 ((0 : Int32) + (1 : Int32)) b_540 kb_540 p1 T540.heap n0 Z541 g540_1 g540_2 g540_3 g540_4 ((((A532.ext E534).keep K536q).keep K538q).keep K540q) g_b532 g540_5 (Ne.symm ne_b532_b_540) hc98_543) hZ (wd_54 hw) (wd_2 hw) (by decide) (by decide)) q545a q545c (g := (mkF m 98 #[.val (.int p1), .val (.int p2), .val (.int p3), .val (.int p4), .val (.int p5), .val (.int (3 : Int32)), .val (.int v524), .val (.int (((p5.toUInt32 >>> ((3 : Int32) &&& 31).toUInt32).toInt32) &&& (3 : Int32))), .val (.ref b532), .unset, .unset, .unset] [(.int p2), (.ref b532)])) rfl (by rw [hml]; rfl) (Steps.refl _) (argsL := [(.int p2)]) (rest := []) (lenOf pd__I_V rfl) rfl (by show 2 * 0 + _ ≤ _; exact Nat.le_of_eq rfl) (hb hby at_98) (fun _ _ => ⟨rfl, rfl, (by decide : 3 + 1 ≤ _), (by decide : 9 + 2 ≤ _)⟩)
            dsimp only [Pt.U, Pt.locs, Pt.cells, Pt.slots] at X545 l545 y545 z545 st545 hQ545
            subst l545 y545 z545
            obtain ⟨b_545, kb_545, rfl, N545q, K545q, g545_0, g545_1, g545_2, g545_3, g545_4, g545_5⟩ := hQ545
            have N545 := Fr.app N540 N545q
            have Z546 : n0 ≤ T545.heap.size := Nat.le_trans Z541 K545q.1
            have ne_wN_b_545 : wN ≠ b_545 := Nat.ne_of_lt (Nat.lt_of_lt_of_le ((((((V_wN.ext E532).ext E534).keep K536q (ninS ne_wN_b534 nin0)).keep K538q (ninS ne_wN_b532 nin0)).keep K540q (ninS ne_wN_b532 nin0))).lt g545_0)
            have ne_b532_b_545 : b532 ≠ b_545 := Nat.ne_of_lt (Nat.lt_of_lt_of_le (((((A532.ext E534).keep K536q).keep K538q).keep K540q)).lt g545_0)
            have ne_b534_b_545 : b534 ≠ b_545 := Nat.ne_of_lt (Nat.lt_of_lt_of_le ((((A534.keep K536q).keep K538q).keep K540q)).lt g545_0)
            have ne_b_540_b_545 : b_540 ≠ b_545 := Nat.ne_of_lt (Nat.lt_of_lt_of_le (g540_5).lt g545_0)
            have g547 : n0 ≤ b_545 := Nat.le_trans Z541 g545_0
            obtain ⟨cq548, kq548, q548a, q548b, q548c⟩ := isOf hZ rfl ((((((A532.ext E534).keep K536q).keep K538q).keep K540q).keep K545q))
            obtain ⟨_, _, ⟨T548, L548, k548, n548⟩, -, X548, ⟨Lc548, hQ548, l548, y548, z548⟩, st548⟩ := X545.virtualBack hx (y := (⟨"com/example/kawi/kawi/OrderedNames", "append", "(I)V"⟩ : MethodName)) (z := (⟨"com/example/kawi/kawi/OrderedNames", "append", "(I)V"⟩ : MethodName)) hown (mvT hZ (wd_50 hw)) (mvT hZ (wd_51 hw)) (notFace_of_selects (args := #[]) (mvT hZ (wd_53 hw))) (mvT hZ (wd_53 hw)) (mvT hZ (wd_52 hw)) (by decide) (backOf (W := 0) (rmap20 l Z a0 hw [] b532 p3 (((0 : Int32) + (1 : Int32)) + (1 : Int32)) b_545 kb_545 p1 p2 T545.heap n0 Z546 g545_1 g545_2 g545_3 g545_4 (((((A532.ext E534).keep K536q).keep K538q).keep K540q).keep K545q) g_b532 g545_5 (Ne.symm ne_b532_b_545)) hZ (wd_54 hw) (wd_2 hw) (by decide) (by decide)) q548a q548c (g := (mkF m 110 #[.val (.int p1), .val (.int p2), .val (.int p3), .val (.int p4), .val (.int p5), .val (.int (3 : Int32)), .val (.int v524), .val (.int (((p5.toUInt32 >>> ((3 : Int32) &&& 31).toUInt32).toInt32) &&& (3 : Int32))), .val (.ref b532), .unset, .unset, .unset] [(.int p3), (.ref b532)])) rfl (by rw [hml]; rfl) (Steps.refl _) (argsL := [(.int p3)]) (rest := []) (lenOf pd__I_V rfl) rfl (by show 2 * 0 + _ ≤ _; exact Nat.le_of_eq rfl) (hb hby at_110) (fun _ _ => ⟨rfl, rfl, (by decide : 4 + 1 ≤ _), (by decide : 11 + 4 ≤ _)⟩)
            dsimp only [Pt.U, Pt.locs, Pt.cells, Pt.slots] at X548 l548 y548 z548 st548 hQ548
            subst l548 y548 z548
            obtain ⟨b_548, kb_548, rfl, N548q, K548q, g548_0, g548_1, g548_2, g548_3, g548_4, g548_5⟩ := hQ548
            have N548 := Fr.app N545 N548q
            have Z549 : n0 ≤ T548.heap.size := Nat.le_trans Z546 K548q.1
            have ne_wN_b_548 : wN ≠ b_548 := Nat.ne_of_lt (Nat.lt_of_lt_of_le (((((((V_wN.ext E532).ext E534).keep K536q (ninS ne_wN_b534 nin0)).keep K538q (ninS ne_wN_b532 nin0)).keep K540q (ninS ne_wN_b532 nin0)).keep K545q (ninS ne_wN_b532 nin0))).lt g548_0)
            have ne_b532_b_548 : b532 ≠ b_548 := Nat.ne_of_lt (Nat.lt_of_lt_of_le ((((((A532.ext E534).keep K536q).keep K538q).keep K540q).keep K545q)).lt g548_0)
            have ne_b534_b_548 : b534 ≠ b_548 := Nat.ne_of_lt (Nat.lt_of_lt_of_le (((((A534.keep K536q).keep K538q).keep K540q).keep K545q)).lt g548_0)
            have ne_b_540_b_548 : b_540 ≠ b_548 := Nat.ne_of_lt (Nat.lt_of_lt_of_le ((g540_5.keep K545q (ninS (Ne.symm ne_b532_b_540) nin0))).lt g548_0)
            have ne_b_545_b_548 : b_545 ≠ b_548 := Nat.ne_of_lt (Nat.lt_of_lt_of_le (g545_5).lt g548_0)
            have g550 : n0 ≤ b_548 := Nat.le_trans Z546 g548_0
            have pre552 : ∀ t, Steps p.tables e below (T548.setTop (mkF m 115 #[.val (.int p1), .val (.int p2), .val (.int p3), .val (.int p4), .val (.int p5), .val (.int (3 : Int32)), .val (.int v524), .val (.int (((p5.toUInt32 >>> ((3 : Int32) &&& 31).toUInt32).toInt32) &&& (3 : Int32))), .val (.ref b532), .unset, .unset, .unset] [(.int v524)])) t → Steps p.tables e below (s₁.setTop (entryFrame m #[(.int p1), (.int p2), (.int p3), (.int p4), (.int p5)] maxLocals)) t := by
              intro t kt
              refine pre544 _ ?_
              show Steps p.tables e below (T540.setTop (mkF m 98 #[.val (.int p1), .val (.int p2), .val (.int p3), .val (.int p4), .val (.int p5), .val (.int (3 : Int32)), .val (.int v524), .val (.int (((p5.toUInt32 >>> ((3 : Int32) &&& 31).toUInt32).toInt32) &&& (3 : Int32))), .val (.ref b532), .unset, .unset, .unset] [(.int p2), (.ref b532)])) _
              refine st545.trans ?_
              refine XS.iload X545.here hx rfl (hb hby at_101) rfl ?_
              refine XS.iconst X545.here hx rfl (hb hby at_103) ?_
              refine XS.icmpNo X545.here hx rfl (hb hby at_104) rfl (flt (by decide)).1 ?_
              show Steps p.tables e below (T545.setTop (mkF m 107 #[.val (.int p1), .val (.int p2), .val (.int p3), .val (.int p4), .val (.int p5), .val (.int (3 : Int32)), .val (.int v524), .val (.int (((p5.toUInt32 >>> ((3 : Int32) &&& 31).toUInt32).toInt32) &&& (3 : Int32))), .val (.ref b532), .unset, .unset, .unset] [])) _
              refine XS.aload X545.here hx rfl (hb hby at_107) rfl rfl ?_
              refine XS.iloadN X545.here hx rfl (hb hby at_109) rfl ?_
              refine st548.trans ?_
              refine XS.iload X548.here hx rfl (hb hby at_113) rfl ?_
              show Steps p.tables e below (T548.setTop (mkF m 115 #[.val (.int p1), .val (.int p2), .val (.int p3), .val (.int p4), .val (.int p5), .val (.int (3 : Int32)), .val (.int v524), .val (.int (((p5.toUInt32 >>> ((3 : Int32) &&& 31).toUInt32).toInt32) &&& (3 : Int32))), .val (.ref b532), .unset, .unset, .unset] [(.int v524)])) _
              exact kt
            by_cases hc115_551 : v524 = (0 : Int32)
            · obtain ⟨v556, hv556⟩ : ∃ z : Int32, z = (if (((p5.toUInt32 >>> ((3 : Int32) &&& 31).toUInt32).toInt32) &&& (3 : Int32)) = (0 : Int32) then p4 else (if (((p5.toUInt32 >>> ((3 : Int32) &&& 31).toUInt32).toInt32) &&& (3 : Int32)) = (1 : Int32) then p1 else (if (((p5.toUInt32 >>> ((3 : Int32) &&& 31).toUInt32).toInt32) &&& (3 : Int32)) = (2 : Int32) then p2 else p3))) := ⟨_, rfl⟩
              have pre557 : ∀ t, Steps p.tables e below (T548.setTop (mkF m 153 #[.val (.int p1), .val (.int p2), .val (.int p3), .val (.int p4), .val (.int p5), .val (.int (3 : Int32)), .val (.int v524), .val (.int (((p5.toUInt32 >>> ((3 : Int32) &&& 31).toUInt32).toInt32) &&& (3 : Int32))), .val (.ref b532), .unset, .unset, .unset] [(.int v556)])) t → Steps p.tables e below (s₁.setTop (entryFrame m #[(.int p1), (.int p2), (.int p3), (.int p4), (.int p5)] maxLocals)) t := by
                intro t kt
                refine pre552 _ ?_
                rw [hv556] at kt
                show Steps p.tables e below (T548.setTop (mkF m 115 #[.val (.int p1), .val (.int p2), .val (.int p3), .val (.int p4), .val (.int p5), .val (.int (3 : Int32)), .val (.int v524), .val (.int (((p5.toUInt32 >>> ((3 : Int32) &&& 31).toUInt32).toInt32) &&& (3 : Int32))), .val (.ref b532), .unset, .unset, .unset] [(.int v524)])) _
                refine XS.ifYes X548.here hx rfl (pc0 := 115) (pc' := 123) rfl (hb hby at_115) rfl ((if0 _ _).trans (teq hc115_551).1) (by decide) (by decide) ?_
                refine XS.iload X548.here hx rfl (hb hby at_123) rfl ?_
                by_cases hc125_553 : (((p5.toUInt32 >>> ((3 : Int32) &&& 31).toUInt32).toInt32) &&& (3 : Int32)) = (0 : Int32)
                · try simp only [if_pos hc125_553] at kt
                  refine XS.ifNo X548.here hx rfl (hb hby at_125) rfl ((if0 _ _).trans (teq hc125_553).2) ?_
                  refine XS.iloadN X548.here hx rfl (hb hby at_128) rfl ?_
                  show Steps p.tables e below (T548.setTop (mkF m 129 #[.val (.int p1), .val (.int p2), .val (.int p3), .val (.int p4), .val (.int p5), .val (.int (3 : Int32)), .val (.int v524), .val (.int (((p5.toUInt32 >>> ((3 : Int32) &&& 31).toUInt32).toInt32) &&& (3 : Int32))), .val (.ref b532), .unset, .unset, .unset] [(.int p4)])) _
                  refine XS.goto X548.here hx rfl (pc0 := 129) (pc' := 153) rfl (hb hby at_129) (by decide) (by decide) ?_
                  exact kt
                · try simp only [if_neg hc125_553] at kt
                  refine XS.ifYes X548.here hx rfl (pc0 := 125) (pc' := 132) rfl (hb hby at_125) rfl ((if0 _ _).trans (feq hc125_553).2) (by decide) (by decide) ?_
                  refine XS.iload X548.here hx rfl (hb hby at_132) rfl ?_
                  show Steps p.tables e below (T548.setTop (mkF m 134 #[.val (.int p1), .val (.int p2), .val (.int p3), .val (.int p4), .val (.int p5), .val (.int (3 : Int32)), .val (.int v524), .val (.int (((p5.toUInt32 >>> ((3 : Int32) &&& 31).toUInt32).toInt32) &&& (3 : Int32))), .val (.ref b532), .unset, .unset, .unset] [(.int (((p5.toUInt32 >>> ((3 : Int32) &&& 31).toUInt32).toInt32) &&& (3 : Int32)))])) _
                  refine XS.iconst X548.here hx rfl (hb hby at_134) ?_
                  by_cases hc135_554 : (((p5.toUInt32 >>> ((3 : Int32) &&& 31).toUInt32).toInt32) &&& (3 : Int32)) = (1 : Int32)
                  · try simp only [if_pos hc135_554] at kt
                    refine XS.icmpNo X548.here hx rfl (hb hby at_135) rfl (teq hc135_554).2 ?_
                    refine XS.iloadN X548.here hx rfl (hb hby at_138) rfl ?_
                    refine XS.goto X548.here hx rfl (pc0 := 139) (pc' := 153) rfl (hb hby at_139) (by decide) (by decide) ?_
                    show Steps p.tables e below (T548.setTop (mkF m 153 #[.val (.int p1), .val (.int p2), .val (.int p3), .val (.int p4), .val (.int p5), .val (.int (3 : Int32)), .val (.int v524), .val (.int (((p5.toUInt32 >>> ((3 : Int32) &&& 31).toUInt32).toInt32) &&& (3 : Int32))), .val (.ref b532), .unset, .unset, .unset] [(.int p1)])) _
                    exact kt
                  · try simp only [if_neg hc135_554] at kt
                    refine XS.icmpYes X548.here hx rfl (pc0 := 135) (pc' := 142) rfl (hb hby at_135) rfl (feq hc135_554).2 (by decide) (by decide) ?_
                    refine XS.iload X548.here hx rfl (hb hby at_142) rfl ?_
                    refine XS.iconst X548.here hx rfl (hb hby at_144) ?_
                    show Steps p.tables e below (T548.setTop (mkF m 145 #[.val (.int p1), .val (.int p2), .val (.int p3), .val (.int p4), .val (.int p5), .val (.int (3 : Int32)), .val (.int v524), .val (.int (((p5.toUInt32 >>> ((3 : Int32) &&& 31).toUInt32).toInt32) &&& (3 : Int32))), .val (.ref b532), .unset, .unset, .unset] [(.int (2 : Int32)), (.int (((p5.toUInt32 >>> ((3 : Int32) &&& 31).toUInt32).toInt32) &&& (3 : Int32)))])) _
                    by_cases hc145_555 : (((p5.toUInt32 >>> ((3 : Int32) &&& 31).toUInt32).toInt32) &&& (3 : Int32)) = (2 : Int32)
                    · try simp only [if_pos hc145_555] at kt
                      refine XS.icmpNo X548.here hx rfl (hb hby at_145) rfl (teq hc145_555).2 ?_
                      refine XS.iloadN X548.here hx rfl (hb hby at_148) rfl ?_
                      refine XS.goto X548.here hx rfl (pc0 := 149) (pc' := 153) rfl (hb hby at_149) (by decide) (by decide) ?_
                      exact kt
                    · try simp only [if_neg hc145_555] at kt
                      refine XS.icmpYes X548.here hx rfl (pc0 := 145) (pc' := 152) rfl (hb hby at_145) rfl (feq hc145_555).2 (by decide) (by decide) ?_
                      refine XS.iloadN X548.here hx rfl (hb hby at_152) rfl ?_
                      exact kt
              have pre559 : ∀ t, Steps p.tables e below (T548.setTop (mkF m 236 #[.val (.int p1), .val (.int p2), .val (.int p3), .val (.int p4), .val (.int p5), .val (.int (3 : Int32)), .val (.int v524), .val (.int (((p5.toUInt32 >>> ((3 : Int32) &&& 31).toUInt32).toInt32) &&& (3 : Int32))), .val (.ref b532), .val (.int v556), .unset, .val (.int p3)] [(.int v556), (.int p3)])) t → Steps p.tables e below (s₁.setTop (entryFrame m #[(.int p1), (.int p2), (.int p3), (.int p4), (.int p5)] maxLocals)) t := by
                intro t kt
                refine pre557 _ ?_
                show Steps p.tables e below (T548.setTop (mkF m 153 #[.val (.int p1), .val (.int p2), .val (.int p3), .val (.int p4), .val (.int p5), .val (.int (3 : Int32)), .val (.int v524), .val (.int (((p5.toUInt32 >>> ((3 : Int32) &&& 31).toUInt32).toInt32) &&& (3 : Int32))), .val (.ref b532), .unset, .unset, .unset] [(.int v556)])) _
                refine XS.istore X548.here hx rfl (hb hby at_153) rfl (l' := #[.val (.int p1), .val (.int p2), .val (.int p3), .val (.int p4), .val (.int p5), .val (.int (3 : Int32)), .val (.int v524), .val (.int (((p5.toUInt32 >>> ((3 : Int32) &&& 31).toUInt32).toInt32) &&& (3 : Int32))), .val (.ref b532), .val (.int v556), .unset, .unset]) rfl ?_
                refine XS.iload X548.here hx rfl (hb hby at_155) rfl ?_
                refine XS.ifYes X548.here hx rfl (pc0 := 157) (pc' := 166) rfl (hb hby at_157) rfl ((if0 _ _).trans (feq (by decide)).2) (by decide) (by decide) ?_
                refine XS.iload X548.here hx rfl (hb hby at_166) rfl ?_
                show Steps p.tables e below (T548.setTop (mkF m 168 #[.val (.int p1), .val (.int p2), .val (.int p3), .val (.int p4), .val (.int p5), .val (.int (3 : Int32)), .val (.int v524), .val (.int (((p5.toUInt32 >>> ((3 : Int32) &&& 31).toUInt32).toInt32) &&& (3 : Int32))), .val (.ref b532), .val (.int v556), .unset, .unset] [(.int v524)])) _
                refine XS.ifYes X548.here hx rfl (pc0 := 168) (pc' := 209) rfl (hb hby at_168) rfl ((if0 _ _).trans (teq hc115_551).1) (by decide) (by decide) ?_
                refine XS.iload X548.here hx rfl (hb hby at_209) rfl ?_
                refine XS.iconst X548.here hx rfl (hb hby at_211) ?_
                refine XS.icmpYes X548.here hx rfl (pc0 := 212) (pc' := 219) rfl (hb hby at_212) rfl (feq (by decide)).2 (by decide) (by decide) ?_
                show Steps p.tables e below (T548.setTop (mkF m 219 #[.val (.int p1), .val (.int p2), .val (.int p3), .val (.int p4), .val (.int p5), .val (.int (3 : Int32)), .val (.int v524), .val (.int (((p5.toUInt32 >>> ((3 : Int32) &&& 31).toUInt32).toInt32) &&& (3 : Int32))), .val (.ref b532), .val (.int v556), .unset, .unset] [])) _
                refine XS.iload X548.here hx rfl (hb hby at_219) rfl ?_
                refine XS.iconst X548.here hx rfl (hb hby at_221) ?_
                refine XS.icmpYes X548.here hx rfl (pc0 := 222) (pc' := 229) rfl (hb hby at_222) rfl (feq (by decide)).2 (by decide) (by decide) ?_
                refine XS.iloadN X548.here hx rfl (hb hby at_229) rfl ?_
                show Steps p.tables e below (T548.setTop (mkF m 230 #[.val (.int p1), .val (.int p2), .val (.int p3), .val (.int p4), .val (.int p5), .val (.int (3 : Int32)), .val (.int v524), .val (.int (((p5.toUInt32 >>> ((3 : Int32) &&& 31).toUInt32).toInt32) &&& (3 : Int32))), .val (.ref b532), .val (.int v556), .unset, .unset] [(.int p3)])) _
                refine XS.istore X548.here hx rfl (hb hby at_230) rfl (l' := #[.val (.int p1), .val (.int p2), .val (.int p3), .val (.int p4), .val (.int p5), .val (.int (3 : Int32)), .val (.int v524), .val (.int (((p5.toUInt32 >>> ((3 : Int32) &&& 31).toUInt32).toInt32) &&& (3 : Int32))), .val (.ref b532), .val (.int v556), .unset, .val (.int p3)]) rfl ?_
                refine XS.iload X548.here hx rfl (hb hby at_232) rfl ?_
                refine XS.iload X548.here hx rfl (hb hby at_234) rfl ?_
                exact kt
              by_cases hc236_558 : p3 = v556
              · obtain ⟨cq560, kq560, q560a, q560b, q560c⟩ := isOf hZ rfl (((((((A532.ext E534).keep K536q).keep K538q).keep K540q).keep K545q).keep K548q))
                obtain ⟨_, _, ⟨T560, L560, k560, n560⟩, -, X560, ⟨Lc560, hQ560, l560, y560, z560⟩, st560⟩ := X548.virtualBack hx (y := (⟨"com/example/kawi/kawi/OrderedNames", "endsWith", "(I)Z"⟩ : MethodName)) (z := (⟨"com/example/kawi/kawi/OrderedNames", "endsWith", "(I)Z"⟩ : MethodName)) hown (mvT hZ (wd_43 hw)) (mvT hZ (wd_44 hw)) (notFace_of_selects (args := #[]) (mvT hZ (wd_46 hw))) (mvT hZ (wd_46 hw)) (mvT hZ (wd_45 hw)) (by decide) (backOf (W := 0) (rmew3 l Z a0 hw [] b532 v556 b_548 kb_548 p1 p2 p3 T548.heap n0 Z549 g548_1 g548_3 g548_5) hZ (wd_47 hw) (wd_2 hw) (by decide) (by decide)) q560a q560c (g := (mkF m 250 #[.val (.int p1), .val (.int p2), .val (.int p3), .val (.int p4), .val (.int p5), .val (.int (3 : Int32)), .val (.int v524), .val (.int (((p5.toUInt32 >>> ((3 : Int32) &&& 31).toUInt32).toInt32) &&& (3 : Int32))), .val (.ref b532), .val (.int v556), .val (.int (1 : Int32)), .val (.int p3)] [(.int v556), (.ref b532)])) rfl (by rw [hml]; rfl) (Steps.refl _) (argsL := [(.int v556)]) (rest := []) (lenOf pd__I_Z rfl) rfl (by show 2 * 0 + _ ≤ _; exact Nat.le_of_eq rfl) (hb hby at_250) (fun _ _ => ⟨rfl, rfl, (by decide : 5 + 0 ≤ _), (by decide : 15 + 0 ≤ _)⟩)
                dsimp only [Pt.U, Pt.locs, Pt.cells, Pt.slots] at X560 l560 y560 z560 st560 hQ560
                subst l560 y560 z560
                obtain ⟨rfl, N560q, e560⟩ := hQ560
                have N560 := Fr.app N548 N560q
                obtain ⟨fs, hr, hrun, hended, hW, hsame⟩ := X560.leave (v := some (.int (1 : Int32))) (fun h => by rw [Bd.returns] at h; cases h)
                refine ⟨_, _, pre559 _ ?_, hrun, hended, _, _, rfl, ?_, ⟨_, rfl⟩, hW, hsame.mono (by decide) (by decide)⟩
                · show Steps p.tables e below (T548.setTop (mkF m 236 #[.val (.int p1), .val (.int p2), .val (.int p3), .val (.int p4), .val (.int p5), .val (.int (3 : Int32)), .val (.int v524), .val (.int (((p5.toUInt32 >>> ((3 : Int32) &&& 31).toUInt32).toInt32) &&& (3 : Int32))), .val (.ref b532), .val (.int v556), .unset, .val (.int p3)] [(.int v556), (.int p3)])) _
                  refine XS.icmpNo X548.here hx rfl (hb hby at_236) rfl (teq hc236_558).2 ?_
                  show Steps p.tables e below (T548.setTop (mkF m 239 #[.val (.int p1), .val (.int p2), .val (.int p3), .val (.int p4), .val (.int p5), .val (.int (3 : Int32)), .val (.int v524), .val (.int (((p5.toUInt32 >>> ((3 : Int32) &&& 31).toUInt32).toInt32) &&& (3 : Int32))), .val (.ref b532), .val (.int v556), .unset, .val (.int p3)] [])) _
                  refine XS.iconst X548.here hx rfl (hb hby at_239) ?_
                  refine XS.goto X548.here hx rfl (pc0 := 240) (pc' := 244) rfl (hb hby at_240) (by decide) (by decide) ?_
                  refine XS.istore X548.here hx rfl (hb hby at_244) rfl (l' := #[.val (.int p1), .val (.int p2), .val (.int p3), .val (.int p4), .val (.int p5), .val (.int (3 : Int32)), .val (.int v524), .val (.int (((p5.toUInt32 >>> ((3 : Int32) &&& 31).toUInt32).toInt32) &&& (3 : Int32))), .val (.ref b532), .val (.int v556), .val (.int (1 : Int32)), .val (.int p3)]) rfl ?_
                  refine XS.aload X548.here hx rfl (hb hby at_246) rfl rfl ?_
                  show Steps p.tables e below (T548.setTop (mkF m 248 #[.val (.int p1), .val (.int p2), .val (.int p3), .val (.int p4), .val (.int p5), .val (.int (3 : Int32)), .val (.int v524), .val (.int (((p5.toUInt32 >>> ((3 : Int32) &&& 31).toUInt32).toInt32) &&& (3 : Int32))), .val (.ref b532), .val (.int v556), .val (.int (1 : Int32)), .val (.int p3)] [(.ref b532)])) _
                  refine XS.iload X548.here hx rfl (hb hby at_248) rfl ?_
                  refine st560.trans ?_
                  refine XS.iload X560.here hx rfl (hb hby at_253) rfl ?_
                  refine XS.icmpNo X560.here hx rfl (hb hby at_255) rfl (teq (by simp only [if_pos hc236_558])).2 ?_
                  show Steps p.tables e below (T560.setTop (mkF m 258 #[.val (.int p1), .val (.int p2), .val (.int p3), .val (.int p4), .val (.int p5), .val (.int (3 : Int32)), .val (.int v524), .val (.int (((p5.toUInt32 >>> ((3 : Int32) &&& 31).toUInt32).toInt32) &&& (3 : Int32))), .val (.ref b532), .val (.int v556), .val (.int (1 : Int32)), .val (.int p3)] [])) _
                  refine XS.iconst X560.here hx rfl (hb hby at_258) ?_
                  refine XS.goto X560.here hx rfl (pc0 := 259) (pc' := 263) rfl (hb hby at_259) (by decide) (by decide) ?_
                  exact retN X560 hx (t := .boolean) Bd.returns (by simp) (hb hby at_263) hr
                · show Q_rm0 Z p1 p2 p3 p4 p5 wD wN kN h0 n0 _ T560.heap _
                  rw [e560]
                  exact ⟨rfl, N560, trivial⟩
              · obtain ⟨cq561, kq561, q561a, q561b, q561c⟩ := isOf hZ rfl (((((((A532.ext E534).keep K536q).keep K538q).keep K540q).keep K545q).keep K548q))
                obtain ⟨_, _, ⟨T561, L561, k561, n561⟩, -, X561, ⟨Lc561, hQ561, l561, y561, z561⟩, st561⟩ := X548.virtualBack hx (y := (⟨"com/example/kawi/kawi/OrderedNames", "endsWith", "(I)Z"⟩ : MethodName)) (z := (⟨"com/example/kawi/kawi/OrderedNames", "endsWith", "(I)Z"⟩ : MethodName)) hown (mvT hZ (wd_43 hw)) (mvT hZ (wd_44 hw)) (notFace_of_selects (args := #[]) (mvT hZ (wd_46 hw))) (mvT hZ (wd_46 hw)) (mvT hZ (wd_45 hw)) (by decide) (backOf (W := 0) (rmew3 l Z a0 hw [] b532 v556 b_548 kb_548 p1 p2 p3 T548.heap n0 Z549 g548_1 g548_3 g548_5) hZ (wd_47 hw) (wd_2 hw) (by decide) (by decide)) q561a q561c (g := (mkF m 250 #[.val (.int p1), .val (.int p2), .val (.int p3), .val (.int p4), .val (.int p5), .val (.int (3 : Int32)), .val (.int v524), .val (.int (((p5.toUInt32 >>> ((3 : Int32) &&& 31).toUInt32).toInt32) &&& (3 : Int32))), .val (.ref b532), .val (.int v556), .val (.int (0 : Int32)), .val (.int p3)] [(.int v556), (.ref b532)])) rfl (by rw [hml]; rfl) (Steps.refl _) (argsL := [(.int v556)]) (rest := []) (lenOf pd__I_Z rfl) rfl (by show 2 * 0 + _ ≤ _; exact Nat.le_of_eq rfl) (hb hby at_250) (fun _ _ => ⟨rfl, rfl, (by decide : 5 + 0 ≤ _), (by decide : 15 + 0 ≤ _)⟩)
                dsimp only [Pt.U, Pt.locs, Pt.cells, Pt.slots] at X561 l561 y561 z561 st561 hQ561
                subst l561 y561 z561
                obtain ⟨rfl, N561q, e561⟩ := hQ561
                have N561 := Fr.app N548 N561q
                obtain ⟨fs, hr, hrun, hended, hW, hsame⟩ := X561.leave (v := some (.int (1 : Int32))) (fun h => by rw [Bd.returns] at h; cases h)
                refine ⟨_, _, pre559 _ ?_, hrun, hended, _, _, rfl, ?_, ⟨_, rfl⟩, hW, hsame.mono (by decide) (by decide)⟩
                · show Steps p.tables e below (T548.setTop (mkF m 236 #[.val (.int p1), .val (.int p2), .val (.int p3), .val (.int p4), .val (.int p5), .val (.int (3 : Int32)), .val (.int v524), .val (.int (((p5.toUInt32 >>> ((3 : Int32) &&& 31).toUInt32).toInt32) &&& (3 : Int32))), .val (.ref b532), .val (.int v556), .unset, .val (.int p3)] [(.int v556), (.int p3)])) _
                  refine XS.icmpYes X548.here hx rfl (pc0 := 236) (pc' := 243) rfl (hb hby at_236) rfl (feq hc236_558).2 (by decide) (by decide) ?_
                  show Steps p.tables e below (T548.setTop (mkF m 243 #[.val (.int p1), .val (.int p2), .val (.int p3), .val (.int p4), .val (.int p5), .val (.int (3 : Int32)), .val (.int v524), .val (.int (((p5.toUInt32 >>> ((3 : Int32) &&& 31).toUInt32).toInt32) &&& (3 : Int32))), .val (.ref b532), .val (.int v556), .unset, .val (.int p3)] [])) _
                  refine XS.iconst X548.here hx rfl (hb hby at_243) ?_
                  refine XS.istore X548.here hx rfl (hb hby at_244) rfl (l' := #[.val (.int p1), .val (.int p2), .val (.int p3), .val (.int p4), .val (.int p5), .val (.int (3 : Int32)), .val (.int v524), .val (.int (((p5.toUInt32 >>> ((3 : Int32) &&& 31).toUInt32).toInt32) &&& (3 : Int32))), .val (.ref b532), .val (.int v556), .val (.int (0 : Int32)), .val (.int p3)]) rfl ?_
                  refine XS.aload X548.here hx rfl (hb hby at_246) rfl rfl ?_
                  refine XS.iload X548.here hx rfl (hb hby at_248) rfl ?_
                  show Steps p.tables e below (T548.setTop (mkF m 250 #[.val (.int p1), .val (.int p2), .val (.int p3), .val (.int p4), .val (.int p5), .val (.int (3 : Int32)), .val (.int v524), .val (.int (((p5.toUInt32 >>> ((3 : Int32) &&& 31).toUInt32).toInt32) &&& (3 : Int32))), .val (.ref b532), .val (.int v556), .val (.int (0 : Int32)), .val (.int p3)] [(.int v556), (.ref b532)])) _
                  refine st561.trans ?_
                  refine XS.iload X561.here hx rfl (hb hby at_253) rfl ?_
                  refine XS.icmpNo X561.here hx rfl (hb hby at_255) rfl (teq (by simp only [if_neg hc236_558])).2 ?_
                  refine XS.iconst X561.here hx rfl (hb hby at_258) ?_
                  show Steps p.tables e below (T561.setTop (mkF m 259 #[.val (.int p1), .val (.int p2), .val (.int p3), .val (.int p4), .val (.int p5), .val (.int (3 : Int32)), .val (.int v524), .val (.int (((p5.toUInt32 >>> ((3 : Int32) &&& 31).toUInt32).toInt32) &&& (3 : Int32))), .val (.ref b532), .val (.int v556), .val (.int (0 : Int32)), .val (.int p3)] [(.int (1 : Int32))])) _
                  refine XS.goto X561.here hx rfl (pc0 := 259) (pc' := 263) rfl (hb hby at_259) (by decide) (by decide) ?_
                  exact retN X561 hx (t := .boolean) Bd.returns (by simp) (hb hby at_263) hr
                · show Q_rm0 Z p1 p2 p3 p4 p5 wD wN kN h0 n0 _ T561.heap _
                  rw [e561]
                  exact ⟨rfl, N561, trivial⟩
            · obtain ⟨cq562, kq562, q562a, q562b, q562c⟩ := isOf hZ rfl (((((((A532.ext E534).keep K536q).keep K538q).keep K540q).keep K545q).keep K548q))
              obtain ⟨_, _, ⟨T562, L562, k562, n562⟩, -, X562, ⟨Lc562, hQ562, l562, y562, z562⟩, st562⟩ := X548.virtualBack hx (y := (⟨"com/example/kawi/kawi/OrderedNames", "order", "()V"⟩ : MethodName)) (z := (⟨"com/example/kawi/kawi/OrderedNames", "order", "()V"⟩ : MethodName)) hown (mvT hZ (wd_73 hw)) (mvT hZ (wd_74 hw)) (notFace_of_selects (args := #[]) (mvT hZ (wd_76 hw))) (mvT hZ (wd_76 hw)) (mvT hZ (wd_75 hw)) (by decide) (backOf (W := 0) (rmo3 l Z a0 hw [] b532 b_548 kb_548 p1 p2 p3 T548.heap n0 Z549 g548_1 g548_2 g548_3 ((((((A532.ext E534).keep K536q).keep K538q).keep K540q).keep K545q).keep K548q) g_b532 g550 g548_5 (Ne.symm ne_b532_b_548)) hZ (wd_77 hw) (wd_2 hw) (by decide) (by decide)) q562a q562c (g := (mkF m 120 #[.val (.int p1), .val (.int p2), .val (.int p3), .val (.int p4), .val (.int p5), .val (.int (3 : Int32)), .val (.int v524), .val (.int (((p5.toUInt32 >>> ((3 : Int32) &&& 31).toUInt32).toInt32) &&& (3 : Int32))), .val (.ref b532), .unset, .unset, .unset] [(.ref b532)])) rfl (by rw [hml]; rfl) (Steps.refl _) (argsL := []) (rest := []) (lenOf pd___V rfl) rfl (by show 2 * 0 + _ ≤ _; exact Nat.le_of_eq rfl) (hb hby at_120) (fun _ _ => ⟨rfl, rfl, (by decide : 5 + 0 ≤ _), (by decide : 15 + 0 ≤ _)⟩)
              dsimp only [Pt.U, Pt.locs, Pt.cells, Pt.slots] at X562 l562 y562 z562 st562 hQ562
              subst l562 y562 z562
              obtain ⟨r0_562, r1_562, r2_562, rfl, N562q, K562q, g562_0, g562_1, g562_2, g562_3⟩ := hQ562
              have N562 := Fr.app N548 N562q
              have Z563 : n0 ≤ T562.heap.size := Nat.le_trans Z549 K562q.1
              obtain ⟨v567, hv567⟩ : ∃ z : Int32, z = (if (((p5.toUInt32 >>> ((3 : Int32) &&& 31).toUInt32).toInt32) &&& (3 : Int32)) = (0 : Int32) then p4 else (if (((p5.toUInt32 >>> ((3 : Int32) &&& 31).toUInt32).toInt32) &&& (3 : Int32)) = (1 : Int32) then p1 else (if (((p5.toUInt32 >>> ((3 : Int32) &&& 31).toUInt32).toInt32) &&& (3 : Int32)) = (2 : Int32) then p2 else p3))) := ⟨_, rfl⟩
              have pre568 : ∀ t, Steps p.tables e below (T562.setTop (mkF m 153 #[.val (.int p1), .val (.int p2), .val (.int p3), .val (.int p4), .val (.int p5), .val (.int (3 : Int32)), .val (.int v524), .val (.int (((p5.toUInt32 >>> ((3 : Int32) &&& 31).toUInt32).toInt32) &&& (3 : Int32))), .val (.ref b532), .unset, .unset, .unset] [(.int v567)])) t → Steps p.tables e below (s₁.setTop (entryFrame m #[(.int p1), (.int p2), (.int p3), (.int p4), (.int p5)] maxLocals)) t := by
                intro t kt
                refine pre552 _ ?_
                rw [hv567] at kt
                show Steps p.tables e below (T548.setTop (mkF m 115 #[.val (.int p1), .val (.int p2), .val (.int p3), .val (.int p4), .val (.int p5), .val (.int (3 : Int32)), .val (.int v524), .val (.int (((p5.toUInt32 >>> ((3 : Int32) &&& 31).toUInt32).toInt32) &&& (3 : Int32))), .val (.ref b532), .unset, .unset, .unset] [(.int v524)])) _
                refine XS.ifNo X548.here hx rfl (hb hby at_115) rfl ((if0 _ _).trans (feq hc115_551).1) ?_
                refine XS.aload X548.here hx rfl (hb hby at_118) rfl rfl ?_
                refine st562.trans ?_
                refine XS.iload X562.here hx rfl (hb hby at_123) rfl ?_
                show Steps p.tables e below (T562.setTop (mkF m 125 #[.val (.int p1), .val (.int p2), .val (.int p3), .val (.int p4), .val (.int p5), .val (.int (3 : Int32)), .val (.int v524), .val (.int (((p5.toUInt32 >>> ((3 : Int32) &&& 31).toUInt32).toInt32) &&& (3 : Int32))), .val (.ref b532), .unset, .unset, .unset] [(.int (((p5.toUInt32 >>> ((3 : Int32) &&& 31).toUInt32).toInt32) &&& (3 : Int32)))])) _
                by_cases hc125_564 : (((p5.toUInt32 >>> ((3 : Int32) &&& 31).toUInt32).toInt32) &&& (3 : Int32)) = (0 : Int32)
                · try simp only [if_pos hc125_564] at kt
                  refine XS.ifNo X562.here hx rfl (hb hby at_125) rfl ((if0 _ _).trans (teq hc125_564).2) ?_
                  refine XS.iloadN X562.here hx rfl (hb hby at_128) rfl ?_
                  refine XS.goto X562.here hx rfl (pc0 := 129) (pc' := 153) rfl (hb hby at_129) (by decide) (by decide) ?_
                  exact kt
                · try simp only [if_neg hc125_564] at kt
                  refine XS.ifYes X562.here hx rfl (pc0 := 125) (pc' := 132) rfl (hb hby at_125) rfl ((if0 _ _).trans (feq hc125_564).2) (by decide) (by decide) ?_
                  refine XS.iload X562.here hx rfl (hb hby at_132) rfl ?_
                  refine XS.iconst X562.here hx rfl (hb hby at_134) ?_
                  by_cases hc135_565 : (((p5.toUInt32 >>> ((3 : Int32) &&& 31).toUInt32).toInt32) &&& (3 : Int32)) = (1 : Int32)
                  · try simp only [if_pos hc135_565] at kt
                    refine XS.icmpNo X562.here hx rfl (hb hby at_135) rfl (teq hc135_565).2 ?_
                    show Steps p.tables e below (T562.setTop (mkF m 138 #[.val (.int p1), .val (.int p2), .val (.int p3), .val (.int p4), .val (.int p5), .val (.int (3 : Int32)), .val (.int v524), .val (.int (((p5.toUInt32 >>> ((3 : Int32) &&& 31).toUInt32).toInt32) &&& (3 : Int32))), .val (.ref b532), .unset, .unset, .unset] [])) _
                    refine XS.iloadN X562.here hx rfl (hb hby at_138) rfl ?_
                    refine XS.goto X562.here hx rfl (pc0 := 139) (pc' := 153) rfl (hb hby at_139) (by decide) (by decide) ?_
                    exact kt
                  · try simp only [if_neg hc135_565] at kt
                    refine XS.icmpYes X562.here hx rfl (pc0 := 135) (pc' := 142) rfl (hb hby at_135) rfl (feq hc135_565).2 (by decide) (by decide) ?_
                    show Steps p.tables e below (T562.setTop (mkF m 142 #[.val (.int p1), .val (.int p2), .val (.int p3), .val (.int p4), .val (.int p5), .val (.int (3 : Int32)), .val (.int v524), .val (.int (((p5.toUInt32 >>> ((3 : Int32) &&& 31).toUInt32).toInt32) &&& (3 : Int32))), .val (.ref b532), .unset, .unset, .unset] [])) _
                    refine XS.iload X562.here hx rfl (hb hby at_142) rfl ?_
                    refine XS.iconst X562.here hx rfl (hb hby at_144) ?_
                    by_cases hc145_566 : (((p5.toUInt32 >>> ((3 : Int32) &&& 31).toUInt32).toInt32) &&& (3 : Int32)) = (2 : Int32)
                    · try simp only [if_pos hc145_566] at kt
                      refine XS.icmpNo X562.here hx rfl (hb hby at_145) rfl (teq hc145_566).2 ?_
                      refine XS.iloadN X562.here hx rfl (hb hby at_148) rfl ?_
                      show Steps p.tables e below (T562.setTop (mkF m 149 #[.val (.int p1), .val (.int p2), .val (.int p3), .val (.int p4), .val (.int p5), .val (.int (3 : Int32)), .val (.int v524), .val (.int (((p5.toUInt32 >>> ((3 : Int32) &&& 31).toUInt32).toInt32) &&& (3 : Int32))), .val (.ref b532), .unset, .unset, .unset] [(.int p2)])) _
                      refine XS.goto X562.here hx rfl (pc0 := 149) (pc' := 153) rfl (hb hby at_149) (by decide) (by decide) ?_
                      exact kt
                    · try simp only [if_neg hc145_566] at kt
                      refine XS.icmpYes X562.here hx rfl (pc0 := 145) (pc' := 152) rfl (hb hby at_145) rfl (feq hc145_566).2 (by decide) (by decide) ?_
                      refine XS.iloadN X562.here hx rfl (hb hby at_152) rfl ?_
                      show Steps p.tables e below (T562.setTop (mkF m 153 #[.val (.int p1), .val (.int p2), .val (.int p3), .val (.int p4), .val (.int p5), .val (.int (3 : Int32)), .val (.int v524), .val (.int (((p5.toUInt32 >>> ((3 : Int32) &&& 31).toUInt32).toInt32) &&& (3 : Int32))), .val (.ref b532), .unset, .unset, .unset] [(.int p3)])) _
                      exact kt
              obtain ⟨_, _, ⟨T569, L569, k569, n569⟩, -, X569, ⟨Lc569, hQ569, l569, y569, z569⟩, st569⟩ := Jvm.LawKit.callS X562 hx (y := (⟨"java/lang/Math", "max", "(II)I"⟩ : MethodName)) hown (mvT hZ (wd_78 hw)) (mvT hZ (wd_56 hw)) (mvT hZ (wd_57 hw)) (mvT hZ (wd_58 hw)) (by decide) (backOf (W := 1) (rm8 l Z a0 hw [] p2 p3 T562.heap n0 Z563) hZ (wd_58 hw) (wd_57 hw) (by decide) (by decide)) (g := (mkF m 198 #[.val (.int p1), .val (.int p2), .val (.int p3), .val (.int p4), .val (.int p5), .val (.int (3 : Int32)), .val (.int v524), .val (.int (((p5.toUInt32 >>> ((3 : Int32) &&& 31).toUInt32).toInt32) &&& (3 : Int32))), .val (.ref b532), .val (.int v567), .unset, .unset] [(.int p3), (.int p2), (.int p1)])) rfl (by rw [hml]; rfl) (argsL := [(.int p2), (.int p3)]) (rest := [(.int p1)]) (lenOf pd__II_I rfl) rfl (by show 2 * 0 + _ ≤ _; exact Nat.le_of_eq rfl) (hb hby at_198) (fun _ _ => ⟨rfl, rfl, (by decide : 5 + 0 ≤ _), (by decide : 15 + 0 ≤ _)⟩)
              dsimp only [Pt.U, Pt.locs, Pt.cells, Pt.slots] at X569 l569 y569 z569 st569 hQ569
              subst l569 y569 z569
              obtain ⟨rfl, N569q, e569⟩ := hQ569
              have N569 := Fr.app N562 N569q
              obtain ⟨_, _, ⟨T570, L570, k570, n570⟩, -, X570, ⟨Lc570, hQ570, l570, y570, z570⟩, st570⟩ := Jvm.LawKit.callS X569 hx (y := (⟨"java/lang/Math", "max", "(II)I"⟩ : MethodName)) hown (mvT hZ (wd_78 hw)) (mvT hZ (wd_56 hw)) (mvT hZ (wd_57 hw)) (mvT hZ (wd_58 hw)) (by decide) (backOf (W := 0) (rm8 l Z a0 hw [] p1 (if p2 < p3 then p3 else p2) T562.heap n0 Z563) hZ (wd_58 hw) (wd_57 hw) (by decide) (by decide)) (g := (mkF m 201 #[.val (.int p1), .val (.int p2), .val (.int p3), .val (.int p4), .val (.int p5), .val (.int (3 : Int32)), .val (.int v524), .val (.int (((p5.toUInt32 >>> ((3 : Int32) &&& 31).toUInt32).toInt32) &&& (3 : Int32))), .val (.ref b532), .val (.int v567), .unset, .unset] [(.int (if p2 < p3 then p3 else p2)), (.int p1)])) rfl (by rw [hml]; rfl) (argsL := [(.int p1), (.int (if p2 < p3 then p3 else p2))]) (rest := []) (lenOf pd__II_I rfl) rfl (by show 2 * 0 + _ ≤ _; exact Nat.le_of_eq rfl) (hb hby at_201) (fun _ _ => ⟨rfl, e569, (by decide : 5 + 0 ≤ _), (by decide : 15 + 0 ≤ _)⟩)
              dsimp only [Pt.U, Pt.locs, Pt.cells, Pt.slots] at X570 l570 y570 z570 st570 hQ570
              subst l570 y570 z570
              obtain ⟨rfl, N570q, e570⟩ := hQ570
              have N570 := Fr.app N569 N570q
              have pre572 : ∀ t, Steps p.tables e below (T570.setTop (mkF m 236 #[.val (.int p1), .val (.int p2), .val (.int p3), .val (.int p4), .val (.int p5), .val (.int (3 : Int32)), .val (.int v524), .val (.int (((p5.toUInt32 >>> ((3 : Int32) &&& 31).toUInt32).toInt32) &&& (3 : Int32))), .val (.ref b532), .val (.int v567), .unset, .val (.int (if p1 < (if p2 < p3 then p3 else p2) then (if p2 < p3 then p3 else p2) else p1))] [(.int v567), (.int (if p1 < (if p2 < p3 then p3 else p2) then (if p2 < p3 then p3 else p2) else p1))])) t → Steps p.tables e below (s₁.setTop (entryFrame m #[(.int p1), (.int p2), (.int p3), (.int p4), (.int p5)] maxLocals)) t := by
                intro t kt
                refine pre568 _ ?_
                show Steps p.tables e below (T562.setTop (mkF m 153 #[.val (.int p1), .val (.int p2), .val (.int p3), .val (.int p4), .val (.int p5), .val (.int (3 : Int32)), .val (.int v524), .val (.int (((p5.toUInt32 >>> ((3 : Int32) &&& 31).toUInt32).toInt32) &&& (3 : Int32))), .val (.ref b532), .unset, .unset, .unset] [(.int v567)])) _
                refine XS.istore X562.here hx rfl (hb hby at_153) rfl (l' := #[.val (.int p1), .val (.int p2), .val (.int p3), .val (.int p4), .val (.int p5), .val (.int (3 : Int32)), .val (.int v524), .val (.int (((p5.toUInt32 >>> ((3 : Int32) &&& 31).toUInt32).toInt32) &&& (3 : Int32))), .val (.ref b532), .val (.int v567), .unset, .unset]) rfl ?_
                refine XS.iload X562.here hx rfl (hb hby at_155) rfl ?_
                refine XS.ifYes X562.here hx rfl (pc0 := 157) (pc' := 166) rfl (hb hby at_157) rfl ((if0 _ _).trans (feq (by decide)).2) (by decide) (by decide) ?_
                refine XS.iload X562.here hx rfl (hb hby at_166) rfl ?_
                show Steps p.tables e below (T562.setTop (mkF m 168 #[.val (.int p1), .val (.int p2), .val (.int p3), .val (.int p4), .val (.int p5), .val (.int (3 : Int32)), .val (.int v524), .val (.int (((p5.toUInt32 >>> ((3 : Int32) &&& 31).toUInt32).toInt32) &&& (3 : Int32))), .val (.ref b532), .val (.int v567), .unset, .unset] [(.int v524)])) _
                refine XS.ifNo X562.here hx rfl (hb hby at_168) rfl ((if0 _ _).trans (feq hc115_551).1) ?_
                refine XS.iload X562.here hx rfl (hb hby at_171) rfl ?_
                refine XS.iconst X562.here hx rfl (hb hby at_173) ?_
                refine XS.icmpYes X562.here hx rfl (pc0 := 174) (pc' := 181) rfl (hb hby at_174) rfl (feq (by decide)).2 (by decide) (by decide) ?_
                show Steps p.tables e below (T562.setTop (mkF m 181 #[.val (.int p1), .val (.int p2), .val (.int p3), .val (.int p4), .val (.int p5), .val (.int (3 : Int32)), .val (.int v524), .val (.int (((p5.toUInt32 >>> ((3 : Int32) &&& 31).toUInt32).toInt32) &&& (3 : Int32))), .val (.ref b532), .val (.int v567), .unset, .unset] [])) _
                refine XS.iload X562.here hx rfl (hb hby at_181) rfl ?_
                refine XS.iconst X562.here hx rfl (hb hby at_183) ?_
                refine XS.icmpYes X562.here hx rfl (pc0 := 184) (pc' := 195) rfl (hb hby at_184) rfl (feq (by decide)).2 (by decide) (by decide) ?_
                refine XS.iloadN X562.here hx rfl (hb hby at_195) rfl ?_
                show Steps p.tables e below (T562.setTop (mkF m 196 #[.val (.int p1), .val (.int p2), .val (.int p3), .val (.int p4), .val (.int p5), .val (.int (3 : Int32)), .val (.int v524), .val (.int (((p5.toUInt32 >>> ((3 : Int32) &&& 31).toUInt32).toInt32) &&& (3 : Int32))), .val (.ref b532), .val (.int v567), .unset, .unset] [(.int p1)])) _
                refine XS.iloadN X562.here hx rfl (hb hby at_196) rfl ?_
                refine XS.iloadN X562.here hx rfl (hb hby at_197) rfl ?_
                refine st569 _ ?_
                refine st570 _ ?_
                show Steps p.tables e below (T570.setTop (mkF m 204 #[.val (.int p1), .val (.int p2), .val (.int p3), .val (.int p4), .val (.int p5), .val (.int (3 : Int32)), .val (.int v524), .val (.int (((p5.toUInt32 >>> ((3 : Int32) &&& 31).toUInt32).toInt32) &&& (3 : Int32))), .val (.ref b532), .val (.int v567), .unset, .unset] [(.int (if p1 < (if p2 < p3 then p3 else p2) then (if p2 < p3 then p3 else p2) else p1))])) _
                refine XS.istore X570.here hx rfl (hb hby at_204) rfl (l' := #[.val (.int p1), .val (.int p2), .val (.int p3), .val (.int p4), .val (.int p5), .val (.int (3 : Int32)), .val (.int v524), .val (.int (((p5.toUInt32 >>> ((3 : Int32) &&& 31).toUInt32).toInt32) &&& (3 : Int32))), .val (.ref b532), .val (.int v567), .unset, .val (.int (if p1 < (if p2 < p3 then p3 else p2) then (if p2 < p3 then p3 else p2) else p1))]) rfl ?_
                refine XS.goto X570.here hx rfl (pc0 := 206) (pc' := 232) rfl (hb hby at_206) (by decide) (by decide) ?_
                refine XS.iload X570.here hx rfl (hb hby at_232) rfl ?_
                refine XS.iload X570.here hx rfl (hb hby at_234) rfl ?_
                show Steps p.tables e below (T570.setTop (mkF m 236 #[.val (.int p1), .val (.int p2), .val (.int p3), .val (.int p4), .val (.int p5), .val (.int (3 : Int32)), .val (.int v524), .val (.int (((p5.toUInt32 >>> ((3 : Int32) &&& 31).toUInt32).toInt32) &&& (3 : Int32))), .val (.ref b532), .val (.int v567), .unset, .val (.int (if p1 < (if p2 < p3 then p3 else p2) then (if p2 < p3 then p3 else p2) else p1))] [(.int v567), (.int (if p1 < (if p2 < p3 then p3 else p2) then (if p2 < p3 then p3 else p2) else p1))])) _
                exact kt
              by_cases hc236_571 : (if p1 < (if p2 < p3 then p3 else p2) then (if p2 < p3 then p3 else p2) else p1) = v567
              · obtain ⟨cq573, kq573, q573a, q573b, q573c⟩ := isOf hZ e570 ((((((((A532.ext E534).keep K536q).keep K538q).keep K540q).keep K545q).keep K548q).keep K562q))
                obtain ⟨_, _, ⟨T573, L573, k573, n573⟩, -, X573, ⟨Lc573, hQ573, l573, y573, z573⟩, st573⟩ := X570.virtualBack hx (y := (⟨"com/example/kawi/kawi/OrderedNames", "endsWith", "(I)Z"⟩ : MethodName)) (z := (⟨"com/example/kawi/kawi/OrderedNames", "endsWith", "(I)Z"⟩ : MethodName)) hown (mvT hZ (wd_43 hw)) (mvT hZ (wd_44 hw)) (notFace_of_selects (args := #[]) (mvT hZ (wd_46 hw))) (mvT hZ (wd_46 hw)) (mvT hZ (wd_45 hw)) (by decide) (backOf (W := 0) (rmew3 l Z a0 hw [] b532 v567 b_548 kb_548 r0_562 r1_562 r2_562 T562.heap n0 Z563 g562_0 g562_1 g562_2) hZ (wd_47 hw) (wd_2 hw) (by decide) (by decide)) q573a q573c (g := (mkF m 250 #[.val (.int p1), .val (.int p2), .val (.int p3), .val (.int p4), .val (.int p5), .val (.int (3 : Int32)), .val (.int v524), .val (.int (((p5.toUInt32 >>> ((3 : Int32) &&& 31).toUInt32).toInt32) &&& (3 : Int32))), .val (.ref b532), .val (.int v567), .val (.int (1 : Int32)), .val (.int (if p1 < (if p2 < p3 then p3 else p2) then (if p2 < p3 then p3 else p2) else p1))] [(.int v567), (.ref b532)])) rfl (by rw [hml]; rfl) (Steps.refl _) (argsL := [(.int v567)]) (rest := []) (lenOf pd__I_Z rfl) rfl (by show 2 * 0 + _ ≤ _; exact Nat.le_of_eq rfl) (hb hby at_250) (fun _ _ => ⟨rfl, e570, (by decide : 5 + 0 ≤ _), (by decide : 15 + 0 ≤ _)⟩)
                dsimp only [Pt.U, Pt.locs, Pt.cells, Pt.slots] at X573 l573 y573 z573 st573 hQ573
                subst l573 y573 z573
                obtain ⟨rfl, N573q, e573⟩ := hQ573
                have N573 := Fr.app N570 N573q
                obtain ⟨fs, hr, hrun, hended, hW, hsame⟩ := X573.leave (v := some (.int (1 : Int32))) (fun h => by rw [Bd.returns] at h; cases h)
                refine ⟨_, _, pre572 _ ?_, hrun, hended, _, _, rfl, ?_, ⟨_, rfl⟩, hW, hsame.mono (by decide) (by decide)⟩
                · show Steps p.tables e below (T570.setTop (mkF m 236 #[.val (.int p1), .val (.int p2), .val (.int p3), .val (.int p4), .val (.int p5), .val (.int (3 : Int32)), .val (.int v524), .val (.int (((p5.toUInt32 >>> ((3 : Int32) &&& 31).toUInt32).toInt32) &&& (3 : Int32))), .val (.ref b532), .val (.int v567), .unset, .val (.int (if p1 < (if p2 < p3 then p3 else p2) then (if p2 < p3 then p3 else p2) else p1))] [(.int v567), (.int (if p1 < (if p2 < p3 then p3 else p2) then (if p2 < p3 then p3 else p2) else p1))])) _
                  refine XS.icmpNo X570.here hx rfl (hb hby at_236) rfl (teq hc236_571).2 ?_
                  refine XS.iconst X570.here hx rfl (hb hby at_239) ?_
                  refine XS.goto X570.here hx rfl (pc0 := 240) (pc' := 244) rfl (hb hby at_240) (by decide) (by decide) ?_
                  refine XS.istore X570.here hx rfl (hb hby at_244) rfl (l' := #[.val (.int p1), .val (.int p2), .val (.int p3), .val (.int p4), .val (.int p5), .val (.int (3 : Int32)), .val (.int v524), .val (.int (((p5.toUInt32 >>> ((3 : Int32) &&& 31).toUInt32).toInt32) &&& (3 : Int32))), .val (.ref b532), .val (.int v567), .val (.int (1 : Int32)), .val (.int (if p1 < (if p2 < p3 then p3 else p2) then (if p2 < p3 then p3 else p2) else p1))]) rfl ?_
                  show Steps p.tables e below (T570.setTop (mkF m 246 #[.val (.int p1), .val (.int p2), .val (.int p3), .val (.int p4), .val (.int p5), .val (.int (3 : Int32)), .val (.int v524), .val (.int (((p5.toUInt32 >>> ((3 : Int32) &&& 31).toUInt32).toInt32) &&& (3 : Int32))), .val (.ref b532), .val (.int v567), .val (.int (1 : Int32)), .val (.int (if p1 < (if p2 < p3 then p3 else p2) then (if p2 < p3 then p3 else p2) else p1))] [])) _
                  refine XS.aload X570.here hx rfl (hb hby at_246) rfl rfl ?_
                  refine XS.iload X570.here hx rfl (hb hby at_248) rfl ?_
                  refine st573.trans ?_
                  refine XS.iload X573.here hx rfl (hb hby at_253) rfl ?_
                  show Steps p.tables e below (T573.setTop (mkF m 255 #[.val (.int p1), .val (.int p2), .val (.int p3), .val (.int p4), .val (.int p5), .val (.int (3 : Int32)), .val (.int v524), .val (.int (((p5.toUInt32 >>> ((3 : Int32) &&& 31).toUInt32).toInt32) &&& (3 : Int32))), .val (.ref b532), .val (.int v567), .val (.int (1 : Int32)), .val (.int (if p1 < (if p2 < p3 then p3 else p2) then (if p2 < p3 then p3 else p2) else p1))] [(.int (1 : Int32)), (.int (if r2_562 = v567 then (1 : Int32) else (0 : Int32)))])) _
                  refine XS.icmpNo X573.here hx rfl (hb hby at_255) rfl (teq (by (have e : r2_562 = (if p1 < (if p2 < p3 then p3 else p2) then (if p2 < p3 then p3 else p2) else p1) := g562_3; rw [e]; simp only [if_pos hc236_571]))).2 ?_
                  refine XS.iconst X573.here hx rfl (hb hby at_258) ?_
                  refine XS.goto X573.here hx rfl (pc0 := 259) (pc' := 263) rfl (hb hby at_259) (by decide) (by decide) ?_
                  exact retN X573 hx (t := .boolean) Bd.returns (by simp) (hb hby at_263) hr
                · show Q_rm0 Z p1 p2 p3 p4 p5 wD wN kN h0 n0 _ T573.heap _
                  rw [e573]
                  exact ⟨rfl, N573, trivial⟩
              · obtain ⟨cq574, kq574, q574a, q574b, q574c⟩ := isOf hZ e570 ((((((((A532.ext E534).keep K536q).keep K538q).keep K540q).keep K545q).keep K548q).keep K562q))
                obtain ⟨_, _, ⟨T574, L574, k574, n574⟩, -, X574, ⟨Lc574, hQ574, l574, y574, z574⟩, st574⟩ := X570.virtualBack hx (y := (⟨"com/example/kawi/kawi/OrderedNames", "endsWith", "(I)Z"⟩ : MethodName)) (z := (⟨"com/example/kawi/kawi/OrderedNames", "endsWith", "(I)Z"⟩ : MethodName)) hown (mvT hZ (wd_43 hw)) (mvT hZ (wd_44 hw)) (notFace_of_selects (args := #[]) (mvT hZ (wd_46 hw))) (mvT hZ (wd_46 hw)) (mvT hZ (wd_45 hw)) (by decide) (backOf (W := 0) (rmew3 l Z a0 hw [] b532 v567 b_548 kb_548 r0_562 r1_562 r2_562 T562.heap n0 Z563 g562_0 g562_1 g562_2) hZ (wd_47 hw) (wd_2 hw) (by decide) (by decide)) q574a q574c (g := (mkF m 250 #[.val (.int p1), .val (.int p2), .val (.int p3), .val (.int p4), .val (.int p5), .val (.int (3 : Int32)), .val (.int v524), .val (.int (((p5.toUInt32 >>> ((3 : Int32) &&& 31).toUInt32).toInt32) &&& (3 : Int32))), .val (.ref b532), .val (.int v567), .val (.int (0 : Int32)), .val (.int (if p1 < (if p2 < p3 then p3 else p2) then (if p2 < p3 then p3 else p2) else p1))] [(.int v567), (.ref b532)])) rfl (by rw [hml]; rfl) (Steps.refl _) (argsL := [(.int v567)]) (rest := []) (lenOf pd__I_Z rfl) rfl (by show 2 * 0 + _ ≤ _; exact Nat.le_of_eq rfl) (hb hby at_250) (fun _ _ => ⟨rfl, e570, (by decide : 5 + 0 ≤ _), (by decide : 15 + 0 ≤ _)⟩)
                dsimp only [Pt.U, Pt.locs, Pt.cells, Pt.slots] at X574 l574 y574 z574 st574 hQ574
                subst l574 y574 z574
                obtain ⟨rfl, N574q, e574⟩ := hQ574
                have N574 := Fr.app N570 N574q
                obtain ⟨fs, hr, hrun, hended, hW, hsame⟩ := X574.leave (v := some (.int (1 : Int32))) (fun h => by rw [Bd.returns] at h; cases h)
                refine ⟨_, _, pre572 _ ?_, hrun, hended, _, _, rfl, ?_, ⟨_, rfl⟩, hW, hsame.mono (by decide) (by decide)⟩
                · show Steps p.tables e below (T570.setTop (mkF m 236 #[.val (.int p1), .val (.int p2), .val (.int p3), .val (.int p4), .val (.int p5), .val (.int (3 : Int32)), .val (.int v524), .val (.int (((p5.toUInt32 >>> ((3 : Int32) &&& 31).toUInt32).toInt32) &&& (3 : Int32))), .val (.ref b532), .val (.int v567), .unset, .val (.int (if p1 < (if p2 < p3 then p3 else p2) then (if p2 < p3 then p3 else p2) else p1))] [(.int v567), (.int (if p1 < (if p2 < p3 then p3 else p2) then (if p2 < p3 then p3 else p2) else p1))])) _
                  refine XS.icmpYes X570.here hx rfl (pc0 := 236) (pc' := 243) rfl (hb hby at_236) rfl (feq hc236_571).2 (by decide) (by decide) ?_
                  refine XS.iconst X570.here hx rfl (hb hby at_243) ?_
                  refine XS.istore X570.here hx rfl (hb hby at_244) rfl (l' := #[.val (.int p1), .val (.int p2), .val (.int p3), .val (.int p4), .val (.int p5), .val (.int (3 : Int32)), .val (.int v524), .val (.int (((p5.toUInt32 >>> ((3 : Int32) &&& 31).toUInt32).toInt32) &&& (3 : Int32))), .val (.ref b532), .val (.int v567), .val (.int (0 : Int32)), .val (.int (if p1 < (if p2 < p3 then p3 else p2) then (if p2 < p3 then p3 else p2) else p1))]) rfl ?_
                  refine XS.aload X570.here hx rfl (hb hby at_246) rfl rfl ?_
                  show Steps p.tables e below (T570.setTop (mkF m 248 #[.val (.int p1), .val (.int p2), .val (.int p3), .val (.int p4), .val (.int p5), .val (.int (3 : Int32)), .val (.int v524), .val (.int (((p5.toUInt32 >>> ((3 : Int32) &&& 31).toUInt32).toInt32) &&& (3 : Int32))), .val (.ref b532), .val (.int v567), .val (.int (0 : Int32)), .val (.int (if p1 < (if p2 < p3 then p3 else p2) then (if p2 < p3 then p3 else p2) else p1))] [(.ref b532)])) _
                  refine XS.iload X570.here hx rfl (hb hby at_248) rfl ?_
                  refine st574.trans ?_
                  refine XS.iload X574.here hx rfl (hb hby at_253) rfl ?_
                  refine XS.icmpNo X574.here hx rfl (hb hby at_255) rfl (teq (by (have e : r2_562 = (if p1 < (if p2 < p3 then p3 else p2) then (if p2 < p3 then p3 else p2) else p1) := g562_3; rw [e]; simp only [if_neg hc236_571]))).2 ?_
                  show Steps p.tables e below (T574.setTop (mkF m 258 #[.val (.int p1), .val (.int p2), .val (.int p3), .val (.int p4), .val (.int p5), .val (.int (3 : Int32)), .val (.int v524), .val (.int (((p5.toUInt32 >>> ((3 : Int32) &&& 31).toUInt32).toInt32) &&& (3 : Int32))), .val (.ref b532), .val (.int v567), .val (.int (0 : Int32)), .val (.int (if p1 < (if p2 < p3 then p3 else p2) then (if p2 < p3 then p3 else p2) else p1))] [])) _
                  refine XS.iconst X574.here hx rfl (hb hby at_258) ?_
                  refine XS.goto X574.here hx rfl (pc0 := 259) (pc' := 263) rfl (hb hby at_259) (by decide) (by decide) ?_
                  exact retN X574 hx (t := .boolean) Bd.returns (by simp) (hb hby at_263) hr
                · show Q_rm0 Z p1 p2 p3 p4 p5 wD wN kN h0 n0 _ T574.heap _
                  rw [e574]
                  exact ⟨rfl, N574, trivial⟩
          · obtain ⟨cq575, kq575, q575a, q575b, q575c⟩ := isOf hZ rfl (((((A532.ext E534).keep K536q).keep K538q).keep K540q))
            obtain ⟨_, _, ⟨T575, L575, k575, n575⟩, -, X575, ⟨Lc575, hQ575, l575, y575, z575⟩, st575⟩ := X540.virtualBack hx (y := (⟨"com/example/kawi/kawi/OrderedNames", "append", "(I)V"⟩ : MethodName)) (z := (⟨"com/example/kawi/kawi/OrderedNames", "append", "(I)V"⟩ : MethodName)) hown (mvT hZ (wd_50 hw)) (mvT hZ (wd_51 hw)) (notFace_of_selects (args := #[]) (mvT hZ (wd_53 hw))) (mvT hZ (wd_53 hw)) (mvT hZ (wd_52 hw)) (by decide) (backOf (W := 0) (rmap11f l Z a0 hw [] b532 p2 ((0 : Int32) + (1 : Int32)) b_540 kb_540 p1 T540.heap n0 Z541 g540_1 g540_2 g540_3 g540_4 ((((A532.ext E534).keep K536q).keep K538q).keep K540q) g_b532 g540_5 (Ne.symm ne_b532_b_540) hc98_543) hZ (wd_54 hw) (wd_2 hw) (by decide) (by decide)) q575a q575c (g := (mkF m 98 #[.val (.int p1), .val (.int p2), .val (.int p3), .val (.int p4), .val (.int p5), .val (.int (3 : Int32)), .val (.int v524), .val (.int (((p5.toUInt32 >>> ((3 : Int32) &&& 31).toUInt32).toInt32) &&& (3 : Int32))), .val (.ref b532), .unset, .unset, .unset] [(.int p2), (.ref b532)])) rfl (by rw [hml]; rfl) (Steps.refl _) (argsL := [(.int p2)]) (rest := []) (lenOf pd__I_V rfl) rfl (by show 2 * 0 + _ ≤ _; exact Nat.le_of_eq rfl) (hb hby at_98) (fun _ _ => ⟨rfl, rfl, (by decide : 3 + 1 ≤ _), (by decide : 9 + 2 ≤ _)⟩)
            dsimp only [Pt.U, Pt.locs, Pt.cells, Pt.slots] at X575 l575 y575 z575 st575 hQ575
            subst l575 y575 z575
            obtain ⟨b_575, kb_575, rfl, N575q, K575q, g575_0, g575_1, g575_2, g575_3, g575_4, g575_5⟩ := hQ575
            have N575 := Fr.app N540 N575q
            have Z576 : n0 ≤ T575.heap.size := Nat.le_trans Z541 K575q.1
            have ne_wN_b_575 : wN ≠ b_575 := Nat.ne_of_lt (Nat.lt_of_lt_of_le ((((((V_wN.ext E532).ext E534).keep K536q (ninS ne_wN_b534 nin0)).keep K538q (ninS ne_wN_b532 nin0)).keep K540q (ninS ne_wN_b532 nin0))).lt g575_0)
            have ne_b532_b_575 : b532 ≠ b_575 := Nat.ne_of_lt (Nat.lt_of_lt_of_le (((((A532.ext E534).keep K536q).keep K538q).keep K540q)).lt g575_0)
            have ne_b534_b_575 : b534 ≠ b_575 := Nat.ne_of_lt (Nat.lt_of_lt_of_le ((((A534.keep K536q).keep K538q).keep K540q)).lt g575_0)
            have ne_b_540_b_575 : b_540 ≠ b_575 := Nat.ne_of_lt (Nat.lt_of_lt_of_le (g540_5).lt g575_0)
            have g577 : n0 ≤ b_575 := Nat.le_trans Z541 g575_0
            have pre579 : ∀ t, Steps p.tables e below (T575.setTop (mkF m 110 #[.val (.int p1), .val (.int p2), .val (.int p3), .val (.int p4), .val (.int p5), .val (.int (3 : Int32)), .val (.int v524), .val (.int (((p5.toUInt32 >>> ((3 : Int32) &&& 31).toUInt32).toInt32) &&& (3 : Int32))), .val (.ref b532), .unset, .unset, .unset] [(.int p3), (.ref b532)])) t → Steps p.tables e below (s₁.setTop (entryFrame m #[(.int p1), (.int p2), (.int p3), (.int p4), (.int p5)] maxLocals)) t := by
              intro t kt
              refine pre544 _ ?_
              show Steps p.tables e below (T540.setTop (mkF m 98 #[.val (.int p1), .val (.int p2), .val (.int p3), .val (.int p4), .val (.int p5), .val (.int (3 : Int32)), .val (.int v524), .val (.int (((p5.toUInt32 >>> ((3 : Int32) &&& 31).toUInt32).toInt32) &&& (3 : Int32))), .val (.ref b532), .unset, .unset, .unset] [(.int p2), (.ref b532)])) _
              refine st575.trans ?_
              refine XS.iload X575.here hx rfl (hb hby at_101) rfl ?_
              refine XS.iconst X575.here hx rfl (hb hby at_103) ?_
              refine XS.icmpNo X575.here hx rfl (hb hby at_104) rfl (flt (by decide)).1 ?_
              show Steps p.tables e below (T575.setTop (mkF m 107 #[.val (.int p1), .val (.int p2), .val (.int p3), .val (.int p4), .val (.int p5), .val (.int (3 : Int32)), .val (.int v524), .val (.int (((p5.toUInt32 >>> ((3 : Int32) &&& 31).toUInt32).toInt32) &&& (3 : Int32))), .val (.ref b532), .unset, .unset, .unset] [])) _
              refine XS.aload X575.here hx rfl (hb hby at_107) rfl rfl ?_
              refine XS.iloadN X575.here hx rfl (hb hby at_109) rfl ?_
              exact kt
            by_cases hc110_578 : p3 < p2
            · obtain ⟨cq580, kq580, q580a, q580b, q580c⟩ := isOf hZ rfl ((((((A532.ext E534).keep K536q).keep K538q).keep K540q).keep K575q))
              obtain ⟨_, _, ⟨T580, L580, k580, n580⟩, -, X580, ⟨Lc580, hQ580, l580, y580, z580⟩, st580⟩ := X575.virtualBack hx (y := (⟨"com/example/kawi/kawi/OrderedNames", "append", "(I)V"⟩ : MethodName)) (z := (⟨"com/example/kawi/kawi/OrderedNames", "append", "(I)V"⟩ : MethodName)) hown (mvT hZ (wd_50 hw)) (mvT hZ (wd_51 hw)) (notFace_of_selects (args := #[]) (mvT hZ (wd_53 hw))) (mvT hZ (wd_53 hw)) (mvT hZ (wd_52 hw)) (by decide) (backOf (W := 0) (rmap21t l Z a0 hw [] b532 p3 (((0 : Int32) + (1 : Int32)) + (1 : Int32)) b_575 kb_575 p1 p2 T575.heap n0 Z576 g575_1 g575_2 g575_3 g575_4 (((((A532.ext E534).keep K536q).keep K538q).keep K540q).keep K575q) g_b532 g575_5 (Ne.symm ne_b532_b_575) hc110_578) hZ (wd_54 hw) (wd_2 hw) (by decide) (by decide)) q580a q580c (g := (mkF m 110 #[.val (.int p1), .val (.int p2), .val (.int p3), .val (.int p4), .val (.int p5), .val (.int (3 : Int32)), .val (.int v524), .val (.int (((p5.toUInt32 >>> ((3 : Int32) &&& 31).toUInt32).toInt32) &&& (3 : Int32))), .val (.ref b532), .unset, .unset, .unset] [(.int p3), (.ref b532)])) rfl (by rw [hml]; rfl) (Steps.refl _) (argsL := [(.int p3)]) (rest := []) (lenOf pd__I_V rfl) rfl (by show 2 * 0 + _ ≤ _; exact Nat.le_of_eq rfl) (hb hby at_110) (fun _ _ => ⟨rfl, rfl, (by decide : 4 + 1 ≤ _), (by decide : 11 + 4 ≤ _)⟩)
              dsimp only [Pt.U, Pt.locs, Pt.cells, Pt.slots] at X580 l580 y580 z580 st580 hQ580
              subst l580 y580 z580
              obtain ⟨b_580, kb_580, rfl, N580q, K580q, g580_0, g580_1, g580_2, g580_3, g580_4, g580_5⟩ := hQ580
              have N580 := Fr.app N575 N580q
              have Z581 : n0 ≤ T580.heap.size := Nat.le_trans Z576 K580q.1
              have ne_wN_b_580 : wN ≠ b_580 := Nat.ne_of_lt (Nat.lt_of_lt_of_le (((((((V_wN.ext E532).ext E534).keep K536q (ninS ne_wN_b534 nin0)).keep K538q (ninS ne_wN_b532 nin0)).keep K540q (ninS ne_wN_b532 nin0)).keep K575q (ninS ne_wN_b532 nin0))).lt g580_0)
              have ne_b532_b_580 : b532 ≠ b_580 := Nat.ne_of_lt (Nat.lt_of_lt_of_le ((((((A532.ext E534).keep K536q).keep K538q).keep K540q).keep K575q)).lt g580_0)
              have ne_b534_b_580 : b534 ≠ b_580 := Nat.ne_of_lt (Nat.lt_of_lt_of_le (((((A534.keep K536q).keep K538q).keep K540q).keep K575q)).lt g580_0)
              have ne_b_540_b_580 : b_540 ≠ b_580 := Nat.ne_of_lt (Nat.lt_of_lt_of_le ((g540_5.keep K575q (ninS (Ne.symm ne_b532_b_540) nin0))).lt g580_0)
              have ne_b_575_b_580 : b_575 ≠ b_580 := Nat.ne_of_lt (Nat.lt_of_lt_of_le (g575_5).lt g580_0)
              have g582 : n0 ≤ b_580 := Nat.le_trans Z576 g580_0
              have pre584 : ∀ t, Steps p.tables e below (T580.setTop (mkF m 115 #[.val (.int p1), .val (.int p2), .val (.int p3), .val (.int p4), .val (.int p5), .val (.int (3 : Int32)), .val (.int v524), .val (.int (((p5.toUInt32 >>> ((3 : Int32) &&& 31).toUInt32).toInt32) &&& (3 : Int32))), .val (.ref b532), .unset, .unset, .unset] [(.int v524)])) t → Steps p.tables e below (s₁.setTop (entryFrame m #[(.int p1), (.int p2), (.int p3), (.int p4), (.int p5)] maxLocals)) t := by
                intro t kt
                refine pre579 _ ?_
                show Steps p.tables e below (T575.setTop (mkF m 110 #[.val (.int p1), .val (.int p2), .val (.int p3), .val (.int p4), .val (.int p5), .val (.int (3 : Int32)), .val (.int v524), .val (.int (((p5.toUInt32 >>> ((3 : Int32) &&& 31).toUInt32).toInt32) &&& (3 : Int32))), .val (.ref b532), .unset, .unset, .unset] [(.int p3), (.ref b532)])) _
                refine st580.trans ?_
                refine XS.iload X580.here hx rfl (hb hby at_113) rfl ?_
                show Steps p.tables e below (T580.setTop (mkF m 115 #[.val (.int p1), .val (.int p2), .val (.int p3), .val (.int p4), .val (.int p5), .val (.int (3 : Int32)), .val (.int v524), .val (.int (((p5.toUInt32 >>> ((3 : Int32) &&& 31).toUInt32).toInt32) &&& (3 : Int32))), .val (.ref b532), .unset, .unset, .unset] [(.int v524)])) _
                exact kt
              by_cases hc115_583 : v524 = (0 : Int32)
              · obtain ⟨v588, hv588⟩ : ∃ z : Int32, z = (if (((p5.toUInt32 >>> ((3 : Int32) &&& 31).toUInt32).toInt32) &&& (3 : Int32)) = (0 : Int32) then p4 else (if (((p5.toUInt32 >>> ((3 : Int32) &&& 31).toUInt32).toInt32) &&& (3 : Int32)) = (1 : Int32) then p1 else (if (((p5.toUInt32 >>> ((3 : Int32) &&& 31).toUInt32).toInt32) &&& (3 : Int32)) = (2 : Int32) then p2 else p3))) := ⟨_, rfl⟩
                have pre589 : ∀ t, Steps p.tables e below (T580.setTop (mkF m 153 #[.val (.int p1), .val (.int p2), .val (.int p3), .val (.int p4), .val (.int p5), .val (.int (3 : Int32)), .val (.int v524), .val (.int (((p5.toUInt32 >>> ((3 : Int32) &&& 31).toUInt32).toInt32) &&& (3 : Int32))), .val (.ref b532), .unset, .unset, .unset] [(.int v588)])) t → Steps p.tables e below (s₁.setTop (entryFrame m #[(.int p1), (.int p2), (.int p3), (.int p4), (.int p5)] maxLocals)) t := by
                  intro t kt
                  refine pre584 _ ?_
                  rw [hv588] at kt
                  show Steps p.tables e below (T580.setTop (mkF m 115 #[.val (.int p1), .val (.int p2), .val (.int p3), .val (.int p4), .val (.int p5), .val (.int (3 : Int32)), .val (.int v524), .val (.int (((p5.toUInt32 >>> ((3 : Int32) &&& 31).toUInt32).toInt32) &&& (3 : Int32))), .val (.ref b532), .unset, .unset, .unset] [(.int v524)])) _
                  refine XS.ifYes X580.here hx rfl (pc0 := 115) (pc' := 123) rfl (hb hby at_115) rfl ((if0 _ _).trans (teq hc115_583).1) (by decide) (by decide) ?_
                  refine XS.iload X580.here hx rfl (hb hby at_123) rfl ?_
                  by_cases hc125_585 : (((p5.toUInt32 >>> ((3 : Int32) &&& 31).toUInt32).toInt32) &&& (3 : Int32)) = (0 : Int32)
                  · try simp only [if_pos hc125_585] at kt
                    refine XS.ifNo X580.here hx rfl (hb hby at_125) rfl ((if0 _ _).trans (teq hc125_585).2) ?_
                    refine XS.iloadN X580.here hx rfl (hb hby at_128) rfl ?_
                    show Steps p.tables e below (T580.setTop (mkF m 129 #[.val (.int p1), .val (.int p2), .val (.int p3), .val (.int p4), .val (.int p5), .val (.int (3 : Int32)), .val (.int v524), .val (.int (((p5.toUInt32 >>> ((3 : Int32) &&& 31).toUInt32).toInt32) &&& (3 : Int32))), .val (.ref b532), .unset, .unset, .unset] [(.int p4)])) _
                    refine XS.goto X580.here hx rfl (pc0 := 129) (pc' := 153) rfl (hb hby at_129) (by decide) (by decide) ?_
                    exact kt
                  · try simp only [if_neg hc125_585] at kt
                    refine XS.ifYes X580.here hx rfl (pc0 := 125) (pc' := 132) rfl (hb hby at_125) rfl ((if0 _ _).trans (feq hc125_585).2) (by decide) (by decide) ?_
                    refine XS.iload X580.here hx rfl (hb hby at_132) rfl ?_
                    show Steps p.tables e below (T580.setTop (mkF m 134 #[.val (.int p1), .val (.int p2), .val (.int p3), .val (.int p4), .val (.int p5), .val (.int (3 : Int32)), .val (.int v524), .val (.int (((p5.toUInt32 >>> ((3 : Int32) &&& 31).toUInt32).toInt32) &&& (3 : Int32))), .val (.ref b532), .unset, .unset, .unset] [(.int (((p5.toUInt32 >>> ((3 : Int32) &&& 31).toUInt32).toInt32) &&& (3 : Int32)))])) _
                    refine XS.iconst X580.here hx rfl (hb hby at_134) ?_
                    by_cases hc135_586 : (((p5.toUInt32 >>> ((3 : Int32) &&& 31).toUInt32).toInt32) &&& (3 : Int32)) = (1 : Int32)
                    · try simp only [if_pos hc135_586] at kt
                      refine XS.icmpNo X580.here hx rfl (hb hby at_135) rfl (teq hc135_586).2 ?_
                      refine XS.iloadN X580.here hx rfl (hb hby at_138) rfl ?_
                      refine XS.goto X580.here hx rfl (pc0 := 139) (pc' := 153) rfl (hb hby at_139) (by decide) (by decide) ?_
                      show Steps p.tables e below (T580.setTop (mkF m 153 #[.val (.int p1), .val (.int p2), .val (.int p3), .val (.int p4), .val (.int p5), .val (.int (3 : Int32)), .val (.int v524), .val (.int (((p5.toUInt32 >>> ((3 : Int32) &&& 31).toUInt32).toInt32) &&& (3 : Int32))), .val (.ref b532), .unset, .unset, .unset] [(.int p1)])) _
                      exact kt
                    · try simp only [if_neg hc135_586] at kt
                      refine XS.icmpYes X580.here hx rfl (pc0 := 135) (pc' := 142) rfl (hb hby at_135) rfl (feq hc135_586).2 (by decide) (by decide) ?_
                      refine XS.iload X580.here hx rfl (hb hby at_142) rfl ?_
                      refine XS.iconst X580.here hx rfl (hb hby at_144) ?_
                      show Steps p.tables e below (T580.setTop (mkF m 145 #[.val (.int p1), .val (.int p2), .val (.int p3), .val (.int p4), .val (.int p5), .val (.int (3 : Int32)), .val (.int v524), .val (.int (((p5.toUInt32 >>> ((3 : Int32) &&& 31).toUInt32).toInt32) &&& (3 : Int32))), .val (.ref b532), .unset, .unset, .unset] [(.int (2 : Int32)), (.int (((p5.toUInt32 >>> ((3 : Int32) &&& 31).toUInt32).toInt32) &&& (3 : Int32)))])) _
                      by_cases hc145_587 : (((p5.toUInt32 >>> ((3 : Int32) &&& 31).toUInt32).toInt32) &&& (3 : Int32)) = (2 : Int32)
                      · try simp only [if_pos hc145_587] at kt
                        refine XS.icmpNo X580.here hx rfl (hb hby at_145) rfl (teq hc145_587).2 ?_
                        refine XS.iloadN X580.here hx rfl (hb hby at_148) rfl ?_
                        refine XS.goto X580.here hx rfl (pc0 := 149) (pc' := 153) rfl (hb hby at_149) (by decide) (by decide) ?_
                        exact kt
                      · try simp only [if_neg hc145_587] at kt
                        refine XS.icmpYes X580.here hx rfl (pc0 := 145) (pc' := 152) rfl (hb hby at_145) rfl (feq hc145_587).2 (by decide) (by decide) ?_
                        refine XS.iloadN X580.here hx rfl (hb hby at_152) rfl ?_
                        exact kt
                have pre591 : ∀ t, Steps p.tables e below (T580.setTop (mkF m 236 #[.val (.int p1), .val (.int p2), .val (.int p3), .val (.int p4), .val (.int p5), .val (.int (3 : Int32)), .val (.int v524), .val (.int (((p5.toUInt32 >>> ((3 : Int32) &&& 31).toUInt32).toInt32) &&& (3 : Int32))), .val (.ref b532), .val (.int v588), .unset, .val (.int p3)] [(.int v588), (.int p3)])) t → Steps p.tables e below (s₁.setTop (entryFrame m #[(.int p1), (.int p2), (.int p3), (.int p4), (.int p5)] maxLocals)) t := by
                  intro t kt
                  refine pre589 _ ?_
                  show Steps p.tables e below (T580.setTop (mkF m 153 #[.val (.int p1), .val (.int p2), .val (.int p3), .val (.int p4), .val (.int p5), .val (.int (3 : Int32)), .val (.int v524), .val (.int (((p5.toUInt32 >>> ((3 : Int32) &&& 31).toUInt32).toInt32) &&& (3 : Int32))), .val (.ref b532), .unset, .unset, .unset] [(.int v588)])) _
                  refine XS.istore X580.here hx rfl (hb hby at_153) rfl (l' := #[.val (.int p1), .val (.int p2), .val (.int p3), .val (.int p4), .val (.int p5), .val (.int (3 : Int32)), .val (.int v524), .val (.int (((p5.toUInt32 >>> ((3 : Int32) &&& 31).toUInt32).toInt32) &&& (3 : Int32))), .val (.ref b532), .val (.int v588), .unset, .unset]) rfl ?_
                  refine XS.iload X580.here hx rfl (hb hby at_155) rfl ?_
                  refine XS.ifYes X580.here hx rfl (pc0 := 157) (pc' := 166) rfl (hb hby at_157) rfl ((if0 _ _).trans (feq (by decide)).2) (by decide) (by decide) ?_
                  refine XS.iload X580.here hx rfl (hb hby at_166) rfl ?_
                  show Steps p.tables e below (T580.setTop (mkF m 168 #[.val (.int p1), .val (.int p2), .val (.int p3), .val (.int p4), .val (.int p5), .val (.int (3 : Int32)), .val (.int v524), .val (.int (((p5.toUInt32 >>> ((3 : Int32) &&& 31).toUInt32).toInt32) &&& (3 : Int32))), .val (.ref b532), .val (.int v588), .unset, .unset] [(.int v524)])) _
                  refine XS.ifYes X580.here hx rfl (pc0 := 168) (pc' := 209) rfl (hb hby at_168) rfl ((if0 _ _).trans (teq hc115_583).1) (by decide) (by decide) ?_
                  refine XS.iload X580.here hx rfl (hb hby at_209) rfl ?_
                  refine XS.iconst X580.here hx rfl (hb hby at_211) ?_
                  refine XS.icmpYes X580.here hx rfl (pc0 := 212) (pc' := 219) rfl (hb hby at_212) rfl (feq (by decide)).2 (by decide) (by decide) ?_
                  show Steps p.tables e below (T580.setTop (mkF m 219 #[.val (.int p1), .val (.int p2), .val (.int p3), .val (.int p4), .val (.int p5), .val (.int (3 : Int32)), .val (.int v524), .val (.int (((p5.toUInt32 >>> ((3 : Int32) &&& 31).toUInt32).toInt32) &&& (3 : Int32))), .val (.ref b532), .val (.int v588), .unset, .unset] [])) _
                  refine XS.iload X580.here hx rfl (hb hby at_219) rfl ?_
                  refine XS.iconst X580.here hx rfl (hb hby at_221) ?_
                  refine XS.icmpYes X580.here hx rfl (pc0 := 222) (pc' := 229) rfl (hb hby at_222) rfl (feq (by decide)).2 (by decide) (by decide) ?_
                  refine XS.iloadN X580.here hx rfl (hb hby at_229) rfl ?_
                  show Steps p.tables e below (T580.setTop (mkF m 230 #[.val (.int p1), .val (.int p2), .val (.int p3), .val (.int p4), .val (.int p5), .val (.int (3 : Int32)), .val (.int v524), .val (.int (((p5.toUInt32 >>> ((3 : Int32) &&& 31).toUInt32).toInt32) &&& (3 : Int32))), .val (.ref b532), .val (.int v588), .unset, .unset] [(.int p3)])) _
                  refine XS.istore X580.here hx rfl (hb hby at_230) rfl (l' := #[.val (.int p1), .val (.int p2), .val (.int p3), .val (.int p4), .val (.int p5), .val (.int (3 : Int32)), .val (.int v524), .val (.int (((p5.toUInt32 >>> ((3 : Int32) &&& 31).toUInt32).toInt32) &&& (3 : Int32))), .val (.ref b532), .val (.int v588), .unset, .val (.int p3)]) rfl ?_
                  refine XS.iload X580.here hx rfl (hb hby at_232) rfl ?_
                  refine XS.iload X580.here hx rfl (hb hby at_234) rfl ?_
                  exact kt
                by_cases hc236_590 : p3 = v588
                · obtain ⟨cq592, kq592, q592a, q592b, q592c⟩ := isOf hZ rfl (((((((A532.ext E534).keep K536q).keep K538q).keep K540q).keep K575q).keep K580q))
                  obtain ⟨_, _, ⟨T592, L592, k592, n592⟩, -, X592, ⟨Lc592, hQ592, l592, y592, z592⟩, st592⟩ := X580.virtualBack hx (y := (⟨"com/example/kawi/kawi/OrderedNames", "endsWith", "(I)Z"⟩ : MethodName)) (z := (⟨"com/example/kawi/kawi/OrderedNames", "endsWith", "(I)Z"⟩ : MethodName)) hown (mvT hZ (wd_43 hw)) (mvT hZ (wd_44 hw)) (notFace_of_selects (args := #[]) (mvT hZ (wd_46 hw))) (mvT hZ (wd_46 hw)) (mvT hZ (wd_45 hw)) (by decide) (backOf (W := 0) (rmew3 l Z a0 hw [] b532 v588 b_580 kb_580 p1 p2 p3 T580.heap n0 Z581 g580_1 g580_3 g580_5) hZ (wd_47 hw) (wd_2 hw) (by decide) (by decide)) q592a q592c (g := (mkF m 250 #[.val (.int p1), .val (.int p2), .val (.int p3), .val (.int p4), .val (.int p5), .val (.int (3 : Int32)), .val (.int v524), .val (.int (((p5.toUInt32 >>> ((3 : Int32) &&& 31).toUInt32).toInt32) &&& (3 : Int32))), .val (.ref b532), .val (.int v588), .val (.int (1 : Int32)), .val (.int p3)] [(.int v588), (.ref b532)])) rfl (by rw [hml]; rfl) (Steps.refl _) (argsL := [(.int v588)]) (rest := []) (lenOf pd__I_Z rfl) rfl (by show 2 * 0 + _ ≤ _; exact Nat.le_of_eq rfl) (hb hby at_250) (fun _ _ => ⟨rfl, rfl, (by decide : 5 + 0 ≤ _), (by decide : 15 + 0 ≤ _)⟩)
                  dsimp only [Pt.U, Pt.locs, Pt.cells, Pt.slots] at X592 l592 y592 z592 st592 hQ592
                  subst l592 y592 z592
                  obtain ⟨rfl, N592q, e592⟩ := hQ592
                  have N592 := Fr.app N580 N592q
                  obtain ⟨fs, hr, hrun, hended, hW, hsame⟩ := X592.leave (v := some (.int (1 : Int32))) (fun h => by rw [Bd.returns] at h; cases h)
                  refine ⟨_, _, pre591 _ ?_, hrun, hended, _, _, rfl, ?_, ⟨_, rfl⟩, hW, hsame.mono (by decide) (by decide)⟩
                  · show Steps p.tables e below (T580.setTop (mkF m 236 #[.val (.int p1), .val (.int p2), .val (.int p3), .val (.int p4), .val (.int p5), .val (.int (3 : Int32)), .val (.int v524), .val (.int (((p5.toUInt32 >>> ((3 : Int32) &&& 31).toUInt32).toInt32) &&& (3 : Int32))), .val (.ref b532), .val (.int v588), .unset, .val (.int p3)] [(.int v588), (.int p3)])) _
                    refine XS.icmpNo X580.here hx rfl (hb hby at_236) rfl (teq hc236_590).2 ?_
                    show Steps p.tables e below (T580.setTop (mkF m 239 #[.val (.int p1), .val (.int p2), .val (.int p3), .val (.int p4), .val (.int p5), .val (.int (3 : Int32)), .val (.int v524), .val (.int (((p5.toUInt32 >>> ((3 : Int32) &&& 31).toUInt32).toInt32) &&& (3 : Int32))), .val (.ref b532), .val (.int v588), .unset, .val (.int p3)] [])) _
                    refine XS.iconst X580.here hx rfl (hb hby at_239) ?_
                    refine XS.goto X580.here hx rfl (pc0 := 240) (pc' := 244) rfl (hb hby at_240) (by decide) (by decide) ?_
                    refine XS.istore X580.here hx rfl (hb hby at_244) rfl (l' := #[.val (.int p1), .val (.int p2), .val (.int p3), .val (.int p4), .val (.int p5), .val (.int (3 : Int32)), .val (.int v524), .val (.int (((p5.toUInt32 >>> ((3 : Int32) &&& 31).toUInt32).toInt32) &&& (3 : Int32))), .val (.ref b532), .val (.int v588), .val (.int (1 : Int32)), .val (.int p3)]) rfl ?_
                    refine XS.aload X580.here hx rfl (hb hby at_246) rfl rfl ?_
                    show Steps p.tables e below (T580.setTop (mkF m 248 #[.val (.int p1), .val (.int p2), .val (.int p3), .val (.int p4), .val (.int p5), .val (.int (3 : Int32)), .val (.int v524), .val (.int (((p5.toUInt32 >>> ((3 : Int32) &&& 31).toUInt32).toInt32) &&& (3 : Int32))), .val (.ref b532), .val (.int v588), .val (.int (1 : Int32)), .val (.int p3)] [(.ref b532)])) _
                    refine XS.iload X580.here hx rfl (hb hby at_248) rfl ?_
                    refine st592.trans ?_
                    refine XS.iload X592.here hx rfl (hb hby at_253) rfl ?_
                    refine XS.icmpNo X592.here hx rfl (hb hby at_255) rfl (teq (by simp only [if_pos hc236_590])).2 ?_
                    show Steps p.tables e below (T592.setTop (mkF m 258 #[.val (.int p1), .val (.int p2), .val (.int p3), .val (.int p4), .val (.int p5), .val (.int (3 : Int32)), .val (.int v524), .val (.int (((p5.toUInt32 >>> ((3 : Int32) &&& 31).toUInt32).toInt32) &&& (3 : Int32))), .val (.ref b532), .val (.int v588), .val (.int (1 : Int32)), .val (.int p3)] [])) _
                    refine XS.iconst X592.here hx rfl (hb hby at_258) ?_
                    refine XS.goto X592.here hx rfl (pc0 := 259) (pc' := 263) rfl (hb hby at_259) (by decide) (by decide) ?_
                    exact retN X592 hx (t := .boolean) Bd.returns (by simp) (hb hby at_263) hr
                  · show Q_rm0 Z p1 p2 p3 p4 p5 wD wN kN h0 n0 _ T592.heap _
                    rw [e592]
                    exact ⟨rfl, N592, trivial⟩
                · obtain ⟨cq593, kq593, q593a, q593b, q593c⟩ := isOf hZ rfl (((((((A532.ext E534).keep K536q).keep K538q).keep K540q).keep K575q).keep K580q))
                  obtain ⟨_, _, ⟨T593, L593, k593, n593⟩, -, X593, ⟨Lc593, hQ593, l593, y593, z593⟩, st593⟩ := X580.virtualBack hx (y := (⟨"com/example/kawi/kawi/OrderedNames", "endsWith", "(I)Z"⟩ : MethodName)) (z := (⟨"com/example/kawi/kawi/OrderedNames", "endsWith", "(I)Z"⟩ : MethodName)) hown (mvT hZ (wd_43 hw)) (mvT hZ (wd_44 hw)) (notFace_of_selects (args := #[]) (mvT hZ (wd_46 hw))) (mvT hZ (wd_46 hw)) (mvT hZ (wd_45 hw)) (by decide) (backOf (W := 0) (rmew3 l Z a0 hw [] b532 v588 b_580 kb_580 p1 p2 p3 T580.heap n0 Z581 g580_1 g580_3 g580_5) hZ (wd_47 hw) (wd_2 hw) (by decide) (by decide)) q593a q593c (g := (mkF m 250 #[.val (.int p1), .val (.int p2), .val (.int p3), .val (.int p4), .val (.int p5), .val (.int (3 : Int32)), .val (.int v524), .val (.int (((p5.toUInt32 >>> ((3 : Int32) &&& 31).toUInt32).toInt32) &&& (3 : Int32))), .val (.ref b532), .val (.int v588), .val (.int (0 : Int32)), .val (.int p3)] [(.int v588), (.ref b532)])) rfl (by rw [hml]; rfl) (Steps.refl _) (argsL := [(.int v588)]) (rest := []) (lenOf pd__I_Z rfl) rfl (by show 2 * 0 + _ ≤ _; exact Nat.le_of_eq rfl) (hb hby at_250) (fun _ _ => ⟨rfl, rfl, (by decide : 5 + 0 ≤ _), (by decide : 15 + 0 ≤ _)⟩)
                  dsimp only [Pt.U, Pt.locs, Pt.cells, Pt.slots] at X593 l593 y593 z593 st593 hQ593
                  subst l593 y593 z593
                  obtain ⟨rfl, N593q, e593⟩ := hQ593
                  have N593 := Fr.app N580 N593q
                  obtain ⟨fs, hr, hrun, hended, hW, hsame⟩ := X593.leave (v := some (.int (1 : Int32))) (fun h => by rw [Bd.returns] at h; cases h)
                  refine ⟨_, _, pre591 _ ?_, hrun, hended, _, _, rfl, ?_, ⟨_, rfl⟩, hW, hsame.mono (by decide) (by decide)⟩
                  · show Steps p.tables e below (T580.setTop (mkF m 236 #[.val (.int p1), .val (.int p2), .val (.int p3), .val (.int p4), .val (.int p5), .val (.int (3 : Int32)), .val (.int v524), .val (.int (((p5.toUInt32 >>> ((3 : Int32) &&& 31).toUInt32).toInt32) &&& (3 : Int32))), .val (.ref b532), .val (.int v588), .unset, .val (.int p3)] [(.int v588), (.int p3)])) _
                    refine XS.icmpYes X580.here hx rfl (pc0 := 236) (pc' := 243) rfl (hb hby at_236) rfl (feq hc236_590).2 (by decide) (by decide) ?_
                    show Steps p.tables e below (T580.setTop (mkF m 243 #[.val (.int p1), .val (.int p2), .val (.int p3), .val (.int p4), .val (.int p5), .val (.int (3 : Int32)), .val (.int v524), .val (.int (((p5.toUInt32 >>> ((3 : Int32) &&& 31).toUInt32).toInt32) &&& (3 : Int32))), .val (.ref b532), .val (.int v588), .unset, .val (.int p3)] [])) _
                    refine XS.iconst X580.here hx rfl (hb hby at_243) ?_
                    refine XS.istore X580.here hx rfl (hb hby at_244) rfl (l' := #[.val (.int p1), .val (.int p2), .val (.int p3), .val (.int p4), .val (.int p5), .val (.int (3 : Int32)), .val (.int v524), .val (.int (((p5.toUInt32 >>> ((3 : Int32) &&& 31).toUInt32).toInt32) &&& (3 : Int32))), .val (.ref b532), .val (.int v588), .val (.int (0 : Int32)), .val (.int p3)]) rfl ?_
                    refine XS.aload X580.here hx rfl (hb hby at_246) rfl rfl ?_
                    refine XS.iload X580.here hx rfl (hb hby at_248) rfl ?_
                    show Steps p.tables e below (T580.setTop (mkF m 250 #[.val (.int p1), .val (.int p2), .val (.int p3), .val (.int p4), .val (.int p5), .val (.int (3 : Int32)), .val (.int v524), .val (.int (((p5.toUInt32 >>> ((3 : Int32) &&& 31).toUInt32).toInt32) &&& (3 : Int32))), .val (.ref b532), .val (.int v588), .val (.int (0 : Int32)), .val (.int p3)] [(.int v588), (.ref b532)])) _
                    refine st593.trans ?_
                    refine XS.iload X593.here hx rfl (hb hby at_253) rfl ?_
                    refine XS.icmpNo X593.here hx rfl (hb hby at_255) rfl (teq (by simp only [if_neg hc236_590])).2 ?_
                    refine XS.iconst X593.here hx rfl (hb hby at_258) ?_
                    show Steps p.tables e below (T593.setTop (mkF m 259 #[.val (.int p1), .val (.int p2), .val (.int p3), .val (.int p4), .val (.int p5), .val (.int (3 : Int32)), .val (.int v524), .val (.int (((p5.toUInt32 >>> ((3 : Int32) &&& 31).toUInt32).toInt32) &&& (3 : Int32))), .val (.ref b532), .val (.int v588), .val (.int (0 : Int32)), .val (.int p3)] [(.int (1 : Int32))])) _
                    refine XS.goto X593.here hx rfl (pc0 := 259) (pc' := 263) rfl (hb hby at_259) (by decide) (by decide) ?_
                    exact retN X593 hx (t := .boolean) Bd.returns (by simp) (hb hby at_263) hr
                  · show Q_rm0 Z p1 p2 p3 p4 p5 wD wN kN h0 n0 _ T593.heap _
                    rw [e593]
                    exact ⟨rfl, N593, trivial⟩
              · obtain ⟨cq594, kq594, q594a, q594b, q594c⟩ := isOf hZ rfl (((((((A532.ext E534).keep K536q).keep K538q).keep K540q).keep K575q).keep K580q))
                obtain ⟨_, _, ⟨T594, L594, k594, n594⟩, -, X594, ⟨Lc594, hQ594, l594, y594, z594⟩, st594⟩ := X580.virtualBack hx (y := (⟨"com/example/kawi/kawi/OrderedNames", "order", "()V"⟩ : MethodName)) (z := (⟨"com/example/kawi/kawi/OrderedNames", "order", "()V"⟩ : MethodName)) hown (mvT hZ (wd_73 hw)) (mvT hZ (wd_74 hw)) (notFace_of_selects (args := #[]) (mvT hZ (wd_76 hw))) (mvT hZ (wd_76 hw)) (mvT hZ (wd_75 hw)) (by decide) (backOf (W := 0) (rmo3 l Z a0 hw [] b532 b_580 kb_580 p1 p2 p3 T580.heap n0 Z581 g580_1 g580_2 g580_3 ((((((A532.ext E534).keep K536q).keep K538q).keep K540q).keep K575q).keep K580q) g_b532 g582 g580_5 (Ne.symm ne_b532_b_580)) hZ (wd_77 hw) (wd_2 hw) (by decide) (by decide)) q594a q594c (g := (mkF m 120 #[.val (.int p1), .val (.int p2), .val (.int p3), .val (.int p4), .val (.int p5), .val (.int (3 : Int32)), .val (.int v524), .val (.int (((p5.toUInt32 >>> ((3 : Int32) &&& 31).toUInt32).toInt32) &&& (3 : Int32))), .val (.ref b532), .unset, .unset, .unset] [(.ref b532)])) rfl (by rw [hml]; rfl) (Steps.refl _) (argsL := []) (rest := []) (lenOf pd___V rfl) rfl (by show 2 * 0 + _ ≤ _; exact Nat.le_of_eq rfl) (hb hby at_120) (fun _ _ => ⟨rfl, rfl, (by decide : 5 + 0 ≤ _), (by decide : 15 + 0 ≤ _)⟩)
                dsimp only [Pt.U, Pt.locs, Pt.cells, Pt.slots] at X594 l594 y594 z594 st594 hQ594
                subst l594 y594 z594
                obtain ⟨r0_594, r1_594, r2_594, rfl, N594q, K594q, g594_0, g594_1, g594_2, g594_3⟩ := hQ594
                have N594 := Fr.app N580 N594q
                have Z595 : n0 ≤ T594.heap.size := Nat.le_trans Z581 K594q.1
                obtain ⟨v599, hv599⟩ : ∃ z : Int32, z = (if (((p5.toUInt32 >>> ((3 : Int32) &&& 31).toUInt32).toInt32) &&& (3 : Int32)) = (0 : Int32) then p4 else (if (((p5.toUInt32 >>> ((3 : Int32) &&& 31).toUInt32).toInt32) &&& (3 : Int32)) = (1 : Int32) then p1 else (if (((p5.toUInt32 >>> ((3 : Int32) &&& 31).toUInt32).toInt32) &&& (3 : Int32)) = (2 : Int32) then p2 else p3))) := ⟨_, rfl⟩
                have pre600 : ∀ t, Steps p.tables e below (T594.setTop (mkF m 153 #[.val (.int p1), .val (.int p2), .val (.int p3), .val (.int p4), .val (.int p5), .val (.int (3 : Int32)), .val (.int v524), .val (.int (((p5.toUInt32 >>> ((3 : Int32) &&& 31).toUInt32).toInt32) &&& (3 : Int32))), .val (.ref b532), .unset, .unset, .unset] [(.int v599)])) t → Steps p.tables e below (s₁.setTop (entryFrame m #[(.int p1), (.int p2), (.int p3), (.int p4), (.int p5)] maxLocals)) t := by
                  intro t kt
                  refine pre584 _ ?_
                  rw [hv599] at kt
                  show Steps p.tables e below (T580.setTop (mkF m 115 #[.val (.int p1), .val (.int p2), .val (.int p3), .val (.int p4), .val (.int p5), .val (.int (3 : Int32)), .val (.int v524), .val (.int (((p5.toUInt32 >>> ((3 : Int32) &&& 31).toUInt32).toInt32) &&& (3 : Int32))), .val (.ref b532), .unset, .unset, .unset] [(.int v524)])) _
                  refine XS.ifNo X580.here hx rfl (hb hby at_115) rfl ((if0 _ _).trans (feq hc115_583).1) ?_
                  refine XS.aload X580.here hx rfl (hb hby at_118) rfl rfl ?_
                  refine st594.trans ?_
                  refine XS.iload X594.here hx rfl (hb hby at_123) rfl ?_
                  show Steps p.tables e below (T594.setTop (mkF m 125 #[.val (.int p1), .val (.int p2), .val (.int p3), .val (.int p4), .val (.int p5), .val (.int (3 : Int32)), .val (.int v524), .val (.int (((p5.toUInt32 >>> ((3 : Int32) &&& 31).toUInt32).toInt32) &&& (3 : Int32))), .val (.ref b532), .unset, .unset, .unset] [(.int (((p5.toUInt32 >>> ((3 : Int32) &&& 31).toUInt32).toInt32) &&& (3 : Int32)))])) _
                  by_cases hc125_596 : (((p5.toUInt32 >>> ((3 : Int32) &&& 31).toUInt32).toInt32) &&& (3 : Int32)) = (0 : Int32)
                  · try simp only [if_pos hc125_596] at kt
                    refine XS.ifNo X594.here hx rfl (hb hby at_125) rfl ((if0 _ _).trans (teq hc125_596).2) ?_
                    refine XS.iloadN X594.here hx rfl (hb hby at_128) rfl ?_
                    refine XS.goto X594.here hx rfl (pc0 := 129) (pc' := 153) rfl (hb hby at_129) (by decide) (by decide) ?_
                    exact kt
                  · try simp only [if_neg hc125_596] at kt
                    refine XS.ifYes X594.here hx rfl (pc0 := 125) (pc' := 132) rfl (hb hby at_125) rfl ((if0 _ _).trans (feq hc125_596).2) (by decide) (by decide) ?_
                    refine XS.iload X594.here hx rfl (hb hby at_132) rfl ?_
                    refine XS.iconst X594.here hx rfl (hb hby at_134) ?_
                    by_cases hc135_597 : (((p5.toUInt32 >>> ((3 : Int32) &&& 31).toUInt32).toInt32) &&& (3 : Int32)) = (1 : Int32)
                    · try simp only [if_pos hc135_597] at kt
                      refine XS.icmpNo X594.here hx rfl (hb hby at_135) rfl (teq hc135_597).2 ?_
                      show Steps p.tables e below (T594.setTop (mkF m 138 #[.val (.int p1), .val (.int p2), .val (.int p3), .val (.int p4), .val (.int p5), .val (.int (3 : Int32)), .val (.int v524), .val (.int (((p5.toUInt32 >>> ((3 : Int32) &&& 31).toUInt32).toInt32) &&& (3 : Int32))), .val (.ref b532), .unset, .unset, .unset] [])) _
                      refine XS.iloadN X594.here hx rfl (hb hby at_138) rfl ?_
                      refine XS.goto X594.here hx rfl (pc0 := 139) (pc' := 153) rfl (hb hby at_139) (by decide) (by decide) ?_
                      exact kt
                    · try simp only [if_neg hc135_597] at kt
                      refine XS.icmpYes X594.here hx rfl (pc0 := 135) (pc' := 142) rfl (hb hby at_135) rfl (feq hc135_597).2 (by decide) (by decide) ?_
                      show Steps p.tables e below (T594.setTop (mkF m 142 #[.val (.int p1), .val (.int p2), .val (.int p3), .val (.int p4), .val (.int p5), .val (.int (3 : Int32)), .val (.int v524), .val (.int (((p5.toUInt32 >>> ((3 : Int32) &&& 31).toUInt32).toInt32) &&& (3 : Int32))), .val (.ref b532), .unset, .unset, .unset] [])) _
                      refine XS.iload X594.here hx rfl (hb hby at_142) rfl ?_
                      refine XS.iconst X594.here hx rfl (hb hby at_144) ?_
                      by_cases hc145_598 : (((p5.toUInt32 >>> ((3 : Int32) &&& 31).toUInt32).toInt32) &&& (3 : Int32)) = (2 : Int32)
                      · try simp only [if_pos hc145_598] at kt
                        refine XS.icmpNo X594.here hx rfl (hb hby at_145) rfl (teq hc145_598).2 ?_
                        refine XS.iloadN X594.here hx rfl (hb hby at_148) rfl ?_
                        show Steps p.tables e below (T594.setTop (mkF m 149 #[.val (.int p1), .val (.int p2), .val (.int p3), .val (.int p4), .val (.int p5), .val (.int (3 : Int32)), .val (.int v524), .val (.int (((p5.toUInt32 >>> ((3 : Int32) &&& 31).toUInt32).toInt32) &&& (3 : Int32))), .val (.ref b532), .unset, .unset, .unset] [(.int p2)])) _
                        refine XS.goto X594.here hx rfl (pc0 := 149) (pc' := 153) rfl (hb hby at_149) (by decide) (by decide) ?_
                        exact kt
                      · try simp only [if_neg hc145_598] at kt
                        refine XS.icmpYes X594.here hx rfl (pc0 := 145) (pc' := 152) rfl (hb hby at_145) rfl (feq hc145_598).2 (by decide) (by decide) ?_
                        refine XS.iloadN X594.here hx rfl (hb hby at_152) rfl ?_
                        show Steps p.tables e below (T594.setTop (mkF m 153 #[.val (.int p1), .val (.int p2), .val (.int p3), .val (.int p4), .val (.int p5), .val (.int (3 : Int32)), .val (.int v524), .val (.int (((p5.toUInt32 >>> ((3 : Int32) &&& 31).toUInt32).toInt32) &&& (3 : Int32))), .val (.ref b532), .unset, .unset, .unset] [(.int p3)])) _
                        exact kt
                obtain ⟨_, _, ⟨T601, L601, k601, n601⟩, -, X601, ⟨Lc601, hQ601, l601, y601, z601⟩, st601⟩ := Jvm.LawKit.callS X594 hx (y := (⟨"java/lang/Math", "max", "(II)I"⟩ : MethodName)) hown (mvT hZ (wd_78 hw)) (mvT hZ (wd_56 hw)) (mvT hZ (wd_57 hw)) (mvT hZ (wd_58 hw)) (by decide) (backOf (W := 1) (rm8 l Z a0 hw [] p2 p3 T594.heap n0 Z595) hZ (wd_58 hw) (wd_57 hw) (by decide) (by decide)) (g := (mkF m 198 #[.val (.int p1), .val (.int p2), .val (.int p3), .val (.int p4), .val (.int p5), .val (.int (3 : Int32)), .val (.int v524), .val (.int (((p5.toUInt32 >>> ((3 : Int32) &&& 31).toUInt32).toInt32) &&& (3 : Int32))), .val (.ref b532), .val (.int v599), .unset, .unset] [(.int p3), (.int p2), (.int p1)])) rfl (by rw [hml]; rfl) (argsL := [(.int p2), (.int p3)]) (rest := [(.int p1)]) (lenOf pd__II_I rfl) rfl (by show 2 * 0 + _ ≤ _; exact Nat.le_of_eq rfl) (hb hby at_198) (fun _ _ => ⟨rfl, rfl, (by decide : 5 + 0 ≤ _), (by decide : 15 + 0 ≤ _)⟩)
                dsimp only [Pt.U, Pt.locs, Pt.cells, Pt.slots] at X601 l601 y601 z601 st601 hQ601
                subst l601 y601 z601
                obtain ⟨rfl, N601q, e601⟩ := hQ601
                have N601 := Fr.app N594 N601q
                obtain ⟨_, _, ⟨T602, L602, k602, n602⟩, -, X602, ⟨Lc602, hQ602, l602, y602, z602⟩, st602⟩ := Jvm.LawKit.callS X601 hx (y := (⟨"java/lang/Math", "max", "(II)I"⟩ : MethodName)) hown (mvT hZ (wd_78 hw)) (mvT hZ (wd_56 hw)) (mvT hZ (wd_57 hw)) (mvT hZ (wd_58 hw)) (by decide) (backOf (W := 0) (rm8 l Z a0 hw [] p1 (if p2 < p3 then p3 else p2) T594.heap n0 Z595) hZ (wd_58 hw) (wd_57 hw) (by decide) (by decide)) (g := (mkF m 201 #[.val (.int p1), .val (.int p2), .val (.int p3), .val (.int p4), .val (.int p5), .val (.int (3 : Int32)), .val (.int v524), .val (.int (((p5.toUInt32 >>> ((3 : Int32) &&& 31).toUInt32).toInt32) &&& (3 : Int32))), .val (.ref b532), .val (.int v599), .unset, .unset] [(.int (if p2 < p3 then p3 else p2)), (.int p1)])) rfl (by rw [hml]; rfl) (argsL := [(.int p1), (.int (if p2 < p3 then p3 else p2))]) (rest := []) (lenOf pd__II_I rfl) rfl (by show 2 * 0 + _ ≤ _; exact Nat.le_of_eq rfl) (hb hby at_201) (fun _ _ => ⟨rfl, e601, (by decide : 5 + 0 ≤ _), (by decide : 15 + 0 ≤ _)⟩)
                dsimp only [Pt.U, Pt.locs, Pt.cells, Pt.slots] at X602 l602 y602 z602 st602 hQ602
                subst l602 y602 z602
                obtain ⟨rfl, N602q, e602⟩ := hQ602
                have N602 := Fr.app N601 N602q
                have pre604 : ∀ t, Steps p.tables e below (T602.setTop (mkF m 236 #[.val (.int p1), .val (.int p2), .val (.int p3), .val (.int p4), .val (.int p5), .val (.int (3 : Int32)), .val (.int v524), .val (.int (((p5.toUInt32 >>> ((3 : Int32) &&& 31).toUInt32).toInt32) &&& (3 : Int32))), .val (.ref b532), .val (.int v599), .unset, .val (.int (if p1 < (if p2 < p3 then p3 else p2) then (if p2 < p3 then p3 else p2) else p1))] [(.int v599), (.int (if p1 < (if p2 < p3 then p3 else p2) then (if p2 < p3 then p3 else p2) else p1))])) t → Steps p.tables e below (s₁.setTop (entryFrame m #[(.int p1), (.int p2), (.int p3), (.int p4), (.int p5)] maxLocals)) t := by
                  intro t kt
                  refine pre600 _ ?_
                  show Steps p.tables e below (T594.setTop (mkF m 153 #[.val (.int p1), .val (.int p2), .val (.int p3), .val (.int p4), .val (.int p5), .val (.int (3 : Int32)), .val (.int v524), .val (.int (((p5.toUInt32 >>> ((3 : Int32) &&& 31).toUInt32).toInt32) &&& (3 : Int32))), .val (.ref b532), .unset, .unset, .unset] [(.int v599)])) _
                  refine XS.istore X594.here hx rfl (hb hby at_153) rfl (l' := #[.val (.int p1), .val (.int p2), .val (.int p3), .val (.int p4), .val (.int p5), .val (.int (3 : Int32)), .val (.int v524), .val (.int (((p5.toUInt32 >>> ((3 : Int32) &&& 31).toUInt32).toInt32) &&& (3 : Int32))), .val (.ref b532), .val (.int v599), .unset, .unset]) rfl ?_
                  refine XS.iload X594.here hx rfl (hb hby at_155) rfl ?_
                  refine XS.ifYes X594.here hx rfl (pc0 := 157) (pc' := 166) rfl (hb hby at_157) rfl ((if0 _ _).trans (feq (by decide)).2) (by decide) (by decide) ?_
                  refine XS.iload X594.here hx rfl (hb hby at_166) rfl ?_
                  show Steps p.tables e below (T594.setTop (mkF m 168 #[.val (.int p1), .val (.int p2), .val (.int p3), .val (.int p4), .val (.int p5), .val (.int (3 : Int32)), .val (.int v524), .val (.int (((p5.toUInt32 >>> ((3 : Int32) &&& 31).toUInt32).toInt32) &&& (3 : Int32))), .val (.ref b532), .val (.int v599), .unset, .unset] [(.int v524)])) _
                  refine XS.ifNo X594.here hx rfl (hb hby at_168) rfl ((if0 _ _).trans (feq hc115_583).1) ?_
                  refine XS.iload X594.here hx rfl (hb hby at_171) rfl ?_
                  refine XS.iconst X594.here hx rfl (hb hby at_173) ?_
                  refine XS.icmpYes X594.here hx rfl (pc0 := 174) (pc' := 181) rfl (hb hby at_174) rfl (feq (by decide)).2 (by decide) (by decide) ?_
                  show Steps p.tables e below (T594.setTop (mkF m 181 #[.val (.int p1), .val (.int p2), .val (.int p3), .val (.int p4), .val (.int p5), .val (.int (3 : Int32)), .val (.int v524), .val (.int (((p5.toUInt32 >>> ((3 : Int32) &&& 31).toUInt32).toInt32) &&& (3 : Int32))), .val (.ref b532), .val (.int v599), .unset, .unset] [])) _
                  refine XS.iload X594.here hx rfl (hb hby at_181) rfl ?_
                  refine XS.iconst X594.here hx rfl (hb hby at_183) ?_
                  refine XS.icmpYes X594.here hx rfl (pc0 := 184) (pc' := 195) rfl (hb hby at_184) rfl (feq (by decide)).2 (by decide) (by decide) ?_
                  refine XS.iloadN X594.here hx rfl (hb hby at_195) rfl ?_
                  show Steps p.tables e below (T594.setTop (mkF m 196 #[.val (.int p1), .val (.int p2), .val (.int p3), .val (.int p4), .val (.int p5), .val (.int (3 : Int32)), .val (.int v524), .val (.int (((p5.toUInt32 >>> ((3 : Int32) &&& 31).toUInt32).toInt32) &&& (3 : Int32))), .val (.ref b532), .val (.int v599), .unset, .unset] [(.int p1)])) _
                  refine XS.iloadN X594.here hx rfl (hb hby at_196) rfl ?_
                  refine XS.iloadN X594.here hx rfl (hb hby at_197) rfl ?_
                  refine st601 _ ?_
                  refine st602 _ ?_
                  show Steps p.tables e below (T602.setTop (mkF m 204 #[.val (.int p1), .val (.int p2), .val (.int p3), .val (.int p4), .val (.int p5), .val (.int (3 : Int32)), .val (.int v524), .val (.int (((p5.toUInt32 >>> ((3 : Int32) &&& 31).toUInt32).toInt32) &&& (3 : Int32))), .val (.ref b532), .val (.int v599), .unset, .unset] [(.int (if p1 < (if p2 < p3 then p3 else p2) then (if p2 < p3 then p3 else p2) else p1))])) _
                  refine XS.istore X602.here hx rfl (hb hby at_204) rfl (l' := #[.val (.int p1), .val (.int p2), .val (.int p3), .val (.int p4), .val (.int p5), .val (.int (3 : Int32)), .val (.int v524), .val (.int (((p5.toUInt32 >>> ((3 : Int32) &&& 31).toUInt32).toInt32) &&& (3 : Int32))), .val (.ref b532), .val (.int v599), .unset, .val (.int (if p1 < (if p2 < p3 then p3 else p2) then (if p2 < p3 then p3 else p2) else p1))]) rfl ?_
                  refine XS.goto X602.here hx rfl (pc0 := 206) (pc' := 232) rfl (hb hby at_206) (by decide) (by decide) ?_
                  refine XS.iload X602.here hx rfl (hb hby at_232) rfl ?_
                  refine XS.iload X602.here hx rfl (hb hby at_234) rfl ?_
                  show Steps p.tables e below (T602.setTop (mkF m 236 #[.val (.int p1), .val (.int p2), .val (.int p3), .val (.int p4), .val (.int p5), .val (.int (3 : Int32)), .val (.int v524), .val (.int (((p5.toUInt32 >>> ((3 : Int32) &&& 31).toUInt32).toInt32) &&& (3 : Int32))), .val (.ref b532), .val (.int v599), .unset, .val (.int (if p1 < (if p2 < p3 then p3 else p2) then (if p2 < p3 then p3 else p2) else p1))] [(.int v599), (.int (if p1 < (if p2 < p3 then p3 else p2) then (if p2 < p3 then p3 else p2) else p1))])) _
                  exact kt
                by_cases hc236_603 : (if p1 < (if p2 < p3 then p3 else p2) then (if p2 < p3 then p3 else p2) else p1) = v599
                · obtain ⟨cq605, kq605, q605a, q605b, q605c⟩ := isOf hZ e602 ((((((((A532.ext E534).keep K536q).keep K538q).keep K540q).keep K575q).keep K580q).keep K594q))
                  obtain ⟨_, _, ⟨T605, L605, k605, n605⟩, -, X605, ⟨Lc605, hQ605, l605, y605, z605⟩, st605⟩ := X602.virtualBack hx (y := (⟨"com/example/kawi/kawi/OrderedNames", "endsWith", "(I)Z"⟩ : MethodName)) (z := (⟨"com/example/kawi/kawi/OrderedNames", "endsWith", "(I)Z"⟩ : MethodName)) hown (mvT hZ (wd_43 hw)) (mvT hZ (wd_44 hw)) (notFace_of_selects (args := #[]) (mvT hZ (wd_46 hw))) (mvT hZ (wd_46 hw)) (mvT hZ (wd_45 hw)) (by decide) (backOf (W := 0) (rmew3 l Z a0 hw [] b532 v599 b_580 kb_580 r0_594 r1_594 r2_594 T594.heap n0 Z595 g594_0 g594_1 g594_2) hZ (wd_47 hw) (wd_2 hw) (by decide) (by decide)) q605a q605c (g := (mkF m 250 #[.val (.int p1), .val (.int p2), .val (.int p3), .val (.int p4), .val (.int p5), .val (.int (3 : Int32)), .val (.int v524), .val (.int (((p5.toUInt32 >>> ((3 : Int32) &&& 31).toUInt32).toInt32) &&& (3 : Int32))), .val (.ref b532), .val (.int v599), .val (.int (1 : Int32)), .val (.int (if p1 < (if p2 < p3 then p3 else p2) then (if p2 < p3 then p3 else p2) else p1))] [(.int v599), (.ref b532)])) rfl (by rw [hml]; rfl) (Steps.refl _) (argsL := [(.int v599)]) (rest := []) (lenOf pd__I_Z rfl) rfl (by show 2 * 0 + _ ≤ _; exact Nat.le_of_eq rfl) (hb hby at_250) (fun _ _ => ⟨rfl, e602, (by decide : 5 + 0 ≤ _), (by decide : 15 + 0 ≤ _)⟩)
                  dsimp only [Pt.U, Pt.locs, Pt.cells, Pt.slots] at X605 l605 y605 z605 st605 hQ605
                  subst l605 y605 z605
                  obtain ⟨rfl, N605q, e605⟩ := hQ605
                  have N605 := Fr.app N602 N605q
                  obtain ⟨fs, hr, hrun, hended, hW, hsame⟩ := X605.leave (v := some (.int (1 : Int32))) (fun h => by rw [Bd.returns] at h; cases h)
                  refine ⟨_, _, pre604 _ ?_, hrun, hended, _, _, rfl, ?_, ⟨_, rfl⟩, hW, hsame.mono (by decide) (by decide)⟩
                  · show Steps p.tables e below (T602.setTop (mkF m 236 #[.val (.int p1), .val (.int p2), .val (.int p3), .val (.int p4), .val (.int p5), .val (.int (3 : Int32)), .val (.int v524), .val (.int (((p5.toUInt32 >>> ((3 : Int32) &&& 31).toUInt32).toInt32) &&& (3 : Int32))), .val (.ref b532), .val (.int v599), .unset, .val (.int (if p1 < (if p2 < p3 then p3 else p2) then (if p2 < p3 then p3 else p2) else p1))] [(.int v599), (.int (if p1 < (if p2 < p3 then p3 else p2) then (if p2 < p3 then p3 else p2) else p1))])) _
                    refine XS.icmpNo X602.here hx rfl (hb hby at_236) rfl (teq hc236_603).2 ?_
                    refine XS.iconst X602.here hx rfl (hb hby at_239) ?_
                    refine XS.goto X602.here hx rfl (pc0 := 240) (pc' := 244) rfl (hb hby at_240) (by decide) (by decide) ?_
                    refine XS.istore X602.here hx rfl (hb hby at_244) rfl (l' := #[.val (.int p1), .val (.int p2), .val (.int p3), .val (.int p4), .val (.int p5), .val (.int (3 : Int32)), .val (.int v524), .val (.int (((p5.toUInt32 >>> ((3 : Int32) &&& 31).toUInt32).toInt32) &&& (3 : Int32))), .val (.ref b532), .val (.int v599), .val (.int (1 : Int32)), .val (.int (if p1 < (if p2 < p3 then p3 else p2) then (if p2 < p3 then p3 else p2) else p1))]) rfl ?_
                    show Steps p.tables e below (T602.setTop (mkF m 246 #[.val (.int p1), .val (.int p2), .val (.int p3), .val (.int p4), .val (.int p5), .val (.int (3 : Int32)), .val (.int v524), .val (.int (((p5.toUInt32 >>> ((3 : Int32) &&& 31).toUInt32).toInt32) &&& (3 : Int32))), .val (.ref b532), .val (.int v599), .val (.int (1 : Int32)), .val (.int (if p1 < (if p2 < p3 then p3 else p2) then (if p2 < p3 then p3 else p2) else p1))] [])) _
                    refine XS.aload X602.here hx rfl (hb hby at_246) rfl rfl ?_
                    refine XS.iload X602.here hx rfl (hb hby at_248) rfl ?_
                    refine st605.trans ?_
                    refine XS.iload X605.here hx rfl (hb hby at_253) rfl ?_
                    show Steps p.tables e below (T605.setTop (mkF m 255 #[.val (.int p1), .val (.int p2), .val (.int p3), .val (.int p4), .val (.int p5), .val (.int (3 : Int32)), .val (.int v524), .val (.int (((p5.toUInt32 >>> ((3 : Int32) &&& 31).toUInt32).toInt32) &&& (3 : Int32))), .val (.ref b532), .val (.int v599), .val (.int (1 : Int32)), .val (.int (if p1 < (if p2 < p3 then p3 else p2) then (if p2 < p3 then p3 else p2) else p1))] [(.int (1 : Int32)), (.int (if r2_594 = v599 then (1 : Int32) else (0 : Int32)))])) _
                    refine XS.icmpNo X605.here hx rfl (hb hby at_255) rfl (teq (by (have e : r2_594 = (if p1 < (if p2 < p3 then p3 else p2) then (if p2 < p3 then p3 else p2) else p1) := g594_3; rw [e]; simp only [if_pos hc236_603]))).2 ?_
                    refine XS.iconst X605.here hx rfl (hb hby at_258) ?_
                    refine XS.goto X605.here hx rfl (pc0 := 259) (pc' := 263) rfl (hb hby at_259) (by decide) (by decide) ?_
                    exact retN X605 hx (t := .boolean) Bd.returns (by simp) (hb hby at_263) hr
                  · show Q_rm0 Z p1 p2 p3 p4 p5 wD wN kN h0 n0 _ T605.heap _
                    rw [e605]
                    exact ⟨rfl, N605, trivial⟩
                · obtain ⟨cq606, kq606, q606a, q606b, q606c⟩ := isOf hZ e602 ((((((((A532.ext E534).keep K536q).keep K538q).keep K540q).keep K575q).keep K580q).keep K594q))
                  obtain ⟨_, _, ⟨T606, L606, k606, n606⟩, -, X606, ⟨Lc606, hQ606, l606, y606, z606⟩, st606⟩ := X602.virtualBack hx (y := (⟨"com/example/kawi/kawi/OrderedNames", "endsWith", "(I)Z"⟩ : MethodName)) (z := (⟨"com/example/kawi/kawi/OrderedNames", "endsWith", "(I)Z"⟩ : MethodName)) hown (mvT hZ (wd_43 hw)) (mvT hZ (wd_44 hw)) (notFace_of_selects (args := #[]) (mvT hZ (wd_46 hw))) (mvT hZ (wd_46 hw)) (mvT hZ (wd_45 hw)) (by decide) (backOf (W := 0) (rmew3 l Z a0 hw [] b532 v599 b_580 kb_580 r0_594 r1_594 r2_594 T594.heap n0 Z595 g594_0 g594_1 g594_2) hZ (wd_47 hw) (wd_2 hw) (by decide) (by decide)) q606a q606c (g := (mkF m 250 #[.val (.int p1), .val (.int p2), .val (.int p3), .val (.int p4), .val (.int p5), .val (.int (3 : Int32)), .val (.int v524), .val (.int (((p5.toUInt32 >>> ((3 : Int32) &&& 31).toUInt32).toInt32) &&& (3 : Int32))), .val (.ref b532), .val (.int v599), .val (.int (0 : Int32)), .val (.int (if p1 < (if p2 < p3 then p3 else p2) then (if p2 < p3 then p3 else p2) else p1))] [(.int v599), (.ref b532)])) rfl (by rw [hml]; rfl) (Steps.refl _) (argsL := [(.int v599)]) (rest := []) (lenOf pd__I_Z rfl) rfl (by show 2 * 0 + _ ≤ _; exact Nat.le_of_eq rfl) (hb hby at_250) (fun _ _ => ⟨rfl, e602, (by decide : 5 + 0 ≤ _), (by decide : 15 + 0 ≤ _)⟩)
                  dsimp only [Pt.U, Pt.locs, Pt.cells, Pt.slots] at X606 l606 y606 z606 st606 hQ606
                  subst l606 y606 z606
                  obtain ⟨rfl, N606q, e606⟩ := hQ606
                  have N606 := Fr.app N602 N606q
                  obtain ⟨fs, hr, hrun, hended, hW, hsame⟩ := X606.leave (v := some (.int (1 : Int32))) (fun h => by rw [Bd.returns] at h; cases h)
                  refine ⟨_, _, pre604 _ ?_, hrun, hended, _, _, rfl, ?_, ⟨_, rfl⟩, hW, hsame.mono (by decide) (by decide)⟩
                  · show Steps p.tables e below (T602.setTop (mkF m 236 #[.val (.int p1), .val (.int p2), .val (.int p3), .val (.int p4), .val (.int p5), .val (.int (3 : Int32)), .val (.int v524), .val (.int (((p5.toUInt32 >>> ((3 : Int32) &&& 31).toUInt32).toInt32) &&& (3 : Int32))), .val (.ref b532), .val (.int v599), .unset, .val (.int (if p1 < (if p2 < p3 then p3 else p2) then (if p2 < p3 then p3 else p2) else p1))] [(.int v599), (.int (if p1 < (if p2 < p3 then p3 else p2) then (if p2 < p3 then p3 else p2) else p1))])) _
                    refine XS.icmpYes X602.here hx rfl (pc0 := 236) (pc' := 243) rfl (hb hby at_236) rfl (feq hc236_603).2 (by decide) (by decide) ?_
                    refine XS.iconst X602.here hx rfl (hb hby at_243) ?_
                    refine XS.istore X602.here hx rfl (hb hby at_244) rfl (l' := #[.val (.int p1), .val (.int p2), .val (.int p3), .val (.int p4), .val (.int p5), .val (.int (3 : Int32)), .val (.int v524), .val (.int (((p5.toUInt32 >>> ((3 : Int32) &&& 31).toUInt32).toInt32) &&& (3 : Int32))), .val (.ref b532), .val (.int v599), .val (.int (0 : Int32)), .val (.int (if p1 < (if p2 < p3 then p3 else p2) then (if p2 < p3 then p3 else p2) else p1))]) rfl ?_
                    refine XS.aload X602.here hx rfl (hb hby at_246) rfl rfl ?_
                    show Steps p.tables e below (T602.setTop (mkF m 248 #[.val (.int p1), .val (.int p2), .val (.int p3), .val (.int p4), .val (.int p5), .val (.int (3 : Int32)), .val (.int v524), .val (.int (((p5.toUInt32 >>> ((3 : Int32) &&& 31).toUInt32).toInt32) &&& (3 : Int32))), .val (.ref b532), .val (.int v599), .val (.int (0 : Int32)), .val (.int (if p1 < (if p2 < p3 then p3 else p2) then (if p2 < p3 then p3 else p2) else p1))] [(.ref b532)])) _
                    refine XS.iload X602.here hx rfl (hb hby at_248) rfl ?_
                    refine st606.trans ?_
                    refine XS.iload X606.here hx rfl (hb hby at_253) rfl ?_
                    refine XS.icmpNo X606.here hx rfl (hb hby at_255) rfl (teq (by (have e : r2_594 = (if p1 < (if p2 < p3 then p3 else p2) then (if p2 < p3 then p3 else p2) else p1) := g594_3; rw [e]; simp only [if_neg hc236_603]))).2 ?_
                    show Steps p.tables e below (T606.setTop (mkF m 258 #[.val (.int p1), .val (.int p2), .val (.int p3), .val (.int p4), .val (.int p5), .val (.int (3 : Int32)), .val (.int v524), .val (.int (((p5.toUInt32 >>> ((3 : Int32) &&& 31).toUInt32).toInt32) &&& (3 : Int32))), .val (.ref b532), .val (.int v599), .val (.int (0 : Int32)), .val (.int (if p1 < (if p2 < p3 then p3 else p2) then (if p2 < p3 then p3 else p2) else p1))] [])) _
                    refine XS.iconst X606.here hx rfl (hb hby at_258) ?_
                    refine XS.goto X606.here hx rfl (pc0 := 259) (pc' := 263) rfl (hb hby at_259) (by decide) (by decide) ?_
                    exact retN X606 hx (t := .boolean) Bd.returns (by simp) (hb hby at_263) hr
                  · show Q_rm0 Z p1 p2 p3 p4 p5 wD wN kN h0 n0 _ T606.heap _
                    rw [e606]
                    exact ⟨rfl, N606, trivial⟩
            · obtain ⟨cq607, kq607, q607a, q607b, q607c⟩ := isOf hZ rfl ((((((A532.ext E534).keep K536q).keep K538q).keep K540q).keep K575q))
              obtain ⟨_, _, ⟨T607, L607, k607, n607⟩, -, X607, ⟨Lc607, hQ607, l607, y607, z607⟩, st607⟩ := X575.virtualBack hx (y := (⟨"com/example/kawi/kawi/OrderedNames", "append", "(I)V"⟩ : MethodName)) (z := (⟨"com/example/kawi/kawi/OrderedNames", "append", "(I)V"⟩ : MethodName)) hown (mvT hZ (wd_50 hw)) (mvT hZ (wd_51 hw)) (notFace_of_selects (args := #[]) (mvT hZ (wd_53 hw))) (mvT hZ (wd_53 hw)) (mvT hZ (wd_52 hw)) (by decide) (backOf (W := 0) (rmap21f l Z a0 hw [] b532 p3 (((0 : Int32) + (1 : Int32)) + (1 : Int32)) b_575 kb_575 p1 p2 T575.heap n0 Z576 g575_1 g575_2 g575_3 g575_4 (((((A532.ext E534).keep K536q).keep K538q).keep K540q).keep K575q) g_b532 g575_5 (Ne.symm ne_b532_b_575) hc110_578) hZ (wd_54 hw) (wd_2 hw) (by decide) (by decide)) q607a q607c (g := (mkF m 110 #[.val (.int p1), .val (.int p2), .val (.int p3), .val (.int p4), .val (.int p5), .val (.int (3 : Int32)), .val (.int v524), .val (.int (((p5.toUInt32 >>> ((3 : Int32) &&& 31).toUInt32).toInt32) &&& (3 : Int32))), .val (.ref b532), .unset, .unset, .unset] [(.int p3), (.ref b532)])) rfl (by rw [hml]; rfl) (Steps.refl _) (argsL := [(.int p3)]) (rest := []) (lenOf pd__I_V rfl) rfl (by show 2 * 0 + _ ≤ _; exact Nat.le_of_eq rfl) (hb hby at_110) (fun _ _ => ⟨rfl, rfl, (by decide : 4 + 1 ≤ _), (by decide : 11 + 4 ≤ _)⟩)
              dsimp only [Pt.U, Pt.locs, Pt.cells, Pt.slots] at X607 l607 y607 z607 st607 hQ607
              subst l607 y607 z607
              obtain ⟨b_607, kb_607, rfl, N607q, K607q, g607_0, g607_1, g607_2, g607_3, g607_4, g607_5⟩ := hQ607
              have N607 := Fr.app N575 N607q
              have Z608 : n0 ≤ T607.heap.size := Nat.le_trans Z576 K607q.1
              have ne_wN_b_607 : wN ≠ b_607 := Nat.ne_of_lt (Nat.lt_of_lt_of_le (((((((V_wN.ext E532).ext E534).keep K536q (ninS ne_wN_b534 nin0)).keep K538q (ninS ne_wN_b532 nin0)).keep K540q (ninS ne_wN_b532 nin0)).keep K575q (ninS ne_wN_b532 nin0))).lt g607_0)
              have ne_b532_b_607 : b532 ≠ b_607 := Nat.ne_of_lt (Nat.lt_of_lt_of_le ((((((A532.ext E534).keep K536q).keep K538q).keep K540q).keep K575q)).lt g607_0)
              have ne_b534_b_607 : b534 ≠ b_607 := Nat.ne_of_lt (Nat.lt_of_lt_of_le (((((A534.keep K536q).keep K538q).keep K540q).keep K575q)).lt g607_0)
              have ne_b_540_b_607 : b_540 ≠ b_607 := Nat.ne_of_lt (Nat.lt_of_lt_of_le ((g540_5.keep K575q (ninS (Ne.symm ne_b532_b_540) nin0))).lt g607_0)
              have ne_b_575_b_607 : b_575 ≠ b_607 := Nat.ne_of_lt (Nat.lt_of_lt_of_le (g575_5).lt g607_0)
              have g609 : n0 ≤ b_607 := Nat.le_trans Z576 g607_0
              have pre611 : ∀ t, Steps p.tables e below (T607.setTop (mkF m 115 #[.val (.int p1), .val (.int p2), .val (.int p3), .val (.int p4), .val (.int p5), .val (.int (3 : Int32)), .val (.int v524), .val (.int (((p5.toUInt32 >>> ((3 : Int32) &&& 31).toUInt32).toInt32) &&& (3 : Int32))), .val (.ref b532), .unset, .unset, .unset] [(.int v524)])) t → Steps p.tables e below (s₁.setTop (entryFrame m #[(.int p1), (.int p2), (.int p3), (.int p4), (.int p5)] maxLocals)) t := by
                intro t kt
                refine pre579 _ ?_
                show Steps p.tables e below (T575.setTop (mkF m 110 #[.val (.int p1), .val (.int p2), .val (.int p3), .val (.int p4), .val (.int p5), .val (.int (3 : Int32)), .val (.int v524), .val (.int (((p5.toUInt32 >>> ((3 : Int32) &&& 31).toUInt32).toInt32) &&& (3 : Int32))), .val (.ref b532), .unset, .unset, .unset] [(.int p3), (.ref b532)])) _
                refine st607.trans ?_
                refine XS.iload X607.here hx rfl (hb hby at_113) rfl ?_
                show Steps p.tables e below (T607.setTop (mkF m 115 #[.val (.int p1), .val (.int p2), .val (.int p3), .val (.int p4), .val (.int p5), .val (.int (3 : Int32)), .val (.int v524), .val (.int (((p5.toUInt32 >>> ((3 : Int32) &&& 31).toUInt32).toInt32) &&& (3 : Int32))), .val (.ref b532), .unset, .unset, .unset] [(.int v524)])) _
                exact kt
              by_cases hc115_610 : v524 = (0 : Int32)
              · obtain ⟨v615, hv615⟩ : ∃ z : Int32, z = (if (((p5.toUInt32 >>> ((3 : Int32) &&& 31).toUInt32).toInt32) &&& (3 : Int32)) = (0 : Int32) then p4 else (if (((p5.toUInt32 >>> ((3 : Int32) &&& 31).toUInt32).toInt32) &&& (3 : Int32)) = (1 : Int32) then p1 else (if (((p5.toUInt32 >>> ((3 : Int32) &&& 31).toUInt32).toInt32) &&& (3 : Int32)) = (2 : Int32) then p2 else p3))) := ⟨_, rfl⟩
                have pre616 : ∀ t, Steps p.tables e below (T607.setTop (mkF m 153 #[.val (.int p1), .val (.int p2), .val (.int p3), .val (.int p4), .val (.int p5), .val (.int (3 : Int32)), .val (.int v524), .val (.int (((p5.toUInt32 >>> ((3 : Int32) &&& 31).toUInt32).toInt32) &&& (3 : Int32))), .val (.ref b532), .unset, .unset, .unset] [(.int v615)])) t → Steps p.tables e below (s₁.setTop (entryFrame m #[(.int p1), (.int p2), (.int p3), (.int p4), (.int p5)] maxLocals)) t := by
                  intro t kt
                  refine pre611 _ ?_
                  rw [hv615] at kt
                  show Steps p.tables e below (T607.setTop (mkF m 115 #[.val (.int p1), .val (.int p2), .val (.int p3), .val (.int p4), .val (.int p5), .val (.int (3 : Int32)), .val (.int v524), .val (.int (((p5.toUInt32 >>> ((3 : Int32) &&& 31).toUInt32).toInt32) &&& (3 : Int32))), .val (.ref b532), .unset, .unset, .unset] [(.int v524)])) _
                  refine XS.ifYes X607.here hx rfl (pc0 := 115) (pc' := 123) rfl (hb hby at_115) rfl ((if0 _ _).trans (teq hc115_610).1) (by decide) (by decide) ?_
                  refine XS.iload X607.here hx rfl (hb hby at_123) rfl ?_
                  by_cases hc125_612 : (((p5.toUInt32 >>> ((3 : Int32) &&& 31).toUInt32).toInt32) &&& (3 : Int32)) = (0 : Int32)
                  · try simp only [if_pos hc125_612] at kt
                    refine XS.ifNo X607.here hx rfl (hb hby at_125) rfl ((if0 _ _).trans (teq hc125_612).2) ?_
                    refine XS.iloadN X607.here hx rfl (hb hby at_128) rfl ?_
                    show Steps p.tables e below (T607.setTop (mkF m 129 #[.val (.int p1), .val (.int p2), .val (.int p3), .val (.int p4), .val (.int p5), .val (.int (3 : Int32)), .val (.int v524), .val (.int (((p5.toUInt32 >>> ((3 : Int32) &&& 31).toUInt32).toInt32) &&& (3 : Int32))), .val (.ref b532), .unset, .unset, .unset] [(.int p4)])) _
                    refine XS.goto X607.here hx rfl (pc0 := 129) (pc' := 153) rfl (hb hby at_129) (by decide) (by decide) ?_
                    exact kt
                  · try simp only [if_neg hc125_612] at kt
                    refine XS.ifYes X607.here hx rfl (pc0 := 125) (pc' := 132) rfl (hb hby at_125) rfl ((if0 _ _).trans (feq hc125_612).2) (by decide) (by decide) ?_
                    refine XS.iload X607.here hx rfl (hb hby at_132) rfl ?_
                    show Steps p.tables e below (T607.setTop (mkF m 134 #[.val (.int p1), .val (.int p2), .val (.int p3), .val (.int p4), .val (.int p5), .val (.int (3 : Int32)), .val (.int v524), .val (.int (((p5.toUInt32 >>> ((3 : Int32) &&& 31).toUInt32).toInt32) &&& (3 : Int32))), .val (.ref b532), .unset, .unset, .unset] [(.int (((p5.toUInt32 >>> ((3 : Int32) &&& 31).toUInt32).toInt32) &&& (3 : Int32)))])) _
                    refine XS.iconst X607.here hx rfl (hb hby at_134) ?_
                    by_cases hc135_613 : (((p5.toUInt32 >>> ((3 : Int32) &&& 31).toUInt32).toInt32) &&& (3 : Int32)) = (1 : Int32)
                    · try simp only [if_pos hc135_613] at kt
                      refine XS.icmpNo X607.here hx rfl (hb hby at_135) rfl (teq hc135_613).2 ?_
                      refine XS.iloadN X607.here hx rfl (hb hby at_138) rfl ?_
                      refine XS.goto X607.here hx rfl (pc0 := 139) (pc' := 153) rfl (hb hby at_139) (by decide) (by decide) ?_
                      show Steps p.tables e below (T607.setTop (mkF m 153 #[.val (.int p1), .val (.int p2), .val (.int p3), .val (.int p4), .val (.int p5), .val (.int (3 : Int32)), .val (.int v524), .val (.int (((p5.toUInt32 >>> ((3 : Int32) &&& 31).toUInt32).toInt32) &&& (3 : Int32))), .val (.ref b532), .unset, .unset, .unset] [(.int p1)])) _
                      exact kt
                    · try simp only [if_neg hc135_613] at kt
                      refine XS.icmpYes X607.here hx rfl (pc0 := 135) (pc' := 142) rfl (hb hby at_135) rfl (feq hc135_613).2 (by decide) (by decide) ?_
                      refine XS.iload X607.here hx rfl (hb hby at_142) rfl ?_
                      refine XS.iconst X607.here hx rfl (hb hby at_144) ?_
                      show Steps p.tables e below (T607.setTop (mkF m 145 #[.val (.int p1), .val (.int p2), .val (.int p3), .val (.int p4), .val (.int p5), .val (.int (3 : Int32)), .val (.int v524), .val (.int (((p5.toUInt32 >>> ((3 : Int32) &&& 31).toUInt32).toInt32) &&& (3 : Int32))), .val (.ref b532), .unset, .unset, .unset] [(.int (2 : Int32)), (.int (((p5.toUInt32 >>> ((3 : Int32) &&& 31).toUInt32).toInt32) &&& (3 : Int32)))])) _
                      by_cases hc145_614 : (((p5.toUInt32 >>> ((3 : Int32) &&& 31).toUInt32).toInt32) &&& (3 : Int32)) = (2 : Int32)
                      · try simp only [if_pos hc145_614] at kt
                        refine XS.icmpNo X607.here hx rfl (hb hby at_145) rfl (teq hc145_614).2 ?_
                        refine XS.iloadN X607.here hx rfl (hb hby at_148) rfl ?_
                        refine XS.goto X607.here hx rfl (pc0 := 149) (pc' := 153) rfl (hb hby at_149) (by decide) (by decide) ?_
                        exact kt
                      · try simp only [if_neg hc145_614] at kt
                        refine XS.icmpYes X607.here hx rfl (pc0 := 145) (pc' := 152) rfl (hb hby at_145) rfl (feq hc145_614).2 (by decide) (by decide) ?_
                        refine XS.iloadN X607.here hx rfl (hb hby at_152) rfl ?_
                        exact kt
                have pre618 : ∀ t, Steps p.tables e below (T607.setTop (mkF m 236 #[.val (.int p1), .val (.int p2), .val (.int p3), .val (.int p4), .val (.int p5), .val (.int (3 : Int32)), .val (.int v524), .val (.int (((p5.toUInt32 >>> ((3 : Int32) &&& 31).toUInt32).toInt32) &&& (3 : Int32))), .val (.ref b532), .val (.int v615), .unset, .val (.int p3)] [(.int v615), (.int p3)])) t → Steps p.tables e below (s₁.setTop (entryFrame m #[(.int p1), (.int p2), (.int p3), (.int p4), (.int p5)] maxLocals)) t := by
                  intro t kt
                  refine pre616 _ ?_
                  show Steps p.tables e below (T607.setTop (mkF m 153 #[.val (.int p1), .val (.int p2), .val (.int p3), .val (.int p4), .val (.int p5), .val (.int (3 : Int32)), .val (.int v524), .val (.int (((p5.toUInt32 >>> ((3 : Int32) &&& 31).toUInt32).toInt32) &&& (3 : Int32))), .val (.ref b532), .unset, .unset, .unset] [(.int v615)])) _
                  refine XS.istore X607.here hx rfl (hb hby at_153) rfl (l' := #[.val (.int p1), .val (.int p2), .val (.int p3), .val (.int p4), .val (.int p5), .val (.int (3 : Int32)), .val (.int v524), .val (.int (((p5.toUInt32 >>> ((3 : Int32) &&& 31).toUInt32).toInt32) &&& (3 : Int32))), .val (.ref b532), .val (.int v615), .unset, .unset]) rfl ?_
                  refine XS.iload X607.here hx rfl (hb hby at_155) rfl ?_
                  refine XS.ifYes X607.here hx rfl (pc0 := 157) (pc' := 166) rfl (hb hby at_157) rfl ((if0 _ _).trans (feq (by decide)).2) (by decide) (by decide) ?_
                  refine XS.iload X607.here hx rfl (hb hby at_166) rfl ?_
                  show Steps p.tables e below (T607.setTop (mkF m 168 #[.val (.int p1), .val (.int p2), .val (.int p3), .val (.int p4), .val (.int p5), .val (.int (3 : Int32)), .val (.int v524), .val (.int (((p5.toUInt32 >>> ((3 : Int32) &&& 31).toUInt32).toInt32) &&& (3 : Int32))), .val (.ref b532), .val (.int v615), .unset, .unset] [(.int v524)])) _
                  refine XS.ifYes X607.here hx rfl (pc0 := 168) (pc' := 209) rfl (hb hby at_168) rfl ((if0 _ _).trans (teq hc115_610).1) (by decide) (by decide) ?_
                  refine XS.iload X607.here hx rfl (hb hby at_209) rfl ?_
                  refine XS.iconst X607.here hx rfl (hb hby at_211) ?_
                  refine XS.icmpYes X607.here hx rfl (pc0 := 212) (pc' := 219) rfl (hb hby at_212) rfl (feq (by decide)).2 (by decide) (by decide) ?_
                  show Steps p.tables e below (T607.setTop (mkF m 219 #[.val (.int p1), .val (.int p2), .val (.int p3), .val (.int p4), .val (.int p5), .val (.int (3 : Int32)), .val (.int v524), .val (.int (((p5.toUInt32 >>> ((3 : Int32) &&& 31).toUInt32).toInt32) &&& (3 : Int32))), .val (.ref b532), .val (.int v615), .unset, .unset] [])) _
                  refine XS.iload X607.here hx rfl (hb hby at_219) rfl ?_
                  refine XS.iconst X607.here hx rfl (hb hby at_221) ?_
                  refine XS.icmpYes X607.here hx rfl (pc0 := 222) (pc' := 229) rfl (hb hby at_222) rfl (feq (by decide)).2 (by decide) (by decide) ?_
                  refine XS.iloadN X607.here hx rfl (hb hby at_229) rfl ?_
                  show Steps p.tables e below (T607.setTop (mkF m 230 #[.val (.int p1), .val (.int p2), .val (.int p3), .val (.int p4), .val (.int p5), .val (.int (3 : Int32)), .val (.int v524), .val (.int (((p5.toUInt32 >>> ((3 : Int32) &&& 31).toUInt32).toInt32) &&& (3 : Int32))), .val (.ref b532), .val (.int v615), .unset, .unset] [(.int p3)])) _
                  refine XS.istore X607.here hx rfl (hb hby at_230) rfl (l' := #[.val (.int p1), .val (.int p2), .val (.int p3), .val (.int p4), .val (.int p5), .val (.int (3 : Int32)), .val (.int v524), .val (.int (((p5.toUInt32 >>> ((3 : Int32) &&& 31).toUInt32).toInt32) &&& (3 : Int32))), .val (.ref b532), .val (.int v615), .unset, .val (.int p3)]) rfl ?_
                  refine XS.iload X607.here hx rfl (hb hby at_232) rfl ?_
                  refine XS.iload X607.here hx rfl (hb hby at_234) rfl ?_
                  exact kt
                by_cases hc236_617 : p3 = v615
                · obtain ⟨cq619, kq619, q619a, q619b, q619c⟩ := isOf hZ rfl (((((((A532.ext E534).keep K536q).keep K538q).keep K540q).keep K575q).keep K607q))
                  obtain ⟨_, _, ⟨T619, L619, k619, n619⟩, -, X619, ⟨Lc619, hQ619, l619, y619, z619⟩, st619⟩ := X607.virtualBack hx (y := (⟨"com/example/kawi/kawi/OrderedNames", "endsWith", "(I)Z"⟩ : MethodName)) (z := (⟨"com/example/kawi/kawi/OrderedNames", "endsWith", "(I)Z"⟩ : MethodName)) hown (mvT hZ (wd_43 hw)) (mvT hZ (wd_44 hw)) (notFace_of_selects (args := #[]) (mvT hZ (wd_46 hw))) (mvT hZ (wd_46 hw)) (mvT hZ (wd_45 hw)) (by decide) (backOf (W := 0) (rmew3 l Z a0 hw [] b532 v615 b_607 kb_607 p1 p2 p3 T607.heap n0 Z608 g607_1 g607_3 g607_5) hZ (wd_47 hw) (wd_2 hw) (by decide) (by decide)) q619a q619c (g := (mkF m 250 #[.val (.int p1), .val (.int p2), .val (.int p3), .val (.int p4), .val (.int p5), .val (.int (3 : Int32)), .val (.int v524), .val (.int (((p5.toUInt32 >>> ((3 : Int32) &&& 31).toUInt32).toInt32) &&& (3 : Int32))), .val (.ref b532), .val (.int v615), .val (.int (1 : Int32)), .val (.int p3)] [(.int v615), (.ref b532)])) rfl (by rw [hml]; rfl) (Steps.refl _) (argsL := [(.int v615)]) (rest := []) (lenOf pd__I_Z rfl) rfl (by show 2 * 0 + _ ≤ _; exact Nat.le_of_eq rfl) (hb hby at_250) (fun _ _ => ⟨rfl, rfl, (by decide : 5 + 0 ≤ _), (by decide : 15 + 0 ≤ _)⟩)
                  dsimp only [Pt.U, Pt.locs, Pt.cells, Pt.slots] at X619 l619 y619 z619 st619 hQ619
                  subst l619 y619 z619
                  obtain ⟨rfl, N619q, e619⟩ := hQ619
                  have N619 := Fr.app N607 N619q
                  obtain ⟨fs, hr, hrun, hended, hW, hsame⟩ := X619.leave (v := some (.int (1 : Int32))) (fun h => by rw [Bd.returns] at h; cases h)
                  refine ⟨_, _, pre618 _ ?_, hrun, hended, _, _, rfl, ?_, ⟨_, rfl⟩, hW, hsame.mono (by decide) (by decide)⟩
                  · show Steps p.tables e below (T607.setTop (mkF m 236 #[.val (.int p1), .val (.int p2), .val (.int p3), .val (.int p4), .val (.int p5), .val (.int (3 : Int32)), .val (.int v524), .val (.int (((p5.toUInt32 >>> ((3 : Int32) &&& 31).toUInt32).toInt32) &&& (3 : Int32))), .val (.ref b532), .val (.int v615), .unset, .val (.int p3)] [(.int v615), (.int p3)])) _
                    refine XS.icmpNo X607.here hx rfl (hb hby at_236) rfl (teq hc236_617).2 ?_
                    show Steps p.tables e below (T607.setTop (mkF m 239 #[.val (.int p1), .val (.int p2), .val (.int p3), .val (.int p4), .val (.int p5), .val (.int (3 : Int32)), .val (.int v524), .val (.int (((p5.toUInt32 >>> ((3 : Int32) &&& 31).toUInt32).toInt32) &&& (3 : Int32))), .val (.ref b532), .val (.int v615), .unset, .val (.int p3)] [])) _
                    refine XS.iconst X607.here hx rfl (hb hby at_239) ?_
                    refine XS.goto X607.here hx rfl (pc0 := 240) (pc' := 244) rfl (hb hby at_240) (by decide) (by decide) ?_
                    refine XS.istore X607.here hx rfl (hb hby at_244) rfl (l' := #[.val (.int p1), .val (.int p2), .val (.int p3), .val (.int p4), .val (.int p5), .val (.int (3 : Int32)), .val (.int v524), .val (.int (((p5.toUInt32 >>> ((3 : Int32) &&& 31).toUInt32).toInt32) &&& (3 : Int32))), .val (.ref b532), .val (.int v615), .val (.int (1 : Int32)), .val (.int p3)]) rfl ?_
                    refine XS.aload X607.here hx rfl (hb hby at_246) rfl rfl ?_
                    show Steps p.tables e below (T607.setTop (mkF m 248 #[.val (.int p1), .val (.int p2), .val (.int p3), .val (.int p4), .val (.int p5), .val (.int (3 : Int32)), .val (.int v524), .val (.int (((p5.toUInt32 >>> ((3 : Int32) &&& 31).toUInt32).toInt32) &&& (3 : Int32))), .val (.ref b532), .val (.int v615), .val (.int (1 : Int32)), .val (.int p3)] [(.ref b532)])) _
                    refine XS.iload X607.here hx rfl (hb hby at_248) rfl ?_
                    refine st619.trans ?_
                    refine XS.iload X619.here hx rfl (hb hby at_253) rfl ?_
                    refine XS.icmpNo X619.here hx rfl (hb hby at_255) rfl (teq (by simp only [if_pos hc236_617])).2 ?_
                    show Steps p.tables e below (T619.setTop (mkF m 258 #[.val (.int p1), .val (.int p2), .val (.int p3), .val (.int p4), .val (.int p5), .val (.int (3 : Int32)), .val (.int v524), .val (.int (((p5.toUInt32 >>> ((3 : Int32) &&& 31).toUInt32).toInt32) &&& (3 : Int32))), .val (.ref b532), .val (.int v615), .val (.int (1 : Int32)), .val (.int p3)] [])) _
                    refine XS.iconst X619.here hx rfl (hb hby at_258) ?_
                    refine XS.goto X619.here hx rfl (pc0 := 259) (pc' := 263) rfl (hb hby at_259) (by decide) (by decide) ?_
                    exact retN X619 hx (t := .boolean) Bd.returns (by simp) (hb hby at_263) hr
                  · show Q_rm0 Z p1 p2 p3 p4 p5 wD wN kN h0 n0 _ T619.heap _
                    rw [e619]
                    exact ⟨rfl, N619, trivial⟩
                · obtain ⟨cq620, kq620, q620a, q620b, q620c⟩ := isOf hZ rfl (((((((A532.ext E534).keep K536q).keep K538q).keep K540q).keep K575q).keep K607q))
                  obtain ⟨_, _, ⟨T620, L620, k620, n620⟩, -, X620, ⟨Lc620, hQ620, l620, y620, z620⟩, st620⟩ := X607.virtualBack hx (y := (⟨"com/example/kawi/kawi/OrderedNames", "endsWith", "(I)Z"⟩ : MethodName)) (z := (⟨"com/example/kawi/kawi/OrderedNames", "endsWith", "(I)Z"⟩ : MethodName)) hown (mvT hZ (wd_43 hw)) (mvT hZ (wd_44 hw)) (notFace_of_selects (args := #[]) (mvT hZ (wd_46 hw))) (mvT hZ (wd_46 hw)) (mvT hZ (wd_45 hw)) (by decide) (backOf (W := 0) (rmew3 l Z a0 hw [] b532 v615 b_607 kb_607 p1 p2 p3 T607.heap n0 Z608 g607_1 g607_3 g607_5) hZ (wd_47 hw) (wd_2 hw) (by decide) (by decide)) q620a q620c (g := (mkF m 250 #[.val (.int p1), .val (.int p2), .val (.int p3), .val (.int p4), .val (.int p5), .val (.int (3 : Int32)), .val (.int v524), .val (.int (((p5.toUInt32 >>> ((3 : Int32) &&& 31).toUInt32).toInt32) &&& (3 : Int32))), .val (.ref b532), .val (.int v615), .val (.int (0 : Int32)), .val (.int p3)] [(.int v615), (.ref b532)])) rfl (by rw [hml]; rfl) (Steps.refl _) (argsL := [(.int v615)]) (rest := []) (lenOf pd__I_Z rfl) rfl (by show 2 * 0 + _ ≤ _; exact Nat.le_of_eq rfl) (hb hby at_250) (fun _ _ => ⟨rfl, rfl, (by decide : 5 + 0 ≤ _), (by decide : 15 + 0 ≤ _)⟩)
                  dsimp only [Pt.U, Pt.locs, Pt.cells, Pt.slots] at X620 l620 y620 z620 st620 hQ620
                  subst l620 y620 z620
                  obtain ⟨rfl, N620q, e620⟩ := hQ620
                  have N620 := Fr.app N607 N620q
                  obtain ⟨fs, hr, hrun, hended, hW, hsame⟩ := X620.leave (v := some (.int (1 : Int32))) (fun h => by rw [Bd.returns] at h; cases h)
                  refine ⟨_, _, pre618 _ ?_, hrun, hended, _, _, rfl, ?_, ⟨_, rfl⟩, hW, hsame.mono (by decide) (by decide)⟩
                  · show Steps p.tables e below (T607.setTop (mkF m 236 #[.val (.int p1), .val (.int p2), .val (.int p3), .val (.int p4), .val (.int p5), .val (.int (3 : Int32)), .val (.int v524), .val (.int (((p5.toUInt32 >>> ((3 : Int32) &&& 31).toUInt32).toInt32) &&& (3 : Int32))), .val (.ref b532), .val (.int v615), .unset, .val (.int p3)] [(.int v615), (.int p3)])) _
                    refine XS.icmpYes X607.here hx rfl (pc0 := 236) (pc' := 243) rfl (hb hby at_236) rfl (feq hc236_617).2 (by decide) (by decide) ?_
                    show Steps p.tables e below (T607.setTop (mkF m 243 #[.val (.int p1), .val (.int p2), .val (.int p3), .val (.int p4), .val (.int p5), .val (.int (3 : Int32)), .val (.int v524), .val (.int (((p5.toUInt32 >>> ((3 : Int32) &&& 31).toUInt32).toInt32) &&& (3 : Int32))), .val (.ref b532), .val (.int v615), .unset, .val (.int p3)] [])) _
                    refine XS.iconst X607.here hx rfl (hb hby at_243) ?_
                    refine XS.istore X607.here hx rfl (hb hby at_244) rfl (l' := #[.val (.int p1), .val (.int p2), .val (.int p3), .val (.int p4), .val (.int p5), .val (.int (3 : Int32)), .val (.int v524), .val (.int (((p5.toUInt32 >>> ((3 : Int32) &&& 31).toUInt32).toInt32) &&& (3 : Int32))), .val (.ref b532), .val (.int v615), .val (.int (0 : Int32)), .val (.int p3)]) rfl ?_
                    refine XS.aload X607.here hx rfl (hb hby at_246) rfl rfl ?_
                    refine XS.iload X607.here hx rfl (hb hby at_248) rfl ?_
                    show Steps p.tables e below (T607.setTop (mkF m 250 #[.val (.int p1), .val (.int p2), .val (.int p3), .val (.int p4), .val (.int p5), .val (.int (3 : Int32)), .val (.int v524), .val (.int (((p5.toUInt32 >>> ((3 : Int32) &&& 31).toUInt32).toInt32) &&& (3 : Int32))), .val (.ref b532), .val (.int v615), .val (.int (0 : Int32)), .val (.int p3)] [(.int v615), (.ref b532)])) _
                    refine st620.trans ?_
                    refine XS.iload X620.here hx rfl (hb hby at_253) rfl ?_
                    refine XS.icmpNo X620.here hx rfl (hb hby at_255) rfl (teq (by simp only [if_neg hc236_617])).2 ?_
                    refine XS.iconst X620.here hx rfl (hb hby at_258) ?_
                    show Steps p.tables e below (T620.setTop (mkF m 259 #[.val (.int p1), .val (.int p2), .val (.int p3), .val (.int p4), .val (.int p5), .val (.int (3 : Int32)), .val (.int v524), .val (.int (((p5.toUInt32 >>> ((3 : Int32) &&& 31).toUInt32).toInt32) &&& (3 : Int32))), .val (.ref b532), .val (.int v615), .val (.int (0 : Int32)), .val (.int p3)] [(.int (1 : Int32))])) _
                    refine XS.goto X620.here hx rfl (pc0 := 259) (pc' := 263) rfl (hb hby at_259) (by decide) (by decide) ?_
                    exact retN X620 hx (t := .boolean) Bd.returns (by simp) (hb hby at_263) hr
                  · show Q_rm0 Z p1 p2 p3 p4 p5 wD wN kN h0 n0 _ T620.heap _
                    rw [e620]
                    exact ⟨rfl, N620, trivial⟩
              · obtain ⟨cq621, kq621, q621a, q621b, q621c⟩ := isOf hZ rfl (((((((A532.ext E534).keep K536q).keep K538q).keep K540q).keep K575q).keep K607q))
                obtain ⟨_, _, ⟨T621, L621, k621, n621⟩, -, X621, ⟨Lc621, hQ621, l621, y621, z621⟩, st621⟩ := X607.virtualBack hx (y := (⟨"com/example/kawi/kawi/OrderedNames", "order", "()V"⟩ : MethodName)) (z := (⟨"com/example/kawi/kawi/OrderedNames", "order", "()V"⟩ : MethodName)) hown (mvT hZ (wd_73 hw)) (mvT hZ (wd_74 hw)) (notFace_of_selects (args := #[]) (mvT hZ (wd_76 hw))) (mvT hZ (wd_76 hw)) (mvT hZ (wd_75 hw)) (by decide) (backOf (W := 0) (rmo1 l Z a0 hw [] b532 T607.heap n0 Z608 g607_2) hZ (wd_77 hw) (wd_2 hw) (by decide) (by decide)) q621a q621c (g := (mkF m 120 #[.val (.int p1), .val (.int p2), .val (.int p3), .val (.int p4), .val (.int p5), .val (.int (3 : Int32)), .val (.int v524), .val (.int (((p5.toUInt32 >>> ((3 : Int32) &&& 31).toUInt32).toInt32) &&& (3 : Int32))), .val (.ref b532), .unset, .unset, .unset] [(.ref b532)])) rfl (by rw [hml]; rfl) (Steps.refl _) (argsL := []) (rest := []) (lenOf pd___V rfl) rfl (by show 2 * 0 + _ ≤ _; exact Nat.le_of_eq rfl) (hb hby at_120) (fun _ _ => ⟨rfl, rfl, (by decide : 5 + 0 ≤ _), (by decide : 15 + 0 ≤ _)⟩)
                dsimp only [Pt.U, Pt.locs, Pt.cells, Pt.slots] at X621 l621 y621 z621 st621 hQ621
                subst l621 y621 z621
                obtain ⟨rfl, N621q, e621⟩ := hQ621
                have N621 := Fr.app N607 N621q
                obtain ⟨v625, hv625⟩ : ∃ z : Int32, z = (if (((p5.toUInt32 >>> ((3 : Int32) &&& 31).toUInt32).toInt32) &&& (3 : Int32)) = (0 : Int32) then p4 else (if (((p5.toUInt32 >>> ((3 : Int32) &&& 31).toUInt32).toInt32) &&& (3 : Int32)) = (1 : Int32) then p1 else (if (((p5.toUInt32 >>> ((3 : Int32) &&& 31).toUInt32).toInt32) &&& (3 : Int32)) = (2 : Int32) then p2 else p3))) := ⟨_, rfl⟩
                have pre626 : ∀ t, Steps p.tables e below (T621.setTop (mkF m 153 #[.val (.int p1), .val (.int p2), .val (.int p3), .val (.int p4), .val (.int p5), .val (.int (3 : Int32)), .val (.int v524), .val (.int (((p5.toUInt32 >>> ((3 : Int32) &&& 31).toUInt32).toInt32) &&& (3 : Int32))), .val (.ref b532), .unset, .unset, .unset] [(.int v625)])) t → Steps p.tables e below (s₁.setTop (entryFrame m #[(.int p1), (.int p2), (.int p3), (.int p4), (.int p5)] maxLocals)) t := by
                  intro t kt
                  refine pre611 _ ?_
                  rw [hv625] at kt
                  show Steps p.tables e below (T607.setTop (mkF m 115 #[.val (.int p1), .val (.int p2), .val (.int p3), .val (.int p4), .val (.int p5), .val (.int (3 : Int32)), .val (.int v524), .val (.int (((p5.toUInt32 >>> ((3 : Int32) &&& 31).toUInt32).toInt32) &&& (3 : Int32))), .val (.ref b532), .unset, .unset, .unset] [(.int v524)])) _
                  refine XS.ifNo X607.here hx rfl (hb hby at_115) rfl ((if0 _ _).trans (feq hc115_610).1) ?_
                  refine XS.aload X607.here hx rfl (hb hby at_118) rfl rfl ?_
                  refine st621.trans ?_
                  refine XS.iload X621.here hx rfl (hb hby at_123) rfl ?_
                  show Steps p.tables e below (T621.setTop (mkF m 125 #[.val (.int p1), .val (.int p2), .val (.int p3), .val (.int p4), .val (.int p5), .val (.int (3 : Int32)), .val (.int v524), .val (.int (((p5.toUInt32 >>> ((3 : Int32) &&& 31).toUInt32).toInt32) &&& (3 : Int32))), .val (.ref b532), .unset, .unset, .unset] [(.int (((p5.toUInt32 >>> ((3 : Int32) &&& 31).toUInt32).toInt32) &&& (3 : Int32)))])) _
                  by_cases hc125_622 : (((p5.toUInt32 >>> ((3 : Int32) &&& 31).toUInt32).toInt32) &&& (3 : Int32)) = (0 : Int32)
                  · try simp only [if_pos hc125_622] at kt
                    refine XS.ifNo X621.here hx rfl (hb hby at_125) rfl ((if0 _ _).trans (teq hc125_622).2) ?_
                    refine XS.iloadN X621.here hx rfl (hb hby at_128) rfl ?_
                    refine XS.goto X621.here hx rfl (pc0 := 129) (pc' := 153) rfl (hb hby at_129) (by decide) (by decide) ?_
                    exact kt
                  · try simp only [if_neg hc125_622] at kt
                    refine XS.ifYes X621.here hx rfl (pc0 := 125) (pc' := 132) rfl (hb hby at_125) rfl ((if0 _ _).trans (feq hc125_622).2) (by decide) (by decide) ?_
                    refine XS.iload X621.here hx rfl (hb hby at_132) rfl ?_
                    refine XS.iconst X621.here hx rfl (hb hby at_134) ?_
                    by_cases hc135_623 : (((p5.toUInt32 >>> ((3 : Int32) &&& 31).toUInt32).toInt32) &&& (3 : Int32)) = (1 : Int32)
                    · try simp only [if_pos hc135_623] at kt
                      refine XS.icmpNo X621.here hx rfl (hb hby at_135) rfl (teq hc135_623).2 ?_
                      show Steps p.tables e below (T621.setTop (mkF m 138 #[.val (.int p1), .val (.int p2), .val (.int p3), .val (.int p4), .val (.int p5), .val (.int (3 : Int32)), .val (.int v524), .val (.int (((p5.toUInt32 >>> ((3 : Int32) &&& 31).toUInt32).toInt32) &&& (3 : Int32))), .val (.ref b532), .unset, .unset, .unset] [])) _
                      refine XS.iloadN X621.here hx rfl (hb hby at_138) rfl ?_
                      refine XS.goto X621.here hx rfl (pc0 := 139) (pc' := 153) rfl (hb hby at_139) (by decide) (by decide) ?_
                      exact kt
                    · try simp only [if_neg hc135_623] at kt
                      refine XS.icmpYes X621.here hx rfl (pc0 := 135) (pc' := 142) rfl (hb hby at_135) rfl (feq hc135_623).2 (by decide) (by decide) ?_
                      show Steps p.tables e below (T621.setTop (mkF m 142 #[.val (.int p1), .val (.int p2), .val (.int p3), .val (.int p4), .val (.int p5), .val (.int (3 : Int32)), .val (.int v524), .val (.int (((p5.toUInt32 >>> ((3 : Int32) &&& 31).toUInt32).toInt32) &&& (3 : Int32))), .val (.ref b532), .unset, .unset, .unset] [])) _
                      refine XS.iload X621.here hx rfl (hb hby at_142) rfl ?_
                      refine XS.iconst X621.here hx rfl (hb hby at_144) ?_
                      by_cases hc145_624 : (((p5.toUInt32 >>> ((3 : Int32) &&& 31).toUInt32).toInt32) &&& (3 : Int32)) = (2 : Int32)
                      · try simp only [if_pos hc145_624] at kt
                        refine XS.icmpNo X621.here hx rfl (hb hby at_145) rfl (teq hc145_624).2 ?_
                        refine XS.iloadN X621.here hx rfl (hb hby at_148) rfl ?_
                        show Steps p.tables e below (T621.setTop (mkF m 149 #[.val (.int p1), .val (.int p2), .val (.int p3), .val (.int p4), .val (.int p5), .val (.int (3 : Int32)), .val (.int v524), .val (.int (((p5.toUInt32 >>> ((3 : Int32) &&& 31).toUInt32).toInt32) &&& (3 : Int32))), .val (.ref b532), .unset, .unset, .unset] [(.int p2)])) _
                        refine XS.goto X621.here hx rfl (pc0 := 149) (pc' := 153) rfl (hb hby at_149) (by decide) (by decide) ?_
                        exact kt
                      · try simp only [if_neg hc145_624] at kt
                        refine XS.icmpYes X621.here hx rfl (pc0 := 145) (pc' := 152) rfl (hb hby at_145) rfl (feq hc145_624).2 (by decide) (by decide) ?_
                        refine XS.iloadN X621.here hx rfl (hb hby at_152) rfl ?_
                        show Steps p.tables e below (T621.setTop (mkF m 153 #[.val (.int p1), .val (.int p2), .val (.int p3), .val (.int p4), .val (.int p5), .val (.int (3 : Int32)), .val (.int v524), .val (.int (((p5.toUInt32 >>> ((3 : Int32) &&& 31).toUInt32).toInt32) &&& (3 : Int32))), .val (.ref b532), .unset, .unset, .unset] [(.int p3)])) _
                        exact kt
                obtain ⟨_, _, ⟨T627, L627, k627, n627⟩, -, X627, ⟨Lc627, hQ627, l627, y627, z627⟩, st627⟩ := Jvm.LawKit.callS X621 hx (y := (⟨"java/lang/Math", "max", "(II)I"⟩ : MethodName)) hown (mvT hZ (wd_78 hw)) (mvT hZ (wd_56 hw)) (mvT hZ (wd_57 hw)) (mvT hZ (wd_58 hw)) (by decide) (backOf (W := 1) (rm8 l Z a0 hw [] p2 p3 T607.heap n0 Z608) hZ (wd_58 hw) (wd_57 hw) (by decide) (by decide)) (g := (mkF m 198 #[.val (.int p1), .val (.int p2), .val (.int p3), .val (.int p4), .val (.int p5), .val (.int (3 : Int32)), .val (.int v524), .val (.int (((p5.toUInt32 >>> ((3 : Int32) &&& 31).toUInt32).toInt32) &&& (3 : Int32))), .val (.ref b532), .val (.int v625), .unset, .unset] [(.int p3), (.int p2), (.int p1)])) rfl (by rw [hml]; rfl) (argsL := [(.int p2), (.int p3)]) (rest := [(.int p1)]) (lenOf pd__II_I rfl) rfl (by show 2 * 0 + _ ≤ _; exact Nat.le_of_eq rfl) (hb hby at_198) (fun _ _ => ⟨rfl, e621, (by decide : 5 + 0 ≤ _), (by decide : 15 + 0 ≤ _)⟩)
                dsimp only [Pt.U, Pt.locs, Pt.cells, Pt.slots] at X627 l627 y627 z627 st627 hQ627
                subst l627 y627 z627
                obtain ⟨rfl, N627q, e627⟩ := hQ627
                have N627 := Fr.app N621 N627q
                obtain ⟨_, _, ⟨T628, L628, k628, n628⟩, -, X628, ⟨Lc628, hQ628, l628, y628, z628⟩, st628⟩ := Jvm.LawKit.callS X627 hx (y := (⟨"java/lang/Math", "max", "(II)I"⟩ : MethodName)) hown (mvT hZ (wd_78 hw)) (mvT hZ (wd_56 hw)) (mvT hZ (wd_57 hw)) (mvT hZ (wd_58 hw)) (by decide) (backOf (W := 0) (rm8 l Z a0 hw [] p1 (if p2 < p3 then p3 else p2) T607.heap n0 Z608) hZ (wd_58 hw) (wd_57 hw) (by decide) (by decide)) (g := (mkF m 201 #[.val (.int p1), .val (.int p2), .val (.int p3), .val (.int p4), .val (.int p5), .val (.int (3 : Int32)), .val (.int v524), .val (.int (((p5.toUInt32 >>> ((3 : Int32) &&& 31).toUInt32).toInt32) &&& (3 : Int32))), .val (.ref b532), .val (.int v625), .unset, .unset] [(.int (if p2 < p3 then p3 else p2)), (.int p1)])) rfl (by rw [hml]; rfl) (argsL := [(.int p1), (.int (if p2 < p3 then p3 else p2))]) (rest := []) (lenOf pd__II_I rfl) rfl (by show 2 * 0 + _ ≤ _; exact Nat.le_of_eq rfl) (hb hby at_201) (fun _ _ => ⟨rfl, e627, (by decide : 5 + 0 ≤ _), (by decide : 15 + 0 ≤ _)⟩)
                dsimp only [Pt.U, Pt.locs, Pt.cells, Pt.slots] at X628 l628 y628 z628 st628 hQ628
                subst l628 y628 z628
                obtain ⟨rfl, N628q, e628⟩ := hQ628
                have N628 := Fr.app N627 N628q
                have pre630 : ∀ t, Steps p.tables e below (T628.setTop (mkF m 236 #[.val (.int p1), .val (.int p2), .val (.int p3), .val (.int p4), .val (.int p5), .val (.int (3 : Int32)), .val (.int v524), .val (.int (((p5.toUInt32 >>> ((3 : Int32) &&& 31).toUInt32).toInt32) &&& (3 : Int32))), .val (.ref b532), .val (.int v625), .unset, .val (.int (if p1 < (if p2 < p3 then p3 else p2) then (if p2 < p3 then p3 else p2) else p1))] [(.int v625), (.int (if p1 < (if p2 < p3 then p3 else p2) then (if p2 < p3 then p3 else p2) else p1))])) t → Steps p.tables e below (s₁.setTop (entryFrame m #[(.int p1), (.int p2), (.int p3), (.int p4), (.int p5)] maxLocals)) t := by
                  intro t kt
                  refine pre626 _ ?_
                  show Steps p.tables e below (T621.setTop (mkF m 153 #[.val (.int p1), .val (.int p2), .val (.int p3), .val (.int p4), .val (.int p5), .val (.int (3 : Int32)), .val (.int v524), .val (.int (((p5.toUInt32 >>> ((3 : Int32) &&& 31).toUInt32).toInt32) &&& (3 : Int32))), .val (.ref b532), .unset, .unset, .unset] [(.int v625)])) _
                  refine XS.istore X621.here hx rfl (hb hby at_153) rfl (l' := #[.val (.int p1), .val (.int p2), .val (.int p3), .val (.int p4), .val (.int p5), .val (.int (3 : Int32)), .val (.int v524), .val (.int (((p5.toUInt32 >>> ((3 : Int32) &&& 31).toUInt32).toInt32) &&& (3 : Int32))), .val (.ref b532), .val (.int v625), .unset, .unset]) rfl ?_
                  refine XS.iload X621.here hx rfl (hb hby at_155) rfl ?_
                  refine XS.ifYes X621.here hx rfl (pc0 := 157) (pc' := 166) rfl (hb hby at_157) rfl ((if0 _ _).trans (feq (by decide)).2) (by decide) (by decide) ?_
                  refine XS.iload X621.here hx rfl (hb hby at_166) rfl ?_
                  show Steps p.tables e below (T621.setTop (mkF m 168 #[.val (.int p1), .val (.int p2), .val (.int p3), .val (.int p4), .val (.int p5), .val (.int (3 : Int32)), .val (.int v524), .val (.int (((p5.toUInt32 >>> ((3 : Int32) &&& 31).toUInt32).toInt32) &&& (3 : Int32))), .val (.ref b532), .val (.int v625), .unset, .unset] [(.int v524)])) _
                  refine XS.ifNo X621.here hx rfl (hb hby at_168) rfl ((if0 _ _).trans (feq hc115_610).1) ?_
                  refine XS.iload X621.here hx rfl (hb hby at_171) rfl ?_
                  refine XS.iconst X621.here hx rfl (hb hby at_173) ?_
                  refine XS.icmpYes X621.here hx rfl (pc0 := 174) (pc' := 181) rfl (hb hby at_174) rfl (feq (by decide)).2 (by decide) (by decide) ?_
                  show Steps p.tables e below (T621.setTop (mkF m 181 #[.val (.int p1), .val (.int p2), .val (.int p3), .val (.int p4), .val (.int p5), .val (.int (3 : Int32)), .val (.int v524), .val (.int (((p5.toUInt32 >>> ((3 : Int32) &&& 31).toUInt32).toInt32) &&& (3 : Int32))), .val (.ref b532), .val (.int v625), .unset, .unset] [])) _
                  refine XS.iload X621.here hx rfl (hb hby at_181) rfl ?_
                  refine XS.iconst X621.here hx rfl (hb hby at_183) ?_
                  refine XS.icmpYes X621.here hx rfl (pc0 := 184) (pc' := 195) rfl (hb hby at_184) rfl (feq (by decide)).2 (by decide) (by decide) ?_
                  refine XS.iloadN X621.here hx rfl (hb hby at_195) rfl ?_
                  show Steps p.tables e below (T621.setTop (mkF m 196 #[.val (.int p1), .val (.int p2), .val (.int p3), .val (.int p4), .val (.int p5), .val (.int (3 : Int32)), .val (.int v524), .val (.int (((p5.toUInt32 >>> ((3 : Int32) &&& 31).toUInt32).toInt32) &&& (3 : Int32))), .val (.ref b532), .val (.int v625), .unset, .unset] [(.int p1)])) _
                  refine XS.iloadN X621.here hx rfl (hb hby at_196) rfl ?_
                  refine XS.iloadN X621.here hx rfl (hb hby at_197) rfl ?_
                  refine st627 _ ?_
                  refine st628 _ ?_
                  show Steps p.tables e below (T628.setTop (mkF m 204 #[.val (.int p1), .val (.int p2), .val (.int p3), .val (.int p4), .val (.int p5), .val (.int (3 : Int32)), .val (.int v524), .val (.int (((p5.toUInt32 >>> ((3 : Int32) &&& 31).toUInt32).toInt32) &&& (3 : Int32))), .val (.ref b532), .val (.int v625), .unset, .unset] [(.int (if p1 < (if p2 < p3 then p3 else p2) then (if p2 < p3 then p3 else p2) else p1))])) _
                  refine XS.istore X628.here hx rfl (hb hby at_204) rfl (l' := #[.val (.int p1), .val (.int p2), .val (.int p3), .val (.int p4), .val (.int p5), .val (.int (3 : Int32)), .val (.int v524), .val (.int (((p5.toUInt32 >>> ((3 : Int32) &&& 31).toUInt32).toInt32) &&& (3 : Int32))), .val (.ref b532), .val (.int v625), .unset, .val (.int (if p1 < (if p2 < p3 then p3 else p2) then (if p2 < p3 then p3 else p2) else p1))]) rfl ?_
                  refine XS.goto X628.here hx rfl (pc0 := 206) (pc' := 232) rfl (hb hby at_206) (by decide) (by decide) ?_
                  refine XS.iload X628.here hx rfl (hb hby at_232) rfl ?_
                  refine XS.iload X628.here hx rfl (hb hby at_234) rfl ?_
                  show Steps p.tables e below (T628.setTop (mkF m 236 #[.val (.int p1), .val (.int p2), .val (.int p3), .val (.int p4), .val (.int p5), .val (.int (3 : Int32)), .val (.int v524), .val (.int (((p5.toUInt32 >>> ((3 : Int32) &&& 31).toUInt32).toInt32) &&& (3 : Int32))), .val (.ref b532), .val (.int v625), .unset, .val (.int (if p1 < (if p2 < p3 then p3 else p2) then (if p2 < p3 then p3 else p2) else p1))] [(.int v625), (.int (if p1 < (if p2 < p3 then p3 else p2) then (if p2 < p3 then p3 else p2) else p1))])) _
                  exact kt
                by_cases hc236_629 : (if p1 < (if p2 < p3 then p3 else p2) then (if p2 < p3 then p3 else p2) else p1) = v625
                · obtain ⟨cq631, kq631, q631a, q631b, q631c⟩ := isOf hZ e628 (((((((A532.ext E534).keep K536q).keep K538q).keep K540q).keep K575q).keep K607q))
                  obtain ⟨_, _, ⟨T631, L631, k631, n631⟩, -, X631, ⟨Lc631, hQ631, l631, y631, z631⟩, st631⟩ := X628.virtualBack hx (y := (⟨"com/example/kawi/kawi/OrderedNames", "endsWith", "(I)Z"⟩ : MethodName)) (z := (⟨"com/example/kawi/kawi/OrderedNames", "endsWith", "(I)Z"⟩ : MethodName)) hown (mvT hZ (wd_43 hw)) (mvT hZ (wd_44 hw)) (notFace_of_selects (args := #[]) (mvT hZ (wd_46 hw))) (mvT hZ (wd_46 hw)) (mvT hZ (wd_45 hw)) (by decide) (backOf (W := 0) (rmew3 l Z a0 hw [] b532 v625 b_607 kb_607 p1 p2 p3 T607.heap n0 Z608 g607_1 g607_3 g607_5) hZ (wd_47 hw) (wd_2 hw) (by decide) (by decide)) q631a q631c (g := (mkF m 250 #[.val (.int p1), .val (.int p2), .val (.int p3), .val (.int p4), .val (.int p5), .val (.int (3 : Int32)), .val (.int v524), .val (.int (((p5.toUInt32 >>> ((3 : Int32) &&& 31).toUInt32).toInt32) &&& (3 : Int32))), .val (.ref b532), .val (.int v625), .val (.int (1 : Int32)), .val (.int (if p1 < (if p2 < p3 then p3 else p2) then (if p2 < p3 then p3 else p2) else p1))] [(.int v625), (.ref b532)])) rfl (by rw [hml]; rfl) (Steps.refl _) (argsL := [(.int v625)]) (rest := []) (lenOf pd__I_Z rfl) rfl (by show 2 * 0 + _ ≤ _; exact Nat.le_of_eq rfl) (hb hby at_250) (fun _ _ => ⟨rfl, e628, (by decide : 5 + 0 ≤ _), (by decide : 15 + 0 ≤ _)⟩)
                  dsimp only [Pt.U, Pt.locs, Pt.cells, Pt.slots] at X631 l631 y631 z631 st631 hQ631
                  subst l631 y631 z631
                  obtain ⟨rfl, N631q, e631⟩ := hQ631
                  have N631 := Fr.app N628 N631q
                  obtain ⟨fs, hr, hrun, hended, hW, hsame⟩ := X631.leave (v := some (.int (1 : Int32))) (fun h => by rw [Bd.returns] at h; cases h)
                  refine ⟨_, _, pre630 _ ?_, hrun, hended, _, _, rfl, ?_, ⟨_, rfl⟩, hW, hsame.mono (by decide) (by decide)⟩
                  · show Steps p.tables e below (T628.setTop (mkF m 236 #[.val (.int p1), .val (.int p2), .val (.int p3), .val (.int p4), .val (.int p5), .val (.int (3 : Int32)), .val (.int v524), .val (.int (((p5.toUInt32 >>> ((3 : Int32) &&& 31).toUInt32).toInt32) &&& (3 : Int32))), .val (.ref b532), .val (.int v625), .unset, .val (.int (if p1 < (if p2 < p3 then p3 else p2) then (if p2 < p3 then p3 else p2) else p1))] [(.int v625), (.int (if p1 < (if p2 < p3 then p3 else p2) then (if p2 < p3 then p3 else p2) else p1))])) _
                    refine XS.icmpNo X628.here hx rfl (hb hby at_236) rfl (teq hc236_629).2 ?_
                    refine XS.iconst X628.here hx rfl (hb hby at_239) ?_
                    refine XS.goto X628.here hx rfl (pc0 := 240) (pc' := 244) rfl (hb hby at_240) (by decide) (by decide) ?_
                    refine XS.istore X628.here hx rfl (hb hby at_244) rfl (l' := #[.val (.int p1), .val (.int p2), .val (.int p3), .val (.int p4), .val (.int p5), .val (.int (3 : Int32)), .val (.int v524), .val (.int (((p5.toUInt32 >>> ((3 : Int32) &&& 31).toUInt32).toInt32) &&& (3 : Int32))), .val (.ref b532), .val (.int v625), .val (.int (1 : Int32)), .val (.int (if p1 < (if p2 < p3 then p3 else p2) then (if p2 < p3 then p3 else p2) else p1))]) rfl ?_
                    show Steps p.tables e below (T628.setTop (mkF m 246 #[.val (.int p1), .val (.int p2), .val (.int p3), .val (.int p4), .val (.int p5), .val (.int (3 : Int32)), .val (.int v524), .val (.int (((p5.toUInt32 >>> ((3 : Int32) &&& 31).toUInt32).toInt32) &&& (3 : Int32))), .val (.ref b532), .val (.int v625), .val (.int (1 : Int32)), .val (.int (if p1 < (if p2 < p3 then p3 else p2) then (if p2 < p3 then p3 else p2) else p1))] [])) _
                    refine XS.aload X628.here hx rfl (hb hby at_246) rfl rfl ?_
                    refine XS.iload X628.here hx rfl (hb hby at_248) rfl ?_
                    refine st631.trans ?_
                    refine XS.iload X631.here hx rfl (hb hby at_253) rfl ?_
                    show Steps p.tables e below (T631.setTop (mkF m 255 #[.val (.int p1), .val (.int p2), .val (.int p3), .val (.int p4), .val (.int p5), .val (.int (3 : Int32)), .val (.int v524), .val (.int (((p5.toUInt32 >>> ((3 : Int32) &&& 31).toUInt32).toInt32) &&& (3 : Int32))), .val (.ref b532), .val (.int v625), .val (.int (1 : Int32)), .val (.int (if p1 < (if p2 < p3 then p3 else p2) then (if p2 < p3 then p3 else p2) else p1))] [(.int (1 : Int32)), (.int (if p3 = v625 then (1 : Int32) else (0 : Int32)))])) _
                    refine XS.icmpNo X631.here hx rfl (hb hby at_255) rfl (teq (by (have e : p3 = (if p1 < (if p2 < p3 then p3 else p2) then (if p2 < p3 then p3 else p2) else p1) := (by (have := own_ne (a := (p1).toInt) (b := (p2).toInt) hc38_526 rfl rfl; have := own_ne (a := (p1).toInt) (b := (p3).toInt) hc51_528 rfl rfl; have := own_ne (a := (p2).toInt) (b := (p3).toInt) hc56_530 rfl rfl; have := own_nlt (a := (p2).toInt) (b := (p1).toInt) hc98_543 rfl rfl; have := own_nlt (a := (p3).toInt) (b := (p2).toInt) hc110_578 rfl rfl; have := own_ne (a := (v524).toInt) (b := 0) hc115_610 rfl rfl; have := own_eq (a := ((if p1 < (if p2 < p3 then p3 else p2) then (if p2 < p3 then p3 else p2) else p1)).toInt) (b := (v625).toInt) hc236_629 rfl rfl; exact own_last3 (by omega) (by omega) (by omega) (by omega))); rw [e]; simp only [if_pos hc236_629]))).2 ?_
                    refine XS.iconst X631.here hx rfl (hb hby at_258) ?_
                    refine XS.goto X631.here hx rfl (pc0 := 259) (pc' := 263) rfl (hb hby at_259) (by decide) (by decide) ?_
                    exact retN X631 hx (t := .boolean) Bd.returns (by simp) (hb hby at_263) hr
                  · show Q_rm0 Z p1 p2 p3 p4 p5 wD wN kN h0 n0 _ T631.heap _
                    rw [e631]
                    exact ⟨rfl, N631, trivial⟩
                · obtain ⟨cq632, kq632, q632a, q632b, q632c⟩ := isOf hZ e628 (((((((A532.ext E534).keep K536q).keep K538q).keep K540q).keep K575q).keep K607q))
                  obtain ⟨_, _, ⟨T632, L632, k632, n632⟩, -, X632, ⟨Lc632, hQ632, l632, y632, z632⟩, st632⟩ := X628.virtualBack hx (y := (⟨"com/example/kawi/kawi/OrderedNames", "endsWith", "(I)Z"⟩ : MethodName)) (z := (⟨"com/example/kawi/kawi/OrderedNames", "endsWith", "(I)Z"⟩ : MethodName)) hown (mvT hZ (wd_43 hw)) (mvT hZ (wd_44 hw)) (notFace_of_selects (args := #[]) (mvT hZ (wd_46 hw))) (mvT hZ (wd_46 hw)) (mvT hZ (wd_45 hw)) (by decide) (backOf (W := 0) (rmew3 l Z a0 hw [] b532 v625 b_607 kb_607 p1 p2 p3 T607.heap n0 Z608 g607_1 g607_3 g607_5) hZ (wd_47 hw) (wd_2 hw) (by decide) (by decide)) q632a q632c (g := (mkF m 250 #[.val (.int p1), .val (.int p2), .val (.int p3), .val (.int p4), .val (.int p5), .val (.int (3 : Int32)), .val (.int v524), .val (.int (((p5.toUInt32 >>> ((3 : Int32) &&& 31).toUInt32).toInt32) &&& (3 : Int32))), .val (.ref b532), .val (.int v625), .val (.int (0 : Int32)), .val (.int (if p1 < (if p2 < p3 then p3 else p2) then (if p2 < p3 then p3 else p2) else p1))] [(.int v625), (.ref b532)])) rfl (by rw [hml]; rfl) (Steps.refl _) (argsL := [(.int v625)]) (rest := []) (lenOf pd__I_Z rfl) rfl (by show 2 * 0 + _ ≤ _; exact Nat.le_of_eq rfl) (hb hby at_250) (fun _ _ => ⟨rfl, e628, (by decide : 5 + 0 ≤ _), (by decide : 15 + 0 ≤ _)⟩)
                  dsimp only [Pt.U, Pt.locs, Pt.cells, Pt.slots] at X632 l632 y632 z632 st632 hQ632
                  subst l632 y632 z632
                  obtain ⟨rfl, N632q, e632⟩ := hQ632
                  have N632 := Fr.app N628 N632q
                  obtain ⟨fs, hr, hrun, hended, hW, hsame⟩ := X632.leave (v := some (.int (1 : Int32))) (fun h => by rw [Bd.returns] at h; cases h)
                  refine ⟨_, _, pre630 _ ?_, hrun, hended, _, _, rfl, ?_, ⟨_, rfl⟩, hW, hsame.mono (by decide) (by decide)⟩
                  · show Steps p.tables e below (T628.setTop (mkF m 236 #[.val (.int p1), .val (.int p2), .val (.int p3), .val (.int p4), .val (.int p5), .val (.int (3 : Int32)), .val (.int v524), .val (.int (((p5.toUInt32 >>> ((3 : Int32) &&& 31).toUInt32).toInt32) &&& (3 : Int32))), .val (.ref b532), .val (.int v625), .unset, .val (.int (if p1 < (if p2 < p3 then p3 else p2) then (if p2 < p3 then p3 else p2) else p1))] [(.int v625), (.int (if p1 < (if p2 < p3 then p3 else p2) then (if p2 < p3 then p3 else p2) else p1))])) _
                    refine XS.icmpYes X628.here hx rfl (pc0 := 236) (pc' := 243) rfl (hb hby at_236) rfl (feq hc236_629).2 (by decide) (by decide) ?_
                    refine XS.iconst X628.here hx rfl (hb hby at_243) ?_
                    refine XS.istore X628.here hx rfl (hb hby at_244) rfl (l' := #[.val (.int p1), .val (.int p2), .val (.int p3), .val (.int p4), .val (.int p5), .val (.int (3 : Int32)), .val (.int v524), .val (.int (((p5.toUInt32 >>> ((3 : Int32) &&& 31).toUInt32).toInt32) &&& (3 : Int32))), .val (.ref b532), .val (.int v625), .val (.int (0 : Int32)), .val (.int (if p1 < (if p2 < p3 then p3 else p2) then (if p2 < p3 then p3 else p2) else p1))]) rfl ?_
                    refine XS.aload X628.here hx rfl (hb hby at_246) rfl rfl ?_
                    show Steps p.tables e below (T628.setTop (mkF m 248 #[.val (.int p1), .val (.int p2), .val (.int p3), .val (.int p4), .val (.int p5), .val (.int (3 : Int32)), .val (.int v524), .val (.int (((p5.toUInt32 >>> ((3 : Int32) &&& 31).toUInt32).toInt32) &&& (3 : Int32))), .val (.ref b532), .val (.int v625), .val (.int (0 : Int32)), .val (.int (if p1 < (if p2 < p3 then p3 else p2) then (if p2 < p3 then p3 else p2) else p1))] [(.ref b532)])) _
                    refine XS.iload X628.here hx rfl (hb hby at_248) rfl ?_
                    refine st632.trans ?_
                    refine XS.iload X632.here hx rfl (hb hby at_253) rfl ?_
                    refine XS.icmpNo X632.here hx rfl (hb hby at_255) rfl (teq (by (have e : p3 = (if p1 < (if p2 < p3 then p3 else p2) then (if p2 < p3 then p3 else p2) else p1) := (by (have := own_ne (a := (p1).toInt) (b := (p2).toInt) hc38_526 rfl rfl; have := own_ne (a := (p1).toInt) (b := (p3).toInt) hc51_528 rfl rfl; have := own_ne (a := (p2).toInt) (b := (p3).toInt) hc56_530 rfl rfl; have := own_nlt (a := (p2).toInt) (b := (p1).toInt) hc98_543 rfl rfl; have := own_nlt (a := (p3).toInt) (b := (p2).toInt) hc110_578 rfl rfl; have := own_ne (a := (v524).toInt) (b := 0) hc115_610 rfl rfl; have := own_ne (a := ((if p1 < (if p2 < p3 then p3 else p2) then (if p2 < p3 then p3 else p2) else p1)).toInt) (b := (v625).toInt) hc236_629 rfl rfl; exact own_last3 (by omega) (by omega) (by omega) (by omega))); rw [e]; simp only [if_neg hc236_629]))).2 ?_
                    show Steps p.tables e below (T632.setTop (mkF m 258 #[.val (.int p1), .val (.int p2), .val (.int p3), .val (.int p4), .val (.int p5), .val (.int (3 : Int32)), .val (.int v524), .val (.int (((p5.toUInt32 >>> ((3 : Int32) &&& 31).toUInt32).toInt32) &&& (3 : Int32))), .val (.ref b532), .val (.int v625), .val (.int (0 : Int32)), .val (.int (if p1 < (if p2 < p3 then p3 else p2) then (if p2 < p3 then p3 else p2) else p1))] [])) _
                    refine XS.iconst X632.here hx rfl (hb hby at_258) ?_
                    refine XS.goto X632.here hx rfl (pc0 := 259) (pc' := 263) rfl (hb hby at_259) (by decide) (by decide) ?_
                    exact retN X632 hx (t := .boolean) Bd.returns (by simp) (hb hby at_263) hr
                  · show Q_rm0 Z p1 p2 p3 p4 p5 wD wN kN h0 n0 _ T632.heap _
                    rw [e632]
                    exact ⟨rfl, N632, trivial⟩
theorem wd_36 {a0 : Array Value} {Z : State} (hw : ∀ d ∈ tables_1, d.before a0 Z = true) : (Jvm.Cond.laysStatic "com/example/kawi/kawi/OrderedNames" "NONE" "[I").before a0 Z = true := hw _ (List.mem_of_getElem? (i := 36) rfl)
theorem own_none {s : State} {args : Array Value} {t : Term} {x : Addr} {cl : Cell} (hf : Fit s) (ht : t.eval args s none [] s = some (.ref x)) (A : Arr s s.heap x cl .int) (h : (Cond.eq (.length t) (.int (0 : Int32))).value args s none s [] = some true) : ∃ k, Arv s s.heap x k .int (0 : Int32) [] (.int (0 : Int32)) := by
  have hz : cl.slots.size = 0 := by
    have A' := Arr.fin (State.Warmed39.refl s).alike A
    by_cases q : cl.slots.size < 2 ^ 31
    · have e := len_f (args := args) (first := s) (o := none) (idx := []) ht A' q
      have := gotT (Cond.eq_ints e (Term.int_eval (0))) h
      have b := congrArg Int32.toInt this
      have c : (cl.slots.size.toInt32).toInt = (cl.slots.size : Int) := by
        rw [show cl.slots.size.toInt32 = Int32.ofNat cl.slots.size from rfl]
        exact Int32.toInt_ofNat_of_lt q
      rw [c] at b
      have : (0 : Int32).toInt = 0 := rfl
      omega
    · have e := Cond.eq_int (Cond.before_iff.mpr h) rfl
      simp [Term.eval, ht, A'] at e
      have := e.1
      omega
  refine ⟨cl.cls, Arv.start hf A (by rw [hz]; decide) (by rw [hz]; rfl) (by decide) rfl trivial⟩
set_option maxRecDepth 65536 in
set_option maxHeartbeats 40000000 in
theorem comes_1 {Post : Tables → Env → Array Value → State → Outcome → State → Prop} (hpost : ∀ tb e args s v u, (limb_1_1.after args s (.returned v) u = true ∧ limb_1_2.after args s (.returned v) u = true ∧ True) → FrameEnd s (.returned v) u (Jvm.fieldLocs frame_1_writes args s ++ Jvm.arrayLocs frame_1_arrays args s ++ Jvm.staticLocs frame_1_statics s) 24 128 → Post tb e args s (.returned v) u) :
    ArmFor flags0 classFile x code maxLocals ret World_1 tables_1 room_1 Calls_1 rest_1 Pre_1 Post := by
  intro l hfl _ _ p e ha hc hk s m args below hf hA hF happ hP
  obtain ⟨hcalls, hrest, hpre⟩ := hP
  obtain ⟨-, -, -, hnamed, -, -, -, hat⟩ := (Spec.applies_iff hf).mp happ
  obtain ⟨hg, hn⟩ := and_e (Cond.before_iff.mp (show (Jvm.Cond.and given_1 narrow_1).before args s = true from hpre))
  obtain ⟨g633, g634⟩ := and_e hg
  obtain ⟨g635, g636⟩ := and_e g634
  obtain ⟨g637, g638⟩ := and_e g636
  obtain ⟨g639, g640⟩ := and_e g638
  obtain ⟨g641, g642⟩ := and_e g640
  obtain ⟨w0, w1, w2, w3, w4, rfl⟩ : ∃ w0 w1 w2 w3 w4 : Value, args = #[w0, w1, w2, w3, w4] := by
    have hs : args.size = 5 := by simpa [Cond.value, given_1] using g633
    obtain ⟨L⟩ := args
    match L, hs with
    | [w0, w1, w2, w3, w4], _ => exact ⟨w0, w1, w2, w3, w4, rfl⟩
  have hw := fun d (hd : d ∈ tables_1) => atoms_spec (ws := Jvm.Cond.code x code maxLocals ret :: tables_1) hat d (List.mem_cons_of_mem _ hd)
  have hfit : Fit s := fun {y c} hc i hi => by
    obtain ⟨ha, rfl⟩ := Array.getElem?_eq_some_iff.mp hc
    have q := List.all_eq_true.mp ((Array.all_eq_true_iff_forall_mem.mp hF) _ (Array.getElem_mem ha)) i (List.mem_range.mpr hi)
    simpa [Array.getElem?_eq_getElem hi] using q
  obtain ⟨hsets, hown0⟩ := atoms_of _ (rest_1_c_eq ▸ (show rest_1_c.before _ s = true from hrest))
  have hr0 := Cond.before_iff.mp hown0
  obtain ⟨i0, ei0⟩ := is_v g635
  obtain rfl : w0 = (.int i0) := Option.some.inj ei0
  obtain ⟨i1, ei1⟩ := is_v g637
  obtain rfl : w1 = (.int i1) := Option.some.inj ei1
  obtain ⟨i2, ei2⟩ := is_v g639
  obtain rfl : w2 = (.int i2) := Option.some.inj ei2
  obtain ⟨i3, ei3⟩ := is_v g641
  obtain rfl : w3 = (.int i3) := Option.some.inj ei3
  obtain ⟨i4, ei4⟩ := is_v g642
  obtain rfl : w4 = (.int i4) := Option.some.inj ei4
  obtain ⟨n1, n2⟩ := and_e hn
  obtain ⟨n3, n4⟩ := and_e n2
  obtain ⟨xN, exN⟩ := arr_v n1
  have SN : Sta s s.heap "com/example/kawi/kawi/OrderedNames" "NONE" "[I" (.ref xN) := Sta.start exN (Or.inr ⟨(wd_2 hw), (wd_36 hw)⟩)
  obtain ⟨xD, exD⟩ := arr_v (Cond.before_iff.mp (hsets _ (List.mem_of_getElem? (i := 6) rfl)))
  have SD : Sta s s.heap "java/util/ArrayList" "DEFAULTCAPACITY_EMPTY_ELEMENTDATA" "[Ljava/lang/Object;" (.ref xD) := Sta.start exD (Or.inr ⟨(wd_5 hw), hsets _ (List.mem_of_getElem? (i := 2) rfl)⟩)
  obtain ⟨cN, AN⟩ := Arr.start exN n1
  obtain ⟨kN, VN⟩ := own_none hfit exN AN n4
  obtain ⟨n, o, h1, h2, h3, _, L, rfl, ⟨rfl, N, -⟩, hq⟩ := rm0 l s _ hw tables_1 i0 i1 i2 i3 i4 xD xN kN s.heap s.heap.size (Nat.le_refl _) (Old.start s) SD SN VN p e ha hc hk s m _ below hf ((Spec.applies_iff_loose hf).mp happ).1 ⟨rfl, State.Warmed39.refl s, rfl⟩ trivial
  refine ⟨n, _, h1, h2, h3, hpost _ _ _ _ _ _ ⟨Cond.after_iff.mpr rfl, Cond.after_iff.mpr (eq_i res_at (Term.int_eval (1)) rfl), trivial⟩ ⟨hq.1, hq.2.1, (hq.2.2.sift fun y hy => Or.inr (N y hy)).mono (by decide) (by decide)⟩⟩
theorem main_1_1 : Claimed_1_1 := comes_1 fun _ _ _ _ _ _ h hF => ⟨h.1, hF⟩
theorem main_1_2 : Claimed_1_2 := comes_1 fun _ _ _ _ _ _ h hF => ⟨h.2.1, hF⟩
end Jvm.Pilot.@@N@@
namespace Jvm.Pilot.@@N@@
open Jvm Jvm.ClassFile Sem Op Lib Jvm.Free Jvm.Stand Jvm.Pilot.@@N@@.Jvm.D
/-! MADE BY PROGRAM (witnessworld.py) out of the Statement's table words and the real class files: 22 classes; the members and pool entries that the words name. The judged class is class 1, her method 1. -/
namespace start1
open Jvm.ClassFile
def u (s : String) : CpInfo := .utf8 (stringToUtf16 s)
/-- a pool by its gaps: so many unusable entries, then the entry; so many at the end -/
def gap : Nat → List CpInfo → List CpInfo
  | 0, r => r
  | n + 1, r => .unusable :: gap n r
def poolList (es : List (Nat × CpInfo)) (last : Nat) : List CpInfo := es.foldr (fun e r => gap e.1 (e.2 :: r)) (gap last [])
def pool (es : List (Nat × CpInfo)) (last : Nat) : Array CpInfo := ⟨poolList es last⟩
def fileOf (pool : Array CpInfo) (this : Nat) (attrs : Array Attribute := #[]) (ms : Array MethodInfo := #[]) (fl : Nat := 33) (sup : Nat := 0) (ifs : Array Nat := #[]) (fds : Array FieldInfo := #[]) : ClassFile where
  minorVersion := 0
  majorVersion := 65
  constantPool := pool
  accessFlags := fl
  thisClass := this
  superClass := sup
  interfaces := ifs
  fields := fds
  methods := ms
  attributes := attrs
def plain (name : String) (sup : Option ClassId) : Class where
  name := name
  kind := .ordinary
  loader := none
  accessFlags := 33
  super := sup
  interfaces := #[]
  cf := none
  fields := #[]
  methods := #[]
  instanceTypes := #[]
  staticTypes := #[]
  resolved := #[]
  callSites := []
  init := .initialized
  statics := none
  mirror := none

def pool0 : Array CpInfo := pool [(5, u "<init>"), (0, u "()V"), (1, .class_ 10), (1, u "java/lang/Object")] 113

def k0c0 : Code := { maxStack := 0, maxLocals := 1, code := object_method_1_code, exceptionTable := #[], attributes := #[] }
def k0m0 : Method := { name := "<init>", desc := "()V", sig := { parameters := [], returnType := none }, accessFlags := 1, code := some k0c0 }
/-- java/lang/Object -/
def k0 : Class := { plain "java/lang/Object" none with
  accessFlags := 33
  interfaces := #[]
  cf := some (fileOf pool0 8 #[] #[{ accessFlags := 1, nameIndex := 5, descriptorIndex := 6, attributes := #[] }] 33 0 #[] #[])
  fields := #[]
  methods := #[k0m0]
  instanceTypes := #[]
  staticTypes := #[]
  resolved := Array.replicate 124 none
  statics := none }

def pool1 : Array CpInfo := pool [(2, .class_ 4), (0, .nameAndType 5 6), (0, u "java/lang/Object"), (0, u "<init>"), (0, u "()V"), (0, .class_ 8), (0, u "com/example/kawi/kawi/OrderedNames"), (0, .class_ 10), (0, u "java/util/ArrayList"), (0, .methodref 9 3), (0, .methodref 7 13), (0, .nameAndType 5 14), (0, u "(Ljava/util/List;)V"), (0, .methodref 7 16), (0, .nameAndType 17 18), (0, u "append"), (0, u "(I)V"), (0, .methodref 7 20), (0, .nameAndType 21 6), (0, u "order"), (0, .methodref 23 24), (0, .class_ 25), (0, .nameAndType 26 27), (0, u "java/lang/Math"), (0, u "max"), (0, u "(II)I"), (0, .methodref 7 29), (0, .nameAndType 30 31), (0, u "endsWith"), (0, u "(I)Z"), (0, .class_ 33), (0, u "com/example/kawi/kawi/OrderedNamesEndsWithPinLaw"), (2, u "law"), (0, u "(IIIII)Z")] 3

def k1m0 : Method := { name := "<init>", desc := "()V", sig := { parameters := [], returnType := none }, accessFlags := 1, code := none }
def k1c1 : Code := { maxStack := 4, maxLocals := 12, code := code, exceptionTable := #[], attributes := #[] }
def k1m1 : Method := { name := "law", desc := "(IIIII)Z", sig := { parameters := [.int, .int, .int, .int, .int], returnType := some .boolean }, accessFlags := 9, code := some k1c1 }
/-- com/example/kawi/kawi/OrderedNamesEndsWithPinLaw -/
def k1 : Class := { plain "com/example/kawi/kawi/OrderedNamesEndsWithPinLaw" (some 0) with
  accessFlags := 49
  interfaces := #[]
  cf := some (fileOf pool1 32 #[] #[{ accessFlags := 1, nameIndex := 5, descriptorIndex := 6, attributes := #[] }, { accessFlags := 9, nameIndex := 36, descriptorIndex := 37, attributes := #[] }] 49 2 #[] #[])
  fields := #[]
  methods := #[k1m0, k1m1]
  instanceTypes := #[]
  staticTypes := #[]
  resolved := Array.replicate 41 none
  statics := none }

def pool2 : Array CpInfo := pool [(8, .class_ 10), (1, u "java/lang/Iterable"), (24, .class_ 36), (0, u "java/lang/Object")] 25

/-- java/lang/Iterable -/
def k2 : Class := { plain "java/lang/Iterable" (some 0) with
  accessFlags := 1537
  interfaces := #[]
  cf := some (fileOf pool2 8 #[] #[] 1537 35 #[] #[])
  fields := #[]
  methods := #[]
  instanceTypes := #[]
  staticTypes := #[]
  resolved := Array.replicate 62 none
  statics := none }

def pool3 : Array CpInfo := pool [(10, .class_ 12), (1, u "java/util/Collection"), (47, .class_ 61), (0, u "java/lang/Object"), (0, .class_ 63), (0, u "java/lang/Iterable")] 51

/-- java/util/Collection -/
def k3 : Class := { plain "java/util/Collection" (some 0) with
  accessFlags := 1537
  interfaces := #[2]
  cf := some (fileOf pool3 10 #[] #[] 1537 60 #[62] #[])
  fields := #[]
  methods := #[]
  instanceTypes := #[]
  staticTypes := #[]
  resolved := Array.replicate 115 none
  statics := none }

def pool4 : Array CpInfo := pool [(1, .methodref 2 3), (0, .class_ 4), (0, .nameAndType 5 6), (0, u "java/lang/Object"), (0, u "<init>"), (0, u "()V"), (1, .class_ 10), (1, u "java/util/AbstractCollection"), (66, .class_ 78), (0, u "java/util/Collection")] 81

def k4c0 : Code := { maxStack := 1, maxLocals := 1, code := jdk_22_method_1_code, exceptionTable := #[], attributes := #[] }
def k4m0 : Method := { name := "<init>", desc := "()V", sig := { parameters := [], returnType := none }, accessFlags := 4, code := some k4c0 }
/-- java/util/AbstractCollection -/
def k4 : Class := { plain "java/util/AbstractCollection" (some 0) with
  accessFlags := 1057
  interfaces := #[3]
  cf := some (fileOf pool4 8 #[] #[{ accessFlags := 4, nameIndex := 5, descriptorIndex := 6, attributes := #[] }] 1057 2 #[77] #[])
  fields := #[]
  methods := #[k4m0]
  instanceTypes := #[]
  staticTypes := #[]
  resolved := Array.replicate 160 none
  statics := none }

def pool5 : Array CpInfo := pool [(8, .class_ 10), (1, u "java/util/SequencedCollection"), (15, .class_ 27), (0, u "java/lang/Object"), (0, .class_ 29), (0, u "java/util/Collection")] 27

/-- java/util/SequencedCollection -/
def k5 : Class := { plain "java/util/SequencedCollection" (some 0) with
  accessFlags := 1537
  interfaces := #[3]
  cf := some (fileOf pool5 8 #[] #[] 1537 26 #[28] #[])
  fields := #[]
  methods := #[]
  instanceTypes := #[]
  staticTypes := #[]
  resolved := Array.replicate 57 none
  statics := none }

def pool6 : Array CpInfo := pool [(8, .class_ 10), (1, u "java/util/List"), (92, .class_ 104), (0, u "java/lang/Object"), (15, .class_ 121), (0, u "java/util/SequencedCollection")] 129

/-- java/util/List -/
def k6 : Class := { plain "java/util/List" (some 0) with
  accessFlags := 1537
  interfaces := #[5]
  cf := some (fileOf pool6 8 #[] #[] 1537 103 #[120] #[])
  fields := #[]
  methods := #[]
  instanceTypes := #[]
  staticTypes := #[]
  resolved := Array.replicate 251 none
  statics := none }

def pool7 : Array CpInfo := pool [(1, .methodref 2 3), (0, .class_ 4), (0, .nameAndType 5 6), (0, u "java/util/AbstractCollection"), (0, u "<init>"), (0, u "()V"), (0, .fieldref 8 9), (0, .class_ 10), (0, .nameAndType 11 12), (0, u "java/util/AbstractList"), (0, u "modCount"), (0, u "I"), (64, .class_ 78), (0, u "java/util/AbstractList$Itr"), (3, .class_ 83), (0, u "java/util/AbstractList$ListItr"), (9, .class_ 94), (0, u "java/util/AbstractList$RandomAccessSubList"), (3, .class_ 99), (0, u "java/util/AbstractList$SubList"), (33, .class_ 134), (0, u "java/util/List"), (73, .class_ 209), (0, u "java/util/AbstractList$SubList$1"), (0, .class_ 211), (0, u "java/util/AbstractList$RandomAccessSpliterator")] 6

def k7c0 : Code := { maxStack := 2, maxLocals := 1, code := jdk_39_method_1_code, exceptionTable := #[], attributes := #[] }
def k7m0 : Method := { name := "<init>", desc := "()V", sig := { parameters := [], returnType := none }, accessFlags := 4, code := some k7c0 }
/-- java/util/AbstractList -/
def k7 : Class := { plain "java/util/AbstractList" (some 4) with
  accessFlags := 1057
  interfaces := #[6]
  cf := some (fileOf pool7 8 #[.nestMembers #[93, 98, 208, 210, 82, 77]] #[{ accessFlags := 4, nameIndex := 5, descriptorIndex := 6, attributes := #[] }] 1057 2 #[133] #[{ accessFlags := 132, nameIndex := 11, descriptorIndex := 12, attributes := #[] }])
  fields := #[{ name := "modCount", type := .int, accessFlags := 132, slot := 0, constantValue := 0 }]
  methods := #[k7m0]
  instanceTypes := #[.int]
  staticTypes := #[]
  resolved := Array.replicate 218 none
  statics := none }

def pool8 : Array CpInfo := pool [(1, .class_ 2), (0, u "java/util/RandomAccess"), (0, .class_ 4), (0, u "java/lang/Object")] 2

/-- java/util/RandomAccess -/
def k8 : Class := { plain "java/util/RandomAccess" (some 0) with
  accessFlags := 1537
  interfaces := #[]
  cf := some (fileOf pool8 1 #[] #[] 1537 3 #[] #[])
  fields := #[]
  methods := #[]
  instanceTypes := #[]
  staticTypes := #[]
  resolved := Array.replicate 7 none
  statics := none }

def pool9 : Array CpInfo := pool [(1, .methodref 2 3), (0, .class_ 4), (0, .nameAndType 5 6), (0, u "java/util/AbstractList"), (0, u "<init>"), (0, u "()V"), (0, .fieldref 8 9), (0, .class_ 10), (0, .nameAndType 11 12), (0, u "com/example/kawi/kawi/OrderedNames"), (0, u "NONE"), (0, u "[I"), (0, .fieldref 8 14), (0, .nameAndType 15 12), (0, u "places"), (0, .fieldref 8 17), (0, .nameAndType 18 19), (0, u "ordered"), (0, u "Z"), (0, .fieldref 8 21), (0, .nameAndType 22 23), (0, u "beans"), (0, u "Ljava/util/List;"), (0, .fieldref 8 25), (0, .nameAndType 26 27), (0, u "size"), (0, u "I"), (0, .methodref 29 30), (0, .class_ 31), (0, .nameAndType 32 33), (0, u "java/lang/Math"), (0, u "max"), (0, u "(II)I"), (0, .methodref 35 36), (0, .class_ 37), (0, .nameAndType 38 39), (0, u "java/util/Arrays"), (0, u "copyOf"), (0, u "([II)[I"), (0, .fieldref 8 41), (0, .nameAndType 42 27), (0, u "modCount"), (0, .methodref 35 44), (0, .nameAndType 45 46), (0, u "sort"), (0, u "([III)V"), (2, u "order"), (28, .class_ 79), (0, u "java/util/RandomAccess"), (2, u "(Ljava/util/List;)V"), (3, u "append"), (0, u "(I)V"), (3, u "endsWith"), (0, u "(I)Z")] 7

def k9c0 : Code := { maxStack := 2, maxLocals := 2, code := prog_68_method_1_code, exceptionTable := #[], attributes := #[] }
def k9m0 : Method := { name := "<init>", desc := "(Ljava/util/List;)V", sig := { parameters := [(.object "java/util/List")], returnType := none }, accessFlags := 0, code := some k9c0 }
def k9c1 : Code := { maxStack := 5, maxLocals := 2, code := prog_68_method_2_code, exceptionTable := #[], attributes := #[] }
def k9m1 : Method := { name := "append", desc := "(I)V", sig := { parameters := [.int], returnType := none }, accessFlags := 0, code := some k9c1 }
def k9c2 : Code := { maxStack := 3, maxLocals := 1, code := prog_68_method_3_code, exceptionTable := #[], attributes := #[] }
def k9m2 : Method := { name := "order", desc := "()V", sig := { parameters := [], returnType := none }, accessFlags := 0, code := some k9c2 }
def k9c3 : Code := { maxStack := 3, maxLocals := 2, code := prog_68_method_5_code, exceptionTable := #[], attributes := #[] }
def k9m3 : Method := { name := "endsWith", desc := "(I)Z", sig := { parameters := [.int], returnType := some .boolean }, accessFlags := 0, code := some k9c3 }
/-- com/example/kawi/kawi/OrderedNames -/
def k9 : Class := { plain "com/example/kawi/kawi/OrderedNames" (some 7) with
  accessFlags := 48
  interfaces := #[8]
  cf := some (fileOf pool9 8 #[] #[{ accessFlags := 0, nameIndex := 5, descriptorIndex := 82, attributes := #[] }, { accessFlags := 0, nameIndex := 86, descriptorIndex := 87, attributes := #[] }, { accessFlags := 0, nameIndex := 49, descriptorIndex := 6, attributes := #[] }, { accessFlags := 0, nameIndex := 91, descriptorIndex := 92, attributes := #[] }] 48 2 #[78] #[{ accessFlags := 26, nameIndex := 11, descriptorIndex := 12, attributes := #[] }, { accessFlags := 18, nameIndex := 22, descriptorIndex := 23, attributes := #[] }, { accessFlags := 2, nameIndex := 15, descriptorIndex := 12, attributes := #[] }, { accessFlags := 2, nameIndex := 26, descriptorIndex := 27, attributes := #[] }, { accessFlags := 2, nameIndex := 18, descriptorIndex := 19, attributes := #[] }])
  fields := #[{ name := "NONE", type := (.array .int), accessFlags := 26, slot := 0, constantValue := 0 }, { name := "beans", type := (.object "java/util/List"), accessFlags := 18, slot := 1, constantValue := 0 }, { name := "places", type := (.array .int), accessFlags := 2, slot := 2, constantValue := 0 }, { name := "size", type := .int, accessFlags := 2, slot := 3, constantValue := 0 }, { name := "ordered", type := .boolean, accessFlags := 2, slot := 4, constantValue := 0 }]
  methods := #[k9m0, k9m1, k9m2, k9m3]
  instanceTypes := #[.int, (.object "java/util/List"), (.array .int), .int, .boolean]
  staticTypes := #[(.array .int)]
  resolved := Array.replicate 100 none
  statics := some 0 }

def pool10 : Array CpInfo := pool [(1, .class_ 2), (0, u "java/lang/Cloneable"), (0, .class_ 4), (0, u "java/lang/Object")] 2

/-- java/lang/Cloneable -/
def k10 : Class := { plain "java/lang/Cloneable" (some 0) with
  accessFlags := 1537
  interfaces := #[]
  cf := some (fileOf pool10 1 #[] #[] 1537 3 #[] #[])
  fields := #[]
  methods := #[]
  instanceTypes := #[]
  staticTypes := #[]
  resolved := Array.replicate 7 none
  statics := none }

def pool11 : Array CpInfo := pool [(1, .class_ 2), (0, u "java/io/Serializable"), (0, .class_ 4), (0, u "java/lang/Object")] 2

/-- java/io/Serializable -/
def k11 : Class := { plain "java/io/Serializable" (some 0) with
  accessFlags := 1537
  interfaces := #[]
  cf := some (fileOf pool11 1 #[] #[] 1537 3 #[] #[])
  fields := #[]
  methods := #[]
  instanceTypes := #[]
  staticTypes := #[]
  resolved := Array.replicate 7 none
  statics := none }

def pool12 : Array CpInfo := pool [(1, .methodref 2 3), (0, .class_ 4), (0, .nameAndType 5 6), (0, u "java/util/AbstractList"), (0, u "<init>"), (0, u "()V"), (2, .fieldref 10 11), (0, .class_ 12), (0, .nameAndType 13 14), (0, u "java/util/ArrayList"), (0, u "elementData"), (0, u "[Ljava/lang/Object;"), (2, u "EMPTY_ELEMENTDATA"), (21, .fieldref 10 40), (0, .nameAndType 41 14), (0, u "DEFAULTCAPACITY_EMPTY_ELEMENTDATA"), (8, u "size"), (0, u "I"), (96, .class_ 149), (0, u "java/util/List"), (112, .class_ 263), (0, u "java/util/ArrayList$ListItr"), (3, .class_ 268), (0, u "java/util/ArrayList$Itr"), (7, .class_ 277), (0, u "java/util/ArrayList$SubList"), (12, .class_ 291), (0, u "java/util/ArrayList$ArrayListSpliterator"), (37, .class_ 330), (0, u "java/util/RandomAccess"), (0, .class_ 332), (0, u "java/lang/Cloneable"), (0, .class_ 334), (0, u "java/io/Serializable"), (0, u "serialVersionUID"), (0, u "J"), (3, u "DEFAULT_CAPACITY"), (159, .class_ 501), (0, u "java/util/ArrayList$SubList$2"), (0, .class_ 503), (0, u "java/util/ArrayList$SubList$1")] 5

def k12c0 : Code := { maxStack := 2, maxLocals := 1, code := jdk_38_method_2_code, exceptionTable := #[], attributes := #[] }
def k12m0 : Method := { name := "<init>", desc := "()V", sig := { parameters := [], returnType := none }, accessFlags := 1, code := some k12c0 }
/-- java/util/ArrayList -/
def k12 : Class := { plain "java/util/ArrayList" (some 7) with
  accessFlags := 33
  interfaces := #[6, 8, 10, 11]
  cf := some (fileOf pool12 10 #[.nestMembers #[290, 276, 500, 502, 262, 267]] #[{ accessFlags := 1, nameIndex := 5, descriptorIndex := 6, attributes := #[] }] 33 2 #[148, 329, 331, 333] #[{ accessFlags := 26, nameIndex := 335, descriptorIndex := 336, attributes := #[] }, { accessFlags := 26, nameIndex := 340, descriptorIndex := 51, attributes := #[] }, { accessFlags := 26, nameIndex := 17, descriptorIndex := 14, attributes := #[] }, { accessFlags := 26, nameIndex := 41, descriptorIndex := 14, attributes := #[] }, { accessFlags := 128, nameIndex := 13, descriptorIndex := 14, attributes := #[] }, { accessFlags := 2, nameIndex := 50, descriptorIndex := 51, attributes := #[] }])
  fields := #[{ name := "serialVersionUID", type := .long, accessFlags := 26, slot := 0, constantValue := 0 }, { name := "DEFAULT_CAPACITY", type := .int, accessFlags := 26, slot := 1, constantValue := 0 }, { name := "EMPTY_ELEMENTDATA", type := (.array (.object "java/lang/Object")), accessFlags := 26, slot := 2, constantValue := 0 }, { name := "DEFAULTCAPACITY_EMPTY_ELEMENTDATA", type := (.array (.object "java/lang/Object")), accessFlags := 26, slot := 3, constantValue := 0 }, { name := "elementData", type := (.array (.object "java/lang/Object")), accessFlags := 128, slot := 1, constantValue := 0 }, { name := "size", type := .int, accessFlags := 2, slot := 2, constantValue := 0 }]
  methods := #[k12m0]
  instanceTypes := #[.int, (.array (.object "java/lang/Object")), .int]
  staticTypes := #[.long, .int, (.array (.object "java/lang/Object")), (.array (.object "java/lang/Object"))]
  resolved := Array.replicate 509 none
  statics := some 1 }

def pool13 : Array CpInfo := pool [(1, .class_ 2), (0, u "java/lang/Math"), (1, .class_ 6), (1, u "java/lang/Object"), (0, u "<init>"), (0, u "()V"), (89, .class_ 100), (1, u "java/lang/Math$RandomNumberGeneratorHolder"), (71, u "negativeZeroFloatBits"), (0, u "J"), (2, u "negativeZeroDoubleBits"), (21, u "max"), (2, u "min"), (43, u "$assertionsDisabled"), (0, u "Z"), (88, u "(II)I"), (2, u "twoToTheDoubleScaleDown"), (0, u "D"), (4, u "twoToTheDoubleScaleUp"), (9, u "E"), (3, u "PI"), (2, u "TAU"), (2, u "DEGREES_TO_RADIANS"), (0, u "RADIANS_TO_DEGREES")] 94

def k13m0 : Method := { name := "<init>", desc := "()V", sig := { parameters := [], returnType := none }, accessFlags := 2, code := none }
def k13c1 : Code := { maxStack := 2, maxLocals := 2, code := jdk_29_method_65_code, exceptionTable := #[], attributes := #[] }
def k13m1 : Method := { name := "max", desc := "(II)I", sig := { parameters := [.int, .int], returnType := some .int }, accessFlags := 9, code := some k13c1 }
def k13c2 : Code := { maxStack := 2, maxLocals := 2, code := jdk_29_method_69_code, exceptionTable := #[], attributes := #[] }
def k13m2 : Method := { name := "min", desc := "(II)I", sig := { parameters := [.int, .int], returnType := some .int }, accessFlags := 9, code := some k13c2 }
/-- java/lang/Math -/
def k13 : Class := { plain "java/lang/Math" (some 0) with
  accessFlags := 49
  interfaces := #[]
  cf := some (fileOf pool13 1 #[.nestMembers #[98]] #[{ accessFlags := 2, nameIndex := 7, descriptorIndex := 8, attributes := #[] }, { accessFlags := 9, nameIndex := 198, descriptorIndex := 335, attributes := #[] }, { accessFlags := 9, nameIndex := 201, descriptorIndex := 335, attributes := #[] }] 49 4 #[] #[{ accessFlags := 25, nameIndex := 354, descriptorIndex := 339, attributes := #[] }, { accessFlags := 25, nameIndex := 358, descriptorIndex := 339, attributes := #[] }, { accessFlags := 25, nameIndex := 361, descriptorIndex := 339, attributes := #[] }, { accessFlags := 26, nameIndex := 364, descriptorIndex := 339, attributes := #[] }, { accessFlags := 26, nameIndex := 365, descriptorIndex := 339, attributes := #[] }, { accessFlags := 26, nameIndex := 172, descriptorIndex := 173, attributes := #[] }, { accessFlags := 26, nameIndex := 176, descriptorIndex := 173, attributes := #[] }, { accessFlags := 8, nameIndex := 344, descriptorIndex := 339, attributes := #[] }, { accessFlags := 8, nameIndex := 338, descriptorIndex := 339, attributes := #[] }, { accessFlags := 4120, nameIndex := 245, descriptorIndex := 246, attributes := #[] }])
  fields := #[{ name := "E", type := .double, accessFlags := 25, slot := 0, constantValue := 0 }, { name := "PI", type := .double, accessFlags := 25, slot := 1, constantValue := 0 }, { name := "TAU", type := .double, accessFlags := 25, slot := 2, constantValue := 0 }, { name := "DEGREES_TO_RADIANS", type := .double, accessFlags := 26, slot := 3, constantValue := 0 }, { name := "RADIANS_TO_DEGREES", type := .double, accessFlags := 26, slot := 4, constantValue := 0 }, { name := "negativeZeroFloatBits", type := .long, accessFlags := 26, slot := 5, constantValue := 0 }, { name := "negativeZeroDoubleBits", type := .long, accessFlags := 26, slot := 6, constantValue := 0 }, { name := "twoToTheDoubleScaleUp", type := .double, accessFlags := 8, slot := 7, constantValue := 0 }, { name := "twoToTheDoubleScaleDown", type := .double, accessFlags := 8, slot := 8, constantValue := 0 }, { name := "$assertionsDisabled", type := .boolean, accessFlags := 4120, slot := 9, constantValue := 0 }]
  methods := #[k13m0, k13m1, k13m2]
  instanceTypes := #[]
  staticTypes := #[.double, .double, .double, .double, .double, .long, .long, .double, .double, .boolean]
  resolved := Array.replicate 460 none
  statics := none }

def pool14 : Array CpInfo := pool [(2, .class_ 4), (1, u "java/lang/Object"), (0, u "<init>"), (0, u "()V"), (0, .methodref 8 9), (0, .class_ 10), (0, .nameAndType 11 12), (0, u "java/util/DualPivotQuicksort"), (0, u "sort"), (0, u "([IIII)V"), (0, .methodref 14 15), (0, .class_ 16), (0, .nameAndType 17 18), (0, u "java/util/Arrays"), (0, u "rangeCheck"), (0, u "(III)V"), (55, .class_ 76), (1, u "java/util/Arrays$NaturalOrder"), (36, .class_ 115), (1, u "java/util/Arrays$LegacyMergeSort"), (1, u "Z"), (32, .methodref 151 152), (0, .class_ 153), (0, .nameAndType 154 155), (0, u "java/lang/System"), (0, u "arraycopy"), (0, u "(Ljava/lang/Object;ILjava/lang/Object;II)V"), (146, u "copyOf"), (1, .methodref 305 306), (0, .class_ 307), (0, .nameAndType 308 309), (0, u "java/lang/Math"), (0, u "min"), (0, u "(II)I"), (65, .class_ 376), (0, u "java/util/Arrays$ArrayList"), (68, u "$assertionsDisabled"), (269, u "MIN_ARRAY_SORT_GRAN"), (0, u "I"), (2, u "INSERTIONSORT_THRESHOLD"), (8, u "([III)V"), (142, u "([II)[I"), (103, .class_ 976), (0, u "java/util/Arrays$ArrayItr")] 52

def k14m0 : Method := { name := "<init>", desc := "()V", sig := { parameters := [], returnType := none }, accessFlags := 2, code := none }
def k14c1 : Code := { maxStack := 4, maxLocals := 3, code := jdk_65_method_3_code, exceptionTable := #[], attributes := #[] }
def k14m1 : Method := { name := "sort", desc := "([III)V", sig := { parameters := [(.array .int), .int, .int], returnType := none }, accessFlags := 9, code := some k14c1 }
def k14c2 : Code := { maxStack := 4, maxLocals := 3, code := jdk_65_method_30_code, exceptionTable := #[], attributes := #[] }
def k14m2 : Method := { name := "rangeCheck", desc := "(III)V", sig := { parameters := [.int, .int, .int], returnType := none }, accessFlags := 8, code := some k14c2 }
def k14c3 : Code := { maxStack := 6, maxLocals := 3, code := jdk_65_method_123_code, exceptionTable := #[], attributes := #[] }
def k14m3 : Method := { name := "copyOf", desc := "([II)[I", sig := { parameters := [(.array .int), .int], returnType := some (.array .int) }, accessFlags := 9, code := some k14c3 }
/-- java/util/Arrays -/
def k14 : Class := { plain "java/util/Arrays" (some 0) with
  accessFlags := 49
  interfaces := #[]
  cf := some (fileOf pool14 14 #[.nestMembers #[975, 375, 113, 74]] #[{ accessFlags := 2, nameIndex := 5, descriptorIndex := 6, attributes := #[] }, { accessFlags := 9, nameIndex := 11, descriptorIndex := 728, attributes := #[] }, { accessFlags := 8, nameIndex := 17, descriptorIndex := 18, attributes := #[] }, { accessFlags := 9, nameIndex := 302, descriptorIndex := 871, attributes := #[] }] 49 2 #[] #[{ accessFlags := 26, nameIndex := 715, descriptorIndex := 716, attributes := #[] }, { accessFlags := 26, nameIndex := 719, descriptorIndex := 716, attributes := #[] }, { accessFlags := 4120, nameIndex := 445, descriptorIndex := 117, attributes := #[] }])
  fields := #[{ name := "MIN_ARRAY_SORT_GRAN", type := .int, accessFlags := 26, slot := 0, constantValue := 0 }, { name := "INSERTIONSORT_THRESHOLD", type := .int, accessFlags := 26, slot := 1, constantValue := 0 }, { name := "$assertionsDisabled", type := .boolean, accessFlags := 4120, slot := 2, constantValue := 0 }]
  methods := #[k14m0, k14m1, k14m2, k14m3]
  instanceTypes := #[]
  staticTypes := #[.int, .int, .boolean]
  resolved := Array.replicate 1029 none
  statics := none }

def pool15 : Array CpInfo := pool [(2, .class_ 4), (1, u "java/lang/Object"), (0, u "<init>"), (0, u "()V"), (1, .class_ 10), (1, u "java/lang/System"), (0, u "allowSecurityManager"), (0, u "I"), (16, u "cons"), (0, u "Ljava/io/Console;"), (77, .class_ 110), (1, u "java/lang/System$CallersHolder"), (43, u "initialErrStream"), (0, u "Ljava/io/PrintStream;"), (19, u "security"), (0, u "Ljava/lang/SecurityManager;"), (31, .class_ 209), (0, u "java/lang/System$1"), (7, u "props"), (0, u "Ljava/util/Properties;"), (2, u "lineSeparator"), (0, u "Ljava/lang/String;"), (96, .class_ 321), (1, u "java/lang/System$LoggerFinder"), (5, .class_ 328), (0, u "java/lang/System$Logger"), (67, u "err"), (2, u "out"), (91, u "notSupportedJnuEncoding"), (15, u "in"), (17, u "initialIn"), (0, u "Ljava/io/InputStream;"), (35, u "bootLayer"), (0, u "Ljava/lang/ModuleLayer;"), (99, .class_ 664), (0, u "java/lang/System$2"), (9, u "NEVER"), (2, u "MAYBE"), (49, u "arraycopy"), (0, u "(Ljava/lang/Object;ILjava/lang/Object;II)V"), (72, .class_ 802), (0, u "java/lang/System$Logger$Level")] 31

def k15m0 : Method := { name := "<init>", desc := "()V", sig := { parameters := [], returnType := none }, accessFlags := 2, code := none }
def k15m1 : Method := { name := "arraycopy", desc := "(Ljava/lang/Object;ILjava/lang/Object;II)V", sig := { parameters := [(.object "java/lang/Object"), .int, (.object "java/lang/Object"), .int, .int], returnType := none }, accessFlags := 265, code := none }
/-- java/lang/System -/
def k15 : Class := { plain "java/lang/System" (some 0) with
  accessFlags := 49
  interfaces := #[]
  cf := some (fileOf pool15 8 #[.nestMembers #[319, 327, 801, 108, 663, 208]] #[{ accessFlags := 2, nameIndex := 5, descriptorIndex := 6, attributes := #[] }, { accessFlags := 265, nameIndex := 727, descriptorIndex := 728, attributes := #[] }] 49 2 #[] #[{ accessFlags := 25, nameIndex := 507, descriptorIndex := 526, attributes := #[] }, { accessFlags := 25, nameIndex := 399, descriptorIndex := 155, attributes := #[] }, { accessFlags := 25, nameIndex := 396, descriptorIndex := 155, attributes := #[] }, { accessFlags := 10, nameIndex := 525, descriptorIndex := 526, attributes := #[] }, { accessFlags := 26, nameIndex := 674, descriptorIndex := 12, attributes := #[] }, { accessFlags := 26, nameIndex := 677, descriptorIndex := 12, attributes := #[] }, { accessFlags := 10, nameIndex := 11, descriptorIndex := 12, attributes := #[] }, { accessFlags := 74, nameIndex := 175, descriptorIndex := 176, attributes := #[] }, { accessFlags := 10, nameIndex := 491, descriptorIndex := 222, attributes := #[] }, { accessFlags := 74, nameIndex := 29, descriptorIndex := 30, attributes := #[] }, { accessFlags := 74, nameIndex := 154, descriptorIndex := 155, attributes := #[] }, { accessFlags := 10, nameIndex := 217, descriptorIndex := 218, attributes := #[] }, { accessFlags := 10, nameIndex := 221, descriptorIndex := 222, attributes := #[] }, { accessFlags := 8, nameIndex := 562, descriptorIndex := 563, attributes := #[] }])
  fields := #[{ name := "in", type := (.object "java/io/InputStream"), accessFlags := 25, slot := 0, constantValue := 0 }, { name := "out", type := (.object "java/io/PrintStream"), accessFlags := 25, slot := 1, constantValue := 0 }, { name := "err", type := (.object "java/io/PrintStream"), accessFlags := 25, slot := 2, constantValue := 0 }, { name := "initialIn", type := (.object "java/io/InputStream"), accessFlags := 10, slot := 3, constantValue := 0 }, { name := "NEVER", type := .int, accessFlags := 26, slot := 4, constantValue := 0 }, { name := "MAYBE", type := .int, accessFlags := 26, slot := 5, constantValue := 0 }, { name := "allowSecurityManager", type := .int, accessFlags := 10, slot := 6, constantValue := 0 }, { name := "security", type := (.object "java/lang/SecurityManager"), accessFlags := 74, slot := 7, constantValue := 0 }, { name := "notSupportedJnuEncoding", type := (.object "java/lang/String"), accessFlags := 10, slot := 8, constantValue := 0 }, { name := "cons", type := (.object "java/io/Console"), accessFlags := 74, slot := 9, constantValue := 0 }, { name := "initialErrStream", type := (.object "java/io/PrintStream"), accessFlags := 74, slot := 10, constantValue := 0 }, { name := "props", type := (.object "java/util/Properties"), accessFlags := 10, slot := 11, constantValue := 0 }, { name := "lineSeparator", type := (.object "java/lang/String"), accessFlags := 10, slot := 12, constantValue := 0 }, { name := "bootLayer", type := (.object "java/lang/ModuleLayer"), accessFlags := 8, slot := 13, constantValue := 0 }]
  methods := #[k15m0, k15m1]
  instanceTypes := #[]
  staticTypes := #[(.object "java/io/InputStream"), (.object "java/io/PrintStream"), (.object "java/io/PrintStream"), (.object "java/io/InputStream"), .int, .int, .int, (.object "java/lang/SecurityManager"), (.object "java/lang/String"), (.object "java/io/Console"), (.object "java/io/PrintStream"), (.object "java/util/Properties"), (.object "java/lang/String"), (.object "java/lang/ModuleLayer")]
  resolved := Array.replicate 834 none
  statics := none }

def pool16 : Array CpInfo := pool [(1, .class_ 2), (0, u "java/util/DualPivotQuicksort"), (5, .class_ 10), (1, u "java/lang/Object"), (0, u "<init>"), (0, u "()V"), (4, .class_ 18), (0, u "java/util/DualPivotQuicksort$Sorter"), (7, .methodref 1 27), (0, .nameAndType 28 29), (0, u "sort"), (0, u "(Ljava/util/DualPivotQuicksort$Sorter;[IIII)V"), (3, u "([IIII)V"), (0, .methodref 1 35), (0, .nameAndType 36 37), (0, u "insertionSort"), (0, u "([III)V"), (30, u "I"), (4, .class_ 74), (0, u "java/util/DualPivotQuicksort$RunMerger"), (10, .class_ 86), (0, u "java/util/DualPivotQuicksort$Merger"), (127, u "MAX_MIXED_INSERTION_SORT_SIZE"), (2, u "MAX_INSERTION_SORT_SIZE"), (1, u "MIN_PARALLEL_SORT_SIZE"), (1, u "MIN_TRY_MERGE_SIZE"), (0, u "MIN_FIRST_RUN_SIZE"), (1, u "MIN_FIRST_RUNS_FACTOR"), (1, u "MAX_RUN_CAPACITY"), (1, u "MIN_RUN_COUNT"), (1, u "MIN_PARALLEL_MERGE_PARTS_SIZE"), (0, u "MIN_BYTE_COUNTING_SORT_SIZE"), (1, u "MIN_SHORT_OR_CHAR_COUNTING_SORT_SIZE"), (1, u "DELTA"), (1, u "MAX_RECURSION_DEPTH"), (1, u "NUM_BYTE_VALUES"), (1, u "MAX_BYTE_INDEX"), (0, u "NUM_CHAR_VALUES"), (0, u "NUM_SHORT_VALUES"), (0, u "MAX_SHORT_INDEX")] 86

def k16m0 : Method := { name := "<init>", desc := "()V", sig := { parameters := [], returnType := none }, accessFlags := 2, code := none }
def k16c1 : Code := { maxStack := 9, maxLocals := 7, code := jdk_2529_method_3_code, exceptionTable := #[], attributes := #[] }
def k16m1 : Method := { name := "sort", desc := "([IIII)V", sig := { parameters := [(.array .int), .int, .int, .int], returnType := none }, accessFlags := 8, code := some k16c1 }
def k16c2 : Code := { maxStack := 6, maxLocals := 21, code := jdk_2529_method_4_code, exceptionTable := #[], attributes := #[] }
def k16m2 : Method := { name := "sort", desc := "(Ljava/util/DualPivotQuicksort$Sorter;[IIII)V", sig := { parameters := [(.object "java/util/DualPivotQuicksort$Sorter"), (.array .int), .int, .int, .int], returnType := none }, accessFlags := 8, code := some k16c2 }
def k16c3 : Code := { maxStack := 4, maxLocals := 6, code := jdk_2529_method_6_code, exceptionTable := #[], attributes := #[] }
def k16m3 : Method := { name := "insertionSort", desc := "([III)V", sig := { parameters := [(.array .int), .int, .int], returnType := none }, accessFlags := 10, code := some k16c3 }
/-- java/util/DualPivotQuicksort -/
def k16 : Class := { plain "java/util/DualPivotQuicksort" (some 0) with
  accessFlags := 48
  interfaces := #[]
  cf := some (fileOf pool16 1 #[.nestMembers #[73, 85, 17]] #[{ accessFlags := 2, nameIndex := 11, descriptorIndex := 12, attributes := #[] }, { accessFlags := 8, nameIndex := 28, descriptorIndex := 33, attributes := #[] }, { accessFlags := 8, nameIndex := 28, descriptorIndex := 29, attributes := #[] }, { accessFlags := 10, nameIndex := 36, descriptorIndex := 37, attributes := #[] }] 48 8 #[] #[{ accessFlags := 26, nameIndex := 214, descriptorIndex := 68, attributes := #[] }, { accessFlags := 26, nameIndex := 217, descriptorIndex := 68, attributes := #[] }, { accessFlags := 26, nameIndex := 219, descriptorIndex := 68, attributes := #[] }, { accessFlags := 26, nameIndex := 221, descriptorIndex := 68, attributes := #[] }, { accessFlags := 26, nameIndex := 222, descriptorIndex := 68, attributes := #[] }, { accessFlags := 26, nameIndex := 224, descriptorIndex := 68, attributes := #[] }, { accessFlags := 26, nameIndex := 226, descriptorIndex := 68, attributes := #[] }, { accessFlags := 26, nameIndex := 228, descriptorIndex := 68, attributes := #[] }, { accessFlags := 26, nameIndex := 230, descriptorIndex := 68, attributes := #[] }, { accessFlags := 26, nameIndex := 231, descriptorIndex := 68, attributes := #[] }, { accessFlags := 26, nameIndex := 233, descriptorIndex := 68, attributes := #[] }, { accessFlags := 26, nameIndex := 235, descriptorIndex := 68, attributes := #[] }, { accessFlags := 26, nameIndex := 237, descriptorIndex := 68, attributes := #[] }, { accessFlags := 26, nameIndex := 239, descriptorIndex := 68, attributes := #[] }, { accessFlags := 26, nameIndex := 241, descriptorIndex := 68, attributes := #[] }, { accessFlags := 26, nameIndex := 242, descriptorIndex := 68, attributes := #[] }, { accessFlags := 26, nameIndex := 243, descriptorIndex := 68, attributes := #[] }, { accessFlags := 26, nameIndex := 244, descriptorIndex := 68, attributes := #[] }])
  fields := #[{ name := "MAX_MIXED_INSERTION_SORT_SIZE", type := .int, accessFlags := 26, slot := 0, constantValue := 0 }, { name := "MAX_INSERTION_SORT_SIZE", type := .int, accessFlags := 26, slot := 1, constantValue := 0 }, { name := "MIN_PARALLEL_SORT_SIZE", type := .int, accessFlags := 26, slot := 2, constantValue := 0 }, { name := "MIN_TRY_MERGE_SIZE", type := .int, accessFlags := 26, slot := 3, constantValue := 0 }, { name := "MIN_FIRST_RUN_SIZE", type := .int, accessFlags := 26, slot := 4, constantValue := 0 }, { name := "MIN_FIRST_RUNS_FACTOR", type := .int, accessFlags := 26, slot := 5, constantValue := 0 }, { name := "MAX_RUN_CAPACITY", type := .int, accessFlags := 26, slot := 6, constantValue := 0 }, { name := "MIN_RUN_COUNT", type := .int, accessFlags := 26, slot := 7, constantValue := 0 }, { name := "MIN_PARALLEL_MERGE_PARTS_SIZE", type := .int, accessFlags := 26, slot := 8, constantValue := 0 }, { name := "MIN_BYTE_COUNTING_SORT_SIZE", type := .int, accessFlags := 26, slot := 9, constantValue := 0 }, { name := "MIN_SHORT_OR_CHAR_COUNTING_SORT_SIZE", type := .int, accessFlags := 26, slot := 10, constantValue := 0 }, { name := "DELTA", type := .int, accessFlags := 26, slot := 11, constantValue := 0 }, { name := "MAX_RECURSION_DEPTH", type := .int, accessFlags := 26, slot := 12, constantValue := 0 }, { name := "NUM_BYTE_VALUES", type := .int, accessFlags := 26, slot := 13, constantValue := 0 }, { name := "MAX_BYTE_INDEX", type := .int, accessFlags := 26, slot := 14, constantValue := 0 }, { name := "NUM_CHAR_VALUES", type := .int, accessFlags := 26, slot := 15, constantValue := 0 }, { name := "NUM_SHORT_VALUES", type := .int, accessFlags := 26, slot := 16, constantValue := 0 }, { name := "MAX_SHORT_INDEX", type := .int, accessFlags := 26, slot := 17, constantValue := 0 }]
  methods := #[k16m0, k16m1, k16m2, k16m3]
  instanceTypes := #[]
  staticTypes := #[.int, .int, .int, .int, .int, .int, .int, .int, .int, .int, .int, .int, .int, .int, .int, .int, .int, .int]
  resolved := Array.replicate 331 none
  statics := none }

/-- the primitive byte -/
def k17 : Class := { plain "byte" none with kind := .primitive 'B', accessFlags := 0x411 }
/-- [B -/
def k18 : Class := { plain "[B" (some 0) with kind := .array 17 .byte, interfaces := #[10, 11], accessFlags := 1041 }

/-- the primitive int -/
def k19 : Class := { plain "int" none with kind := .primitive 'I', accessFlags := 0x411 }
/-- [I -/
def k20 : Class := { plain "[I" (some 0) with kind := .array 19 .int, interfaces := #[10, 11], accessFlags := 1041 }

/-- [Ljava/lang/Object; -/
def k21 : Class := { plain "[Ljava/lang/Object;" (some 0) with kind := .array 0 (.object "java/lang/Object"), interfaces := #[10, 11], accessFlags := 1041 }

def heap : Heap := #[{ cls := 9, slots := #[.ref 2], vm := .statics 9 },
  { cls := 12, slots := #[.long 0, .int 0, .ref 3, .ref 4], vm := .statics 12 },
  { cls := 20, slots := #[], vm := .none },
  { cls := 21, slots := #[], vm := .none },
  { cls := 21, slots := #[], vm := .none }]
def classes : Array Class := #[k0, k1, k2, k3, k4, k5, k6, k7, k8, k9, k10, k11, k12, k13, k14, k15, k16, k17, k18, k19, k20, k21]
def interned : List (Array UInt16 × Addr) := []
def slotsUsed : Nat := 5
def theMethod : MethodId := ⟨1, 1⟩
def args0 : Array Value := #[.int 5, .int 6, .int 7, .int 8, .int 3]
def aboutOver (below : List Frame) : State where
  vm := { classes := classes, interned := interned.toArray }
  heap := heap
  slotsUsed := slotsUsed
  threads := #[{ frames := .invoking theMethod args0 :: below }]
def below0 : List Frame := [.native { method := ⟨0, 0⟩, args := #[] }]
def about1 : State := aboutOver below0
def p0 : Program := .bare "" "" ""
def e0 : Env := launch0.env 0 0 0
theorem w_frames : about1.frames = Frame.invoking theMethod args0 :: below0 := rfl
set_option maxRecDepth 65536 in
theorem w_args : argsFit about1.vm theMethod args0 = true := by decide +kernel
set_option maxRecDepth 65536 in
theorem w_heap : heapFits about1 = true := by decide +kernel
set_option maxRecDepth 65536 in
theorem w_runnable : about1.curStatus? = some .runnable := by decide +kernel
set_option maxRecDepth 65536 in
theorem w_alone : about1.alone = true := by decide +kernel
set_option maxRecDepth 65536 in
theorem w_named : about1.methodNamed? x = some theMethod := by decide +kernel
set_option maxRecDepth 65536 in
theorem w_hears : about1.hears theMethod below0 = true := by decide +kernel
set_option maxRecDepth 65536 in
theorem w_ripe : about1.ripe theMethod args0 below0 = true := by decide +kernel
theorem w_running : about1.status = .running := rfl
set_option maxRecDepth 65536 in
theorem w_room : about1.hasRoom e0.platform room_1 = true :=
  launch0.hasRoom_least _ room_1 (by decide +kernel) (by decide +kernel) (by decide +kernel) (by decide +kernel) (by decide +kernel) (by decide +kernel)
theorem allAtoms_all (ts : List Jvm.Cond) (a : Array Jvm.Value) (st : Jvm.State) : (allAtoms ts).before a st = ts.all (fun c => c.before a st) := by
  induction ts with
  | nil => rfl
  | cons c t ih =>
    show (Jvm.Cond.and c (allAtoms t)).before a st = _
    rw [Jvm.Cond.before_and, ih, List.all_cons]
def words1 : List Jvm.Cond := Jvm.Cond.code x code maxLocals ret :: tables_1
/-- a 'code' word, met by the world's own term for the bytes: nothing is compared byte by byte -/
theorem code_word {y : MethodName} {bytes : ByteArray} {mx : Nat} {rt : Option FieldType} {a : Array Value} {s : State} {m : MethodId} {meth : Method} {c : Code} (h1 : s.methodNamed? y = some m) (h2 : s.vm.method? m = some meth) (h3 : meth.code = some c) (h4 : c.code = bytes)
    (h5 : (c.maxLocals == mx && c.exceptionTable.isEmpty && decide (c.maxStack ≤ mostOperands) && decide (meth.sig.returnType = rt) && !meth.locks && decide (parseMethodDescriptor y.desc = some meth.sig)) = true) : (Jvm.Cond.code y bytes mx rt).before a s = true := by
  simp only [Bool.and_eq_true, beq_iff_eq, Bool.not_eq_true', decide_eq_true_eq] at h5
  obtain ⟨⟨⟨⟨⟨g1, g2⟩, g3⟩, g4⟩, g5⟩, g6⟩ := h5
  simp [Cond.before, Cond.holds, Cond.value, h1, h2, h3, h4, g1, g2, g3, g4, g5, g6]
def isCode : Jvm.Cond → Bool
  | .code _ _ _ _ => true
  | _ => false
theorem all_split {L : List Jvm.Cond} {P : Jvm.Cond → Bool} (h1 : L.all (fun c => isCode c || P c) = true) (h2 : ∀ c ∈ L.filter isCode, P c = true) : L.all P = true := by
  refine List.all_eq_true.mpr fun c hc => ?_
  have h := List.all_eq_true.mp h1 c hc
  rcases Bool.eq_false_or_eq_true (isCode c) with hi | hi
  · exact h2 c (List.mem_filter.mpr ⟨hc, hi⟩)
  · simpa [hi] using h
set_option maxRecDepth 65536 in
theorem w_c0 : (Jvm.Cond.code x code maxLocals ret).before args0 about1 = true := code_word (m := ⟨1, 1⟩) (meth := k1m1) (c := k1c1) (by decide +kernel) rfl rfl rfl (by decide +kernel)
set_option maxRecDepth 65536 in
theorem w_c1 : (Jvm.Cond.code ({ cls := "java/util/ArrayList", name := "<init>", desc := "()V" } : Jvm.MethodName) jdk_38_method_2_code (1 : Nat) (Option.none : Option Jvm.ClassFile.FieldType)).before args0 about1 = true := code_word (m := ⟨12, 0⟩) (meth := k12m0) (c := k12c0) (by decide +kernel) rfl rfl rfl (by decide +kernel)
set_option maxRecDepth 65536 in
theorem w_c2 : (Jvm.Cond.code ({ cls := "java/util/AbstractList", name := "<init>", desc := "()V" } : Jvm.MethodName) jdk_39_method_1_code (1 : Nat) (Option.none : Option Jvm.ClassFile.FieldType)).before args0 about1 = true := code_word (m := ⟨7, 0⟩) (meth := k7m0) (c := k7c0) (by decide +kernel) rfl rfl rfl (by decide +kernel)
set_option maxRecDepth 65536 in
theorem w_c3 : (Jvm.Cond.code ({ cls := "java/util/AbstractCollection", name := "<init>", desc := "()V" } : Jvm.MethodName) jdk_22_method_1_code (1 : Nat) (Option.none : Option Jvm.ClassFile.FieldType)).before args0 about1 = true := code_word (m := ⟨4, 0⟩) (meth := k4m0) (c := k4c0) (by decide +kernel) rfl rfl rfl (by decide +kernel)
set_option maxRecDepth 65536 in
theorem w_c4 : (Jvm.Cond.code ({ cls := "java/lang/Object", name := "<init>", desc := "()V" } : Jvm.MethodName) object_method_1_code (1 : Nat) (Option.none : Option Jvm.ClassFile.FieldType)).before args0 about1 = true := code_word (m := ⟨0, 0⟩) (meth := k0m0) (c := k0c0) (by decide +kernel) rfl rfl rfl (by decide +kernel)
set_option maxRecDepth 65536 in
theorem w_c5 : (Jvm.Cond.code ({ cls := "com/example/kawi/kawi/OrderedNames", name := "<init>", desc := "(Ljava/util/List;)V" } : Jvm.MethodName) prog_68_method_1_code (2 : Nat) (Option.none : Option Jvm.ClassFile.FieldType)).before args0 about1 = true := code_word (m := ⟨9, 0⟩) (meth := k9m0) (c := k9c0) (by decide +kernel) rfl rfl rfl (by decide +kernel)
set_option maxRecDepth 65536 in
theorem w_c6 : (Jvm.Cond.code ({ cls := "com/example/kawi/kawi/OrderedNames", name := "endsWith", desc := "(I)Z" } : Jvm.MethodName) prog_68_method_5_code (2 : Nat) (Option.some Jvm.ClassFile.FieldType.boolean)).before args0 about1 = true := code_word (m := ⟨9, 3⟩) (meth := k9m3) (c := k9c3) (by decide +kernel) rfl rfl rfl (by decide +kernel)
set_option maxRecDepth 65536 in
theorem w_c7 : (Jvm.Cond.code ({ cls := "com/example/kawi/kawi/OrderedNames", name := "append", desc := "(I)V" } : Jvm.MethodName) prog_68_method_2_code (2 : Nat) (Option.none : Option Jvm.ClassFile.FieldType)).before args0 about1 = true := code_word (m := ⟨9, 1⟩) (meth := k9m1) (c := k9c1) (by decide +kernel) rfl rfl rfl (by decide +kernel)
set_option maxRecDepth 65536 in
theorem w_c8 : (Jvm.Cond.code ({ cls := "java/lang/Math", name := "max", desc := "(II)I" } : Jvm.MethodName) jdk_29_method_65_code (2 : Nat) (Option.some Jvm.ClassFile.FieldType.int)).before args0 about1 = true := code_word (m := ⟨13, 1⟩) (meth := k13m1) (c := k13c1) (by decide +kernel) rfl rfl rfl (by decide +kernel)
set_option maxRecDepth 65536 in
theorem w_c9 : (Jvm.Cond.code ({ cls := "java/util/Arrays", name := "copyOf", desc := "([II)[I" } : Jvm.MethodName) jdk_65_method_123_code (3 : Nat) (Option.some (Jvm.ClassFile.FieldType.array Jvm.ClassFile.FieldType.int))).before args0 about1 = true := code_word (m := ⟨14, 3⟩) (meth := k14m3) (c := k14c3) (by decide +kernel) rfl rfl rfl (by decide +kernel)
set_option maxRecDepth 65536 in
theorem w_c10 : (Jvm.Cond.code ({ cls := "java/lang/Math", name := "min", desc := "(II)I" } : Jvm.MethodName) jdk_29_method_69_code (2 : Nat) (Option.some Jvm.ClassFile.FieldType.int)).before args0 about1 = true := code_word (m := ⟨13, 2⟩) (meth := k13m2) (c := k13c2) (by decide +kernel) rfl rfl rfl (by decide +kernel)
set_option maxRecDepth 65536 in
theorem w_c11 : (Jvm.Cond.code ({ cls := "com/example/kawi/kawi/OrderedNames", name := "order", desc := "()V" } : Jvm.MethodName) prog_68_method_3_code (1 : Nat) (Option.none : Option Jvm.ClassFile.FieldType)).before args0 about1 = true := code_word (m := ⟨9, 2⟩) (meth := k9m2) (c := k9c2) (by decide +kernel) rfl rfl rfl (by decide +kernel)
set_option maxRecDepth 65536 in
theorem w_c12 : (Jvm.Cond.code ({ cls := "java/util/Arrays", name := "sort", desc := "([III)V" } : Jvm.MethodName) jdk_65_method_3_code (3 : Nat) (Option.none : Option Jvm.ClassFile.FieldType)).before args0 about1 = true := code_word (m := ⟨14, 1⟩) (meth := k14m1) (c := k14c1) (by decide +kernel) rfl rfl rfl (by decide +kernel)
set_option maxRecDepth 65536 in
theorem w_c13 : (Jvm.Cond.code ({ cls := "java/util/Arrays", name := "rangeCheck", desc := "(III)V" } : Jvm.MethodName) jdk_65_method_30_code (3 : Nat) (Option.none : Option Jvm.ClassFile.FieldType)).before args0 about1 = true := code_word (m := ⟨14, 2⟩) (meth := k14m2) (c := k14c2) (by decide +kernel) rfl rfl rfl (by decide +kernel)
set_option maxRecDepth 65536 in
theorem w_c14 : (Jvm.Cond.code ({ cls := "java/util/DualPivotQuicksort", name := "sort", desc := "([IIII)V" } : Jvm.MethodName) jdk_2529_method_3_code (7 : Nat) (Option.none : Option Jvm.ClassFile.FieldType)).before args0 about1 = true := code_word (m := ⟨16, 1⟩) (meth := k16m1) (c := k16c1) (by decide +kernel) rfl rfl rfl (by decide +kernel)
set_option maxRecDepth 65536 in
theorem w_c15 : (Jvm.Cond.code ({ cls := "java/util/DualPivotQuicksort", name := "sort", desc := "(Ljava/util/DualPivotQuicksort$Sorter;[IIII)V" } : Jvm.MethodName) jdk_2529_method_4_code (21 : Nat) (Option.none : Option Jvm.ClassFile.FieldType)).before args0 about1 = true := code_word (m := ⟨16, 2⟩) (meth := k16m2) (c := k16c2) (by decide +kernel) rfl rfl rfl (by decide +kernel)
set_option maxRecDepth 65536 in
theorem w_c16 : (Jvm.Cond.code ({ cls := "java/util/DualPivotQuicksort", name := "insertionSort", desc := "([III)V" } : Jvm.MethodName) jdk_2529_method_6_code (6 : Nat) (Option.none : Option Jvm.ClassFile.FieldType)).before args0 about1 = true := code_word (m := ⟨16, 3⟩) (meth := k16m3) (c := k16c3) (by decide +kernel) rfl rfl rfl (by decide +kernel)
def codes1 : List Jvm.Cond := [Jvm.Cond.code x code maxLocals ret, Jvm.Cond.code ({ cls := "java/util/ArrayList", name := "<init>", desc := "()V" } : Jvm.MethodName) jdk_38_method_2_code (1 : Nat) (Option.none : Option Jvm.ClassFile.FieldType), Jvm.Cond.code ({ cls := "java/util/AbstractList", name := "<init>", desc := "()V" } : Jvm.MethodName) jdk_39_method_1_code (1 : Nat) (Option.none : Option Jvm.ClassFile.FieldType), Jvm.Cond.code ({ cls := "java/util/AbstractCollection", name := "<init>", desc := "()V" } : Jvm.MethodName) jdk_22_method_1_code (1 : Nat) (Option.none : Option Jvm.ClassFile.FieldType), Jvm.Cond.code ({ cls := "java/lang/Object", name := "<init>", desc := "()V" } : Jvm.MethodName) object_method_1_code (1 : Nat) (Option.none : Option Jvm.ClassFile.FieldType), Jvm.Cond.code ({ cls := "com/example/kawi/kawi/OrderedNames", name := "<init>", desc := "(Ljava/util/List;)V" } : Jvm.MethodName) prog_68_method_1_code (2 : Nat) (Option.none : Option Jvm.ClassFile.FieldType), Jvm.Cond.code ({ cls := "com/example/kawi/kawi/OrderedNames", name := "endsWith", desc := "(I)Z" } : Jvm.MethodName) prog_68_method_5_code (2 : Nat) (Option.some Jvm.ClassFile.FieldType.boolean), Jvm.Cond.code ({ cls := "com/example/kawi/kawi/OrderedNames", name := "append", desc := "(I)V" } : Jvm.MethodName) prog_68_method_2_code (2 : Nat) (Option.none : Option Jvm.ClassFile.FieldType), Jvm.Cond.code ({ cls := "java/lang/Math", name := "max", desc := "(II)I" } : Jvm.MethodName) jdk_29_method_65_code (2 : Nat) (Option.some Jvm.ClassFile.FieldType.int), Jvm.Cond.code ({ cls := "java/util/Arrays", name := "copyOf", desc := "([II)[I" } : Jvm.MethodName) jdk_65_method_123_code (3 : Nat) (Option.some (Jvm.ClassFile.FieldType.array Jvm.ClassFile.FieldType.int)), Jvm.Cond.code ({ cls := "java/lang/Math", name := "min", desc := "(II)I" } : Jvm.MethodName) jdk_29_method_69_code (2 : Nat) (Option.some Jvm.ClassFile.FieldType.int), Jvm.Cond.code ({ cls := "com/example/kawi/kawi/OrderedNames", name := "order", desc := "()V" } : Jvm.MethodName) prog_68_method_3_code (1 : Nat) (Option.none : Option Jvm.ClassFile.FieldType), Jvm.Cond.code ({ cls := "java/util/Arrays", name := "sort", desc := "([III)V" } : Jvm.MethodName) jdk_65_method_3_code (3 : Nat) (Option.none : Option Jvm.ClassFile.FieldType), Jvm.Cond.code ({ cls := "java/util/Arrays", name := "rangeCheck", desc := "(III)V" } : Jvm.MethodName) jdk_65_method_30_code (3 : Nat) (Option.none : Option Jvm.ClassFile.FieldType), Jvm.Cond.code ({ cls := "java/util/DualPivotQuicksort", name := "sort", desc := "([IIII)V" } : Jvm.MethodName) jdk_2529_method_3_code (7 : Nat) (Option.none : Option Jvm.ClassFile.FieldType), Jvm.Cond.code ({ cls := "java/util/DualPivotQuicksort", name := "sort", desc := "(Ljava/util/DualPivotQuicksort$Sorter;[IIII)V" } : Jvm.MethodName) jdk_2529_method_4_code (21 : Nat) (Option.none : Option Jvm.ClassFile.FieldType), Jvm.Cond.code ({ cls := "java/util/DualPivotQuicksort", name := "insertionSort", desc := "([III)V" } : Jvm.MethodName) jdk_2529_method_6_code (6 : Nat) (Option.none : Option Jvm.ClassFile.FieldType)]
set_option maxRecDepth 65536 in
theorem codes_eq : words1.filter isCode = codes1 := rfl
theorem w_codes : ∀ c ∈ words1.filter isCode, c.before args0 about1 = true := by
  rw [codes_eq]
  intro c hc
  simp only [codes1, List.mem_cons, List.not_mem_nil, or_false] at hc
  rcases hc with rfl | rfl | rfl | rfl | rfl | rfl | rfl | rfl | rfl | rfl | rfl | rfl | rfl | rfl | rfl | rfl | rfl
  · exact w_c0
  · exact w_c1
  · exact w_c2
  · exact w_c3
  · exact w_c4
  · exact w_c5
  · exact w_c6
  · exact w_c7
  · exact w_c8
  · exact w_c9
  · exact w_c10
  · exact w_c11
  · exact w_c12
  · exact w_c13
  · exact w_c14
  · exact w_c15
  · exact w_c16
set_option maxRecDepth 65536 in
theorem w_t1 : (words1.take 24).all (fun c => isCode c || c.before args0 about1) = true := by decide +kernel
set_option maxRecDepth 65536 in
theorem w_t2 : ((words1.drop 24).take 24).all (fun c => isCode c || c.before args0 about1) = true := by decide +kernel
set_option maxRecDepth 65536 in
theorem w_t3 : (((words1.drop 24).drop 24).take 24).all (fun c => isCode c || c.before args0 about1) = true := by decide +kernel
set_option maxRecDepth 65536 in
theorem w_t4 : (((words1.drop 24).drop 24).drop 24).all (fun c => isCode c || c.before args0 about1) = true := by decide +kernel
theorem w_tables : (allAtoms (Jvm.Cond.code x code maxLocals ret :: tables_1)).before args0 about1 = true := by
  rw [allAtoms_all]
  show words1.all (fun c => c.before args0 about1) = true
  refine all_split ?_ w_codes
  rw [← List.take_append_drop 24 words1, List.all_append, w_t1, ← List.take_append_drop 24 (words1.drop 24), List.all_append, w_t2, ← List.take_append_drop 24 ((words1.drop 24).drop 24), List.all_append, w_t3, w_t4]
  rfl
set_option maxRecDepth 65536 in
theorem w_rest : rest_1_c.before args0 about1 = true := by decide +kernel
set_option maxRecDepth 65536 in
theorem w_case : (Jvm.Cond.and given_1 narrow_1).before args0 about1 = true := by decide +kernel
theorem w_applies : (headSpec (Jvm.Cond.code x code maxLocals ret :: tables_1) room_1).applies x e0.platform about1 = true :=
  (Spec.applies_iff w_frames).mpr ⟨w_running, w_runnable, w_alone, w_named, w_hears, w_ripe, w_room, w_tables⟩
theorem atStart : AtStart classFile x code maxLocals ret World_1 tables_1 room_1 Calls_1 rest_1 Pre_1 launch0 p0 e0 about1 theMethod args0 below0 :=
  ⟨lists_1, trivial, launch0.admits_env _ _ _, launch0.least_env, fairChoices_fair.cas, fairChoices_fair.clock, w_frames, w_args, w_heap, w_applies, trivial, w_rest, w_case⟩
end start1
theorem witness_1 : WitnessClaimed_1 := ⟨start1.p0, start1.e0, start1.about1, start1.theMethod, start1.args0, start1.below0, start1.atStart⟩
end Jvm.Pilot.@@N@@
