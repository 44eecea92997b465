import JvmDerived
import JvmDerived.Pilot.@@N@@Statement
import JvmDerived.Pilot.@@N@@Code
set_option linter.unusedVariables false
set_option linter.unusedSimpArgs false
namespace Jvm.RoadKit
open Sem ClassFile Op Lib Jvm.Stand Jvm.Free Jvm.LawKit
section New
variable {p : Program} {l : Launch} {e : Env} {R : Room} {s : State} {m : MethodId} {args : Array Value} {below : List Frame} {meth : Method} {c : Code} {T : State} {locs : List Loc} {cells slots : Nat}
theorem retI (X : Stand p l e R s m args below meth c T locs cells slots) (hx : p.tables.exec = Jvm.exec) {pc : Nat} {Ls : Array Slot} {z : Int32} {rest : List Value} (hret : meth.sig.returnType = some .int) (hd : decode c.code pc = .ok (.ireturn, 1)) {fs : List Frame}
    (hl : ∀ (f : JFrame) (acts : List Action), f.method = m → f.locked = none → f.entered = [] → (doReturn e (T.setTop f) acts (some (.int z))).1 = T.setFrames fs) : Steps p.tables e below (T.setTop (mkF m pc Ls (.int z :: rest))) (T.setFrames fs) := by
  have hm' : T.vm.method? m = some meth := X.method'
  have hn : narrow .int (.int z) = .int z := rfl
  show Steps p.tables e below (T.setTop { method := m, pc := pc, locals := Ls, stack := _ :: rest, locked := none }) _
  jvm_step X.here [X.here.top, hx, hd, hm', hret, hn]
  first | (intro acts; rw [hl _ acts rfl rfl rfl]) | rw [hl _ _ rfl rfl rfl]
  exact Steps.refl _
end New
end Jvm.RoadKit
namespace Jvm.Pilot.@@N@@
open Jvm Jvm.ClassFile Sem Op Lib Jvm.Free Jvm.Stand Jvm.LawKit Jvm.RoadKit Bundle Jvm.Pilot.@@N@@.Jvm.D
def own_hash (w2 w4 : Int32) : Int32 := (((((((w2.toInt64) <<< ((32 : Int32) &&& 0x3f).toInt64) ||| ((w4.toInt64) &&& (4294967295 : Int64))) * (-7046029254386353131 : Int64)).toUInt64 >>> ((32 : Int32) &&& 0x3f).toInt64.toUInt64).toInt64).toInt32)
def own_ref (p1 p2 : Int32) : Int32 := (((((((p2.toInt64) &&& (4294967295 : Int64)) * (2135587861 : Int64)).toUInt64 >>> ((32 : Int32) &&& 0x3f).toInt64.toUInt64).toInt64).toInt32) + (p1 * (2135587861 : Int32))) + (p2 * (-1640531527 : Int32))
theorem own_hash_eq (a b : Int32) : own_hash a b = own_ref a b := by
  apply Int32.toInt_inj.mp
  unfold own_hash own_ref
  have a1 := rng32 a
  have b1 := rng32 b
  have a2 := c_i2l a
  have b2 := c_i2l b
  have s1 := c_lshl a.toInt64 32 32 rfl
  generalize hA : (a.toInt64 <<< ((32 : Int32) &&& 0x3f).toInt64) = A at s1
  have m1 := c_maskL b.toInt64 4294967295 32 (by decide) rfl
  generalize hB : (b.toInt64 &&& (4294967295 : Int64)) = B at m1
  have rA := rng64 A
  have rB := rng64 B
  rw [show (((2 : Nat) ^ 32 : Nat) : Int) = 4294967296 from rfl] at s1 m1
  have o1 := c_orL A B 32 (by decide) 4294967296 rfl (by omega) (by omega) (by omega)
  generalize hO : (A ||| B) = O at o1
  have x1 := c_lmul O (-7046029254386353131)
  rw [show (-7046029254386353131 : Int64).toInt = -7046029254386353131 from rfl] at x1
  generalize hX : (O * (-7046029254386353131 : Int64)) = X at x1
  have u1 := c_lushr X 32 32 rfl (by decide)
  generalize hU : ((X.toUInt64 >>> ((32 : Int32) &&& 0x3f).toInt64.toUInt64).toInt64) = U at u1
  have l1 := c_l2i U
  have y1 := c_lmul B 2135587861
  rw [show (2135587861 : Int64).toInt = 2135587861 from rfl] at y1
  generalize hY : (B * (2135587861 : Int64)) = Y at y1
  have v1 := c_lushr Y 32 32 rfl (by decide)
  generalize hV : ((Y.toUInt64 >>> ((32 : Int32) &&& 0x3f).toInt64.toUInt64).toInt64) = W at v1
  have l2 := c_l2i W
  have p1 := c_imul a 2135587861
  rw [show (2135587861 : Int32).toInt = 2135587861 from rfl] at p1
  have p2 := c_imul b (-1640531527)
  rw [show (-1640531527 : Int32).toInt = -1640531527 from rfl] at p2
  have q1 := c_iadd W.toInt32 (a * 2135587861)
  have q2 := c_iadd (W.toInt32 + a * 2135587861) (b * (-1640531527))
  have r1 := rng32 U.toInt32
  have r2 := rng32 (W.toInt32 + a * 2135587861 + b * (-1640531527))
  rw [show (((2 : Nat) ^ 32 : Nat) : Int) = 4294967296 from rfl] at u1 v1
  generalize U.toInt32.toInt = k1 at *
  generalize (W.toInt32 + a * 2135587861 + b * (-1640531527)).toInt = k2 at *
  generalize (W.toInt32 + a * 2135587861).toInt = k3 at *
  generalize W.toInt32.toInt = k4 at *
  generalize (a * (2135587861 : Int32)).toInt = k5 at *
  generalize (b * (-1640531527 : Int32)).toInt = k6 at *
  rw [a2] at s1
  rw [b2] at m1
  generalize a.toInt = i at *
  generalize b.toInt = j at *
  generalize A.toInt = iA at *
  generalize B.toInt = iB at *
  generalize O.toInt = iO at *
  generalize X.toInt = iX at *
  generalize Y.toInt = iY at *
  generalize U.toInt = iU at *
  generalize W.toInt = iW at *
  clear hA hB hO hX hU hY hV a2 b2 rA rB
  have key : ∀ S P : Int, ((4294967296 * S + P) % 18446744073709551616) / 4294967296 = (S + P / 4294967296) % 4294967296 := fun S P => by omega
  have hX : iX % 18446744073709551616 = (4294967296 * (i * 2135587861 + iB * 2654435769) + iB * 2135587861) % 18446744073709551616 := by
    have e1 : (iO - (i * 4294967296 + iB)) % 18446744073709551616 = 0 := by omega
    omega
  have hY : iY % 18446744073709551616 = iB * 2135587861 := by omega
  rw [hX, key] at u1
  rw [hY] at v1
  have d1 : (iB * 2654435769 - j * (-1640531527)) % 4294967296 = 0 := by omega
  generalize iB * 2135587861 / 4294967296 = w at *
  generalize iB * 2654435769 = x1 at *
  generalize j * (-1640531527) = x2 at *
  generalize i * 2135587861 = x3 at *
  subst v1
  clear hX hY key
  omega
theorem d1_0 : decode prog_41_method_1_code 0 = .ok (.aload_n 0, 1) := by decide +kernel
theorem d1_1 : decode prog_41_method_1_code 1 = .ok (.invokespecial 1, 3) := by decide +kernel
theorem wd_6 {a0 : Array Value} {Z : State} (hw : ∀ d ∈ tables_1, d.before a0 Z = true) : (Jvm.Cond.methodLink "com/example/consueto/consueto/model/Pair" (1 : Nat) ({ cls := "java/lang/Object", name := "<init>", desc := "()V" } : Jvm.MethodName)).before a0 Z = true := hw _ (List.mem_of_getElem? (i := 6) rfl)
theorem wd_7 {a0 : Array Value} {Z : State} (hw : ∀ d ∈ tables_1, d.before a0 Z = true) : (Jvm.Cond.instanceMethod ({ cls := "java/lang/Object", name := "<init>", desc := "()V" } : Jvm.MethodName)).before a0 Z = true := hw _ (List.mem_of_getElem? (i := 7) rfl)
theorem wd_8 {a0 : Array Value} {Z : State} (hw : ∀ d ∈ tables_1, d.before a0 Z = true) : (Jvm.Cond.code ({ cls := "java/lang/Object", name := "<init>", desc := "()V" } : Jvm.MethodName) object_method_1_code (1 : Nat) (Option.none : Option Jvm.ClassFile.FieldType)).before a0 Z = true := hw _ (List.mem_of_getElem? (i := 8) rfl)
theorem d1_4 : decode prog_41_method_1_code 4 = .ok (.aload_n 0, 1) := by decide +kernel
theorem d1_5 : decode prog_41_method_1_code 5 = .ok (.iload_n 1, 1) := by decide +kernel
theorem d1_6 : decode prog_41_method_1_code 6 = .ok (.putfield 7, 3) := by decide +kernel
theorem wd_9 {a0 : Array Value} {Z : State} (hw : ∀ d ∈ tables_1, d.before a0 Z = true) : (Jvm.Cond.fieldLink "com/example/consueto/consueto/model/Pair" (7 : Nat) "com/example/consueto/consueto/model/Pair" "first" "I").before a0 Z = true := hw _ (List.mem_of_getElem? (i := 9) rfl)
theorem wd_10 {a0 : Array Value} {Z : State} (hw : ∀ d ∈ tables_1, d.before a0 Z = true) : (Jvm.Cond.laysFinal "com/example/consueto/consueto/model/Pair" "com/example/consueto/consueto/model/Pair" "first" "I").before a0 Z = true := hw _ (List.mem_of_getElem? (i := 10) rfl)
theorem wd_1 {a0 : Array Value} {Z : State} (hw : ∀ d ∈ tables_1, d.before a0 Z = true) : (Jvm.Cond.instantiable "com/example/consueto/consueto/model/Pair" (2 : Nat)).before a0 Z = true := hw _ (List.mem_of_getElem? (i := 1) rfl)
theorem d1_9 : decode prog_41_method_1_code 9 = .ok (.aload_n 0, 1) := by decide +kernel
theorem d1_10 : decode prog_41_method_1_code 10 = .ok (.iload_n 2, 1) := by decide +kernel
theorem d1_11 : decode prog_41_method_1_code 11 = .ok (.putfield 13, 3) := by decide +kernel
theorem wd_11 {a0 : Array Value} {Z : State} (hw : ∀ d ∈ tables_1, d.before a0 Z = true) : (Jvm.Cond.fieldLink "com/example/consueto/consueto/model/Pair" (13 : Nat) "com/example/consueto/consueto/model/Pair" "second" "I").before a0 Z = true := hw _ (List.mem_of_getElem? (i := 11) rfl)
theorem wd_12 {a0 : Array Value} {Z : State} (hw : ∀ d ∈ tables_1, d.before a0 Z = true) : (Jvm.Cond.laysFinal "com/example/consueto/consueto/model/Pair" "com/example/consueto/consueto/model/Pair" "second" "I").before a0 Z = true := hw _ (List.mem_of_getElem? (i := 12) rfl)
theorem d1_14 : decode prog_41_method_1_code 14 = .ok (.return_, 1) := by decide +kernel
theorem ef_1 (m : MethodId) (x0 : Addr) (x1 : Int32) (x2 : Int32) : entryFrame m #[(.ref x0), (.int x1), (.int x2)] 3 = mkF m 0 #[.val (.ref x0), .val (.int x1), .val (.int x2)] [] := by first | (simp [entryFrame, mkF, argsToLocals, Value.category]; done) | rfl
theorem pn_com_example_consueto_consueto_model_Pair : plainName "com/example/consueto/consueto/model/Pair" = true := by first | (simp [plainName, overriddenIn]; done) | decide +kernel
def Q_rm1 (Z : State) (a1 : Addr) (p2 : Int32) (p3 : Int32) (u1 : Value) (u2 : Value) (h0 : Heap) (n0 : Nat) (v : Option Value) (h : Heap) (L : List Loc) : Prop := v = none ∧ Fr n0 L ∧ Keep h0 h [a1] ∧ (Exa Z h a1 "com/example/consueto/consueto/model/Pair") ∧ (Fld Z h a1 "com/example/consueto/consueto/model/Pair" "first" "I" (.int p2)) ∧ (Fld Z h a1 "com/example/consueto/consueto/model/Pair" "second" "I" (.int p3))
set_option maxRecDepth 65536 in
set_option maxHeartbeats 40000000 in
theorem rm1 (l : Launch) (Z : State) (a0 : Array Value) (hw : ∀ d ∈ tables_1, d.before a0 Z = true) (ws : List Jvm.Cond) (a1 : Addr) (p2 : Int32) (p3 : Int32) (u1 : Value) (u2 : Value) (h0 : Heap) (n0 : Nat) (Z0 : n0 ≤ h0.size) (F_first_a1 : Fld Z h0 a1 "com/example/consueto/consueto/model/Pair" "first" "I" u1) (F_second_a1 : Fld Z h0 a1 "com/example/consueto/consueto/model/Pair" "second" "I" u2) (E_a1 : Exa Z h0 a1 "com/example/consueto/consueto/model/Pair") (g_a1 : n0 ≤ a1) :
    MetFree l (⟨"com/example/consueto/consueto/model/Pair", "<init>", "(II)V"⟩ : MethodName) (head1 (Jvm.Cond.code (⟨"com/example/consueto/consueto/model/Pair", "<init>", "(II)V"⟩ : MethodName) prog_41_method_1_code 3 none :: ws) ({ frames := 1, cells := 0, slots := 0, locals := 12 } : Room)) (fun a U => a = #[(.ref a1), (.int p2), (.int p3)] ∧ Z.Warmed39 U.vm ∧ U.heap = h0) (fun _ _ _ _ _ => True) (fun _ U o U' => ∃ v L, o = .returned v ∧ Q_rm1 Z a1 p2 p3 u1 u2 h0 n0 v U'.heap L ∧ FrameEnd U o U' L ({ frames := 1, cells := 0, slots := 0, locals := 12 } : Room).cells ({ frames := 1, cells := 0, slots := 0, locals := 12 } : Room).slots) := by
  refine MetFree.of_bodySF (plainFor_of_name pn_com_example_consueto_consueto_model_Pair) hisR ?_
  intro p e s m args below meth c s₁ Bd hml0 hP hK
  obtain ⟨rfl, hZ, hh⟩ := hP
  have hx := Bd.exec
  have hby := Bd.bytes
  have hml : c.maxLocals = 3 := hml0
  have hown : s.vm.findClass "com/example/consueto/consueto/model/Pair" = some m.cls := findClass_of_methodNamed Bd.named
  have hnm := (name_of_methodNamed Bd.named Bd.method).1
  have X0 : Stand p l e ({ frames := 1, cells := 0, slots := 0, locals := 12 } : Room) s m #[(.ref a1), (.int p2), (.int p3)] below meth c s₁ [] 0 0 := Stand.of_body Bd
  have e0 : s₁.heap = h0 := by rw [← hh, Bd.state]; rfl
  have N0 := Fr.nil n0
  have pre0 : ∀ t, Steps p.tables e below (s₁.setTop (mkF m 0 #[.val (.ref a1), .val (.int p2), .val (.int p3)] [])) t → Steps p.tables e below (s₁.setTop (entryFrame m #[(.ref a1), (.int p2), (.int p3)] 3)) t := fun t k => castTop (ef_1 m a1 p2 p3) k
  obtain ⟨T1, X1, e1, st1⟩ := initO X0 hx hZ hown (wd_6 hw) (wd_7 hw) (wd_8 hw) e0 (g := (mkF m 1 #[.val (.ref a1), .val (.int p2), .val (.int p3)] [(.ref a1)])) rfl (by rw [hml]; rfl) rfl (hb hby d1_1) (by decide) (W := 0) (by show 2 * 0 + _ ≤ _; exact Nat.le_of_eq rfl) (by decide)
  obtain ⟨T2, h2, X2, e2, W2, st2⟩ := putF X1 hx hZ hown (host := "") (Or.inl (wd_9 hw)) Via.refl e1 F_first_a1 E_a1 (Or.inr ⟨(wd_10 hw), rfl, hnm⟩) (wd_1 hw) (ty := .int) (by decide) rfl rfl (g := (mkF m 6 #[.val (.ref a1), .val (.int p2), .val (.int p3)] [(.int p2), (.ref a1)])) rfl rfl (hb hby d1_6)
  have Fw2 := F_first_a1.same W2
  have Z3 : n0 ≤ h2.size := Nat.le_trans Z0 (Keep.of_wr W2).1
  have K4 : Keep h0 h2 [a1] := Keep.wr (Keep.refl h0 [a1]) W2 (Or.inl (List.mem_of_getElem? (i := 0) rfl))
  have N2 := Fr.snoc X2 N0 g_a1
  obtain ⟨T5, h5, X5, e5, W5, st5⟩ := putF X2 hx hZ hown (host := "") (Or.inl (wd_11 hw)) Via.refl e2 (F_second_a1.other W2 (Or.inr (slot_ne (Or.inr (wd_12 hw)) (Or.inr (wd_10 hw)) (by decide) (t := .int) (t' := .int) (by decide) (by decide)))) (E_a1.wr W2) (Or.inr ⟨(wd_12 hw), rfl, hnm⟩) (wd_1 hw) (ty := .int) (by decide) rfl rfl (g := (mkF m 11 #[.val (.ref a1), .val (.int p2), .val (.int p3)] [(.int p3), (.ref a1)])) rfl rfl (hb hby d1_11)
  have Fw5 := (F_second_a1.other W2 (Or.inr (slot_ne (Or.inr (wd_12 hw)) (Or.inr (wd_10 hw)) (by decide) (t := .int) (t' := .int) (by decide) (by decide)))).same W5
  have Z6 : n0 ≤ h5.size := Nat.le_trans Z3 (Keep.of_wr W5).1
  have K7 : Keep h0 h5 [a1] := Keep.wr K4 W5 (Or.inl (List.mem_of_getElem? (i := 0) rfl))
  have N5 := Fr.snoc X5 N2 g_a1
  obtain ⟨fs, hr, hrun, hended, hW, hsame⟩ := X5.leave (v := none) (fun _ => rfl)
  refine ⟨_, _, pre0 _ ?_, hrun, hended, _, _, rfl, ?_, ⟨_, rfl⟩, hW, hsame.mono (by decide) (by decide)⟩
  · show Steps p.tables e below (s₁.setTop (mkF m 0 #[.val (.ref a1), .val (.int p2), .val (.int p3)] [])) _
    refine XS.aloadN X0.here hx rfl (hb hby d1_0) rfl rfl ?_
    refine st1 _ ?_
    refine XS.aloadN X1.here hx rfl (hb hby d1_4) rfl rfl ?_
    refine XS.iloadN X1.here hx rfl (hb hby d1_5) rfl ?_
    show Steps p.tables e below (T1.setTop (mkF m 6 #[.val (.ref a1), .val (.int p2), .val (.int p3)] [(.int p2), (.ref a1)])) _
    refine st2 _ ?_
    refine XS.aloadN X2.here hx rfl (hb hby d1_9) rfl rfl ?_
    refine XS.iloadN X2.here hx rfl (hb hby d1_10) rfl ?_
    refine st5 _ ?_
    show Steps p.tables e below (T5.setTop (mkF m 14 #[.val (.ref a1), .val (.int p2), .val (.int p3)] [])) _
    exact X5.returnOut hx Bd.returns (hb hby d1_14) hr
  · show Q_rm1 Z a1 p2 p3 u1 u2 h0 n0 _ T5.heap _
    rw [e5]
    exact ⟨rfl, N5, K7, ((E_a1.wr W2).wr W5), (Fw2.other W5 (Or.inr (slot_ne (Or.inr (wd_10 hw)) (Or.inr (wd_12 hw)) (by decide) (t := .int) (t' := .int) (by decide) (by decide)))), Fw5⟩
theorem d3_0 : decode prog_41_method_5_code 0 = .ok (.aload_n 0, 1) := by decide +kernel
theorem d3_1 : decode prog_41_method_5_code 1 = .ok (.getfield 7, 3) := by decide +kernel
theorem d3_4 : decode prog_41_method_5_code 4 = .ok (.i2l, 1) := by decide +kernel
theorem d3_5 : decode prog_41_method_5_code 5 = .ok (.bipush 32, 2) := by decide +kernel
theorem d3_7 : decode prog_41_method_5_code 7 = .ok (.lshl, 1) := by decide +kernel
theorem d3_8 : decode prog_41_method_5_code 8 = .ok (.aload_n 0, 1) := by decide +kernel
theorem d3_9 : decode prog_41_method_5_code 9 = .ok (.getfield 13, 3) := by decide +kernel
theorem d3_12 : decode prog_41_method_5_code 12 = .ok (.i2l, 1) := by decide +kernel
theorem d3_13 : decode prog_41_method_5_code 13 = .ok (.ldc2_w 16, 3) := by decide +kernel
theorem wd_18 {a0 : Array Value} {Z : State} (hw : ∀ d ∈ tables_1, d.before a0 Z = true) : (Jvm.Cond.constantLong "com/example/consueto/consueto/model/Pair" (16 : Nat) (4294967295 : Int64)).before a0 Z = true := hw _ (List.mem_of_getElem? (i := 18) rfl)
theorem d3_16 : decode prog_41_method_5_code 16 = .ok (.land, 1) := by decide +kernel
theorem d3_17 : decode prog_41_method_5_code 17 = .ok (.lor, 1) := by decide +kernel
theorem d3_18 : decode prog_41_method_5_code 18 = .ok (.lstore_n 1, 1) := by decide +kernel
theorem d3_19 : decode prog_41_method_5_code 19 = .ok (.lload_n 1, 1) := by decide +kernel
theorem d3_20 : decode prog_41_method_5_code 20 = .ok (.ldc2_w 18, 3) := by decide +kernel
theorem wd_19 {a0 : Array Value} {Z : State} (hw : ∀ d ∈ tables_1, d.before a0 Z = true) : (Jvm.Cond.constantLong "com/example/consueto/consueto/model/Pair" (18 : Nat) (-7046029254386353131 : Int64)).before a0 Z = true := hw _ (List.mem_of_getElem? (i := 19) rfl)
theorem d3_23 : decode prog_41_method_5_code 23 = .ok (.lmul, 1) := by decide +kernel
theorem d3_24 : decode prog_41_method_5_code 24 = .ok (.bipush 32, 2) := by decide +kernel
theorem d3_26 : decode prog_41_method_5_code 26 = .ok (.lushr, 1) := by decide +kernel
theorem d3_27 : decode prog_41_method_5_code 27 = .ok (.l2i, 1) := by decide +kernel
theorem d3_28 : decode prog_41_method_5_code 28 = .ok (.ireturn, 1) := by decide +kernel
theorem ef_3 (m : MethodId) (x0 : Addr) : entryFrame m #[(.ref x0)] 3 = mkF m 0 #[.val (.ref x0), .unset, .unset] [] := by first | (simp [entryFrame, mkF, argsToLocals, Value.category]; done) | rfl
def Q_rm3 (Z : State) (a1 : Addr) (w2 : Int32) (w4 : Int32) (h0 : Heap) (n0 : Nat) (v : Option Value) (h : Heap) (L : List Loc) : Prop := v = some (.int (own_hash w2 w4)) ∧ Fr n0 L ∧ h = h0
set_option maxRecDepth 65536 in
set_option maxHeartbeats 40000000 in
theorem rm3 (l : Launch) (Z : State) (a0 : Array Value) (hw : ∀ d ∈ tables_1, d.before a0 Z = true) (ws : List Jvm.Cond) (a1 : Addr) (w2 : Int32) (w4 : Int32) (h0 : Heap) (n0 : Nat) (Z0 : n0 ≤ h0.size) (F_first_a1 : Fld Z h0 a1 "com/example/consueto/consueto/model/Pair" "first" "I" (.int w2)) (F_second_a1 : Fld Z h0 a1 "com/example/consueto/consueto/model/Pair" "second" "I" (.int w4)) :
    MetFree l (⟨"com/example/consueto/consueto/model/Pair", "hashCode", "()I"⟩ : MethodName) (head1 (Jvm.Cond.code (⟨"com/example/consueto/consueto/model/Pair", "hashCode", "()I"⟩ : MethodName) prog_41_method_5_code 3 (some .int) :: ws) ({ frames := 0, cells := 0, slots := 0, locals := 0 } : Room)) (fun a U => a = #[(.ref a1)] ∧ Z.Warmed39 U.vm ∧ U.heap = h0) (fun _ _ _ _ _ => True) (fun _ U o U' => ∃ v L, o = .returned v ∧ Q_rm3 Z a1 w2 w4 h0 n0 v U'.heap L ∧ FrameEnd U o U' L ({ frames := 0, cells := 0, slots := 0, locals := 0 } : Room).cells ({ frames := 0, cells := 0, slots := 0, locals := 0 } : Room).slots) := by
  refine MetFree.of_bodySF (plainFor_of_name pn_com_example_consueto_consueto_model_Pair) hisR ?_
  intro p e s m args below meth c s₁ Bd hml0 hP hK
  obtain ⟨rfl, hZ, hh⟩ := hP
  have hx := Bd.exec
  have hby := Bd.bytes
  have hml : c.maxLocals = 3 := hml0
  have hown : s.vm.findClass "com/example/consueto/consueto/model/Pair" = some m.cls := findClass_of_methodNamed Bd.named
  have hnm := (name_of_methodNamed Bd.named Bd.method).1
  have X0 : Stand p l e ({ frames := 0, cells := 0, slots := 0, locals := 0 } : Room) s m #[(.ref a1)] below meth c s₁ [] 0 0 := Stand.of_body Bd
  have e0 : s₁.heap = h0 := by rw [← hh, Bd.state]; rfl
  have N0 := Fr.nil n0
  have pre0 : ∀ t, Steps p.tables e below (s₁.setTop (mkF m 0 #[.val (.ref a1), .unset, .unset] [])) t → Steps p.tables e below (s₁.setTop (entryFrame m #[(.ref a1)] 3)) t := fun t k => castTop (ef_3 m a1) k
  obtain ⟨T8, X8, e8, st8⟩ := getF X0 hx hZ hown (host := "") (Or.inl (wd_9 hw)) Via.refl e0 F_first_a1 (g := (mkF m 1 #[.val (.ref a1), .unset, .unset] [(.ref a1)])) rfl rfl (hb hby d3_1)
  obtain ⟨T9, X9, e9, st9⟩ := getF X8 hx hZ hown (host := "") (Or.inl (wd_11 hw)) Via.refl e8 F_second_a1 (g := (mkF m 9 #[.val (.ref a1), .unset, .unset] [(.ref a1), (.long ((w2.toInt64) <<< ((32 : Int32) &&& 0x3f).toInt64))])) rfl rfl (hb hby d3_9)
  obtain ⟨fs, hr, hrun, hended, hW, hsame⟩ := X9.leave (v := some (.int (((((((w2.toInt64) <<< ((32 : Int32) &&& 0x3f).toInt64) ||| ((w4.toInt64) &&& (4294967295 : Int64))) * (-7046029254386353131 : Int64)).toUInt64 >>> ((32 : Int32) &&& 0x3f).toInt64.toUInt64).toInt64).toInt32))) (fun h => by rw [Bd.returns] at h; cases h)
  refine ⟨_, _, pre0 _ ?_, hrun, hended, _, _, rfl, ?_, ⟨_, rfl⟩, hW, hsame.mono (by decide) (by decide)⟩
  · show Steps p.tables e below (s₁.setTop (mkF m 0 #[.val (.ref a1), .unset, .unset] [])) _
    refine XS.aloadN X0.here hx rfl (hb hby d3_0) rfl rfl ?_
    refine st8 _ ?_
    refine XS.i2l X8.here hx rfl (hb hby d3_4) rfl ?_
    refine XS.bipush X8.here hx rfl (hb hby d3_5) ?_
    show Steps p.tables e below (T8.setTop (mkF m 7 #[.val (.ref a1), .unset, .unset] [(.int (32 : Int32)), (.long (w2.toInt64))])) _
    refine XS.lshl X8.here hx rfl (hb hby d3_7) rfl ?_
    refine XS.aloadN X8.here hx rfl (hb hby d3_8) rfl rfl ?_
    refine st9 _ ?_
    refine XS.i2l X9.here hx rfl (hb hby d3_12) rfl ?_
    show Steps p.tables e below (T9.setTop (mkF m 13 #[.val (.ref a1), .unset, .unset] [(.long (w4.toInt64)), (.long ((w2.toInt64) <<< ((32 : Int32) &&& 0x3f).toInt64))])) _
    refine X9.ldc2Long hx hown (mvT hZ (wd_18 hw)) (g := (mkF m 13 #[.val (.ref a1), .unset, .unset] [(.long (w4.toInt64)), (.long ((w2.toInt64) <<< ((32 : Int32) &&& 0x3f).toInt64))])) rfl (hb hby d3_13) _ ?_
    refine XS.land X9.here hx rfl (hb hby d3_16) rfl ?_
    refine XS.lor X9.here hx rfl (hb hby d3_17) rfl ?_
    refine XS.lstoreN X9.here hx rfl (hb hby d3_18) rfl (l' := #[.val (.ref a1), .val (.long (((w2.toInt64) <<< ((32 : Int32) &&& 0x3f).toInt64) ||| ((w4.toInt64) &&& (4294967295 : Int64)))), .second]) rfl ?_
    show Steps p.tables e below (T9.setTop (mkF m 19 #[.val (.ref a1), .val (.long (((w2.toInt64) <<< ((32 : Int32) &&& 0x3f).toInt64) ||| ((w4.toInt64) &&& (4294967295 : Int64)))), .second] [])) _
    refine XS.lloadN X9.here hx rfl (hb hby d3_19) rfl ?_
    refine X9.ldc2Long hx hown (mvT hZ (wd_19 hw)) (g := (mkF m 20 #[.val (.ref a1), .val (.long (((w2.toInt64) <<< ((32 : Int32) &&& 0x3f).toInt64) ||| ((w4.toInt64) &&& (4294967295 : Int64)))), .second] [(.long (((w2.toInt64) <<< ((32 : Int32) &&& 0x3f).toInt64) ||| ((w4.toInt64) &&& (4294967295 : Int64))))])) rfl (hb hby d3_20) _ ?_
    refine XS.lmul X9.here hx rfl (hb hby d3_23) rfl ?_
    refine XS.bipush X9.here hx rfl (hb hby d3_24) ?_
    show Steps p.tables e below (T9.setTop (mkF m 26 #[.val (.ref a1), .val (.long (((w2.toInt64) <<< ((32 : Int32) &&& 0x3f).toInt64) ||| ((w4.toInt64) &&& (4294967295 : Int64)))), .second] [(.int (32 : Int32)), (.long ((((w2.toInt64) <<< ((32 : Int32) &&& 0x3f).toInt64) ||| ((w4.toInt64) &&& (4294967295 : Int64))) * (-7046029254386353131 : Int64)))])) _
    refine XS.lushr X9.here hx rfl (hb hby d3_26) rfl ?_
    refine XS.l2i X9.here hx rfl (hb hby d3_27) rfl ?_
    exact retI X9 hx Bd.returns (hb hby d3_28) hr
  · show Q_rm3 Z a1 w2 w4 h0 n0 _ T9.heap _
    rw [e9]
    exact ⟨rfl, N0, rfl⟩
theorem d4_0 : decode method_2_code 0 = .ok (.iload_n 1, 1) := by decide +kernel
theorem d4_1 : decode method_2_code 1 = .ok (.i2l, 1) := by decide +kernel
theorem d4_2 : decode method_2_code 2 = .ok (.ldc2_w 7, 3) := by decide +kernel
theorem wd_24 {a0 : Array Value} {Z : State} (hw : ∀ d ∈ tables_1, d.before a0 Z = true) : (Jvm.Cond.constantLong "com/example/consueto/consueto/model/PairHashCodePinLaw" (7 : Nat) (4294967295 : Int64)).before a0 Z = true := hw _ (List.mem_of_getElem? (i := 24) rfl)
theorem d4_5 : decode method_2_code 5 = .ok (.land, 1) := by decide +kernel
theorem d4_6 : decode method_2_code 6 = .ok (.lstore_n 2, 1) := by decide +kernel
theorem d4_7 : decode method_2_code 7 = .ok (.lload_n 2, 1) := by decide +kernel
theorem d4_8 : decode method_2_code 8 = .ok (.ldc2_w 9, 3) := by decide +kernel
theorem wd_25 {a0 : Array Value} {Z : State} (hw : ∀ d ∈ tables_1, d.before a0 Z = true) : (Jvm.Cond.constantLong "com/example/consueto/consueto/model/PairHashCodePinLaw" (9 : Nat) (2135587861 : Int64)).before a0 Z = true := hw _ (List.mem_of_getElem? (i := 25) rfl)
theorem d4_11 : decode method_2_code 11 = .ok (.lmul, 1) := by decide +kernel
theorem d4_12 : decode method_2_code 12 = .ok (.bipush 32, 2) := by decide +kernel
theorem d4_14 : decode method_2_code 14 = .ok (.lushr, 1) := by decide +kernel
theorem d4_15 : decode method_2_code 15 = .ok (.l2i, 1) := by decide +kernel
theorem d4_16 : decode method_2_code 16 = .ok (.istore 4, 2) := by decide +kernel
theorem d4_18 : decode method_2_code 18 = .ok (.iload 4, 2) := by decide +kernel
theorem d4_20 : decode method_2_code 20 = .ok (.iload_n 0, 1) := by decide +kernel
theorem d4_21 : decode method_2_code 21 = .ok (.ldc 11, 2) := by decide +kernel
theorem wd_26 {a0 : Array Value} {Z : State} (hw : ∀ d ∈ tables_1, d.before a0 Z = true) : (Jvm.Cond.constant "com/example/consueto/consueto/model/PairHashCodePinLaw" (11 : Nat) (2135587861 : Int32)).before a0 Z = true := hw _ (List.mem_of_getElem? (i := 26) rfl)
theorem d4_23 : decode method_2_code 23 = .ok (.imul, 1) := by decide +kernel
theorem d4_24 : decode method_2_code 24 = .ok (.iadd, 1) := by decide +kernel
theorem d4_25 : decode method_2_code 25 = .ok (.iload_n 1, 1) := by decide +kernel
theorem d4_26 : decode method_2_code 26 = .ok (.ldc 12, 2) := by decide +kernel
theorem wd_27 {a0 : Array Value} {Z : State} (hw : ∀ d ∈ tables_1, d.before a0 Z = true) : (Jvm.Cond.constant "com/example/consueto/consueto/model/PairHashCodePinLaw" (12 : Nat) (-1640531527 : Int32)).before a0 Z = true := hw _ (List.mem_of_getElem? (i := 27) rfl)
theorem d4_28 : decode method_2_code 28 = .ok (.imul, 1) := by decide +kernel
theorem d4_29 : decode method_2_code 29 = .ok (.iadd, 1) := by decide +kernel
theorem d4_30 : decode method_2_code 30 = .ok (.ireturn, 1) := by decide +kernel
theorem ef_4 (m : MethodId) (x0 : Int32) (x1 : Int32) : entryFrame m #[(.int x0), (.int x1)] 5 = mkF m 0 #[.val (.int x0), .val (.int x1), .unset, .unset, .unset] [] := by first | (simp [entryFrame, mkF, argsToLocals, Value.category]; done) | rfl
theorem pn_com_example_consueto_consueto_model_PairHashCodePinLaw : plainName "com/example/consueto/consueto/model/PairHashCodePinLaw" = true := by first | (simp [plainName, overriddenIn]; done) | decide +kernel
def Q_rm4 (Z : State) (p1 : Int32) (p2 : Int32) (h0 : Heap) (n0 : Nat) (v : Option Value) (h : Heap) (L : List Loc) : Prop := v = some (.int (own_ref p1 p2)) ∧ Fr n0 L ∧ h = h0
set_option maxRecDepth 65536 in
set_option maxHeartbeats 40000000 in
theorem rm4 (l : Launch) (Z : State) (a0 : Array Value) (hw : ∀ d ∈ tables_1, d.before a0 Z = true) (ws : List Jvm.Cond) (p1 : Int32) (p2 : Int32) (h0 : Heap) (n0 : Nat) (Z0 : n0 ≤ h0.size) :
    MetFree l (⟨"com/example/consueto/consueto/model/PairHashCodePinLaw", "reference", "(II)I"⟩ : MethodName) (head1 (Jvm.Cond.code (⟨"com/example/consueto/consueto/model/PairHashCodePinLaw", "reference", "(II)I"⟩ : MethodName) method_2_code 5 (some .int) :: ws) ({ frames := 0, cells := 0, slots := 0, locals := 0 } : Room)) (fun a U => a = #[(.int p1), (.int p2)] ∧ Z.Warmed39 U.vm ∧ U.heap = h0) (fun _ _ _ _ _ => True) (fun _ U o U' => ∃ v L, o = .returned v ∧ Q_rm4 Z p1 p2 h0 n0 v U'.heap L ∧ FrameEnd U o U' L ({ frames := 0, cells := 0, slots := 0, locals := 0 } : Room).cells ({ frames := 0, cells := 0, slots := 0, locals := 0 } : Room).slots) := by
  refine MetFree.of_bodySF (plainFor_of_name pn_com_example_consueto_consueto_model_PairHashCodePinLaw) hisR ?_
  intro p e s m args below meth c s₁ Bd hml0 hP hK
  obtain ⟨rfl, hZ, hh⟩ := hP
  have hx := Bd.exec
  have hby := Bd.bytes
  have hml : c.maxLocals = 5 := hml0
  have hown : s.vm.findClass "com/example/consueto/consueto/model/PairHashCodePinLaw" = some m.cls := findClass_of_methodNamed Bd.named
  have hnm := (name_of_methodNamed Bd.named Bd.method).1
  have X0 : Stand p l e ({ frames := 0, cells := 0, slots := 0, locals := 0 } : Room) s m #[(.int p1), (.int p2)] below meth c s₁ [] 0 0 := Stand.of_body Bd
  have e0 : s₁.heap = h0 := by rw [← hh, Bd.state]; rfl
  have N0 := Fr.nil n0
  have pre0 : ∀ t, Steps p.tables e below (s₁.setTop (mkF m 0 #[.val (.int p1), .val (.int p2), .unset, .unset, .unset] [])) t → Steps p.tables e below (s₁.setTop (entryFrame m #[(.int p1), (.int p2)] 5)) t := fun t k => castTop (ef_4 m p1 p2) k
  obtain ⟨fs, hr, hrun, hended, hW, hsame⟩ := X0.leave (v := some (.int ((((((((p2.toInt64) &&& (4294967295 : Int64)) * (2135587861 : Int64)).toUInt64 >>> ((32 : Int32) &&& 0x3f).toInt64.toUInt64).toInt64).toInt32) + (p1 * (2135587861 : Int32))) + (p2 * (-1640531527 : Int32))))) (fun h => by rw [Bd.returns] at h; cases h)
  refine ⟨_, _, pre0 _ ?_, hrun, hended, _, _, rfl, ?_, ⟨_, rfl⟩, hW, hsame.mono (by decide) (by decide)⟩
  · show Steps p.tables e below (s₁.setTop (mkF m 0 #[.val (.int p1), .val (.int p2), .unset, .unset, .unset] [])) _
    refine XS.iloadN X0.here hx rfl (hb hby d4_0) rfl ?_
    refine XS.i2l X0.here hx rfl (hb hby d4_1) rfl ?_
    refine X0.ldc2Long hx hown (mvT hZ (wd_24 hw)) (g := (mkF m 2 #[.val (.int p1), .val (.int p2), .unset, .unset, .unset] [(.long (p2.toInt64))])) rfl (hb hby d4_2) _ ?_
    refine XS.land X0.here hx rfl (hb hby d4_5) rfl ?_
    show Steps p.tables e below (s₁.setTop (mkF m 6 #[.val (.int p1), .val (.int p2), .unset, .unset, .unset] [(.long ((p2.toInt64) &&& (4294967295 : Int64)))])) _
    refine XS.lstoreN X0.here hx rfl (hb hby d4_6) rfl (l' := #[.val (.int p1), .val (.int p2), .val (.long ((p2.toInt64) &&& (4294967295 : Int64))), .second, .unset]) rfl ?_
    refine XS.lloadN X0.here hx rfl (hb hby d4_7) rfl ?_
    refine X0.ldc2Long hx hown (mvT hZ (wd_25 hw)) (g := (mkF m 8 #[.val (.int p1), .val (.int p2), .val (.long ((p2.toInt64) &&& (4294967295 : Int64))), .second, .unset] [(.long ((p2.toInt64) &&& (4294967295 : Int64)))])) rfl (hb hby d4_8) _ ?_
    refine XS.lmul X0.here hx rfl (hb hby d4_11) rfl ?_
    show Steps p.tables e below (s₁.setTop (mkF m 12 #[.val (.int p1), .val (.int p2), .val (.long ((p2.toInt64) &&& (4294967295 : Int64))), .second, .unset] [(.long (((p2.toInt64) &&& (4294967295 : Int64)) * (2135587861 : Int64)))])) _
    refine XS.bipush X0.here hx rfl (hb hby d4_12) ?_
    refine XS.lushr X0.here hx rfl (hb hby d4_14) rfl ?_
    refine XS.l2i X0.here hx rfl (hb hby d4_15) rfl ?_
    refine XS.istore X0.here hx rfl (hb hby d4_16) rfl (l' := #[.val (.int p1), .val (.int p2), .val (.long ((p2.toInt64) &&& (4294967295 : Int64))), .second, .val (.int ((((((p2.toInt64) &&& (4294967295 : Int64)) * (2135587861 : Int64)).toUInt64 >>> ((32 : Int32) &&& 0x3f).toInt64.toUInt64).toInt64).toInt32))]) rfl ?_
    show Steps p.tables e below (s₁.setTop (mkF m 18 #[.val (.int p1), .val (.int p2), .val (.long ((p2.toInt64) &&& (4294967295 : Int64))), .second, .val (.int ((((((p2.toInt64) &&& (4294967295 : Int64)) * (2135587861 : Int64)).toUInt64 >>> ((32 : Int32) &&& 0x3f).toInt64.toUInt64).toInt64).toInt32))] [])) _
    refine XS.iload X0.here hx rfl (hb hby d4_18) rfl ?_
    refine XS.iloadN X0.here hx rfl (hb hby d4_20) rfl ?_
    refine X0.ldcInt hx hown (mvT hZ (wd_26 hw)) (g := (mkF m 21 #[.val (.int p1), .val (.int p2), .val (.long ((p2.toInt64) &&& (4294967295 : Int64))), .second, .val (.int ((((((p2.toInt64) &&& (4294967295 : Int64)) * (2135587861 : Int64)).toUInt64 >>> ((32 : Int32) &&& 0x3f).toInt64.toUInt64).toInt64).toInt32))] [(.int p1), (.int ((((((p2.toInt64) &&& (4294967295 : Int64)) * (2135587861 : Int64)).toUInt64 >>> ((32 : Int32) &&& 0x3f).toInt64.toUInt64).toInt64).toInt32))])) rfl (hb hby d4_21) _ ?_
    refine XS.imul X0.here hx rfl (hb hby d4_23) rfl ?_
    show Steps p.tables e below (s₁.setTop (mkF m 24 #[.val (.int p1), .val (.int p2), .val (.long ((p2.toInt64) &&& (4294967295 : Int64))), .second, .val (.int ((((((p2.toInt64) &&& (4294967295 : Int64)) * (2135587861 : Int64)).toUInt64 >>> ((32 : Int32) &&& 0x3f).toInt64.toUInt64).toInt64).toInt32))] [(.int (p1 * (2135587861 : Int32))), (.int ((((((p2.toInt64) &&& (4294967295 : Int64)) * (2135587861 : Int64)).toUInt64 >>> ((32 : Int32) &&& 0x3f).toInt64.toUInt64).toInt64).toInt32))])) _
    refine XS.iadd X0.here hx rfl (hb hby d4_24) rfl ?_
    refine XS.iloadN X0.here hx rfl (hb hby d4_25) rfl ?_
    refine X0.ldcInt hx hown (mvT hZ (wd_27 hw)) (g := (mkF m 26 #[.val (.int p1), .val (.int p2), .val (.long ((p2.toInt64) &&& (4294967295 : Int64))), .second, .val (.int ((((((p2.toInt64) &&& (4294967295 : Int64)) * (2135587861 : Int64)).toUInt64 >>> ((32 : Int32) &&& 0x3f).toInt64.toUInt64).toInt64).toInt32))] [(.int p2), (.int (((((((p2.toInt64) &&& (4294967295 : Int64)) * (2135587861 : Int64)).toUInt64 >>> ((32 : Int32) &&& 0x3f).toInt64.toUInt64).toInt64).toInt32) + (p1 * (2135587861 : Int32))))])) rfl (hb hby d4_26) _ ?_
    refine XS.imul X0.here hx rfl (hb hby d4_28) rfl ?_
    show Steps p.tables e below (s₁.setTop (mkF m 29 #[.val (.int p1), .val (.int p2), .val (.long ((p2.toInt64) &&& (4294967295 : Int64))), .second, .val (.int ((((((p2.toInt64) &&& (4294967295 : Int64)) * (2135587861 : Int64)).toUInt64 >>> ((32 : Int32) &&& 0x3f).toInt64.toUInt64).toInt64).toInt32))] [(.int (p2 * (-1640531527 : Int32))), (.int (((((((p2.toInt64) &&& (4294967295 : Int64)) * (2135587861 : Int64)).toUInt64 >>> ((32 : Int32) &&& 0x3f).toInt64.toUInt64).toInt64).toInt32) + (p1 * (2135587861 : Int32))))])) _
    refine XS.iadd X0.here hx rfl (hb hby d4_29) rfl ?_
    exact retI X0 hx Bd.returns (hb hby d4_30) hr
  · show Q_rm4 Z p1 p2 h0 n0 _ s₁.heap _
    rw [e0]
    exact ⟨rfl, N0, rfl⟩
theorem wd_0 {a0 : Array Value} {Z : State} (hw : ∀ d ∈ tables_1, d.before a0 Z = true) : (Jvm.Cond.classLink "com/example/consueto/consueto/model/PairHashCodePinLaw" (13 : Nat) "com/example/consueto/consueto/model/Pair").before a0 Z = true := hw _ (List.mem_of_getElem? (i := 0) rfl)
theorem wd_2 {a0 : Array Value} {Z : State} (hw : ∀ d ∈ tables_1, d.before a0 Z = true) : (Jvm.Cond.initialized "com/example/consueto/consueto/model/Pair").before a0 Z = true := hw _ (List.mem_of_getElem? (i := 2) rfl)
theorem wd_3 {a0 : Array Value} {Z : State} (hw : ∀ d ∈ tables_1, d.before a0 Z = true) : (Jvm.Cond.methodLink "com/example/consueto/consueto/model/PairHashCodePinLaw" (15 : Nat) ({ cls := "com/example/consueto/consueto/model/Pair", name := "<init>", desc := "(II)V" } : Jvm.MethodName)).before a0 Z = true := hw _ (List.mem_of_getElem? (i := 3) rfl)
theorem wd_5 {a0 : Array Value} {Z : State} (hw : ∀ d ∈ tables_1, d.before a0 Z = true) : (Jvm.Cond.code ({ cls := "com/example/consueto/consueto/model/Pair", name := "<init>", desc := "(II)V" } : Jvm.MethodName) prog_41_method_1_code (3 : Nat) (Option.none : Option Jvm.ClassFile.FieldType)).before a0 Z = true := hw _ (List.mem_of_getElem? (i := 5) rfl)
theorem pd__II_V : parseMethodDescriptor "(II)V" = some ⟨[.int, .int], none⟩ := by decide +kernel
theorem wd_4 {a0 : Array Value} {Z : State} (hw : ∀ d ∈ tables_1, d.before a0 Z = true) : (Jvm.Cond.instanceMethod ({ cls := "com/example/consueto/consueto/model/Pair", name := "<init>", desc := "(II)V" } : Jvm.MethodName)).before a0 Z = true := hw _ (List.mem_of_getElem? (i := 4) rfl)
theorem wd_13 {a0 : Array Value} {Z : State} (hw : ∀ d ∈ tables_1, d.before a0 Z = true) : (Jvm.Cond.methodLink "com/example/consueto/consueto/model/PairHashCodePinLaw" (18 : Nat) ({ cls := "com/example/consueto/consueto/model/Pair", name := "hashCode", desc := "()I" } : Jvm.MethodName)).before a0 Z = true := hw _ (List.mem_of_getElem? (i := 13) rfl)
theorem wd_17 {a0 : Array Value} {Z : State} (hw : ∀ d ∈ tables_1, d.before a0 Z = true) : (Jvm.Cond.code ({ cls := "com/example/consueto/consueto/model/Pair", name := "hashCode", desc := "()I" } : Jvm.MethodName) prog_41_method_5_code (3 : Nat) (Option.some Jvm.ClassFile.FieldType.int)).before a0 Z = true := hw _ (List.mem_of_getElem? (i := 17) rfl)
theorem pd___I : parseMethodDescriptor "()I" = some ⟨[], some .int⟩ := by decide +kernel
theorem wd_16 {a0 : Array Value} {Z : State} (hw : ∀ d ∈ tables_1, d.before a0 Z = true) : (Jvm.Cond.selects "com/example/consueto/consueto/model/Pair" ({ cls := "com/example/consueto/consueto/model/Pair", name := "hashCode", desc := "()I" } : Jvm.MethodName) ({ cls := "com/example/consueto/consueto/model/Pair", name := "hashCode", desc := "()I" } : Jvm.MethodName)).before a0 Z = true := hw _ (List.mem_of_getElem? (i := 16) rfl)
theorem wd_14 {a0 : Array Value} {Z : State} (hw : ∀ d ∈ tables_1, d.before a0 Z = true) : (Jvm.Cond.declares ({ cls := "com/example/consueto/consueto/model/Pair", name := "hashCode", desc := "()I" } : Jvm.MethodName)).before a0 Z = true := hw _ (List.mem_of_getElem? (i := 14) rfl)
theorem wd_15 {a0 : Array Value} {Z : State} (hw : ∀ d ∈ tables_1, d.before a0 Z = true) : (Jvm.Cond.instanceMethod ({ cls := "com/example/consueto/consueto/model/Pair", name := "hashCode", desc := "()I" } : Jvm.MethodName)).before a0 Z = true := hw _ (List.mem_of_getElem? (i := 15) rfl)
theorem wd_20 {a0 : Array Value} {Z : State} (hw : ∀ d ∈ tables_1, d.before a0 Z = true) : (Jvm.Cond.methodLink "com/example/consueto/consueto/model/PairHashCodePinLaw" (22 : Nat) ({ cls := "com/example/consueto/consueto/model/PairHashCodePinLaw", name := "reference", desc := "(II)I" } : Jvm.MethodName)).before a0 Z = true := hw _ (List.mem_of_getElem? (i := 20) rfl)
theorem wd_23 {a0 : Array Value} {Z : State} (hw : ∀ d ∈ tables_1, d.before a0 Z = true) : (Jvm.Cond.code ({ cls := "com/example/consueto/consueto/model/PairHashCodePinLaw", name := "reference", desc := "(II)I" } : Jvm.MethodName) method_2_code (5 : Nat) (Option.some Jvm.ClassFile.FieldType.int)).before a0 Z = true := hw _ (List.mem_of_getElem? (i := 23) rfl)
theorem wd_22 {a0 : Array Value} {Z : State} (hw : ∀ d ∈ tables_1, d.before a0 Z = true) : (Jvm.Cond.initialized "com/example/consueto/consueto/model/PairHashCodePinLaw").before a0 Z = true := hw _ (List.mem_of_getElem? (i := 22) rfl)
theorem pd__II_I : parseMethodDescriptor "(II)I" = some ⟨[.int, .int], some .int⟩ := by decide +kernel
theorem wd_21 {a0 : Array Value} {Z : State} (hw : ∀ d ∈ tables_1, d.before a0 Z = true) : (Jvm.Cond.static ({ cls := "com/example/consueto/consueto/model/PairHashCodePinLaw", name := "reference", desc := "(II)I" } : Jvm.MethodName)).before a0 Z = true := hw _ (List.mem_of_getElem? (i := 21) rfl)
theorem ef_0 (m : MethodId) (x0 : Int32) (x1 : Int32) : entryFrame m #[(.int x0), (.int x1)] maxLocals = mkF m 0 #[.val (.int x0), .val (.int x1), .unset, .unset, .unset, .unset] [] := by first | (simp [entryFrame, mkF, argsToLocals, Value.category, maxLocals]; done) | rfl
def Q_rm0 (Z : State) (p1 : Int32) (p2 : Int32) (h0 : Heap) (n0 : Nat) (v : Option Value) (h : Heap) (L : List Loc) : Prop := v = some (.int (1 : Int32)) ∧ Fr n0 L ∧ True
set_option maxRecDepth 65536 in
set_option maxHeartbeats 40000000 in
theorem rm0 (l : Launch) (Z : State) (a0 : Array Value) (hw : ∀ d ∈ tables_1, d.before a0 Z = true) (ws : List Jvm.Cond) (p1 : Int32) (p2 : Int32) (h0 : Heap) (n0 : Nat) (Z0 : n0 ≤ h0.size) :
    MetFree l x (head1 (Jvm.Cond.code x code maxLocals ret :: ws) room_1) (fun a U => a = #[(.int p1), (.int p2)] ∧ Z.Warmed39 U.vm ∧ U.heap = h0) (fun _ _ _ _ _ => True) (fun _ U o U' => ∃ v L, o = .returned v ∧ Q_rm0 Z p1 p2 h0 n0 v U'.heap L ∧ FrameEnd U o U' L room_1.cells room_1.slots) := by
  refine MetFree.of_bodySF (plainFor_of_name pn_com_example_consueto_consueto_model_PairHashCodePinLaw) hisR ?_
  intro p e s m args below meth c s₁ Bd hml0 hP hK
  obtain ⟨rfl, hZ, hh⟩ := hP
  have hx := Bd.exec
  have hby := Bd.bytes
  have hml : c.maxLocals = 6 := hml0
  have hown : s.vm.findClass "com/example/consueto/consueto/model/PairHashCodePinLaw" = some m.cls := findClass_of_methodNamed Bd.named
  have hnm := (name_of_methodNamed Bd.named Bd.method).1
  have X0 : Stand p l e room_1 s m #[(.int p1), (.int p2)] below meth c s₁ [] 0 0 := Stand.of_body Bd
  have e0 : s₁.heap = h0 := by rw [← hh, Bd.state]; rfl
  have N0 := Fr.nil n0
  have pre0 : ∀ t, Steps p.tables e below (s₁.setTop (mkF m 0 #[.val (.int p1), .val (.int p2), .unset, .unset, .unset, .unset] [])) t → Steps p.tables e below (s₁.setTop (entryFrame m #[(.int p1), (.int p2)] maxLocals)) t := fun t k => castTop (ef_0 m p1 p2) k
  obtain ⟨T10, h10, X10, e10, E10, A10, D10, -, st10⟩ := newO X0 hx hZ hown (wd_0 hw) (wd_1 hw) (wd_2 hw) e0 (g := (mkF m 0 #[.val (.int p1), .val (.int p2), .unset, .unset, .unset, .unset] [])) rfl (hb hby at_0) (by decide) (by decide)
  obtain ⟨b10, g10⟩ : ∃ z, z = h0.size := ⟨_, rfl⟩
  rw [← g10] at A10 D10 st10
  have g_b10 : n0 ≤ b10 := Nat.le_trans Z0 (Nat.le_of_eq g10.symm)
  have Z11 : n0 ≤ h10.size := Nat.le_trans Z0 E10.1
  have F_first_b10 : Fld Z h10 b10 "com/example/consueto/consueto/model/Pair" "first" "I" (.int (0 : Int32)) := D10 (Or.inr (wd_10 hw)) (ty := .int) (by decide)
  have F_second_b10 : Fld Z h10 b10 "com/example/consueto/consueto/model/Pair" "second" "I" (.int (0 : Int32)) := D10 (Or.inr (wd_12 hw)) (ty := .int) (by decide)
  obtain ⟨_, _, ⟨T12, L12, k12, n12⟩, -, X12, ⟨Lc12, hQ12, l12, y12, z12⟩, st12⟩ := X10.specialBack hx (y := (⟨"com/example/consueto/consueto/model/Pair", "<init>", "(II)V"⟩ : MethodName)) rfl hown (mvT hZ (wd_3 hw)) (mvT hZ (wd_4 hw)) (mvT hZ (wd_5 hw)) (by decide) (backOf (W := 1) (rm1 l Z a0 hw [] b10 p1 p2 (.int (0 : Int32)) (.int (0 : Int32)) h10 n0 Z11 F_first_b10 F_second_b10 A10 g_b10) hZ (wd_5 hw) (wd_2 hw) (by decide) (by decide)) (g := (mkF m 6 #[.val (.int p1), .val (.int p2), .unset, .unset, .unset, .unset] [(.int p2), (.int p1), (.ref b10), (.ref b10)])) rfl (by rw [hml]; rfl) (Steps.refl _) (a := b10) (argsL := [(.int p1), (.int p2)]) (rest := [(.ref b10)]) (lenOf pd__II_V rfl) rfl (by show 2 * 0 + _ ≤ _; exact Nat.le_of_eq rfl) (hb hby at_6) (fun _ _ => ⟨rfl, e10, (by decide : 1 + 0 ≤ _), (by decide : 2 + 0 ≤ _)⟩)
  dsimp only [Pt.U, Pt.locs, Pt.cells, Pt.slots] at X12 l12 y12 z12 st12 hQ12
  subst l12 y12 z12
  obtain ⟨rfl, N12q, K12q, g12_0, g12_1, g12_2⟩ := hQ12
  have N12 := Fr.app N0 N12q
  have Z13 : n0 ≤ T12.heap.size := Nat.le_trans Z11 K12q.1
  obtain ⟨T14, h14, X14, e14, E14, A14, D14, -, st14⟩ := newO X12 hx hZ hown (wd_0 hw) (wd_1 hw) (wd_2 hw) rfl (g := (mkF m 10 #[.val (.int p1), .val (.int p2), .val (.ref b10), .unset, .unset, .unset] [])) rfl (hb hby at_10) (by decide) (by decide)
  obtain ⟨b14, g14⟩ : ∃ z, z = T12.heap.size := ⟨_, rfl⟩
  rw [← g14] at A14 D14 st14
  have g_b14 : n0 ≤ b14 := Nat.le_trans Z13 (Nat.le_of_eq g14.symm)
  have ne_b10_b14 : b10 ≠ b14 := Nat.ne_of_lt (Nat.lt_of_lt_of_le (g12_0).lt (Nat.le_of_eq g14.symm))
  have Z15 : n0 ≤ h14.size := Nat.le_trans Z13 E14.1
  have F_first_b14 : Fld Z h14 b14 "com/example/consueto/consueto/model/Pair" "first" "I" (.int (0 : Int32)) := D14 (Or.inr (wd_10 hw)) (ty := .int) (by decide)
  have F_second_b14 : Fld Z h14 b14 "com/example/consueto/consueto/model/Pair" "second" "I" (.int (0 : Int32)) := D14 (Or.inr (wd_12 hw)) (ty := .int) (by decide)
  obtain ⟨_, _, ⟨T16, L16, k16, n16⟩, -, X16, ⟨Lc16, hQ16, l16, y16, z16⟩, st16⟩ := X14.specialBack hx (y := (⟨"com/example/consueto/consueto/model/Pair", "<init>", "(II)V"⟩ : MethodName)) rfl hown (mvT hZ (wd_3 hw)) (mvT hZ (wd_4 hw)) (mvT hZ (wd_5 hw)) (by decide) (backOf (W := 1) (rm1 l Z a0 hw [] b14 p1 p2 (.int (0 : Int32)) (.int (0 : Int32)) h14 n0 Z15 F_first_b14 F_second_b14 A14 g_b14) hZ (wd_5 hw) (wd_2 hw) (by decide) (by decide)) (g := (mkF m 16 #[.val (.int p1), .val (.int p2), .val (.ref b10), .unset, .unset, .unset] [(.int p2), (.int p1), (.ref b14), (.ref b14)])) rfl (by rw [hml]; rfl) (Steps.refl _) (a := b14) (argsL := [(.int p1), (.int p2)]) (rest := [(.ref b14)]) (lenOf pd__II_V rfl) rfl (by show 2 * 0 + _ ≤ _; exact Nat.le_of_eq rfl) (hb hby at_16) (fun _ _ => ⟨rfl, e14, (by decide : 2 + 0 ≤ _), (by decide : 4 + 0 ≤ _)⟩)
  dsimp only [Pt.U, Pt.locs, Pt.cells, Pt.slots] at X16 l16 y16 z16 st16 hQ16
  subst l16 y16 z16
  obtain ⟨rfl, N16q, K16q, g16_0, g16_1, g16_2⟩ := hQ16
  have N16 := Fr.app N12 N16q
  have Z17 : n0 ≤ T16.heap.size := Nat.le_trans Z15 K16q.1
  obtain ⟨cq18, kq18, q18a, q18b, q18c⟩ := isOf hZ rfl (((g12_0.ext E14).keep K16q))
  obtain ⟨_, _, ⟨T18, L18, k18, n18⟩, -, X18, ⟨Lc18, hQ18, l18, y18, z18⟩, st18⟩ := X16.virtualBack hx (y := (⟨"com/example/consueto/consueto/model/Pair", "hashCode", "()I"⟩ : MethodName)) (z := (⟨"com/example/consueto/consueto/model/Pair", "hashCode", "()I"⟩ : MethodName)) hown (mvT hZ (wd_13 hw)) (mvT hZ (wd_14 hw)) (notFace_of_selects (args := #[]) (mvT hZ (wd_16 hw))) (mvT hZ (wd_16 hw)) (mvT hZ (wd_15 hw)) (by decide) (backOf (W := 0) (rm3 l Z a0 hw [] b10 p1 p2 T16.heap n0 Z17 ((g12_1.ext E14).keep K16q (ninS ne_b10_b14 nin0)) ((g12_2.ext E14).keep K16q (ninS ne_b10_b14 nin0))) hZ (wd_17 hw) (wd_2 hw) (by decide) (by decide)) q18a q18c (g := (mkF m 21 #[.val (.int p1), .val (.int p2), .val (.ref b10), .val (.ref b14), .unset, .unset] [(.ref b10)])) rfl (by rw [hml]; rfl) (Steps.refl _) (argsL := []) (rest := []) (lenOf pd___I rfl) rfl (by show 2 * 0 + _ ≤ _; exact Nat.le_of_eq rfl) (hb hby at_21) (fun _ _ => ⟨rfl, rfl, (by decide : 2 + 0 ≤ _), (by decide : 4 + 0 ≤ _)⟩)
  dsimp only [Pt.U, Pt.locs, Pt.cells, Pt.slots] at X18 l18 y18 z18 st18 hQ18
  subst l18 y18 z18
  obtain ⟨rfl, N18q, e18⟩ := hQ18
  have N18 := Fr.app N16 N18q
  obtain ⟨cq19, kq19, q19a, q19b, q19c⟩ := isOf hZ e18 (g16_0)
  obtain ⟨_, _, ⟨T19, L19, k19, n19⟩, -, X19, ⟨Lc19, hQ19, l19, y19, z19⟩, st19⟩ := X18.virtualBack hx (y := (⟨"com/example/consueto/consueto/model/Pair", "hashCode", "()I"⟩ : MethodName)) (z := (⟨"com/example/consueto/consueto/model/Pair", "hashCode", "()I"⟩ : MethodName)) hown (mvT hZ (wd_13 hw)) (mvT hZ (wd_14 hw)) (notFace_of_selects (args := #[]) (mvT hZ (wd_16 hw))) (mvT hZ (wd_16 hw)) (mvT hZ (wd_15 hw)) (by decide) (backOf (W := 0) (rm3 l Z a0 hw [] b14 p1 p2 T16.heap n0 Z17 g16_1 g16_2) hZ (wd_17 hw) (wd_2 hw) (by decide) (by decide)) q19a q19c (g := (mkF m 27 #[.val (.int p1), .val (.int p2), .val (.ref b10), .val (.ref b14), .val (.int (own_hash p1 p2)), .unset] [(.ref b14)])) rfl (by rw [hml]; rfl) (Steps.refl _) (argsL := []) (rest := []) (lenOf pd___I rfl) rfl (by show 2 * 0 + _ ≤ _; exact Nat.le_of_eq rfl) (hb hby at_27) (fun _ _ => ⟨rfl, e18, (by decide : 2 + 0 ≤ _), (by decide : 4 + 0 ≤ _)⟩)
  dsimp only [Pt.U, Pt.locs, Pt.cells, Pt.slots] at X19 l19 y19 z19 st19 hQ19
  subst l19 y19 z19
  obtain ⟨rfl, N19q, e19⟩ := hQ19
  have N19 := Fr.app N18 N19q
  obtain ⟨_, _, ⟨T20, L20, k20, n20⟩, -, X20, ⟨Lc20, hQ20, l20, y20, z20⟩, st20⟩ := Jvm.LawKit.callS X19 hx (y := (⟨"com/example/consueto/consueto/model/PairHashCodePinLaw", "reference", "(II)I"⟩ : MethodName)) hown (mvT hZ (wd_20 hw)) (mvT hZ (wd_21 hw)) (mvT hZ (wd_22 hw)) (mvT hZ (wd_23 hw)) (by decide) (backOf (W := 1) (rm4 l Z a0 hw [] p1 p2 T16.heap n0 Z17) hZ (wd_23 hw) (wd_22 hw) (by decide) (by decide)) (g := (mkF m 43 #[.val (.int p1), .val (.int p2), .val (.ref b10), .val (.ref b14), .val (.int (own_hash p1 p2)), .val (.int (own_hash p1 p2))] [(.int p2), (.int p1), (.int (own_hash p1 p2))])) rfl (by rw [hml]; rfl) (argsL := [(.int p1), (.int p2)]) (rest := [(.int (own_hash p1 p2))]) (lenOf pd__II_I rfl) rfl (by show 2 * 0 + _ ≤ _; exact Nat.le_of_eq rfl) (hb hby at_43) (fun _ _ => ⟨rfl, e19, (by decide : 2 + 0 ≤ _), (by decide : 4 + 0 ≤ _)⟩)
  dsimp only [Pt.U, Pt.locs, Pt.cells, Pt.slots] at X20 l20 y20 z20 st20 hQ20
  subst l20 y20 z20
  obtain ⟨rfl, N20q, e20⟩ := hQ20
  have N20 := Fr.app N19 N20q
  obtain ⟨fs, hr, hrun, hended, hW, hsame⟩ := X20.leave (v := some (.int (1 : Int32))) (fun h => by rw [Bd.returns] at h; cases h)
  refine ⟨_, _, pre0 _ ?_, hrun, hended, _, _, rfl, ?_, ⟨_, rfl⟩, hW, hsame.mono (by decide) (by decide)⟩
  · show Steps p.tables e below (s₁.setTop (mkF m 0 #[.val (.int p1), .val (.int p2), .unset, .unset, .unset, .unset] [])) _
    refine st10 _ ?_
    refine XS.dup X10.here hx rfl (hb hby at_3) rfl rfl ?_
    refine XS.iloadN X10.here hx rfl (hb hby at_4) rfl ?_
    refine XS.iloadN X10.here hx rfl (hb hby at_5) rfl ?_
    show Steps p.tables e below (T10.setTop (mkF m 6 #[.val (.int p1), .val (.int p2), .unset, .unset, .unset, .unset] [(.int p2), (.int p1), (.ref b10), (.ref b10)])) _
    refine st12.trans ?_
    refine XS.astoreN X12.here hx rfl (hb hby at_9) rfl rfl (l' := #[.val (.int p1), .val (.int p2), .val (.ref b10), .unset, .unset, .unset]) rfl ?_
    refine st14 _ ?_
    refine XS.dup X14.here hx rfl (hb hby at_13) rfl rfl ?_
    show Steps p.tables e below (T14.setTop (mkF m 14 #[.val (.int p1), .val (.int p2), .val (.ref b10), .unset, .unset, .unset] [(.ref b14), (.ref b14)])) _
    refine XS.iloadN X14.here hx rfl (hb hby at_14) rfl ?_
    refine XS.iloadN X14.here hx rfl (hb hby at_15) rfl ?_
    refine st16.trans ?_
    refine XS.astoreN X16.here hx rfl (hb hby at_19) rfl rfl (l' := #[.val (.int p1), .val (.int p2), .val (.ref b10), .val (.ref b14), .unset, .unset]) rfl ?_
    show Steps p.tables e below (T16.setTop (mkF m 20 #[.val (.int p1), .val (.int p2), .val (.ref b10), .val (.ref b14), .unset, .unset] [])) _
    refine XS.aloadN X16.here hx rfl (hb hby at_20) rfl rfl ?_
    refine st18.trans ?_
    refine XS.istore X18.here hx rfl (hb hby at_24) rfl (l' := #[.val (.int p1), .val (.int p2), .val (.ref b10), .val (.ref b14), .val (.int (own_hash p1 p2)), .unset]) rfl ?_
    refine XS.aloadN X18.here hx rfl (hb hby at_26) rfl rfl ?_
    show Steps p.tables e below (T18.setTop (mkF m 27 #[.val (.int p1), .val (.int p2), .val (.ref b10), .val (.ref b14), .val (.int (own_hash p1 p2)), .unset] [(.ref b14)])) _
    refine st19.trans ?_
    refine XS.istore X19.here hx rfl (hb hby at_30) rfl (l' := #[.val (.int p1), .val (.int p2), .val (.ref b10), .val (.ref b14), .val (.int (own_hash p1 p2)), .val (.int (own_hash p1 p2))]) rfl ?_
    refine XS.iload X19.here hx rfl (hb hby at_32) rfl ?_
    refine XS.iload X19.here hx rfl (hb hby at_34) rfl ?_
    show Steps p.tables e below (T19.setTop (mkF m 36 #[.val (.int p1), .val (.int p2), .val (.ref b10), .val (.ref b14), .val (.int (own_hash p1 p2)), .val (.int (own_hash p1 p2))] [(.int (own_hash p1 p2)), (.int (own_hash p1 p2))])) _
    refine XS.icmpNo X19.here hx rfl (hb hby at_36) rfl (teq (rfl : (own_hash p1 p2) = (own_hash p1 p2))).2 ?_
    refine XS.iload X19.here hx rfl (hb hby at_39) rfl ?_
    refine XS.iloadN X19.here hx rfl (hb hby at_41) rfl ?_
    refine XS.iloadN X19.here hx rfl (hb hby at_42) rfl ?_
    show Steps p.tables e below (T19.setTop (mkF m 43 #[.val (.int p1), .val (.int p2), .val (.ref b10), .val (.ref b14), .val (.int (own_hash p1 p2)), .val (.int (own_hash p1 p2))] [(.int p2), (.int p1), (.int (own_hash p1 p2))])) _
    refine st20 _ ?_
    refine XS.icmpNo X20.here hx rfl (hb hby at_46) rfl (teq (own_hash_eq p1 p2)).2 ?_
    refine XS.iconst X20.here hx rfl (hb hby at_49) ?_
    refine XS.goto X20.here hx rfl (pc0 := 50) (pc' := 54) rfl (hb hby at_50) (by decide) (by decide) ?_
    show Steps p.tables e below (T20.setTop (mkF m 54 #[.val (.int p1), .val (.int p2), .val (.ref b10), .val (.ref b14), .val (.int (own_hash p1 p2)), .val (.int (own_hash p1 p2))] [(.int (1 : Int32))])) _
    exact retN X20 hx (t := .boolean) Bd.returns (by simp) (hb hby at_54) hr
  · show Q_rm0 Z p1 p2 h0 n0 _ T20.heap _
    rw [e20]
    exact ⟨rfl, N20, trivial⟩
set_option maxRecDepth 65536 in
set_option maxHeartbeats 40000000 in
theorem comes_1 {Post : Tables → Env → Array Value → State → Outcome → State → Prop} (hpost : ∀ tb e args s v u, (limb_1_1.after args s (.returned v) u = true ∧ limb_1_2.after args s (.returned v) u = true ∧ True) → FrameEnd s (.returned v) u (Jvm.fieldLocs frame_1_writes args s ++ Jvm.arrayLocs frame_1_arrays args s ++ Jvm.staticLocs frame_1_statics s) 16 128 → Post tb e args s (.returned v) u) :
    ArmFor flags0 classFile x code maxLocals ret World_1 tables_1 room_1 Calls_1 rest_1 Pre_1 Post := by
  intro l hfl _ _ p e ha hc hk s m args below hf hA hF happ hP
  obtain ⟨hcalls, hrest, hpre⟩ := hP
  obtain ⟨-, -, -, hnamed, -, -, -, hat⟩ := (Spec.applies_iff hf).mp happ
  obtain ⟨hg, hn⟩ := and_e (Cond.before_iff.mp (show (Jvm.Cond.and given_1 narrow_1).before args s = true from hpre))
  obtain ⟨g21, g22⟩ := and_e hg
  obtain ⟨g23, g24⟩ := and_e g22
  obtain ⟨w0, w1, rfl⟩ : ∃ w0 w1 : Value, args = #[w0, w1] := by
    have hs : args.size = 2 := by simpa [Cond.value, given_1] using g21
    obtain ⟨L⟩ := args
    match L, hs with
    | [w0, w1], _ => exact ⟨w0, w1, rfl⟩
  have hw := fun d (hd : d ∈ tables_1) => atoms_spec (ws := Jvm.Cond.code x code maxLocals ret :: tables_1) hat d (List.mem_cons_of_mem _ hd)
  have hfit : Fit s := fun {y c} hc i hi => by
    obtain ⟨ha, rfl⟩ := Array.getElem?_eq_some_iff.mp hc
    have q := List.all_eq_true.mp ((Array.all_eq_true_iff_forall_mem.mp hF) _ (Array.getElem_mem ha)) i (List.mem_range.mpr hi)
    simpa [Array.getElem?_eq_getElem hi] using q
  obtain ⟨i0, ei0⟩ := is_v g23
  obtain rfl : w0 = (.int i0) := Option.some.inj ei0
  obtain ⟨i1, ei1⟩ := is_v g24
  obtain rfl : w1 = (.int i1) := Option.some.inj ei1
  obtain ⟨n, o, h1, h2, h3, _, L, rfl, ⟨rfl, N, -⟩, hq⟩ := rm0 l s _ hw tables_1 i0 i1 s.heap s.heap.size (Nat.le_refl _) p e ha hc hk s m _ below hf ((Spec.applies_iff_loose hf).mp happ).1 ⟨rfl, State.Warmed39.refl s, rfl⟩ trivial
  refine ⟨n, _, h1, h2, h3, hpost _ _ _ _ _ _ ⟨Cond.after_iff.mpr rfl, Cond.after_iff.mpr (eq_i res_at (Term.int_eval (1)) rfl), trivial⟩ ⟨hq.1, hq.2.1, (hq.2.2.sift fun y hy => Or.inr (N y hy)).mono (by decide) (by decide)⟩⟩
theorem main_1_1 : Claimed_1_1 := comes_1 fun _ _ _ _ _ _ h hF => ⟨h.1, hF⟩
theorem main_1_2 : Claimed_1_2 := comes_1 fun _ _ _ _ _ _ h hF => ⟨h.2.1, hF⟩
end Jvm.Pilot.@@N@@
namespace Jvm.Pilot.@@N@@
open Jvm Jvm.ClassFile Sem Op Lib Jvm.Free Jvm.Stand Jvm.Pilot.@@N@@.Jvm.D
/-! MADE BY PROGRAM (witnessworld.py) out of the Statement's table words and the real class files: 9 classes; the members and pool entries that the words name. The judged class is class 1, her method 2. -/
namespace start1
open Jvm.ClassFile
def u (s : String) : CpInfo := .utf8 (stringToUtf16 s)
/-- a pool by its gaps: so many unusable entries, then the entry; so many at the end -/
def gap : Nat → List CpInfo → List CpInfo
  | 0, r => r
  | n + 1, r => .unusable :: gap n r
def poolList (es : List (Nat × CpInfo)) (last : Nat) : List CpInfo := es.foldr (fun e r => gap e.1 (e.2 :: r)) (gap last [])
def pool (es : List (Nat × CpInfo)) (last : Nat) : Array CpInfo := ⟨poolList es last⟩
def fileOf (pool : Array CpInfo) (this : Nat) (attrs : Array Attribute := #[]) (ms : Array MethodInfo := #[]) (fl : Nat := 33) (sup : Nat := 0) (ifs : Array Nat := #[]) (fds : Array FieldInfo := #[]) : ClassFile where
  minorVersion := 0
  majorVersion := 65
  constantPool := pool
  accessFlags := fl
  thisClass := this
  superClass := sup
  interfaces := ifs
  fields := fds
  methods := ms
  attributes := attrs
def plain (name : String) (sup : Option ClassId) : Class where
  name := name
  kind := .ordinary
  loader := none
  accessFlags := 33
  super := sup
  interfaces := #[]
  cf := none
  fields := #[]
  methods := #[]
  instanceTypes := #[]
  staticTypes := #[]
  resolved := #[]
  callSites := []
  init := .initialized
  statics := none
  mirror := none

def pool0 : Array CpInfo := pool [(5, u "<init>"), (0, u "()V"), (1, .class_ 10), (1, u "java/lang/Object")] 113

def k0c0 : Code := { maxStack := 0, maxLocals := 1, code := object_method_1_code, exceptionTable := #[], attributes := #[] }
def k0m0 : Method := { name := "<init>", desc := "()V", sig := { parameters := [], returnType := none }, accessFlags := 1, code := some k0c0 }
/-- java/lang/Object -/
def k0 : Class := { plain "java/lang/Object" none with
  accessFlags := 33
  interfaces := #[]
  cf := some (fileOf pool0 8 #[] #[{ accessFlags := 1, nameIndex := 5, descriptorIndex := 6, attributes := #[] }] 33 0 #[] #[])
  fields := #[]
  methods := #[k0m0]
  instanceTypes := #[]
  staticTypes := #[]
  resolved := Array.replicate 124 none
  statics := none }

def pool1 : Array CpInfo := pool [(2, .class_ 4), (1, u "java/lang/Object"), (0, u "<init>"), (0, u "()V"), (0, .long 4294967295), (1, .long 2135587861), (1, .integer 2135587861), (0, .integer 2654435769), (0, .class_ 14), (0, u "com/example/consueto/consueto/model/Pair"), (0, .methodref 13 16), (0, .nameAndType 5 17), (0, u "(II)V"), (0, .methodref 13 19), (0, .nameAndType 20 21), (0, u "hashCode"), (0, u "()I"), (0, .methodref 23 24), (0, .class_ 25), (0, .nameAndType 26 27), (0, u "com/example/consueto/consueto/model/PairHashCodePinLaw"), (0, u "reference"), (0, u "(II)I"), (2, u "law"), (0, u "(II)Z")] 3

def k1m0 : Method := { name := "<init>", desc := "()V", sig := { parameters := [], returnType := none }, accessFlags := 1, code := none }
def k1c1 : Code := { maxStack := 4, maxLocals := 5, code := method_2_code, exceptionTable := #[], attributes := #[] }
def k1m1 : Method := { name := "reference", desc := "(II)I", sig := { parameters := [.int, .int], returnType := some .int }, accessFlags := 10, code := some k1c1 }
def k1c2 : Code := { maxStack := 4, maxLocals := 6, code := code, exceptionTable := #[], attributes := #[] }
def k1m2 : Method := { name := "law", desc := "(II)Z", sig := { parameters := [.int, .int], returnType := some .boolean }, accessFlags := 9, code := some k1c2 }
/-- com/example/consueto/consueto/model/PairHashCodePinLaw -/
def k1 : Class := { plain "com/example/consueto/consueto/model/PairHashCodePinLaw" (some 0) with
  accessFlags := 49
  interfaces := #[]
  cf := some (fileOf pool1 23 #[] #[{ accessFlags := 1, nameIndex := 5, descriptorIndex := 6, attributes := #[] }, { accessFlags := 10, nameIndex := 26, descriptorIndex := 27, attributes := #[] }, { accessFlags := 9, nameIndex := 30, descriptorIndex := 31, attributes := #[] }] 49 2 #[] #[])
  fields := #[]
  methods := #[k1m0, k1m1, k1m2]
  instanceTypes := #[]
  staticTypes := #[]
  resolved := Array.replicate 35 none
  statics := none }

def pool2 : Array CpInfo := pool [(1, .methodref 2 3), (0, .class_ 4), (0, .nameAndType 5 6), (0, u "java/lang/Object"), (0, u "<init>"), (0, u "()V"), (0, .fieldref 8 9), (0, .class_ 10), (0, .nameAndType 11 12), (0, u "com/example/consueto/consueto/model/Pair"), (0, u "first"), (0, u "I"), (0, .fieldref 8 14), (0, .nameAndType 15 12), (0, u "second"), (0, .long 4294967295), (1, .long 11400714819323198485), (5, u "(II)V"), (2, u "()I"), (3, u "hashCode")] 19

def k2c0 : Code := { maxStack := 2, maxLocals := 3, code := prog_41_method_1_code, exceptionTable := #[], attributes := #[] }
def k2m0 : Method := { name := "<init>", desc := "(II)V", sig := { parameters := [.int, .int], returnType := none }, accessFlags := 1, code := some k2c0 }
def k2c1 : Code := { maxStack := 6, maxLocals := 3, code := prog_41_method_5_code, exceptionTable := #[], attributes := #[] }
def k2m1 : Method := { name := "hashCode", desc := "()I", sig := { parameters := [], returnType := some .int }, accessFlags := 1, code := some k2c1 }
/-- com/example/consueto/consueto/model/Pair -/
def k2 : Class := { plain "com/example/consueto/consueto/model/Pair" (some 0) with
  accessFlags := 49
  interfaces := #[]
  cf := some (fileOf pool2 8 #[] #[{ accessFlags := 1, nameIndex := 5, descriptorIndex := 24, attributes := #[] }, { accessFlags := 1, nameIndex := 31, descriptorIndex := 27, attributes := #[] }] 49 2 #[] #[{ accessFlags := 18, nameIndex := 11, descriptorIndex := 12, attributes := #[] }, { accessFlags := 18, nameIndex := 15, descriptorIndex := 12, attributes := #[] }])
  fields := #[{ name := "first", type := .int, accessFlags := 18, slot := 0, constantValue := 0 }, { name := "second", type := .int, accessFlags := 18, slot := 1, constantValue := 0 }]
  methods := #[k2m0, k2m1]
  instanceTypes := #[.int, .int]
  staticTypes := #[]
  resolved := Array.replicate 51 none
  statics := none }

def pool3 : Array CpInfo := pool [(1, u "java/lang/Cloneable"), (0, .class_ 1), (0, u "java/lang/Object"), (0, .class_ 3)] 3

/-- java/lang/Cloneable -/
def k3 : Class := { plain "java/lang/Cloneable" (some 0) with
  accessFlags := 1537
  interfaces := #[]
  cf := some (fileOf pool3 2 #[] #[] 1537 4 #[] #[])
  fields := #[]
  methods := #[]
  instanceTypes := #[]
  staticTypes := #[]
  resolved := Array.replicate 8 none
  statics := none }

def pool4 : Array CpInfo := pool [(1, u "java/io/Serializable"), (0, .class_ 1), (0, u "java/lang/Object"), (0, .class_ 3)] 3

/-- java/io/Serializable -/
def k4 : Class := { plain "java/io/Serializable" (some 0) with
  accessFlags := 1537
  interfaces := #[]
  cf := some (fileOf pool4 2 #[] #[] 1537 4 #[] #[])
  fields := #[]
  methods := #[]
  instanceTypes := #[]
  staticTypes := #[]
  resolved := Array.replicate 8 none
  statics := none }

/-- the primitive byte -/
def k5 : Class := { plain "byte" none with kind := .primitive 'B', accessFlags := 0x411 }
/-- [B -/
def k6 : Class := { plain "[B" (some 0) with kind := .array 5 .byte, interfaces := #[3, 4], accessFlags := 1041 }

/-- the primitive int -/
def k7 : Class := { plain "int" none with kind := .primitive 'I', accessFlags := 0x411 }
/-- [I -/
def k8 : Class := { plain "[I" (some 0) with kind := .array 7 .int, interfaces := #[3, 4], accessFlags := 1041 }

def heap : Heap := #[]
def classes : Array Class := #[k0, k1, k2, k3, k4, k5, k6, k7, k8]
def interned : List (Array UInt16 × Addr) := []
def slotsUsed : Nat := 0
def theMethod : MethodId := ⟨1, 2⟩
def args0 : Array Value := #[.int 5, .int 7]
def aboutOver (below : List Frame) : State where
  vm := { classes := classes, interned := interned.toArray }
  heap := heap
  slotsUsed := slotsUsed
  threads := #[{ frames := .invoking theMethod args0 :: below }]
def below0 : List Frame := [.native { method := ⟨0, 0⟩, args := #[] }]
def about1 : State := aboutOver below0
def p0 : Program := .bare "" "" ""
def e0 : Env := launch0.env 0 0 0
theorem w_frames : about1.frames = Frame.invoking theMethod args0 :: below0 := rfl
set_option maxRecDepth 65536 in
theorem w_args : argsFit about1.vm theMethod args0 = true := by decide +kernel
set_option maxRecDepth 65536 in
theorem w_heap : heapFits about1 = true := by decide +kernel
set_option maxRecDepth 65536 in
theorem w_runnable : about1.curStatus? = some .runnable := by decide +kernel
set_option maxRecDepth 65536 in
theorem w_alone : about1.alone = true := by decide +kernel
set_option maxRecDepth 65536 in
theorem w_named : about1.methodNamed? x = some theMethod := by decide +kernel
set_option maxRecDepth 65536 in
theorem w_hears : about1.hears theMethod below0 = true := by decide +kernel
set_option maxRecDepth 65536 in
theorem w_ripe : about1.ripe theMethod args0 below0 = true := by decide +kernel
theorem w_running : about1.status = .running := rfl
set_option maxRecDepth 65536 in
theorem w_room : about1.hasRoom e0.platform room_1 = true :=
  launch0.hasRoom_least _ room_1 (by decide +kernel) (by decide +kernel) (by decide +kernel) (by decide +kernel) (by decide +kernel) (by decide +kernel)
theorem allAtoms_all (ts : List Jvm.Cond) (a : Array Jvm.Value) (st : Jvm.State) : (allAtoms ts).before a st = ts.all (fun c => c.before a st) := by
  induction ts with
  | nil => rfl
  | cons c t ih =>
    show (Jvm.Cond.and c (allAtoms t)).before a st = _
    rw [Jvm.Cond.before_and, ih, List.all_cons]
def words1 : List Jvm.Cond := Jvm.Cond.code x code maxLocals ret :: tables_1
/-- a 'code' word, met by the world's own term for the bytes: nothing is compared byte by byte -/
theorem code_word {y : MethodName} {bytes : ByteArray} {mx : Nat} {rt : Option FieldType} {a : Array Value} {s : State} {m : MethodId} {meth : Method} {c : Code} (h1 : s.methodNamed? y = some m) (h2 : s.vm.method? m = some meth) (h3 : meth.code = some c) (h4 : c.code = bytes)
    (h5 : (c.maxLocals == mx && c.exceptionTable.isEmpty && decide (c.maxStack ≤ mostOperands) && decide (meth.sig.returnType = rt) && !meth.locks && decide (parseMethodDescriptor y.desc = some meth.sig)) = true) : (Jvm.Cond.code y bytes mx rt).before a s = true := by
  simp only [Bool.and_eq_true, beq_iff_eq, Bool.not_eq_true', decide_eq_true_eq] at h5
  obtain ⟨⟨⟨⟨⟨g1, g2⟩, g3⟩, g4⟩, g5⟩, g6⟩ := h5
  simp [Cond.before, Cond.holds, Cond.value, h1, h2, h3, h4, g1, g2, g3, g4, g5, g6]
def isCode : Jvm.Cond → Bool
  | .code _ _ _ _ => true
  | _ => false
theorem all_split {L : List Jvm.Cond} {P : Jvm.Cond → Bool} (h1 : L.all (fun c => isCode c || P c) = true) (h2 : ∀ c ∈ L.filter isCode, P c = true) : L.all P = true := by
  refine List.all_eq_true.mpr fun c hc => ?_
  have h := List.all_eq_true.mp h1 c hc
  rcases Bool.eq_false_or_eq_true (isCode c) with hi | hi
  · exact h2 c (List.mem_filter.mpr ⟨hc, hi⟩)
  · simpa [hi] using h
set_option maxRecDepth 65536 in
theorem w_c0 : (Jvm.Cond.code x code maxLocals ret).before args0 about1 = true := code_word (m := ⟨1, 2⟩) (meth := k1m2) (c := k1c2) (by decide +kernel) rfl rfl rfl (by decide +kernel)
set_option maxRecDepth 65536 in
theorem w_c1 : (Jvm.Cond.code ({ cls := "com/example/consueto/consueto/model/Pair", name := "<init>", desc := "(II)V" } : Jvm.MethodName) prog_41_method_1_code (3 : Nat) (Option.none : Option Jvm.ClassFile.FieldType)).before args0 about1 = true := code_word (m := ⟨2, 0⟩) (meth := k2m0) (c := k2c0) (by decide +kernel) rfl rfl rfl (by decide +kernel)
set_option maxRecDepth 65536 in
theorem w_c2 : (Jvm.Cond.code ({ cls := "java/lang/Object", name := "<init>", desc := "()V" } : Jvm.MethodName) object_method_1_code (1 : Nat) (Option.none : Option Jvm.ClassFile.FieldType)).before args0 about1 = true := code_word (m := ⟨0, 0⟩) (meth := k0m0) (c := k0c0) (by decide +kernel) rfl rfl rfl (by decide +kernel)
set_option maxRecDepth 65536 in
theorem w_c3 : (Jvm.Cond.code ({ cls := "com/example/consueto/consueto/model/Pair", name := "hashCode", desc := "()I" } : Jvm.MethodName) prog_41_method_5_code (3 : Nat) (Option.some Jvm.ClassFile.FieldType.int)).before args0 about1 = true := code_word (m := ⟨2, 1⟩) (meth := k2m1) (c := k2c1) (by decide +kernel) rfl rfl rfl (by decide +kernel)
set_option maxRecDepth 65536 in
theorem w_c4 : (Jvm.Cond.code ({ cls := "com/example/consueto/consueto/model/PairHashCodePinLaw", name := "reference", desc := "(II)I" } : Jvm.MethodName) method_2_code (5 : Nat) (Option.some Jvm.ClassFile.FieldType.int)).before args0 about1 = true := code_word (m := ⟨1, 1⟩) (meth := k1m1) (c := k1c1) (by decide +kernel) rfl rfl rfl (by decide +kernel)
def codes1 : List Jvm.Cond := [Jvm.Cond.code x code maxLocals ret, Jvm.Cond.code ({ cls := "com/example/consueto/consueto/model/Pair", name := "<init>", desc := "(II)V" } : Jvm.MethodName) prog_41_method_1_code (3 : Nat) (Option.none : Option Jvm.ClassFile.FieldType), Jvm.Cond.code ({ cls := "java/lang/Object", name := "<init>", desc := "()V" } : Jvm.MethodName) object_method_1_code (1 : Nat) (Option.none : Option Jvm.ClassFile.FieldType), Jvm.Cond.code ({ cls := "com/example/consueto/consueto/model/Pair", name := "hashCode", desc := "()I" } : Jvm.MethodName) prog_41_method_5_code (3 : Nat) (Option.some Jvm.ClassFile.FieldType.int), Jvm.Cond.code ({ cls := "com/example/consueto/consueto/model/PairHashCodePinLaw", name := "reference", desc := "(II)I" } : Jvm.MethodName) method_2_code (5 : Nat) (Option.some Jvm.ClassFile.FieldType.int)]
set_option maxRecDepth 65536 in
theorem codes_eq : words1.filter isCode = codes1 := rfl
theorem w_codes : ∀ c ∈ words1.filter isCode, c.before args0 about1 = true := by
  rw [codes_eq]
  intro c hc
  simp only [codes1, List.mem_cons, List.not_mem_nil, or_false] at hc
  rcases hc with rfl | rfl | rfl | rfl | rfl
  · exact w_c0
  · exact w_c1
  · exact w_c2
  · exact w_c3
  · exact w_c4
set_option maxRecDepth 65536 in
theorem w_t1 : (words1.take 24).all (fun c => isCode c || c.before args0 about1) = true := by decide +kernel
set_option maxRecDepth 65536 in
theorem w_t2 : (words1.drop 24).all (fun c => isCode c || c.before args0 about1) = true := by decide +kernel
theorem w_tables : (allAtoms (Jvm.Cond.code x code maxLocals ret :: tables_1)).before args0 about1 = true := by
  rw [allAtoms_all]
  show words1.all (fun c => c.before args0 about1) = true
  refine all_split ?_ w_codes
  rw [← List.take_append_drop 24 words1, List.all_append, w_t1, w_t2]
  rfl
set_option maxRecDepth 65536 in
theorem w_case : (Jvm.Cond.and given_1 narrow_1).before args0 about1 = true := by decide +kernel
theorem w_applies : (headSpec (Jvm.Cond.code x code maxLocals ret :: tables_1) room_1).applies x e0.platform about1 = true :=
  (Spec.applies_iff w_frames).mpr ⟨w_running, w_runnable, w_alone, w_named, w_hears, w_ripe, w_room, w_tables⟩
theorem atStart : AtStart classFile x code maxLocals ret World_1 tables_1 room_1 Calls_1 rest_1 Pre_1 launch0 p0 e0 about1 theMethod args0 below0 :=
  ⟨lists_1, trivial, launch0.admits_env _ _ _, launch0.least_env, fairChoices_fair.cas, fairChoices_fair.clock, w_frames, w_args, w_heap, w_applies, trivial, trivial, w_case⟩
end start1
theorem witness_1 : WitnessClaimed_1 := ⟨start1.p0, start1.e0, start1.about1, start1.theMethod, start1.args0, start1.below0, start1.atStart⟩
end Jvm.Pilot.@@N@@
