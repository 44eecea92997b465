import JvmDerived
import JvmDerived.Pilot.@@N@@Statement
import JvmDerived.Pilot.@@N@@Code
set_option linter.unusedVariables false
set_option linter.unusedSimpArgs false
namespace Jvm.RoadKit
open Sem ClassFile Op Lib Jvm.Stand Jvm.Free Jvm.LawKit
section New
variable {p : Program} {l : Launch} {e : Env} {R : Room} {s : State} {m : MethodId} {args : Array Value} {below : List Frame} {meth : Method} {c : Code} {T : State} {locs : List Loc} {cells slots : Nat}
theorem retI (X : Stand p l e R s m args below meth c T locs cells slots) (hx : p.tables.exec = Jvm.exec) {pc : Nat} {Ls : Array Slot} {z : Int32} {rest : List Value} (hret : meth.sig.returnType = some .int) (hd : decode c.code pc = .ok (.ireturn, 1)) {fs : List Frame}
    (hl : ∀ (f : JFrame) (acts : List Action), f.method = m → f.locked = none → f.entered = [] → (doReturn e (T.setTop f) acts (some (.int z))).1 = T.setFrames fs) : Steps p.tables e below (T.setTop (mkF m pc Ls (.int z :: rest))) (T.setFrames fs) := by
  have hm' : T.vm.method? m = some meth := X.method'
  have hn : narrow .int (.int z) = .int z := rfl
  show Steps p.tables e below (T.setTop { method := m, pc := pc, locals := Ls, stack := _ :: rest, locked := none }) _
  jvm_step X.here [X.here.top, hx, hd, hm', hret, hn]
  first | (intro acts; rw [hl _ acts rfl rfl rfl]) | rw [hl _ _ rfl rfl rfl]
  exact Steps.refl _
end New
end Jvm.RoadKit
namespace Jvm.Pilot.@@N@@
open Jvm Jvm.ClassFile Sem Op Lib Jvm.Free Jvm.Stand Jvm.LawKit Jvm.RoadKit Bundle Jvm.Pilot.@@N@@.Jvm.D
theorem d1_0 : decode prog_48_method_1_code 0 = .ok (.aload_n 0, 1) := by decide +kernel
theorem d1_1 : decode prog_48_method_1_code 1 = .ok (.invokespecial 1, 3) := by decide +kernel
theorem wd_6 {a0 : Array Value} {Z : State} (hw : ∀ d ∈ tables_1, d.before a0 Z = true) : (Jvm.Cond.methodLink "com/example/xylem/xylem/service/Extent" (1 : Nat) ({ cls := "java/lang/Object", name := "<init>", desc := "()V" } : Jvm.MethodName)).before a0 Z = true := hw _ (List.mem_of_getElem? (i := 6) rfl)
theorem wd_7 {a0 : Array Value} {Z : State} (hw : ∀ d ∈ tables_1, d.before a0 Z = true) : (Jvm.Cond.instanceMethod ({ cls := "java/lang/Object", name := "<init>", desc := "()V" } : Jvm.MethodName)).before a0 Z = true := hw _ (List.mem_of_getElem? (i := 7) rfl)
theorem wd_8 {a0 : Array Value} {Z : State} (hw : ∀ d ∈ tables_1, d.before a0 Z = true) : (Jvm.Cond.code ({ cls := "java/lang/Object", name := "<init>", desc := "()V" } : Jvm.MethodName) object_method_1_code (1 : Nat) (Option.none : Option Jvm.ClassFile.FieldType)).before a0 Z = true := hw _ (List.mem_of_getElem? (i := 8) rfl)
theorem d1_4 : decode prog_48_method_1_code 4 = .ok (.aload_n 0, 1) := by decide +kernel
theorem d1_5 : decode prog_48_method_1_code 5 = .ok (.lload_n 1, 1) := by decide +kernel
theorem d1_6 : decode prog_48_method_1_code 6 = .ok (.putfield 7, 3) := by decide +kernel
theorem wd_9 {a0 : Array Value} {Z : State} (hw : ∀ d ∈ tables_1, d.before a0 Z = true) : (Jvm.Cond.fieldLink "com/example/xylem/xylem/service/Extent" (7 : Nat) "com/example/xylem/xylem/service/Extent" "elements" "J").before a0 Z = true := hw _ (List.mem_of_getElem? (i := 9) rfl)
theorem wd_10 {a0 : Array Value} {Z : State} (hw : ∀ d ∈ tables_1, d.before a0 Z = true) : (Jvm.Cond.laysFinal "com/example/xylem/xylem/service/Extent" "com/example/xylem/xylem/service/Extent" "elements" "J").before a0 Z = true := hw _ (List.mem_of_getElem? (i := 10) rfl)
theorem wd_1 {a0 : Array Value} {Z : State} (hw : ∀ d ∈ tables_1, d.before a0 Z = true) : (Jvm.Cond.instantiable "com/example/xylem/xylem/service/Extent" (3 : Nat)).before a0 Z = true := hw _ (List.mem_of_getElem? (i := 1) rfl)
theorem d1_9 : decode prog_48_method_1_code 9 = .ok (.aload_n 0, 1) := by decide +kernel
theorem d1_10 : decode prog_48_method_1_code 10 = .ok (.lload_n 3, 1) := by decide +kernel
theorem d1_11 : decode prog_48_method_1_code 11 = .ok (.putfield 13, 3) := by decide +kernel
theorem wd_11 {a0 : Array Value} {Z : State} (hw : ∀ d ∈ tables_1, d.before a0 Z = true) : (Jvm.Cond.fieldLink "com/example/xylem/xylem/service/Extent" (13 : Nat) "com/example/xylem/xylem/service/Extent" "attributes" "J").before a0 Z = true := hw _ (List.mem_of_getElem? (i := 11) rfl)
theorem wd_12 {a0 : Array Value} {Z : State} (hw : ∀ d ∈ tables_1, d.before a0 Z = true) : (Jvm.Cond.laysFinal "com/example/xylem/xylem/service/Extent" "com/example/xylem/xylem/service/Extent" "attributes" "J").before a0 Z = true := hw _ (List.mem_of_getElem? (i := 12) rfl)
theorem d1_14 : decode prog_48_method_1_code 14 = .ok (.aload_n 0, 1) := by decide +kernel
theorem d1_15 : decode prog_48_method_1_code 15 = .ok (.lload 5, 2) := by decide +kernel
theorem d1_17 : decode prog_48_method_1_code 17 = .ok (.putfield 16, 3) := by decide +kernel
theorem wd_13 {a0 : Array Value} {Z : State} (hw : ∀ d ∈ tables_1, d.before a0 Z = true) : (Jvm.Cond.fieldLink "com/example/xylem/xylem/service/Extent" (16 : Nat) "com/example/xylem/xylem/service/Extent" "characters" "J").before a0 Z = true := hw _ (List.mem_of_getElem? (i := 13) rfl)
theorem wd_14 {a0 : Array Value} {Z : State} (hw : ∀ d ∈ tables_1, d.before a0 Z = true) : (Jvm.Cond.laysFinal "com/example/xylem/xylem/service/Extent" "com/example/xylem/xylem/service/Extent" "characters" "J").before a0 Z = true := hw _ (List.mem_of_getElem? (i := 14) rfl)
theorem d1_20 : decode prog_48_method_1_code 20 = .ok (.return_, 1) := by decide +kernel
theorem ef_1 (m : MethodId) (x0 : Addr) (x1 : Int64) (x2 : Int64) (x3 : Int64) : entryFrame m #[(.ref x0), (.long x1), (.long x2), (.long x3)] 7 = mkF m 0 #[.val (.ref x0), .val (.long x1), .second, .val (.long x2), .second, .val (.long x3), .second] [] := by first | (simp [entryFrame, mkF, argsToLocals, Value.category]; done) | rfl
theorem pn_com_example_xylem_xylem_service_Extent : plainName "com/example/xylem/xylem/service/Extent" = true := by first | (simp [plainName, overriddenIn]; done) | decide +kernel
def Q_rm1 (Z : State) (a1 : Addr) (q2 : Int64) (q3 : Int64) (q4 : Int64) (u1 : Value) (u2 : Value) (u3 : Value) (h0 : Heap) (n0 : Nat) (v : Option Value) (h : Heap) (L : List Loc) : Prop := v = none ∧ Fr n0 L ∧ Keep h0 h [a1] ∧ (Exa Z h a1 "com/example/xylem/xylem/service/Extent") ∧ (Fld Z h a1 "com/example/xylem/xylem/service/Extent" "elements" "J" (.long q2)) ∧ (Fld Z h a1 "com/example/xylem/xylem/service/Extent" "attributes" "J" (.long q3)) ∧ (Fld Z h a1 "com/example/xylem/xylem/service/Extent" "characters" "J" (.long q4))
set_option maxRecDepth 65536 in
set_option maxHeartbeats 40000000 in
theorem rm1 (l : Launch) (Z : State) (a0 : Array Value) (hw : ∀ d ∈ tables_1, d.before a0 Z = true) (ws : List Jvm.Cond) (a1 : Addr) (q2 : Int64) (q3 : Int64) (q4 : Int64) (u1 : Value) (u2 : Value) (u3 : Value) (h0 : Heap) (n0 : Nat) (Z0 : n0 ≤ h0.size) (F_elements_a1 : Fld Z h0 a1 "com/example/xylem/xylem/service/Extent" "elements" "J" u1) (F_attributes_a1 : Fld Z h0 a1 "com/example/xylem/xylem/service/Extent" "attributes" "J" u2) (F_characters_a1 : Fld Z h0 a1 "com/example/xylem/xylem/service/Extent" "characters" "J" u3) (E_a1 : Exa Z h0 a1 "com/example/xylem/xylem/service/Extent") (g_a1 : n0 ≤ a1) :
    MetFree l (⟨"com/example/xylem/xylem/service/Extent", "<init>", "(JJJ)V"⟩ : MethodName) (head1 (Jvm.Cond.code (⟨"com/example/xylem/xylem/service/Extent", "<init>", "(JJJ)V"⟩ : MethodName) prog_48_method_1_code 7 none :: ws) ({ frames := 1, cells := 0, slots := 0, locals := 12 } : Room)) (fun a U => a = #[(.ref a1), (.long q2), (.long q3), (.long q4)] ∧ Z.Warmed39 U.vm ∧ U.heap = h0) (fun _ _ _ _ _ => True) (fun _ U o U' => ∃ v L, o = .returned v ∧ Q_rm1 Z a1 q2 q3 q4 u1 u2 u3 h0 n0 v U'.heap L ∧ FrameEnd U o U' L ({ frames := 1, cells := 0, slots := 0, locals := 12 } : Room).cells ({ frames := 1, cells := 0, slots := 0, locals := 12 } : Room).slots) := by
  refine MetFree.of_bodySF (plainFor_of_name pn_com_example_xylem_xylem_service_Extent) hisR ?_
  intro p e s m args below meth c s₁ Bd hml0 hP hK
  obtain ⟨rfl, hZ, hh⟩ := hP
  have hx := Bd.exec
  have hby := Bd.bytes
  have hml : c.maxLocals = 7 := hml0
  have hown : s.vm.findClass "com/example/xylem/xylem/service/Extent" = some m.cls := findClass_of_methodNamed Bd.named
  have hnm := (name_of_methodNamed Bd.named Bd.method).1
  have X0 : Stand p l e ({ frames := 1, cells := 0, slots := 0, locals := 12 } : Room) s m #[(.ref a1), (.long q2), (.long q3), (.long q4)] below meth c s₁ [] 0 0 := Stand.of_body Bd
  have e0 : s₁.heap = h0 := by rw [← hh, Bd.state]; rfl
  have N0 := Fr.nil n0
  have pre0 : ∀ t, Steps p.tables e below (s₁.setTop (mkF m 0 #[.val (.ref a1), .val (.long q2), .second, .val (.long q3), .second, .val (.long q4), .second] [])) t → Steps p.tables e below (s₁.setTop (entryFrame m #[(.ref a1), (.long q2), (.long q3), (.long q4)] 7)) t := fun t k => castTop (ef_1 m a1 q2 q3 q4) k
  obtain ⟨T1, X1, e1, st1⟩ := initO X0 hx hZ hown (wd_6 hw) (wd_7 hw) (wd_8 hw) e0 (g := (mkF m 1 #[.val (.ref a1), .val (.long q2), .second, .val (.long q3), .second, .val (.long q4), .second] [(.ref a1)])) rfl (by rw [hml]; rfl) rfl (hb hby d1_1) (by decide) (W := 0) (by show 2 * 0 + _ ≤ _; exact Nat.le_of_eq rfl) (by decide)
  obtain ⟨T2, h2, X2, e2, W2, st2⟩ := putF X1 hx hZ hown (host := "") (Or.inl (wd_9 hw)) Via.refl e1 F_elements_a1 E_a1 (Or.inr ⟨(wd_10 hw), rfl, hnm⟩) (wd_1 hw) (ty := .long) (by decide) rfl rfl (g := (mkF m 6 #[.val (.ref a1), .val (.long q2), .second, .val (.long q3), .second, .val (.long q4), .second] [(.long q2), (.ref a1)])) rfl rfl (hb hby d1_6)
  have Fw2 := F_elements_a1.same W2
  have Z3 : n0 ≤ h2.size := Nat.le_trans Z0 (Keep.of_wr W2).1
  have K4 : Keep h0 h2 [a1] := Keep.wr (Keep.refl h0 [a1]) W2 (Or.inl (List.mem_of_getElem? (i := 0) rfl))
  have N2 := Fr.snoc X2 N0 g_a1
  obtain ⟨T5, h5, X5, e5, W5, st5⟩ := putF X2 hx hZ hown (host := "") (Or.inl (wd_11 hw)) Via.refl e2 (F_attributes_a1.other W2 (Or.inr (slot_ne (Or.inr (wd_12 hw)) (Or.inr (wd_10 hw)) (by decide) (t := .long) (t' := .long) (by decide) (by decide)))) (E_a1.wr W2) (Or.inr ⟨(wd_12 hw), rfl, hnm⟩) (wd_1 hw) (ty := .long) (by decide) rfl rfl (g := (mkF m 11 #[.val (.ref a1), .val (.long q2), .second, .val (.long q3), .second, .val (.long q4), .second] [(.long q3), (.ref a1)])) rfl rfl (hb hby d1_11)
  have Fw5 := (F_attributes_a1.other W2 (Or.inr (slot_ne (Or.inr (wd_12 hw)) (Or.inr (wd_10 hw)) (by decide) (t := .long) (t' := .long) (by decide) (by decide)))).same W5
  have Z6 : n0 ≤ h5.size := Nat.le_trans Z3 (Keep.of_wr W5).1
  have K7 : Keep h0 h5 [a1] := Keep.wr K4 W5 (Or.inl (List.mem_of_getElem? (i := 0) rfl))
  have N5 := Fr.snoc X5 N2 g_a1
  obtain ⟨T8, h8, X8, e8, W8, st8⟩ := putF X5 hx hZ hown (host := "") (Or.inl (wd_13 hw)) Via.refl e5 ((F_characters_a1.other W2 (Or.inr (slot_ne (Or.inr (wd_14 hw)) (Or.inr (wd_10 hw)) (by decide) (t := .long) (t' := .long) (by decide) (by decide)))).other W5 (Or.inr (slot_ne (Or.inr (wd_14 hw)) (Or.inr (wd_12 hw)) (by decide) (t := .long) (t' := .long) (by decide) (by decide)))) ((E_a1.wr W2).wr W5) (Or.inr ⟨(wd_14 hw), rfl, hnm⟩) (wd_1 hw) (ty := .long) (by decide) rfl rfl (g := (mkF m 17 #[.val (.ref a1), .val (.long q2), .second, .val (.long q3), .second, .val (.long q4), .second] [(.long q4), (.ref a1)])) rfl rfl (hb hby d1_17)
  have Fw8 := ((F_characters_a1.other W2 (Or.inr (slot_ne (Or.inr (wd_14 hw)) (Or.inr (wd_10 hw)) (by decide) (t := .long) (t' := .long) (by decide) (by decide)))).other W5 (Or.inr (slot_ne (Or.inr (wd_14 hw)) (Or.inr (wd_12 hw)) (by decide) (t := .long) (t' := .long) (by decide) (by decide)))).same W8
  have Z9 : n0 ≤ h8.size := Nat.le_trans Z6 (Keep.of_wr W8).1
  have K10 : Keep h0 h8 [a1] := Keep.wr K7 W8 (Or.inl (List.mem_of_getElem? (i := 0) rfl))
  have N8 := Fr.snoc X8 N5 g_a1
  obtain ⟨fs, hr, hrun, hended, hW, hsame⟩ := X8.leave (v := none) (fun _ => rfl)
  refine ⟨_, _, pre0 _ ?_, hrun, hended, _, _, rfl, ?_, ⟨_, rfl⟩, hW, hsame.mono (by decide) (by decide)⟩
  · show Steps p.tables e below (s₁.setTop (mkF m 0 #[.val (.ref a1), .val (.long q2), .second, .val (.long q3), .second, .val (.long q4), .second] [])) _
    refine XS.aloadN X0.here hx rfl (hb hby d1_0) rfl rfl ?_
    refine st1 _ ?_
    refine XS.aloadN X1.here hx rfl (hb hby d1_4) rfl rfl ?_
    refine XS.lloadN X1.here hx rfl (hb hby d1_5) rfl ?_
    show Steps p.tables e below (T1.setTop (mkF m 6 #[.val (.ref a1), .val (.long q2), .second, .val (.long q3), .second, .val (.long q4), .second] [(.long q2), (.ref a1)])) _
    refine st2 _ ?_
    refine XS.aloadN X2.here hx rfl (hb hby d1_9) rfl rfl ?_
    refine XS.lloadN X2.here hx rfl (hb hby d1_10) rfl ?_
    refine st5 _ ?_
    show Steps p.tables e below (T5.setTop (mkF m 14 #[.val (.ref a1), .val (.long q2), .second, .val (.long q3), .second, .val (.long q4), .second] [])) _
    refine XS.aloadN X5.here hx rfl (hb hby d1_14) rfl rfl ?_
    refine XS.lload X5.here hx rfl (hb hby d1_15) rfl ?_
    refine st8 _ ?_
    exact X8.returnOut hx Bd.returns (hb hby d1_20) hr
  · show Q_rm1 Z a1 q2 q3 q4 u1 u2 u3 h0 n0 _ T8.heap _
    rw [e8]
    exact ⟨rfl, N8, K10, (((E_a1.wr W2).wr W5).wr W8), ((Fw2.other W5 (Or.inr (slot_ne (Or.inr (wd_10 hw)) (Or.inr (wd_12 hw)) (by decide) (t := .long) (t' := .long) (by decide) (by decide)))).other W8 (Or.inr (slot_ne (Or.inr (wd_10 hw)) (Or.inr (wd_14 hw)) (by decide) (t := .long) (t' := .long) (by decide) (by decide)))), (Fw5.other W8 (Or.inr (slot_ne (Or.inr (wd_12 hw)) (Or.inr (wd_14 hw)) (by decide) (t := .long) (t' := .long) (by decide) (by decide)))), Fw8⟩
theorem d3_0 : decode prog_48_method_3_code 0 = .ok (.new 8, 3) := by decide +kernel
theorem wd_20 {a0 : Array Value} {Z : State} (hw : ∀ d ∈ tables_1, d.before a0 Z = true) : (Jvm.Cond.classLink "com/example/xylem/xylem/service/Extent" (8 : Nat) "com/example/xylem/xylem/service/Extent").before a0 Z = true := hw _ (List.mem_of_getElem? (i := 20) rfl)
theorem wd_2 {a0 : Array Value} {Z : State} (hw : ∀ d ∈ tables_1, d.before a0 Z = true) : (Jvm.Cond.initialized "com/example/xylem/xylem/service/Extent").before a0 Z = true := hw _ (List.mem_of_getElem? (i := 2) rfl)
theorem d3_3 : decode prog_48_method_3_code 3 = .ok (.dup, 1) := by decide +kernel
theorem d3_4 : decode prog_48_method_3_code 4 = .ok (.aload_n 0, 1) := by decide +kernel
theorem d3_5 : decode prog_48_method_3_code 5 = .ok (.getfield 7, 3) := by decide +kernel
theorem d3_8 : decode prog_48_method_3_code 8 = .ok (.aload_n 1, 1) := by decide +kernel
theorem d3_9 : decode prog_48_method_3_code 9 = .ok (.getfield 7, 3) := by decide +kernel
theorem d3_12 : decode prog_48_method_3_code 12 = .ok (.ladd, 1) := by decide +kernel
theorem d3_13 : decode prog_48_method_3_code 13 = .ok (.aload_n 0, 1) := by decide +kernel
theorem d3_14 : decode prog_48_method_3_code 14 = .ok (.getfield 13, 3) := by decide +kernel
theorem d3_17 : decode prog_48_method_3_code 17 = .ok (.aload_n 1, 1) := by decide +kernel
theorem d3_18 : decode prog_48_method_3_code 18 = .ok (.getfield 13, 3) := by decide +kernel
theorem d3_21 : decode prog_48_method_3_code 21 = .ok (.ladd, 1) := by decide +kernel
theorem d3_22 : decode prog_48_method_3_code 22 = .ok (.aload_n 0, 1) := by decide +kernel
theorem d3_23 : decode prog_48_method_3_code 23 = .ok (.getfield 16, 3) := by decide +kernel
theorem d3_26 : decode prog_48_method_3_code 26 = .ok (.aload_n 1, 1) := by decide +kernel
theorem d3_27 : decode prog_48_method_3_code 27 = .ok (.getfield 16, 3) := by decide +kernel
theorem d3_30 : decode prog_48_method_3_code 30 = .ok (.ladd, 1) := by decide +kernel
theorem d3_31 : decode prog_48_method_3_code 31 = .ok (.invokespecial 82, 3) := by decide +kernel
theorem wd_21 {a0 : Array Value} {Z : State} (hw : ∀ d ∈ tables_1, d.before a0 Z = true) : (Jvm.Cond.methodLink "com/example/xylem/xylem/service/Extent" (82 : Nat) ({ cls := "com/example/xylem/xylem/service/Extent", name := "<init>", desc := "(JJJ)V" } : Jvm.MethodName)).before a0 Z = true := hw _ (List.mem_of_getElem? (i := 21) rfl)
theorem wd_5 {a0 : Array Value} {Z : State} (hw : ∀ d ∈ tables_1, d.before a0 Z = true) : (Jvm.Cond.code ({ cls := "com/example/xylem/xylem/service/Extent", name := "<init>", desc := "(JJJ)V" } : Jvm.MethodName) prog_48_method_1_code (7 : Nat) (Option.none : Option Jvm.ClassFile.FieldType)).before a0 Z = true := hw _ (List.mem_of_getElem? (i := 5) rfl)
theorem pd__JJJ_V : parseMethodDescriptor "(JJJ)V" = some ⟨[.long, .long, .long], none⟩ := by decide +kernel
theorem wd_4 {a0 : Array Value} {Z : State} (hw : ∀ d ∈ tables_1, d.before a0 Z = true) : (Jvm.Cond.instanceMethod ({ cls := "com/example/xylem/xylem/service/Extent", name := "<init>", desc := "(JJJ)V" } : Jvm.MethodName)).before a0 Z = true := hw _ (List.mem_of_getElem? (i := 4) rfl)
theorem d3_34 : decode prog_48_method_3_code 34 = .ok (.areturn, 1) := by decide +kernel
theorem ef_3 (m : MethodId) (x0 : Addr) (x1 : Addr) : entryFrame m #[(.ref x0), (.ref x1)] 2 = mkF m 0 #[.val (.ref x0), .val (.ref x1)] [] := by first | (simp [entryFrame, mkF, argsToLocals, Value.category]; done) | rfl
def Q_rm3 (Z : State) (a1 : Addr) (a2 : Addr) (w1 : Int64) (w2 : Int64) (w3 : Int64) (w4 : Int64) (w5 : Int64) (w6 : Int64) (h0 : Heap) (n0 : Nat) (v : Option Value) (h : Heap) (L : List Loc) : Prop := ∃ b : Addr, v = some (.ref b) ∧ Fr n0 L ∧ Keep h0 h [] ∧ (h0.size ≤ b) ∧ (Exa Z h b "com/example/xylem/xylem/service/Extent") ∧ (Fld Z h b "com/example/xylem/xylem/service/Extent" "elements" "J" (.long (w1 + w4))) ∧ (Fld Z h b "com/example/xylem/xylem/service/Extent" "attributes" "J" (.long (w2 + w5))) ∧ (Fld Z h b "com/example/xylem/xylem/service/Extent" "characters" "J" (.long (w3 + w6)))
set_option maxRecDepth 65536 in
set_option maxHeartbeats 40000000 in
theorem rm3 (l : Launch) (Z : State) (a0 : Array Value) (hw : ∀ d ∈ tables_1, d.before a0 Z = true) (ws : List Jvm.Cond) (a1 : Addr) (a2 : Addr) (w1 : Int64) (w2 : Int64) (w3 : Int64) (w4 : Int64) (w5 : Int64) (w6 : Int64) (h0 : Heap) (n0 : Nat) (Z0 : n0 ≤ h0.size) (F_elements_a1 : Fld Z h0 a1 "com/example/xylem/xylem/service/Extent" "elements" "J" (.long w1)) (F_attributes_a1 : Fld Z h0 a1 "com/example/xylem/xylem/service/Extent" "attributes" "J" (.long w2)) (F_characters_a1 : Fld Z h0 a1 "com/example/xylem/xylem/service/Extent" "characters" "J" (.long w3)) (F_elements_a2 : Fld Z h0 a2 "com/example/xylem/xylem/service/Extent" "elements" "J" (.long w4)) (F_attributes_a2 : Fld Z h0 a2 "com/example/xylem/xylem/service/Extent" "attributes" "J" (.long w5)) (F_characters_a2 : Fld Z h0 a2 "com/example/xylem/xylem/service/Extent" "characters" "J" (.long w6)) :
    MetFree l (⟨"com/example/xylem/xylem/service/Extent", "plus", "(Lcom/example/xylem/xylem/service/Extent;)Lcom/example/xylem/xylem/service/Extent;"⟩ : MethodName) (head1 (Jvm.Cond.code (⟨"com/example/xylem/xylem/service/Extent", "plus", "(Lcom/example/xylem/xylem/service/Extent;)Lcom/example/xylem/xylem/service/Extent;"⟩ : MethodName) prog_48_method_3_code 2 (some (.object "com/example/xylem/xylem/service/Extent")) :: ws) ({ frames := 2, cells := 1, slots := 3, locals := 31 } : Room)) (fun a U => a = #[(.ref a1), (.ref a2)] ∧ Z.Warmed39 U.vm ∧ U.heap = h0) (fun _ _ _ _ _ => True) (fun _ U o U' => ∃ v L, o = .returned v ∧ Q_rm3 Z a1 a2 w1 w2 w3 w4 w5 w6 h0 n0 v U'.heap L ∧ FrameEnd U o U' L ({ frames := 2, cells := 1, slots := 3, locals := 31 } : Room).cells ({ frames := 2, cells := 1, slots := 3, locals := 31 } : Room).slots) := by
  refine MetFree.of_bodySF (plainFor_of_name pn_com_example_xylem_xylem_service_Extent) hisR ?_
  intro p e s m args below meth c s₁ Bd hml0 hP hK
  obtain ⟨rfl, hZ, hh⟩ := hP
  have hx := Bd.exec
  have hby := Bd.bytes
  have hml : c.maxLocals = 2 := hml0
  have hown : s.vm.findClass "com/example/xylem/xylem/service/Extent" = some m.cls := findClass_of_methodNamed Bd.named
  have hnm := (name_of_methodNamed Bd.named Bd.method).1
  have X0 : Stand p l e ({ frames := 2, cells := 1, slots := 3, locals := 31 } : Room) s m #[(.ref a1), (.ref a2)] below meth c s₁ [] 0 0 := Stand.of_body Bd
  have e0 : s₁.heap = h0 := by rw [← hh, Bd.state]; rfl
  have N0 := Fr.nil n0
  have pre0 : ∀ t, Steps p.tables e below (s₁.setTop (mkF m 0 #[.val (.ref a1), .val (.ref a2)] [])) t → Steps p.tables e below (s₁.setTop (entryFrame m #[(.ref a1), (.ref a2)] 2)) t := fun t k => castTop (ef_3 m a1 a2) k
  obtain ⟨T11, h11, X11, e11, E11, A11, D11, -, st11⟩ := newO X0 hx hZ hown (wd_20 hw) (wd_1 hw) (wd_2 hw) e0 (g := (mkF m 0 #[.val (.ref a1), .val (.ref a2)] [])) rfl (hb hby d3_0) (by decide) (by decide)
  obtain ⟨b11, g11⟩ : ∃ z, z = h0.size := ⟨_, rfl⟩
  rw [← g11] at A11 D11 st11
  have g_b11 : n0 ≤ b11 := Nat.le_trans Z0 (Nat.le_of_eq g11.symm)
  have sz_b11 : h0.size ≤ b11 := Nat.le_trans (And.left (Keep.refl h0 [])) (Nat.le_of_eq g11.symm)
  have ne_a1_b11 : a1 ≠ b11 := Nat.ne_of_lt (Nat.lt_of_lt_of_le (F_elements_a1).lt (Nat.le_of_eq g11.symm))
  have ne_a2_b11 : a2 ≠ b11 := Nat.ne_of_lt (Nat.lt_of_lt_of_le (F_elements_a2).lt (Nat.le_of_eq g11.symm))
  have Z12 : n0 ≤ h11.size := Nat.le_trans Z0 E11.1
  have K13 : Keep h0 h11 [] := Keep.ext (Keep.refl h0 []) E11
  have F_elements_b11 : Fld Z h11 b11 "com/example/xylem/xylem/service/Extent" "elements" "J" (.long (0 : Int64)) := D11 (Or.inr (wd_10 hw)) (ty := .long) (by decide)
  have F_attributes_b11 : Fld Z h11 b11 "com/example/xylem/xylem/service/Extent" "attributes" "J" (.long (0 : Int64)) := D11 (Or.inr (wd_12 hw)) (ty := .long) (by decide)
  have F_characters_b11 : Fld Z h11 b11 "com/example/xylem/xylem/service/Extent" "characters" "J" (.long (0 : Int64)) := D11 (Or.inr (wd_14 hw)) (ty := .long) (by decide)
  obtain ⟨T14, X14, e14, st14⟩ := getF X11 hx hZ hown (host := "") (Or.inl (wd_9 hw)) Via.refl e11 (F_elements_a1.ext E11) (g := (mkF m 5 #[.val (.ref a1), .val (.ref a2)] [(.ref a1), (.ref b11), (.ref b11)])) rfl rfl (hb hby d3_5)
  obtain ⟨T15, X15, e15, st15⟩ := getF X14 hx hZ hown (host := "") (Or.inl (wd_9 hw)) Via.refl e14 (F_elements_a2.ext E11) (g := (mkF m 9 #[.val (.ref a1), .val (.ref a2)] [(.ref a2), (.long w1), (.ref b11), (.ref b11)])) rfl rfl (hb hby d3_9)
  obtain ⟨T16, X16, e16, st16⟩ := getF X15 hx hZ hown (host := "") (Or.inl (wd_11 hw)) Via.refl e15 (F_attributes_a1.ext E11) (g := (mkF m 14 #[.val (.ref a1), .val (.ref a2)] [(.ref a1), (.long (w1 + w4)), (.ref b11), (.ref b11)])) rfl rfl (hb hby d3_14)
  obtain ⟨T17, X17, e17, st17⟩ := getF X16 hx hZ hown (host := "") (Or.inl (wd_11 hw)) Via.refl e16 (F_attributes_a2.ext E11) (g := (mkF m 18 #[.val (.ref a1), .val (.ref a2)] [(.ref a2), (.long w2), (.long (w1 + w4)), (.ref b11), (.ref b11)])) rfl rfl (hb hby d3_18)
  obtain ⟨T18, X18, e18, st18⟩ := getF X17 hx hZ hown (host := "") (Or.inl (wd_13 hw)) Via.refl e17 (F_characters_a1.ext E11) (g := (mkF m 23 #[.val (.ref a1), .val (.ref a2)] [(.ref a1), (.long (w2 + w5)), (.long (w1 + w4)), (.ref b11), (.ref b11)])) rfl rfl (hb hby d3_23)
  obtain ⟨T19, X19, e19, st19⟩ := getF X18 hx hZ hown (host := "") (Or.inl (wd_13 hw)) Via.refl e18 (F_characters_a2.ext E11) (g := (mkF m 27 #[.val (.ref a1), .val (.ref a2)] [(.ref a2), (.long w3), (.long (w2 + w5)), (.long (w1 + w4)), (.ref b11), (.ref b11)])) rfl rfl (hb hby d3_27)
  obtain ⟨_, _, ⟨T20, L20, k20, n20⟩, -, X20, ⟨Lc20, hQ20, l20, y20, z20⟩, st20⟩ := X19.specialBack hx (y := (⟨"com/example/xylem/xylem/service/Extent", "<init>", "(JJJ)V"⟩ : MethodName)) rfl hown (mvT hZ (wd_21 hw)) (mvT hZ (wd_4 hw)) (mvT hZ (wd_5 hw)) (by decide) (backOf (W := 1) (rm1 l Z a0 hw [] b11 (w1 + w4) (w2 + w5) (w3 + w6) (.long (0 : Int64)) (.long (0 : Int64)) (.long (0 : Int64)) h11 n0 Z12 F_elements_b11 F_attributes_b11 F_characters_b11 A11 g_b11) hZ (wd_5 hw) (wd_2 hw) (by decide) (by decide)) (g := (mkF m 31 #[.val (.ref a1), .val (.ref a2)] [(.long (w3 + w6)), (.long (w2 + w5)), (.long (w1 + w4)), (.ref b11), (.ref b11)])) rfl (by rw [hml]; rfl) (Steps.refl _) (a := b11) (argsL := [(.long (w1 + w4)), (.long (w2 + w5)), (.long (w3 + w6))]) (rest := [(.ref b11)]) (lenOf pd__JJJ_V rfl) rfl (by show 2 * 0 + _ ≤ _; exact Nat.le_of_eq rfl) (hb hby d3_31) (fun _ _ => ⟨rfl, e19, (by decide : 1 + 0 ≤ _), (by decide : 3 + 0 ≤ _)⟩)
  dsimp only [Pt.U, Pt.locs, Pt.cells, Pt.slots] at X20 l20 y20 z20 st20 hQ20
  subst l20 y20 z20
  obtain ⟨rfl, N20q, K20q, g20_0, g20_1, g20_2, g20_3⟩ := hQ20
  have N20 := Fr.app N0 N20q
  have Z21 : n0 ≤ T20.heap.size := Nat.le_trans Z12 K20q.1
  have K22 : Keep h0 T20.heap [] := Keep.trans K13 K20q (allS (Or.inr sz_b11) all0)
  obtain ⟨fs, hr, hrun, hended, hW, hsame⟩ := X20.leave (v := some (.ref b11)) (fun h => by rw [Bd.returns] at h; cases h)
  refine ⟨_, _, pre0 _ ?_, hrun, hended, _, _, rfl, ?_, ⟨_, rfl⟩, hW, hsame.mono (by decide) (by decide)⟩
  · show Steps p.tables e below (s₁.setTop (mkF m 0 #[.val (.ref a1), .val (.ref a2)] [])) _
    refine st11 _ ?_
    refine XS.dup X11.here hx rfl (hb hby d3_3) rfl rfl ?_
    refine XS.aloadN X11.here hx rfl (hb hby d3_4) rfl rfl ?_
    refine st14 _ ?_
    show Steps p.tables e below (T14.setTop (mkF m 8 #[.val (.ref a1), .val (.ref a2)] [(.long w1), (.ref b11), (.ref b11)])) _
    refine XS.aloadN X14.here hx rfl (hb hby d3_8) rfl rfl ?_
    refine st15 _ ?_
    refine XS.ladd X15.here hx rfl (hb hby d3_12) rfl ?_
    refine XS.aloadN X15.here hx rfl (hb hby d3_13) rfl rfl ?_
    show Steps p.tables e below (T15.setTop (mkF m 14 #[.val (.ref a1), .val (.ref a2)] [(.ref a1), (.long (w1 + w4)), (.ref b11), (.ref b11)])) _
    refine st16 _ ?_
    refine XS.aloadN X16.here hx rfl (hb hby d3_17) rfl rfl ?_
    refine st17 _ ?_
    refine XS.ladd X17.here hx rfl (hb hby d3_21) rfl ?_
    show Steps p.tables e below (T17.setTop (mkF m 22 #[.val (.ref a1), .val (.ref a2)] [(.long (w2 + w5)), (.long (w1 + w4)), (.ref b11), (.ref b11)])) _
    refine XS.aloadN X17.here hx rfl (hb hby d3_22) rfl rfl ?_
    refine st18 _ ?_
    refine XS.aloadN X18.here hx rfl (hb hby d3_26) rfl rfl ?_
    refine st19 _ ?_
    show Steps p.tables e below (T19.setTop (mkF m 30 #[.val (.ref a1), .val (.ref a2)] [(.long w6), (.long w3), (.long (w2 + w5)), (.long (w1 + w4)), (.ref b11), (.ref b11)])) _
    refine XS.ladd X19.here hx rfl (hb hby d3_30) rfl ?_
    refine st20.trans ?_
    jvm_step X20.here [X20.here.top, hx, (hb hby d3_34), X20.method', Bd.returns, Value.isRef, FieldType.isReference]
    first | (intro acts; rw [hr _ acts rfl rfl rfl]) | rw [hr _ _ rfl rfl rfl]
    exact Steps.refl _
  · show Q_rm3 Z a1 a2 w1 w2 w3 w4 w5 w6 h0 n0 _ T20.heap _
    exact ⟨b11, rfl, N20, K22, sz_b11, g20_0, g20_1, g20_2, g20_3⟩
theorem d4_0 : decode prog_48_method_4_code 0 = .ok (.aload_n 0, 1) := by decide +kernel
theorem d4_1 : decode prog_48_method_4_code 1 = .ok (.getfield 7, 3) := by decide +kernel
theorem d4_4 : decode prog_48_method_4_code 4 = .ok (.lreturn, 1) := by decide +kernel
theorem ef_4 (m : MethodId) (x0 : Addr) : entryFrame m #[(.ref x0)] 1 = mkF m 0 #[.val (.ref x0)] [] := by first | (simp [entryFrame, mkF, argsToLocals, Value.category]; done) | rfl
def Q_rm4 (Z : State) (a1 : Addr) (w1 : Int64) (h0 : Heap) (n0 : Nat) (v : Option Value) (h : Heap) (L : List Loc) : Prop := v = some (.long w1) ∧ Fr n0 L ∧ h = h0
set_option maxRecDepth 65536 in
set_option maxHeartbeats 40000000 in
theorem rm4 (l : Launch) (Z : State) (a0 : Array Value) (hw : ∀ d ∈ tables_1, d.before a0 Z = true) (ws : List Jvm.Cond) (a1 : Addr) (w1 : Int64) (h0 : Heap) (n0 : Nat) (Z0 : n0 ≤ h0.size) (F_elements_a1 : Fld Z h0 a1 "com/example/xylem/xylem/service/Extent" "elements" "J" (.long w1)) :
    MetFree l (⟨"com/example/xylem/xylem/service/Extent", "getElements", "()J"⟩ : MethodName) (head1 (Jvm.Cond.code (⟨"com/example/xylem/xylem/service/Extent", "getElements", "()J"⟩ : MethodName) prog_48_method_4_code 1 (some .long) :: ws) ({ frames := 0, cells := 0, slots := 0, locals := 0 } : Room)) (fun a U => a = #[(.ref a1)] ∧ Z.Warmed39 U.vm ∧ U.heap = h0) (fun _ _ _ _ _ => True) (fun _ U o U' => ∃ v L, o = .returned v ∧ Q_rm4 Z a1 w1 h0 n0 v U'.heap L ∧ FrameEnd U o U' L ({ frames := 0, cells := 0, slots := 0, locals := 0 } : Room).cells ({ frames := 0, cells := 0, slots := 0, locals := 0 } : Room).slots) := by
  refine MetFree.of_bodySF (plainFor_of_name pn_com_example_xylem_xylem_service_Extent) hisR ?_
  intro p e s m args below meth c s₁ Bd hml0 hP hK
  obtain ⟨rfl, hZ, hh⟩ := hP
  have hx := Bd.exec
  have hby := Bd.bytes
  have hml : c.maxLocals = 1 := hml0
  have hown : s.vm.findClass "com/example/xylem/xylem/service/Extent" = some m.cls := findClass_of_methodNamed Bd.named
  have hnm := (name_of_methodNamed Bd.named Bd.method).1
  have X0 : Stand p l e ({ frames := 0, cells := 0, slots := 0, locals := 0 } : Room) s m #[(.ref a1)] below meth c s₁ [] 0 0 := Stand.of_body Bd
  have e0 : s₁.heap = h0 := by rw [← hh, Bd.state]; rfl
  have N0 := Fr.nil n0
  have pre0 : ∀ t, Steps p.tables e below (s₁.setTop (mkF m 0 #[.val (.ref a1)] [])) t → Steps p.tables e below (s₁.setTop (entryFrame m #[(.ref a1)] 1)) t := fun t k => castTop (ef_4 m a1) k
  obtain ⟨T23, X23, e23, st23⟩ := getF X0 hx hZ hown (host := "") (Or.inl (wd_9 hw)) Via.refl e0 F_elements_a1 (g := (mkF m 1 #[.val (.ref a1)] [(.ref a1)])) rfl rfl (hb hby d4_1)
  obtain ⟨fs, hr, hrun, hended, hW, hsame⟩ := X23.leave (v := some (.long w1)) (fun h => by rw [Bd.returns] at h; cases h)
  refine ⟨_, _, pre0 _ ?_, hrun, hended, _, _, rfl, ?_, ⟨_, rfl⟩, hW, hsame.mono (by decide) (by decide)⟩
  · show Steps p.tables e below (s₁.setTop (mkF m 0 #[.val (.ref a1)] [])) _
    refine XS.aloadN X0.here hx rfl (hb hby d4_0) rfl rfl ?_
    refine st23 _ ?_
    jvm_step X23.here [X23.here.top, hx, (hb hby d4_4), X23.method', Bd.returns, narrow]
    first | (intro acts; rw [hr _ acts rfl rfl rfl]) | rw [hr _ _ rfl rfl rfl]
    exact Steps.refl _
  · show Q_rm4 Z a1 w1 h0 n0 _ T23.heap _
    rw [e23]
    exact ⟨rfl, N0, rfl⟩
theorem d5_0 : decode prog_48_method_5_code 0 = .ok (.aload_n 0, 1) := by decide +kernel
theorem d5_1 : decode prog_48_method_5_code 1 = .ok (.getfield 13, 3) := by decide +kernel
theorem d5_4 : decode prog_48_method_5_code 4 = .ok (.lreturn, 1) := by decide +kernel
theorem ef_5 (m : MethodId) (x0 : Addr) : entryFrame m #[(.ref x0)] 1 = mkF m 0 #[.val (.ref x0)] [] := by first | (simp [entryFrame, mkF, argsToLocals, Value.category]; done) | rfl
def Q_rm5 (Z : State) (a1 : Addr) (w1 : Int64) (h0 : Heap) (n0 : Nat) (v : Option Value) (h : Heap) (L : List Loc) : Prop := v = some (.long w1) ∧ Fr n0 L ∧ h = h0
set_option maxRecDepth 65536 in
set_option maxHeartbeats 40000000 in
theorem rm5 (l : Launch) (Z : State) (a0 : Array Value) (hw : ∀ d ∈ tables_1, d.before a0 Z = true) (ws : List Jvm.Cond) (a1 : Addr) (w1 : Int64) (h0 : Heap) (n0 : Nat) (Z0 : n0 ≤ h0.size) (F_attributes_a1 : Fld Z h0 a1 "com/example/xylem/xylem/service/Extent" "attributes" "J" (.long w1)) :
    MetFree l (⟨"com/example/xylem/xylem/service/Extent", "getAttributes", "()J"⟩ : MethodName) (head1 (Jvm.Cond.code (⟨"com/example/xylem/xylem/service/Extent", "getAttributes", "()J"⟩ : MethodName) prog_48_method_5_code 1 (some .long) :: ws) ({ frames := 0, cells := 0, slots := 0, locals := 0 } : Room)) (fun a U => a = #[(.ref a1)] ∧ Z.Warmed39 U.vm ∧ U.heap = h0) (fun _ _ _ _ _ => True) (fun _ U o U' => ∃ v L, o = .returned v ∧ Q_rm5 Z a1 w1 h0 n0 v U'.heap L ∧ FrameEnd U o U' L ({ frames := 0, cells := 0, slots := 0, locals := 0 } : Room).cells ({ frames := 0, cells := 0, slots := 0, locals := 0 } : Room).slots) := by
  refine MetFree.of_bodySF (plainFor_of_name pn_com_example_xylem_xylem_service_Extent) hisR ?_
  intro p e s m args below meth c s₁ Bd hml0 hP hK
  obtain ⟨rfl, hZ, hh⟩ := hP
  have hx := Bd.exec
  have hby := Bd.bytes
  have hml : c.maxLocals = 1 := hml0
  have hown : s.vm.findClass "com/example/xylem/xylem/service/Extent" = some m.cls := findClass_of_methodNamed Bd.named
  have hnm := (name_of_methodNamed Bd.named Bd.method).1
  have X0 : Stand p l e ({ frames := 0, cells := 0, slots := 0, locals := 0 } : Room) s m #[(.ref a1)] below meth c s₁ [] 0 0 := Stand.of_body Bd
  have e0 : s₁.heap = h0 := by rw [← hh, Bd.state]; rfl
  have N0 := Fr.nil n0
  have pre0 : ∀ t, Steps p.tables e below (s₁.setTop (mkF m 0 #[.val (.ref a1)] [])) t → Steps p.tables e below (s₁.setTop (entryFrame m #[(.ref a1)] 1)) t := fun t k => castTop (ef_5 m a1) k
  obtain ⟨T24, X24, e24, st24⟩ := getF X0 hx hZ hown (host := "") (Or.inl (wd_11 hw)) Via.refl e0 F_attributes_a1 (g := (mkF m 1 #[.val (.ref a1)] [(.ref a1)])) rfl rfl (hb hby d5_1)
  obtain ⟨fs, hr, hrun, hended, hW, hsame⟩ := X24.leave (v := some (.long w1)) (fun h => by rw [Bd.returns] at h; cases h)
  refine ⟨_, _, pre0 _ ?_, hrun, hended, _, _, rfl, ?_, ⟨_, rfl⟩, hW, hsame.mono (by decide) (by decide)⟩
  · show Steps p.tables e below (s₁.setTop (mkF m 0 #[.val (.ref a1)] [])) _
    refine XS.aloadN X0.here hx rfl (hb hby d5_0) rfl rfl ?_
    refine st24 _ ?_
    jvm_step X24.here [X24.here.top, hx, (hb hby d5_4), X24.method', Bd.returns, narrow]
    first | (intro acts; rw [hr _ acts rfl rfl rfl]) | rw [hr _ _ rfl rfl rfl]
    exact Steps.refl _
  · show Q_rm5 Z a1 w1 h0 n0 _ T24.heap _
    rw [e24]
    exact ⟨rfl, N0, rfl⟩
theorem d6_0 : decode prog_48_method_6_code 0 = .ok (.aload_n 0, 1) := by decide +kernel
theorem d6_1 : decode prog_48_method_6_code 1 = .ok (.getfield 16, 3) := by decide +kernel
theorem d6_4 : decode prog_48_method_6_code 4 = .ok (.lreturn, 1) := by decide +kernel
theorem ef_6 (m : MethodId) (x0 : Addr) : entryFrame m #[(.ref x0)] 1 = mkF m 0 #[.val (.ref x0)] [] := by first | (simp [entryFrame, mkF, argsToLocals, Value.category]; done) | rfl
def Q_rm6 (Z : State) (a1 : Addr) (w1 : Int64) (h0 : Heap) (n0 : Nat) (v : Option Value) (h : Heap) (L : List Loc) : Prop := v = some (.long w1) ∧ Fr n0 L ∧ h = h0
set_option maxRecDepth 65536 in
set_option maxHeartbeats 40000000 in
theorem rm6 (l : Launch) (Z : State) (a0 : Array Value) (hw : ∀ d ∈ tables_1, d.before a0 Z = true) (ws : List Jvm.Cond) (a1 : Addr) (w1 : Int64) (h0 : Heap) (n0 : Nat) (Z0 : n0 ≤ h0.size) (F_characters_a1 : Fld Z h0 a1 "com/example/xylem/xylem/service/Extent" "characters" "J" (.long w1)) :
    MetFree l (⟨"com/example/xylem/xylem/service/Extent", "getCharacters", "()J"⟩ : MethodName) (head1 (Jvm.Cond.code (⟨"com/example/xylem/xylem/service/Extent", "getCharacters", "()J"⟩ : MethodName) prog_48_method_6_code 1 (some .long) :: ws) ({ frames := 0, cells := 0, slots := 0, locals := 0 } : Room)) (fun a U => a = #[(.ref a1)] ∧ Z.Warmed39 U.vm ∧ U.heap = h0) (fun _ _ _ _ _ => True) (fun _ U o U' => ∃ v L, o = .returned v ∧ Q_rm6 Z a1 w1 h0 n0 v U'.heap L ∧ FrameEnd U o U' L ({ frames := 0, cells := 0, slots := 0, locals := 0 } : Room).cells ({ frames := 0, cells := 0, slots := 0, locals := 0 } : Room).slots) := by
  refine MetFree.of_bodySF (plainFor_of_name pn_com_example_xylem_xylem_service_Extent) hisR ?_
  intro p e s m args below meth c s₁ Bd hml0 hP hK
  obtain ⟨rfl, hZ, hh⟩ := hP
  have hx := Bd.exec
  have hby := Bd.bytes
  have hml : c.maxLocals = 1 := hml0
  have hown : s.vm.findClass "com/example/xylem/xylem/service/Extent" = some m.cls := findClass_of_methodNamed Bd.named
  have hnm := (name_of_methodNamed Bd.named Bd.method).1
  have X0 : Stand p l e ({ frames := 0, cells := 0, slots := 0, locals := 0 } : Room) s m #[(.ref a1)] below meth c s₁ [] 0 0 := Stand.of_body Bd
  have e0 : s₁.heap = h0 := by rw [← hh, Bd.state]; rfl
  have N0 := Fr.nil n0
  have pre0 : ∀ t, Steps p.tables e below (s₁.setTop (mkF m 0 #[.val (.ref a1)] [])) t → Steps p.tables e below (s₁.setTop (entryFrame m #[(.ref a1)] 1)) t := fun t k => castTop (ef_6 m a1) k
  obtain ⟨T25, X25, e25, st25⟩ := getF X0 hx hZ hown (host := "") (Or.inl (wd_13 hw)) Via.refl e0 F_characters_a1 (g := (mkF m 1 #[.val (.ref a1)] [(.ref a1)])) rfl rfl (hb hby d6_1)
  obtain ⟨fs, hr, hrun, hended, hW, hsame⟩ := X25.leave (v := some (.long w1)) (fun h => by rw [Bd.returns] at h; cases h)
  refine ⟨_, _, pre0 _ ?_, hrun, hended, _, _, rfl, ?_, ⟨_, rfl⟩, hW, hsame.mono (by decide) (by decide)⟩
  · show Steps p.tables e below (s₁.setTop (mkF m 0 #[.val (.ref a1)] [])) _
    refine XS.aloadN X0.here hx rfl (hb hby d6_0) rfl rfl ?_
    refine st25 _ ?_
    jvm_step X25.here [X25.here.top, hx, (hb hby d6_4), X25.method', Bd.returns, narrow]
    first | (intro acts; rw [hr _ acts rfl rfl rfl]) | rw [hr _ _ rfl rfl rfl]
    exact Steps.refl _
  · show Q_rm6 Z a1 w1 h0 n0 _ T25.heap _
    rw [e25]
    exact ⟨rfl, N0, rfl⟩
theorem wd_0 {a0 : Array Value} {Z : State} (hw : ∀ d ∈ tables_1, d.before a0 Z = true) : (Jvm.Cond.classLink "com/example/xylem/xylem/service/ExtentPlusPinLaw" (7 : Nat) "com/example/xylem/xylem/service/Extent").before a0 Z = true := hw _ (List.mem_of_getElem? (i := 0) rfl)
theorem wd_3 {a0 : Array Value} {Z : State} (hw : ∀ d ∈ tables_1, d.before a0 Z = true) : (Jvm.Cond.methodLink "com/example/xylem/xylem/service/ExtentPlusPinLaw" (9 : Nat) ({ cls := "com/example/xylem/xylem/service/Extent", name := "<init>", desc := "(JJJ)V" } : Jvm.MethodName)).before a0 Z = true := hw _ (List.mem_of_getElem? (i := 3) rfl)
theorem wd_15 {a0 : Array Value} {Z : State} (hw : ∀ d ∈ tables_1, d.before a0 Z = true) : (Jvm.Cond.methodLink "com/example/xylem/xylem/service/ExtentPlusPinLaw" (12 : Nat) ({ cls := "com/example/xylem/xylem/service/Extent", name := "plus", desc := "(Lcom/example/xylem/xylem/service/Extent;)Lcom/example/xylem/xylem/service/Extent;" } : Jvm.MethodName)).before a0 Z = true := hw _ (List.mem_of_getElem? (i := 15) rfl)
theorem wd_19 {a0 : Array Value} {Z : State} (hw : ∀ d ∈ tables_1, d.before a0 Z = true) : (Jvm.Cond.code ({ cls := "com/example/xylem/xylem/service/Extent", name := "plus", desc := "(Lcom/example/xylem/xylem/service/Extent;)Lcom/example/xylem/xylem/service/Extent;" } : Jvm.MethodName) prog_48_method_3_code (2 : Nat) (Option.some (Jvm.ClassFile.FieldType.object "com/example/xylem/xylem/service/Extent"))).before a0 Z = true := hw _ (List.mem_of_getElem? (i := 19) rfl)
theorem pd__Lcom_example_xylem_xylem_service_Extent__Lcom_example_xylem_xylem_service_Extent_ : parseMethodDescriptor "(Lcom/example/xylem/xylem/service/Extent;)Lcom/example/xylem/xylem/service/Extent;" = some ⟨[(.object "com/example/xylem/xylem/service/Extent")], some (.object "com/example/xylem/xylem/service/Extent")⟩ := by decide +kernel
theorem wd_18 {a0 : Array Value} {Z : State} (hw : ∀ d ∈ tables_1, d.before a0 Z = true) : (Jvm.Cond.selects "com/example/xylem/xylem/service/Extent" ({ cls := "com/example/xylem/xylem/service/Extent", name := "plus", desc := "(Lcom/example/xylem/xylem/service/Extent;)Lcom/example/xylem/xylem/service/Extent;" } : Jvm.MethodName) ({ cls := "com/example/xylem/xylem/service/Extent", name := "plus", desc := "(Lcom/example/xylem/xylem/service/Extent;)Lcom/example/xylem/xylem/service/Extent;" } : Jvm.MethodName)).before a0 Z = true := hw _ (List.mem_of_getElem? (i := 18) rfl)
theorem wd_16 {a0 : Array Value} {Z : State} (hw : ∀ d ∈ tables_1, d.before a0 Z = true) : (Jvm.Cond.declares ({ cls := "com/example/xylem/xylem/service/Extent", name := "plus", desc := "(Lcom/example/xylem/xylem/service/Extent;)Lcom/example/xylem/xylem/service/Extent;" } : Jvm.MethodName)).before a0 Z = true := hw _ (List.mem_of_getElem? (i := 16) rfl)
theorem wd_17 {a0 : Array Value} {Z : State} (hw : ∀ d ∈ tables_1, d.before a0 Z = true) : (Jvm.Cond.instanceMethod ({ cls := "com/example/xylem/xylem/service/Extent", name := "plus", desc := "(Lcom/example/xylem/xylem/service/Extent;)Lcom/example/xylem/xylem/service/Extent;" } : Jvm.MethodName)).before a0 Z = true := hw _ (List.mem_of_getElem? (i := 17) rfl)
theorem wd_22 {a0 : Array Value} {Z : State} (hw : ∀ d ∈ tables_1, d.before a0 Z = true) : (Jvm.Cond.methodLink "com/example/xylem/xylem/service/ExtentPlusPinLaw" (16 : Nat) ({ cls := "com/example/xylem/xylem/service/Extent", name := "getElements", desc := "()J" } : Jvm.MethodName)).before a0 Z = true := hw _ (List.mem_of_getElem? (i := 22) rfl)
theorem wd_26 {a0 : Array Value} {Z : State} (hw : ∀ d ∈ tables_1, d.before a0 Z = true) : (Jvm.Cond.code ({ cls := "com/example/xylem/xylem/service/Extent", name := "getElements", desc := "()J" } : Jvm.MethodName) prog_48_method_4_code (1 : Nat) (Option.some Jvm.ClassFile.FieldType.long)).before a0 Z = true := hw _ (List.mem_of_getElem? (i := 26) rfl)
theorem pd___J : parseMethodDescriptor "()J" = some ⟨[], some .long⟩ := by decide +kernel
theorem wd_25 {a0 : Array Value} {Z : State} (hw : ∀ d ∈ tables_1, d.before a0 Z = true) : (Jvm.Cond.selects "com/example/xylem/xylem/service/Extent" ({ cls := "com/example/xylem/xylem/service/Extent", name := "getElements", desc := "()J" } : Jvm.MethodName) ({ cls := "com/example/xylem/xylem/service/Extent", name := "getElements", desc := "()J" } : Jvm.MethodName)).before a0 Z = true := hw _ (List.mem_of_getElem? (i := 25) rfl)
theorem wd_23 {a0 : Array Value} {Z : State} (hw : ∀ d ∈ tables_1, d.before a0 Z = true) : (Jvm.Cond.declares ({ cls := "com/example/xylem/xylem/service/Extent", name := "getElements", desc := "()J" } : Jvm.MethodName)).before a0 Z = true := hw _ (List.mem_of_getElem? (i := 23) rfl)
theorem wd_24 {a0 : Array Value} {Z : State} (hw : ∀ d ∈ tables_1, d.before a0 Z = true) : (Jvm.Cond.instanceMethod ({ cls := "com/example/xylem/xylem/service/Extent", name := "getElements", desc := "()J" } : Jvm.MethodName)).before a0 Z = true := hw _ (List.mem_of_getElem? (i := 24) rfl)
theorem wd_27 {a0 : Array Value} {Z : State} (hw : ∀ d ∈ tables_1, d.before a0 Z = true) : (Jvm.Cond.methodLink "com/example/xylem/xylem/service/ExtentPlusPinLaw" (20 : Nat) ({ cls := "com/example/xylem/xylem/service/Extent", name := "getAttributes", desc := "()J" } : Jvm.MethodName)).before a0 Z = true := hw _ (List.mem_of_getElem? (i := 27) rfl)
theorem wd_31 {a0 : Array Value} {Z : State} (hw : ∀ d ∈ tables_1, d.before a0 Z = true) : (Jvm.Cond.code ({ cls := "com/example/xylem/xylem/service/Extent", name := "getAttributes", desc := "()J" } : Jvm.MethodName) prog_48_method_5_code (1 : Nat) (Option.some Jvm.ClassFile.FieldType.long)).before a0 Z = true := hw _ (List.mem_of_getElem? (i := 31) rfl)
theorem wd_30 {a0 : Array Value} {Z : State} (hw : ∀ d ∈ tables_1, d.before a0 Z = true) : (Jvm.Cond.selects "com/example/xylem/xylem/service/Extent" ({ cls := "com/example/xylem/xylem/service/Extent", name := "getAttributes", desc := "()J" } : Jvm.MethodName) ({ cls := "com/example/xylem/xylem/service/Extent", name := "getAttributes", desc := "()J" } : Jvm.MethodName)).before a0 Z = true := hw _ (List.mem_of_getElem? (i := 30) rfl)
theorem wd_28 {a0 : Array Value} {Z : State} (hw : ∀ d ∈ tables_1, d.before a0 Z = true) : (Jvm.Cond.declares ({ cls := "com/example/xylem/xylem/service/Extent", name := "getAttributes", desc := "()J" } : Jvm.MethodName)).before a0 Z = true := hw _ (List.mem_of_getElem? (i := 28) rfl)
theorem wd_29 {a0 : Array Value} {Z : State} (hw : ∀ d ∈ tables_1, d.before a0 Z = true) : (Jvm.Cond.instanceMethod ({ cls := "com/example/xylem/xylem/service/Extent", name := "getAttributes", desc := "()J" } : Jvm.MethodName)).before a0 Z = true := hw _ (List.mem_of_getElem? (i := 29) rfl)
theorem wd_32 {a0 : Array Value} {Z : State} (hw : ∀ d ∈ tables_1, d.before a0 Z = true) : (Jvm.Cond.methodLink "com/example/xylem/xylem/service/ExtentPlusPinLaw" (23 : Nat) ({ cls := "com/example/xylem/xylem/service/Extent", name := "getCharacters", desc := "()J" } : Jvm.MethodName)).before a0 Z = true := hw _ (List.mem_of_getElem? (i := 32) rfl)
theorem wd_36 {a0 : Array Value} {Z : State} (hw : ∀ d ∈ tables_1, d.before a0 Z = true) : (Jvm.Cond.code ({ cls := "com/example/xylem/xylem/service/Extent", name := "getCharacters", desc := "()J" } : Jvm.MethodName) prog_48_method_6_code (1 : Nat) (Option.some Jvm.ClassFile.FieldType.long)).before a0 Z = true := hw _ (List.mem_of_getElem? (i := 36) rfl)
theorem wd_35 {a0 : Array Value} {Z : State} (hw : ∀ d ∈ tables_1, d.before a0 Z = true) : (Jvm.Cond.selects "com/example/xylem/xylem/service/Extent" ({ cls := "com/example/xylem/xylem/service/Extent", name := "getCharacters", desc := "()J" } : Jvm.MethodName) ({ cls := "com/example/xylem/xylem/service/Extent", name := "getCharacters", desc := "()J" } : Jvm.MethodName)).before a0 Z = true := hw _ (List.mem_of_getElem? (i := 35) rfl)
theorem wd_33 {a0 : Array Value} {Z : State} (hw : ∀ d ∈ tables_1, d.before a0 Z = true) : (Jvm.Cond.declares ({ cls := "com/example/xylem/xylem/service/Extent", name := "getCharacters", desc := "()J" } : Jvm.MethodName)).before a0 Z = true := hw _ (List.mem_of_getElem? (i := 33) rfl)
theorem wd_34 {a0 : Array Value} {Z : State} (hw : ∀ d ∈ tables_1, d.before a0 Z = true) : (Jvm.Cond.instanceMethod ({ cls := "com/example/xylem/xylem/service/Extent", name := "getCharacters", desc := "()J" } : Jvm.MethodName)).before a0 Z = true := hw _ (List.mem_of_getElem? (i := 34) rfl)
theorem ef_0 (m : MethodId) (x0 : Int64) (x1 : Int64) (x2 : Int64) (x3 : Int64) (x4 : Int64) (x5 : Int64) : entryFrame m #[(.long x0), (.long x1), (.long x2), (.long x3), (.long x4), (.long x5)] maxLocals = mkF m 0 #[.val (.long x0), .second, .val (.long x1), .second, .val (.long x2), .second, .val (.long x3), .second, .val (.long x4), .second, .val (.long x5), .second, .unset, .unset, .unset, .unset, .unset] [] := by first | (simp [entryFrame, mkF, argsToLocals, Value.category, maxLocals]; done) | rfl
theorem pn_com_example_xylem_xylem_service_ExtentPlusPinLaw : plainName "com/example/xylem/xylem/service/ExtentPlusPinLaw" = true := by first | (simp [plainName, overriddenIn]; done) | decide +kernel
def Q_rm0 (Z : State) (q1 : Int64) (q2 : Int64) (q3 : Int64) (q4 : Int64) (q5 : Int64) (q6 : Int64) (h0 : Heap) (n0 : Nat) (v : Option Value) (h : Heap) (L : List Loc) : Prop := v = some (.int (1 : Int32)) ∧ Fr n0 L ∧ True
set_option maxRecDepth 65536 in
set_option maxHeartbeats 40000000 in
theorem rm0 (l : Launch) (Z : State) (a0 : Array Value) (hw : ∀ d ∈ tables_1, d.before a0 Z = true) (ws : List Jvm.Cond) (q1 : Int64) (q2 : Int64) (q3 : Int64) (q4 : Int64) (q5 : Int64) (q6 : Int64) (h0 : Heap) (n0 : Nat) (Z0 : n0 ≤ h0.size) :
    MetFree l x (head1 (Jvm.Cond.code x code maxLocals ret :: ws) room_1) (fun a U => a = #[(.long q1), (.long q2), (.long q3), (.long q4), (.long q5), (.long q6)] ∧ Z.Warmed39 U.vm ∧ U.heap = h0) (fun _ _ _ _ _ => True) (fun _ U o U' => ∃ v L, o = .returned v ∧ Q_rm0 Z q1 q2 q3 q4 q5 q6 h0 n0 v U'.heap L ∧ FrameEnd U o U' L room_1.cells room_1.slots) := by
  refine MetFree.of_bodySF (plainFor_of_name pn_com_example_xylem_xylem_service_ExtentPlusPinLaw) hisR ?_
  intro p e s m args below meth c s₁ Bd hml0 hP hK
  obtain ⟨rfl, hZ, hh⟩ := hP
  have hx := Bd.exec
  have hby := Bd.bytes
  have hml : c.maxLocals = 17 := hml0
  have hown : s.vm.findClass "com/example/xylem/xylem/service/ExtentPlusPinLaw" = some m.cls := findClass_of_methodNamed Bd.named
  have hnm := (name_of_methodNamed Bd.named Bd.method).1
  have X0 : Stand p l e room_1 s m #[(.long q1), (.long q2), (.long q3), (.long q4), (.long q5), (.long q6)] below meth c s₁ [] 0 0 := Stand.of_body Bd
  have e0 : s₁.heap = h0 := by rw [← hh, Bd.state]; rfl
  have N0 := Fr.nil n0
  have pre0 : ∀ t, Steps p.tables e below (s₁.setTop (mkF m 0 #[.val (.long q1), .second, .val (.long q2), .second, .val (.long q3), .second, .val (.long q4), .second, .val (.long q5), .second, .val (.long q6), .second, .unset, .unset, .unset, .unset, .unset] [])) t → Steps p.tables e below (s₁.setTop (entryFrame m #[(.long q1), (.long q2), (.long q3), (.long q4), (.long q5), (.long q6)] maxLocals)) t := fun t k => castTop (ef_0 m q1 q2 q3 q4 q5 q6) k
  obtain ⟨T26, h26, X26, e26, E26, A26, D26, -, st26⟩ := newO X0 hx hZ hown (wd_0 hw) (wd_1 hw) (wd_2 hw) e0 (g := (mkF m 0 #[.val (.long q1), .second, .val (.long q2), .second, .val (.long q3), .second, .val (.long q4), .second, .val (.long q5), .second, .val (.long q6), .second, .unset, .unset, .unset, .unset, .unset] [])) rfl (hb hby at_0) (by decide) (by decide)
  obtain ⟨b26, g26⟩ : ∃ z, z = h0.size := ⟨_, rfl⟩
  rw [← g26] at A26 D26 st26
  have g_b26 : n0 ≤ b26 := Nat.le_trans Z0 (Nat.le_of_eq g26.symm)
  have Z27 : n0 ≤ h26.size := Nat.le_trans Z0 E26.1
  have F_elements_b26 : Fld Z h26 b26 "com/example/xylem/xylem/service/Extent" "elements" "J" (.long (0 : Int64)) := D26 (Or.inr (wd_10 hw)) (ty := .long) (by decide)
  have F_attributes_b26 : Fld Z h26 b26 "com/example/xylem/xylem/service/Extent" "attributes" "J" (.long (0 : Int64)) := D26 (Or.inr (wd_12 hw)) (ty := .long) (by decide)
  have F_characters_b26 : Fld Z h26 b26 "com/example/xylem/xylem/service/Extent" "characters" "J" (.long (0 : Int64)) := D26 (Or.inr (wd_14 hw)) (ty := .long) (by decide)
  obtain ⟨_, _, ⟨T28, L28, k28, n28⟩, -, X28, ⟨Lc28, hQ28, l28, y28, z28⟩, st28⟩ := X26.specialBack hx (y := (⟨"com/example/xylem/xylem/service/Extent", "<init>", "(JJJ)V"⟩ : MethodName)) rfl hown (mvT hZ (wd_3 hw)) (mvT hZ (wd_4 hw)) (mvT hZ (wd_5 hw)) (by decide) (backOf (W := 1) (rm1 l Z a0 hw [] b26 q1 q2 q3 (.long (0 : Int64)) (.long (0 : Int64)) (.long (0 : Int64)) h26 n0 Z27 F_elements_b26 F_attributes_b26 F_characters_b26 A26 g_b26) hZ (wd_5 hw) (wd_2 hw) (by decide) (by decide)) (g := (mkF m 8 #[.val (.long q1), .second, .val (.long q2), .second, .val (.long q3), .second, .val (.long q4), .second, .val (.long q5), .second, .val (.long q6), .second, .unset, .unset, .unset, .unset, .unset] [(.long q3), (.long q2), (.long q1), (.ref b26), (.ref b26)])) rfl (by rw [hml]; rfl) (Steps.refl _) (a := b26) (argsL := [(.long q1), (.long q2), (.long q3)]) (rest := [(.ref b26)]) (lenOf pd__JJJ_V rfl) rfl (by show 2 * 0 + _ ≤ _; exact Nat.le_of_eq rfl) (hb hby at_8) (fun _ _ => ⟨rfl, e26, (by decide : 1 + 0 ≤ _), (by decide : 3 + 0 ≤ _)⟩)
  dsimp only [Pt.U, Pt.locs, Pt.cells, Pt.slots] at X28 l28 y28 z28 st28 hQ28
  subst l28 y28 z28
  obtain ⟨rfl, N28q, K28q, g28_0, g28_1, g28_2, g28_3⟩ := hQ28
  have N28 := Fr.app N0 N28q
  have Z29 : n0 ≤ T28.heap.size := Nat.le_trans Z27 K28q.1
  obtain ⟨T30, h30, X30, e30, E30, A30, D30, -, st30⟩ := newO X28 hx hZ hown (wd_0 hw) (wd_1 hw) (wd_2 hw) rfl (g := (mkF m 13 #[.val (.long q1), .second, .val (.long q2), .second, .val (.long q3), .second, .val (.long q4), .second, .val (.long q5), .second, .val (.long q6), .second, .val (.ref b26), .unset, .unset, .unset, .unset] [])) rfl (hb hby at_13) (by decide) (by decide)
  obtain ⟨b30, g30⟩ : ∃ z, z = T28.heap.size := ⟨_, rfl⟩
  rw [← g30] at A30 D30 st30
  have g_b30 : n0 ≤ b30 := Nat.le_trans Z29 (Nat.le_of_eq g30.symm)
  have ne_b26_b30 : b26 ≠ b30 := Nat.ne_of_lt (Nat.lt_of_lt_of_le (g28_0).lt (Nat.le_of_eq g30.symm))
  have Z31 : n0 ≤ h30.size := Nat.le_trans Z29 E30.1
  have F_elements_b30 : Fld Z h30 b30 "com/example/xylem/xylem/service/Extent" "elements" "J" (.long (0 : Int64)) := D30 (Or.inr (wd_10 hw)) (ty := .long) (by decide)
  have F_attributes_b30 : Fld Z h30 b30 "com/example/xylem/xylem/service/Extent" "attributes" "J" (.long (0 : Int64)) := D30 (Or.inr (wd_12 hw)) (ty := .long) (by decide)
  have F_characters_b30 : Fld Z h30 b30 "com/example/xylem/xylem/service/Extent" "characters" "J" (.long (0 : Int64)) := D30 (Or.inr (wd_14 hw)) (ty := .long) (by decide)
  obtain ⟨_, _, ⟨T32, L32, k32, n32⟩, -, X32, ⟨Lc32, hQ32, l32, y32, z32⟩, st32⟩ := X30.specialBack hx (y := (⟨"com/example/xylem/xylem/service/Extent", "<init>", "(JJJ)V"⟩ : MethodName)) rfl hown (mvT hZ (wd_3 hw)) (mvT hZ (wd_4 hw)) (mvT hZ (wd_5 hw)) (by decide) (backOf (W := 1) (rm1 l Z a0 hw [] b30 q4 q5 q6 (.long (0 : Int64)) (.long (0 : Int64)) (.long (0 : Int64)) h30 n0 Z31 F_elements_b30 F_attributes_b30 F_characters_b30 A30 g_b30) hZ (wd_5 hw) (wd_2 hw) (by decide) (by decide)) (g := (mkF m 23 #[.val (.long q1), .second, .val (.long q2), .second, .val (.long q3), .second, .val (.long q4), .second, .val (.long q5), .second, .val (.long q6), .second, .val (.ref b26), .unset, .unset, .unset, .unset] [(.long q6), (.long q5), (.long q4), (.ref b30), (.ref b30)])) rfl (by rw [hml]; rfl) (Steps.refl _) (a := b30) (argsL := [(.long q4), (.long q5), (.long q6)]) (rest := [(.ref b30)]) (lenOf pd__JJJ_V rfl) rfl (by show 2 * 0 + _ ≤ _; exact Nat.le_of_eq rfl) (hb hby at_23) (fun _ _ => ⟨rfl, e30, (by decide : 2 + 0 ≤ _), (by decide : 6 + 0 ≤ _)⟩)
  dsimp only [Pt.U, Pt.locs, Pt.cells, Pt.slots] at X32 l32 y32 z32 st32 hQ32
  subst l32 y32 z32
  obtain ⟨rfl, N32q, K32q, g32_0, g32_1, g32_2, g32_3⟩ := hQ32
  have N32 := Fr.app N28 N32q
  have Z33 : n0 ≤ T32.heap.size := Nat.le_trans Z31 K32q.1
  obtain ⟨cq34, kq34, q34a, q34b, q34c⟩ := isOf hZ rfl (((g28_0.ext E30).keep K32q))
  obtain ⟨_, _, ⟨T34, L34, k34, n34⟩, -, X34, ⟨Lc34, hQ34, l34, y34, z34⟩, st34⟩ := X32.virtualBack hx (y := (⟨"com/example/xylem/xylem/service/Extent", "plus", "(Lcom/example/xylem/xylem/service/Extent;)Lcom/example/xylem/xylem/service/Extent;"⟩ : MethodName)) (z := (⟨"com/example/xylem/xylem/service/Extent", "plus", "(Lcom/example/xylem/xylem/service/Extent;)Lcom/example/xylem/xylem/service/Extent;"⟩ : MethodName)) hown (mvT hZ (wd_15 hw)) (mvT hZ (wd_16 hw)) (notFace_of_selects (args := #[]) (mvT hZ (wd_18 hw))) (mvT hZ (wd_18 hw)) (mvT hZ (wd_17 hw)) (by decide) (backOf (W := 0) (rm3 l Z a0 hw [] b26 b30 q1 q2 q3 q4 q5 q6 T32.heap n0 Z33 ((g28_1.ext E30).keep K32q (ninS ne_b26_b30 nin0)) ((g28_2.ext E30).keep K32q (ninS ne_b26_b30 nin0)) ((g28_3.ext E30).keep K32q (ninS ne_b26_b30 nin0)) g32_1 g32_2 g32_3) hZ (wd_19 hw) (wd_2 hw) (by decide) (by decide)) q34a q34c (g := (mkF m 32 #[.val (.long q1), .second, .val (.long q2), .second, .val (.long q3), .second, .val (.long q4), .second, .val (.long q5), .second, .val (.long q6), .second, .val (.ref b26), .val (.ref b30), .unset, .unset, .unset] [(.ref b30), (.ref b26)])) rfl (by rw [hml]; rfl) (Steps.refl _) (argsL := [(.ref b30)]) (rest := []) (lenOf pd__Lcom_example_xylem_xylem_service_Extent__Lcom_example_xylem_xylem_service_Extent_ rfl) rfl (by show 2 * 0 + _ ≤ _; exact Nat.le_of_eq rfl) (hb hby at_32) (fun _ _ => ⟨rfl, rfl, (by decide : 2 + 1 ≤ _), (by decide : 6 + 3 ≤ _)⟩)
  dsimp only [Pt.U, Pt.locs, Pt.cells, Pt.slots] at X34 l34 y34 z34 st34 hQ34
  subst l34 y34 z34
  obtain ⟨b_34, rfl, N34q, K34q, g34_0, g34_1, g34_2, g34_3, g34_4⟩ := hQ34
  have N34 := Fr.app N32 N34q
  have Z35 : n0 ≤ T34.heap.size := Nat.le_trans Z33 K34q.1
  have ne_b26_b_34 : b26 ≠ b_34 := Nat.ne_of_lt (Nat.lt_of_lt_of_le (((g28_0.ext E30).keep K32q)).lt g34_0)
  have ne_b30_b_34 : b30 ≠ b_34 := Nat.ne_of_lt (Nat.lt_of_lt_of_le (g32_0).lt g34_0)
  have g36 : n0 ≤ b_34 := Nat.le_trans Z33 g34_0
  obtain ⟨cq37, kq37, q37a, q37b, q37c⟩ := isOf hZ rfl (g34_1)
  obtain ⟨_, _, ⟨T37, L37, k37, n37⟩, -, X37, ⟨Lc37, hQ37, l37, y37, z37⟩, st37⟩ := X34.virtualBack hx (y := (⟨"com/example/xylem/xylem/service/Extent", "getElements", "()J"⟩ : MethodName)) (z := (⟨"com/example/xylem/xylem/service/Extent", "getElements", "()J"⟩ : MethodName)) hown (mvT hZ (wd_22 hw)) (mvT hZ (wd_23 hw)) (notFace_of_selects (args := #[]) (mvT hZ (wd_25 hw))) (mvT hZ (wd_25 hw)) (mvT hZ (wd_24 hw)) (by decide) (backOf (W := 0) (rm4 l Z a0 hw [] b_34 (q1 + q4) T34.heap n0 Z35 g34_2) hZ (wd_26 hw) (wd_2 hw) (by decide) (by decide)) q37a q37c (g := (mkF m 39 #[.val (.long q1), .second, .val (.long q2), .second, .val (.long q3), .second, .val (.long q4), .second, .val (.long q5), .second, .val (.long q6), .second, .val (.ref b26), .val (.ref b30), .val (.ref b_34), .unset, .unset] [(.ref b_34)])) rfl (by rw [hml]; rfl) (Steps.refl _) (argsL := []) (rest := []) (lenOf pd___J rfl) rfl (by show 2 * 0 + _ ≤ _; exact Nat.le_of_eq rfl) (hb hby at_39) (fun _ _ => ⟨rfl, rfl, (by decide : 3 + 0 ≤ _), (by decide : 9 + 0 ≤ _)⟩)
  dsimp only [Pt.U, Pt.locs, Pt.cells, Pt.slots] at X37 l37 y37 z37 st37 hQ37
  subst l37 y37 z37
  obtain ⟨rfl, N37q, e37⟩ := hQ37
  have N37 := Fr.app N34 N37q
  obtain ⟨cq38, kq38, q38a, q38b, q38c⟩ := isOf hZ e37 (g34_1)
  obtain ⟨_, _, ⟨T38, L38, k38, n38⟩, -, X38, ⟨Lc38, hQ38, l38, y38, z38⟩, st38⟩ := X37.virtualBack hx (y := (⟨"com/example/xylem/xylem/service/Extent", "getAttributes", "()J"⟩ : MethodName)) (z := (⟨"com/example/xylem/xylem/service/Extent", "getAttributes", "()J"⟩ : MethodName)) hown (mvT hZ (wd_27 hw)) (mvT hZ (wd_28 hw)) (notFace_of_selects (args := #[]) (mvT hZ (wd_30 hw))) (mvT hZ (wd_30 hw)) (mvT hZ (wd_29 hw)) (by decide) (backOf (W := 0) (rm5 l Z a0 hw [] b_34 (q2 + q5) T34.heap n0 Z35 g34_3) hZ (wd_31 hw) (wd_2 hw) (by decide) (by decide)) q38a q38c (g := (mkF m 52 #[.val (.long q1), .second, .val (.long q2), .second, .val (.long q3), .second, .val (.long q4), .second, .val (.long q5), .second, .val (.long q6), .second, .val (.ref b26), .val (.ref b30), .val (.ref b_34), .unset, .unset] [(.ref b_34)])) rfl (by rw [hml]; rfl) (Steps.refl _) (argsL := []) (rest := []) (lenOf pd___J rfl) rfl (by show 2 * 0 + _ ≤ _; exact Nat.le_of_eq rfl) (hb hby at_52) (fun _ _ => ⟨rfl, e37, (by decide : 3 + 0 ≤ _), (by decide : 9 + 0 ≤ _)⟩)
  dsimp only [Pt.U, Pt.locs, Pt.cells, Pt.slots] at X38 l38 y38 z38 st38 hQ38
  subst l38 y38 z38
  obtain ⟨rfl, N38q, e38⟩ := hQ38
  have N38 := Fr.app N37 N38q
  obtain ⟨cq39, kq39, q39a, q39b, q39c⟩ := isOf hZ e38 (g34_1)
  obtain ⟨_, _, ⟨T39, L39, k39, n39⟩, -, X39, ⟨Lc39, hQ39, l39, y39, z39⟩, st39⟩ := X38.virtualBack hx (y := (⟨"com/example/xylem/xylem/service/Extent", "getCharacters", "()J"⟩ : MethodName)) (z := (⟨"com/example/xylem/xylem/service/Extent", "getCharacters", "()J"⟩ : MethodName)) hown (mvT hZ (wd_32 hw)) (mvT hZ (wd_33 hw)) (notFace_of_selects (args := #[]) (mvT hZ (wd_35 hw))) (mvT hZ (wd_35 hw)) (mvT hZ (wd_34 hw)) (by decide) (backOf (W := 0) (rm6 l Z a0 hw [] b_34 (q3 + q6) T34.heap n0 Z35 g34_4) hZ (wd_36 hw) (wd_2 hw) (by decide) (by decide)) q39a q39c (g := (mkF m 65 #[.val (.long q1), .second, .val (.long q2), .second, .val (.long q3), .second, .val (.long q4), .second, .val (.long q5), .second, .val (.long q6), .second, .val (.ref b26), .val (.ref b30), .val (.ref b_34), .unset, .unset] [(.ref b_34)])) rfl (by rw [hml]; rfl) (Steps.refl _) (argsL := []) (rest := []) (lenOf pd___J rfl) rfl (by show 2 * 0 + _ ≤ _; exact Nat.le_of_eq rfl) (hb hby at_65) (fun _ _ => ⟨rfl, e38, (by decide : 3 + 0 ≤ _), (by decide : 9 + 0 ≤ _)⟩)
  dsimp only [Pt.U, Pt.locs, Pt.cells, Pt.slots] at X39 l39 y39 z39 st39 hQ39
  subst l39 y39 z39
  obtain ⟨rfl, N39q, e39⟩ := hQ39
  have N39 := Fr.app N38 N39q
  obtain ⟨cq40, kq40, q40a, q40b, q40c⟩ := isOf hZ e39 ((((g28_0.ext E30).keep K32q).keep K34q))
  obtain ⟨_, _, ⟨T40, L40, k40, n40⟩, -, X40, ⟨Lc40, hQ40, l40, y40, z40⟩, st40⟩ := X39.virtualBack hx (y := (⟨"com/example/xylem/xylem/service/Extent", "getElements", "()J"⟩ : MethodName)) (z := (⟨"com/example/xylem/xylem/service/Extent", "getElements", "()J"⟩ : MethodName)) hown (mvT hZ (wd_22 hw)) (mvT hZ (wd_23 hw)) (notFace_of_selects (args := #[]) (mvT hZ (wd_25 hw))) (mvT hZ (wd_25 hw)) (mvT hZ (wd_24 hw)) (by decide) (backOf (W := 0) (rm4 l Z a0 hw [] b26 q1 T34.heap n0 Z35 (((g28_1.ext E30).keep K32q (ninS ne_b26_b30 nin0)).keep K34q nin0)) hZ (wd_26 hw) (wd_2 hw) (by decide) (by decide)) q40a q40c (g := (mkF m 86 #[.val (.long q1), .second, .val (.long q2), .second, .val (.long q3), .second, .val (.long q4), .second, .val (.long q5), .second, .val (.long q6), .second, .val (.ref b26), .val (.ref b30), .val (.ref b_34), .val (.int (1 : Int32)), .unset] [(.ref b26)])) rfl (by rw [hml]; rfl) (Steps.refl _) (argsL := []) (rest := []) (lenOf pd___J rfl) rfl (by show 2 * 0 + _ ≤ _; exact Nat.le_of_eq rfl) (hb hby at_86) (fun _ _ => ⟨rfl, e39, (by decide : 3 + 0 ≤ _), (by decide : 9 + 0 ≤ _)⟩)
  dsimp only [Pt.U, Pt.locs, Pt.cells, Pt.slots] at X40 l40 y40 z40 st40 hQ40
  subst l40 y40 z40
  obtain ⟨rfl, N40q, e40⟩ := hQ40
  have N40 := Fr.app N39 N40q
  obtain ⟨cq41, kq41, q41a, q41b, q41c⟩ := isOf hZ e40 ((((g28_0.ext E30).keep K32q).keep K34q))
  obtain ⟨_, _, ⟨T41, L41, k41, n41⟩, -, X41, ⟨Lc41, hQ41, l41, y41, z41⟩, st41⟩ := X40.virtualBack hx (y := (⟨"com/example/xylem/xylem/service/Extent", "getAttributes", "()J"⟩ : MethodName)) (z := (⟨"com/example/xylem/xylem/service/Extent", "getAttributes", "()J"⟩ : MethodName)) hown (mvT hZ (wd_27 hw)) (mvT hZ (wd_28 hw)) (notFace_of_selects (args := #[]) (mvT hZ (wd_30 hw))) (mvT hZ (wd_30 hw)) (mvT hZ (wd_29 hw)) (by decide) (backOf (W := 0) (rm5 l Z a0 hw [] b26 q2 T34.heap n0 Z35 (((g28_2.ext E30).keep K32q (ninS ne_b26_b30 nin0)).keep K34q nin0)) hZ (wd_31 hw) (wd_2 hw) (by decide) (by decide)) q41a q41c (g := (mkF m 96 #[.val (.long q1), .second, .val (.long q2), .second, .val (.long q3), .second, .val (.long q4), .second, .val (.long q5), .second, .val (.long q6), .second, .val (.ref b26), .val (.ref b30), .val (.ref b_34), .val (.int (1 : Int32)), .unset] [(.ref b26)])) rfl (by rw [hml]; rfl) (Steps.refl _) (argsL := []) (rest := []) (lenOf pd___J rfl) rfl (by show 2 * 0 + _ ≤ _; exact Nat.le_of_eq rfl) (hb hby at_96) (fun _ _ => ⟨rfl, e40, (by decide : 3 + 0 ≤ _), (by decide : 9 + 0 ≤ _)⟩)
  dsimp only [Pt.U, Pt.locs, Pt.cells, Pt.slots] at X41 l41 y41 z41 st41 hQ41
  subst l41 y41 z41
  obtain ⟨rfl, N41q, e41⟩ := hQ41
  have N41 := Fr.app N40 N41q
  obtain ⟨cq42, kq42, q42a, q42b, q42c⟩ := isOf hZ e41 ((((g28_0.ext E30).keep K32q).keep K34q))
  obtain ⟨_, _, ⟨T42, L42, k42, n42⟩, -, X42, ⟨Lc42, hQ42, l42, y42, z42⟩, st42⟩ := X41.virtualBack hx (y := (⟨"com/example/xylem/xylem/service/Extent", "getCharacters", "()J"⟩ : MethodName)) (z := (⟨"com/example/xylem/xylem/service/Extent", "getCharacters", "()J"⟩ : MethodName)) hown (mvT hZ (wd_32 hw)) (mvT hZ (wd_33 hw)) (notFace_of_selects (args := #[]) (mvT hZ (wd_35 hw))) (mvT hZ (wd_35 hw)) (mvT hZ (wd_34 hw)) (by decide) (backOf (W := 0) (rm6 l Z a0 hw [] b26 q3 T34.heap n0 Z35 (((g28_3.ext E30).keep K32q (ninS ne_b26_b30 nin0)).keep K34q nin0)) hZ (wd_36 hw) (wd_2 hw) (by decide) (by decide)) q42a q42c (g := (mkF m 106 #[.val (.long q1), .second, .val (.long q2), .second, .val (.long q3), .second, .val (.long q4), .second, .val (.long q5), .second, .val (.long q6), .second, .val (.ref b26), .val (.ref b30), .val (.ref b_34), .val (.int (1 : Int32)), .unset] [(.ref b26)])) rfl (by rw [hml]; rfl) (Steps.refl _) (argsL := []) (rest := []) (lenOf pd___J rfl) rfl (by show 2 * 0 + _ ≤ _; exact Nat.le_of_eq rfl) (hb hby at_106) (fun _ _ => ⟨rfl, e41, (by decide : 3 + 0 ≤ _), (by decide : 9 + 0 ≤ _)⟩)
  dsimp only [Pt.U, Pt.locs, Pt.cells, Pt.slots] at X42 l42 y42 z42 st42 hQ42
  subst l42 y42 z42
  obtain ⟨rfl, N42q, e42⟩ := hQ42
  have N42 := Fr.app N41 N42q
  obtain ⟨fs, hr, hrun, hended, hW, hsame⟩ := X42.leave (v := some (.int (1 : Int32))) (fun h => by rw [Bd.returns] at h; cases h)
  refine ⟨_, _, pre0 _ ?_, hrun, hended, _, _, rfl, ?_, ⟨_, rfl⟩, hW, hsame.mono (by decide) (by decide)⟩
  · show Steps p.tables e below (s₁.setTop (mkF m 0 #[.val (.long q1), .second, .val (.long q2), .second, .val (.long q3), .second, .val (.long q4), .second, .val (.long q5), .second, .val (.long q6), .second, .unset, .unset, .unset, .unset, .unset] [])) _
    refine st26 _ ?_
    refine XS.dup X26.here hx rfl (hb hby at_3) rfl rfl ?_
    refine XS.lloadN X26.here hx rfl (hb hby at_4) rfl ?_
    refine XS.lloadN X26.here hx rfl (hb hby at_5) rfl ?_
    show Steps p.tables e below (T26.setTop (mkF m 6 #[.val (.long q1), .second, .val (.long q2), .second, .val (.long q3), .second, .val (.long q4), .second, .val (.long q5), .second, .val (.long q6), .second, .unset, .unset, .unset, .unset, .unset] [(.long q2), (.long q1), (.ref b26), (.ref b26)])) _
    refine XS.lload X26.here hx rfl (hb hby at_6) rfl ?_
    refine st28.trans ?_
    refine XS.astore X28.here hx rfl (hb hby at_11) rfl rfl (l' := #[.val (.long q1), .second, .val (.long q2), .second, .val (.long q3), .second, .val (.long q4), .second, .val (.long q5), .second, .val (.long q6), .second, .val (.ref b26), .unset, .unset, .unset, .unset]) rfl ?_
    refine st30 _ ?_
    show Steps p.tables e below (T30.setTop (mkF m 16 #[.val (.long q1), .second, .val (.long q2), .second, .val (.long q3), .second, .val (.long q4), .second, .val (.long q5), .second, .val (.long q6), .second, .val (.ref b26), .unset, .unset, .unset, .unset] [(.ref b30)])) _
    refine XS.dup X30.here hx rfl (hb hby at_16) rfl rfl ?_
    refine XS.lload X30.here hx rfl (hb hby at_17) rfl ?_
    refine XS.lload X30.here hx rfl (hb hby at_19) rfl ?_
    refine XS.lload X30.here hx rfl (hb hby at_21) rfl ?_
    show Steps p.tables e below (T30.setTop (mkF m 23 #[.val (.long q1), .second, .val (.long q2), .second, .val (.long q3), .second, .val (.long q4), .second, .val (.long q5), .second, .val (.long q6), .second, .val (.ref b26), .unset, .unset, .unset, .unset] [(.long q6), (.long q5), (.long q4), (.ref b30), (.ref b30)])) _
    refine st32.trans ?_
    refine XS.astore X32.here hx rfl (hb hby at_26) rfl rfl (l' := #[.val (.long q1), .second, .val (.long q2), .second, .val (.long q3), .second, .val (.long q4), .second, .val (.long q5), .second, .val (.long q6), .second, .val (.ref b26), .val (.ref b30), .unset, .unset, .unset]) rfl ?_
    refine XS.aload X32.here hx rfl (hb hby at_28) rfl rfl ?_
    refine XS.aload X32.here hx rfl (hb hby at_30) rfl rfl ?_
    show Steps p.tables e below (T32.setTop (mkF m 32 #[.val (.long q1), .second, .val (.long q2), .second, .val (.long q3), .second, .val (.long q4), .second, .val (.long q5), .second, .val (.long q6), .second, .val (.ref b26), .val (.ref b30), .unset, .unset, .unset] [(.ref b30), (.ref b26)])) _
    refine st34.trans ?_
    refine XS.astore X34.here hx rfl (hb hby at_35) rfl rfl (l' := #[.val (.long q1), .second, .val (.long q2), .second, .val (.long q3), .second, .val (.long q4), .second, .val (.long q5), .second, .val (.long q6), .second, .val (.ref b26), .val (.ref b30), .val (.ref b_34), .unset, .unset]) rfl ?_
    refine XS.aload X34.here hx rfl (hb hby at_37) rfl rfl ?_
    refine st37.trans ?_
    show Steps p.tables e below (T37.setTop (mkF m 42 #[.val (.long q1), .second, .val (.long q2), .second, .val (.long q3), .second, .val (.long q4), .second, .val (.long q5), .second, .val (.long q6), .second, .val (.ref b26), .val (.ref b30), .val (.ref b_34), .unset, .unset] [(.long (q1 + q4))])) _
    refine XS.lloadN X37.here hx rfl (hb hby at_42) rfl ?_
    refine XS.lload X37.here hx rfl (hb hby at_43) rfl ?_
    refine XS.ladd X37.here hx rfl (hb hby at_45) rfl ?_
    refine XS.lcmp X37.here hx rfl (hb hby at_46) rfl ?_
    show Steps p.tables e below (T37.setTop (mkF m 47 #[.val (.long q1), .second, .val (.long q2), .second, .val (.long q3), .second, .val (.long q4), .second, .val (.long q5), .second, .val (.long q6), .second, .val (.ref b26), .val (.ref b30), .val (.ref b_34), .unset, .unset] [(.int (lcmpW (q1 + q4) (q1 + q4)))])) _
    refine XS.ifNo X37.here hx rfl (hb hby at_47) rfl ((if0 _ _).trans (teq ((lw_eq _ _).mpr rfl)).2) ?_
    refine XS.aload X37.here hx rfl (hb hby at_50) rfl rfl ?_
    refine st38.trans ?_
    refine XS.lloadN X38.here hx rfl (hb hby at_55) rfl ?_
    show Steps p.tables e below (T38.setTop (mkF m 56 #[.val (.long q1), .second, .val (.long q2), .second, .val (.long q3), .second, .val (.long q4), .second, .val (.long q5), .second, .val (.long q6), .second, .val (.ref b26), .val (.ref b30), .val (.ref b_34), .unset, .unset] [(.long q2), (.long (q2 + q5))])) _
    refine XS.lload X38.here hx rfl (hb hby at_56) rfl ?_
    refine XS.ladd X38.here hx rfl (hb hby at_58) rfl ?_
    refine XS.lcmp X38.here hx rfl (hb hby at_59) rfl ?_
    refine XS.ifNo X38.here hx rfl (hb hby at_60) rfl ((if0 _ _).trans (teq ((lw_eq _ _).mpr rfl)).2) ?_
    show Steps p.tables e below (T38.setTop (mkF m 63 #[.val (.long q1), .second, .val (.long q2), .second, .val (.long q3), .second, .val (.long q4), .second, .val (.long q5), .second, .val (.long q6), .second, .val (.ref b26), .val (.ref b30), .val (.ref b_34), .unset, .unset] [])) _
    refine XS.aload X38.here hx rfl (hb hby at_63) rfl rfl ?_
    refine st39.trans ?_
    refine XS.lload X39.here hx rfl (hb hby at_68) rfl ?_
    refine XS.lload X39.here hx rfl (hb hby at_70) rfl ?_
    show Steps p.tables e below (T39.setTop (mkF m 72 #[.val (.long q1), .second, .val (.long q2), .second, .val (.long q3), .second, .val (.long q4), .second, .val (.long q5), .second, .val (.long q6), .second, .val (.ref b26), .val (.ref b30), .val (.ref b_34), .unset, .unset] [(.long q6), (.long q3), (.long (q3 + q6))])) _
    refine XS.ladd X39.here hx rfl (hb hby at_72) rfl ?_
    refine XS.lcmp X39.here hx rfl (hb hby at_73) rfl ?_
    refine XS.ifNo X39.here hx rfl (hb hby at_74) rfl ((if0 _ _).trans (teq ((lw_eq _ _).mpr rfl)).2) ?_
    refine XS.iconst X39.here hx rfl (hb hby at_77) ?_
    show Steps p.tables e below (T39.setTop (mkF m 78 #[.val (.long q1), .second, .val (.long q2), .second, .val (.long q3), .second, .val (.long q4), .second, .val (.long q5), .second, .val (.long q6), .second, .val (.ref b26), .val (.ref b30), .val (.ref b_34), .unset, .unset] [(.int (1 : Int32))])) _
    refine XS.goto X39.here hx rfl (pc0 := 78) (pc' := 82) rfl (hb hby at_78) (by decide) (by decide) ?_
    refine XS.istore X39.here hx rfl (hb hby at_82) rfl (l' := #[.val (.long q1), .second, .val (.long q2), .second, .val (.long q3), .second, .val (.long q4), .second, .val (.long q5), .second, .val (.long q6), .second, .val (.ref b26), .val (.ref b30), .val (.ref b_34), .val (.int (1 : Int32)), .unset]) rfl ?_
    refine XS.aload X39.here hx rfl (hb hby at_84) rfl rfl ?_
    refine st40.trans ?_
    show Steps p.tables e below (T40.setTop (mkF m 89 #[.val (.long q1), .second, .val (.long q2), .second, .val (.long q3), .second, .val (.long q4), .second, .val (.long q5), .second, .val (.long q6), .second, .val (.ref b26), .val (.ref b30), .val (.ref b_34), .val (.int (1 : Int32)), .unset] [(.long q1)])) _
    refine XS.lloadN X40.here hx rfl (hb hby at_89) rfl ?_
    refine XS.lcmp X40.here hx rfl (hb hby at_90) rfl ?_
    refine XS.ifNo X40.here hx rfl (hb hby at_91) rfl ((if0 _ _).trans (teq ((lw_eq _ _).mpr rfl)).2) ?_
    refine XS.aload X40.here hx rfl (hb hby at_94) rfl rfl ?_
    show Steps p.tables e below (T40.setTop (mkF m 96 #[.val (.long q1), .second, .val (.long q2), .second, .val (.long q3), .second, .val (.long q4), .second, .val (.long q5), .second, .val (.long q6), .second, .val (.ref b26), .val (.ref b30), .val (.ref b_34), .val (.int (1 : Int32)), .unset] [(.ref b26)])) _
    refine st41.trans ?_
    refine XS.lloadN X41.here hx rfl (hb hby at_99) rfl ?_
    refine XS.lcmp X41.here hx rfl (hb hby at_100) rfl ?_
    refine XS.ifNo X41.here hx rfl (hb hby at_101) rfl ((if0 _ _).trans (teq ((lw_eq _ _).mpr rfl)).2) ?_
    show Steps p.tables e below (T41.setTop (mkF m 104 #[.val (.long q1), .second, .val (.long q2), .second, .val (.long q3), .second, .val (.long q4), .second, .val (.long q5), .second, .val (.long q6), .second, .val (.ref b26), .val (.ref b30), .val (.ref b_34), .val (.int (1 : Int32)), .unset] [])) _
    refine XS.aload X41.here hx rfl (hb hby at_104) rfl rfl ?_
    refine st42.trans ?_
    refine XS.lload X42.here hx rfl (hb hby at_109) rfl ?_
    refine XS.lcmp X42.here hx rfl (hb hby at_111) rfl ?_
    show Steps p.tables e below (T42.setTop (mkF m 112 #[.val (.long q1), .second, .val (.long q2), .second, .val (.long q3), .second, .val (.long q4), .second, .val (.long q5), .second, .val (.long q6), .second, .val (.ref b26), .val (.ref b30), .val (.ref b_34), .val (.int (1 : Int32)), .unset] [(.int (lcmpW q3 q3))])) _
    refine XS.ifNo X42.here hx rfl (hb hby at_112) rfl ((if0 _ _).trans (teq ((lw_eq _ _).mpr rfl)).2) ?_
    refine XS.iconst X42.here hx rfl (hb hby at_115) ?_
    refine XS.goto X42.here hx rfl (pc0 := 116) (pc' := 120) rfl (hb hby at_116) (by decide) (by decide) ?_
    refine XS.istore X42.here hx rfl (hb hby at_120) rfl (l' := #[.val (.long q1), .second, .val (.long q2), .second, .val (.long q3), .second, .val (.long q4), .second, .val (.long q5), .second, .val (.long q6), .second, .val (.ref b26), .val (.ref b30), .val (.ref b_34), .val (.int (1 : Int32)), .val (.int (1 : Int32))]) rfl ?_
    show Steps p.tables e below (T42.setTop (mkF m 122 #[.val (.long q1), .second, .val (.long q2), .second, .val (.long q3), .second, .val (.long q4), .second, .val (.long q5), .second, .val (.long q6), .second, .val (.ref b26), .val (.ref b30), .val (.ref b_34), .val (.int (1 : Int32)), .val (.int (1 : Int32))] [])) _
    refine XS.iload X42.here hx rfl (hb hby at_122) rfl ?_
    refine XS.ifNo X42.here hx rfl (hb hby at_124) rfl ((if0 _ _).trans (feq (by decide)).1) ?_
    refine XS.iload X42.here hx rfl (hb hby at_127) rfl ?_
    refine XS.ifNo X42.here hx rfl (hb hby at_129) rfl ((if0 _ _).trans (feq (by decide)).1) ?_
    show Steps p.tables e below (T42.setTop (mkF m 132 #[.val (.long q1), .second, .val (.long q2), .second, .val (.long q3), .second, .val (.long q4), .second, .val (.long q5), .second, .val (.long q6), .second, .val (.ref b26), .val (.ref b30), .val (.ref b_34), .val (.int (1 : Int32)), .val (.int (1 : Int32))] [])) _
    refine XS.iconst X42.here hx rfl (hb hby at_132) ?_
    refine XS.goto X42.here hx rfl (pc0 := 133) (pc' := 137) rfl (hb hby at_133) (by decide) (by decide) ?_
    exact retN X42 hx (t := .boolean) Bd.returns (by simp) (hb hby at_137) hr
  · show Q_rm0 Z q1 q2 q3 q4 q5 q6 h0 n0 _ T42.heap _
    rw [e42]
    exact ⟨rfl, N42, trivial⟩
set_option maxRecDepth 65536 in
set_option maxHeartbeats 40000000 in
theorem comes_1 {Post : Tables → Env → Array Value → State → Outcome → State → Prop} (hpost : ∀ tb e args s v u, (limb_1_1.after args s (.returned v) u = true ∧ limb_1_2.after args s (.returned v) u = true ∧ True) → FrameEnd s (.returned v) u (Jvm.fieldLocs frame_1_writes args s ++ Jvm.arrayLocs frame_1_arrays args s ++ Jvm.staticLocs frame_1_statics s) 16 128 → Post tb e args s (.returned v) u) :
    ArmFor flags0 classFile x code maxLocals ret World_1 tables_1 room_1 Calls_1 rest_1 Pre_1 Post := by
  intro l hfl _ _ p e ha hc hk s m args below hf hA hF happ hP
  obtain ⟨hcalls, hrest, hpre⟩ := hP
  obtain ⟨-, -, -, hnamed, -, -, -, hat⟩ := (Spec.applies_iff hf).mp happ
  obtain ⟨hg, hn⟩ := and_e (Cond.before_iff.mp (show (Jvm.Cond.and given_1 narrow_1).before args s = true from hpre))
  obtain ⟨g43, g44⟩ := and_e hg
  obtain ⟨g45, g46⟩ := and_e g44
  obtain ⟨g47, g48⟩ := and_e g46
  obtain ⟨g49, g50⟩ := and_e g48
  obtain ⟨g51, g52⟩ := and_e g50
  obtain ⟨g53, g54⟩ := and_e g52
  obtain ⟨w0, w1, w2, w3, w4, w5, rfl⟩ : ∃ w0 w1 w2 w3 w4 w5 : Value, args = #[w0, w1, w2, w3, w4, w5] := by
    have hs : args.size = 6 := by simpa [Cond.value, given_1] using g43
    obtain ⟨L⟩ := args
    match L, hs with
    | [w0, w1, w2, w3, w4, w5], _ => exact ⟨w0, w1, w2, w3, w4, w5, rfl⟩
  have hw := fun d (hd : d ∈ tables_1) => atoms_spec (ws := Jvm.Cond.code x code maxLocals ret :: tables_1) hat d (List.mem_cons_of_mem _ hd)
  have hfit : Fit s := fun {y c} hc i hi => by
    obtain ⟨ha, rfl⟩ := Array.getElem?_eq_some_iff.mp hc
    have q := List.all_eq_true.mp ((Array.all_eq_true_iff_forall_mem.mp hF) _ (Array.getElem_mem ha)) i (List.mem_range.mpr hi)
    simpa [Array.getElem?_eq_getElem hi] using q
  obtain ⟨i0, ei0⟩ := isL_v g45
  obtain rfl : w0 = (.long i0) := Option.some.inj ei0
  obtain ⟨i1, ei1⟩ := isL_v g47
  obtain rfl : w1 = (.long i1) := Option.some.inj ei1
  obtain ⟨i2, ei2⟩ := isL_v g49
  obtain rfl : w2 = (.long i2) := Option.some.inj ei2
  obtain ⟨i3, ei3⟩ := isL_v g51
  obtain rfl : w3 = (.long i3) := Option.some.inj ei3
  obtain ⟨i4, ei4⟩ := isL_v g53
  obtain rfl : w4 = (.long i4) := Option.some.inj ei4
  obtain ⟨i5, ei5⟩ := isL_v g54
  obtain rfl : w5 = (.long i5) := Option.some.inj ei5
  obtain ⟨n, o, h1, h2, h3, _, L, rfl, ⟨rfl, N, -⟩, hq⟩ := rm0 l s _ hw tables_1 i0 i1 i2 i3 i4 i5 s.heap s.heap.size (Nat.le_refl _) p e ha hc hk s m _ below hf ((Spec.applies_iff_loose hf).mp happ).1 ⟨rfl, State.Warmed39.refl s, rfl⟩ trivial
  refine ⟨n, _, h1, h2, h3, hpost _ _ _ _ _ _ ⟨Cond.after_iff.mpr rfl, Cond.after_iff.mpr (eq_i res_at (Term.int_eval (1)) rfl), trivial⟩ ⟨hq.1, hq.2.1, (hq.2.2.sift fun y hy => Or.inr (N y hy)).mono (by decide) (by decide)⟩⟩
theorem main_1_1 : Claimed_1_1 := comes_1 fun _ _ _ _ _ _ h hF => ⟨h.1, hF⟩
theorem main_1_2 : Claimed_1_2 := comes_1 fun _ _ _ _ _ _ h hF => ⟨h.2.1, hF⟩
end Jvm.Pilot.@@N@@
namespace Jvm.Pilot.@@N@@
open Jvm Jvm.ClassFile Sem Op Lib Jvm.Free Jvm.Stand Jvm.Pilot.@@N@@.Jvm.D
/-! MADE BY PROGRAM (witnessworld.py) out of the Statement's table words and the real class files: 9 classes; the members and pool entries that the words name. The judged class is class 1, her method 1. -/
namespace start1
open Jvm.ClassFile
def u (s : String) : CpInfo := .utf8 (stringToUtf16 s)
/-- a pool by its gaps: so many unusable entries, then the entry; so many at the end -/
def gap : Nat → List CpInfo → List CpInfo
  | 0, r => r
  | n + 1, r => .unusable :: gap n r
def poolList (es : List (Nat × CpInfo)) (last : Nat) : List CpInfo := es.foldr (fun e r => gap e.1 (e.2 :: r)) (gap last [])
def pool (es : List (Nat × CpInfo)) (last : Nat) : Array CpInfo := ⟨poolList es last⟩
def fileOf (pool : Array CpInfo) (this : Nat) (attrs : Array Attribute := #[]) (ms : Array MethodInfo := #[]) (fl : Nat := 33) (sup : Nat := 0) (ifs : Array Nat := #[]) (fds : Array FieldInfo := #[]) : ClassFile where
  minorVersion := 0
  majorVersion := 65
  constantPool := pool
  accessFlags := fl
  thisClass := this
  superClass := sup
  interfaces := ifs
  fields := fds
  methods := ms
  attributes := attrs
def plain (name : String) (sup : Option ClassId) : Class where
  name := name
  kind := .ordinary
  loader := none
  accessFlags := 33
  super := sup
  interfaces := #[]
  cf := none
  fields := #[]
  methods := #[]
  instanceTypes := #[]
  staticTypes := #[]
  resolved := #[]
  callSites := []
  init := .initialized
  statics := none
  mirror := none

def pool0 : Array CpInfo := pool [(5, u "<init>"), (0, u "()V"), (1, .class_ 10), (1, u "java/lang/Object")] 113

def k0c0 : Code := { maxStack := 0, maxLocals := 1, code := object_method_1_code, exceptionTable := #[], attributes := #[] }
def k0m0 : Method := { name := "<init>", desc := "()V", sig := { parameters := [], returnType := none }, accessFlags := 1, code := some k0c0 }
/-- java/lang/Object -/
def k0 : Class := { plain "java/lang/Object" none with
  accessFlags := 33
  interfaces := #[]
  cf := some (fileOf pool0 8 #[] #[{ accessFlags := 1, nameIndex := 5, descriptorIndex := 6, attributes := #[] }] 33 0 #[] #[])
  fields := #[]
  methods := #[k0m0]
  instanceTypes := #[]
  staticTypes := #[]
  resolved := Array.replicate 124 none
  statics := none }

def pool1 : Array CpInfo := pool [(2, .class_ 4), (1, u "java/lang/Object"), (0, u "<init>"), (0, u "()V"), (0, .class_ 8), (0, u "com/example/xylem/xylem/service/Extent"), (0, .methodref 7 10), (0, .nameAndType 5 11), (0, u "(JJJ)V"), (0, .methodref 7 13), (0, .nameAndType 14 15), (0, u "plus"), (0, u "(Lcom/example/xylem/xylem/service/Extent;)Lcom/example/xylem/xylem/service/Extent;"), (0, .methodref 7 17), (0, .nameAndType 18 19), (0, u "getElements"), (0, u "()J"), (0, .methodref 7 21), (0, .nameAndType 22 19), (0, u "getAttributes"), (0, .methodref 7 24), (0, .nameAndType 25 19), (0, u "getCharacters"), (0, .class_ 27), (0, u "com/example/xylem/xylem/service/ExtentPlusPinLaw"), (2, u "law"), (0, u "(JJJJJJ)Z")] 3

def k1m0 : Method := { name := "<init>", desc := "()V", sig := { parameters := [], returnType := none }, accessFlags := 1, code := none }
def k1c1 : Code := { maxStack := 8, maxLocals := 17, code := code, exceptionTable := #[], attributes := #[] }
def k1m1 : Method := { name := "law", desc := "(JJJJJJ)Z", sig := { parameters := [.long, .long, .long, .long, .long, .long], returnType := some .boolean }, accessFlags := 9, code := some k1c1 }
/-- com/example/xylem/xylem/service/ExtentPlusPinLaw -/
def k1 : Class := { plain "com/example/xylem/xylem/service/ExtentPlusPinLaw" (some 0) with
  accessFlags := 49
  interfaces := #[]
  cf := some (fileOf pool1 26 #[] #[{ accessFlags := 1, nameIndex := 5, descriptorIndex := 6, attributes := #[] }, { accessFlags := 9, nameIndex := 30, descriptorIndex := 31, attributes := #[] }] 49 2 #[] #[])
  fields := #[]
  methods := #[k1m0, k1m1]
  instanceTypes := #[]
  staticTypes := #[]
  resolved := Array.replicate 35 none
  statics := none }

def pool2 : Array CpInfo := pool [(1, .methodref 2 3), (0, .class_ 4), (0, .nameAndType 5 6), (0, u "java/lang/Object"), (0, u "<init>"), (0, u "()V"), (0, .fieldref 8 9), (0, .class_ 10), (0, .nameAndType 11 12), (0, u "com/example/xylem/xylem/service/Extent"), (0, u "elements"), (0, u "J"), (0, .fieldref 8 14), (0, .nameAndType 15 12), (0, u "attributes"), (0, .fieldref 8 17), (0, .nameAndType 18 12), (0, u "characters"), (38, u "getAttributes"), (24, .methodref 8 83), (0, .nameAndType 5 84), (0, u "(JJJ)V"), (11, u "NONE"), (0, u "Lcom/example/xylem/xylem/service/Extent;"), (5, u "plus"), (0, u "(Lcom/example/xylem/xylem/service/Extent;)Lcom/example/xylem/xylem/service/Extent;"), (0, u "getElements"), (0, u "()J"), (0, u "getCharacters")] 3

def k2c0 : Code := { maxStack := 3, maxLocals := 7, code := prog_48_method_1_code, exceptionTable := #[], attributes := #[] }
def k2m0 : Method := { name := "<init>", desc := "(JJJ)V", sig := { parameters := [.long, .long, .long], returnType := none }, accessFlags := 0, code := some k2c0 }
def k2c1 : Code := { maxStack := 10, maxLocals := 2, code := prog_48_method_3_code, exceptionTable := #[], attributes := #[] }
def k2m1 : Method := { name := "plus", desc := "(Lcom/example/xylem/xylem/service/Extent;)Lcom/example/xylem/xylem/service/Extent;", sig := { parameters := [(.object "com/example/xylem/xylem/service/Extent")], returnType := some (.object "com/example/xylem/xylem/service/Extent") }, accessFlags := 0, code := some k2c1 }
def k2c2 : Code := { maxStack := 2, maxLocals := 1, code := prog_48_method_4_code, exceptionTable := #[], attributes := #[] }
def k2m2 : Method := { name := "getElements", desc := "()J", sig := { parameters := [], returnType := some .long }, accessFlags := 0, code := some k2c2 }
def k2c3 : Code := { maxStack := 2, maxLocals := 1, code := prog_48_method_5_code, exceptionTable := #[], attributes := #[] }
def k2m3 : Method := { name := "getAttributes", desc := "()J", sig := { parameters := [], returnType := some .long }, accessFlags := 0, code := some k2c3 }
def k2c4 : Code := { maxStack := 2, maxLocals := 1, code := prog_48_method_6_code, exceptionTable := #[], attributes := #[] }
def k2m4 : Method := { name := "getCharacters", desc := "()J", sig := { parameters := [], returnType := some .long }, accessFlags := 0, code := some k2c4 }
/-- com/example/xylem/xylem/service/Extent -/
def k2 : Class := { plain "com/example/xylem/xylem/service/Extent" (some 0) with
  accessFlags := 48
  interfaces := #[]
  cf := some (fileOf pool2 8 #[] #[{ accessFlags := 0, nameIndex := 5, descriptorIndex := 84, attributes := #[] }, { accessFlags := 0, nameIndex := 103, descriptorIndex := 104, attributes := #[] }, { accessFlags := 0, nameIndex := 105, descriptorIndex := 106, attributes := #[] }, { accessFlags := 0, nameIndex := 57, descriptorIndex := 106, attributes := #[] }, { accessFlags := 0, nameIndex := 107, descriptorIndex := 106, attributes := #[] }] 48 2 #[] #[{ accessFlags := 24, nameIndex := 96, descriptorIndex := 97, attributes := #[] }, { accessFlags := 18, nameIndex := 11, descriptorIndex := 12, attributes := #[] }, { accessFlags := 18, nameIndex := 15, descriptorIndex := 12, attributes := #[] }, { accessFlags := 18, nameIndex := 18, descriptorIndex := 12, attributes := #[] }])
  fields := #[{ name := "NONE", type := (.object "com/example/xylem/xylem/service/Extent"), accessFlags := 24, slot := 0, constantValue := 0 }, { name := "elements", type := .long, accessFlags := 18, slot := 0, constantValue := 0 }, { name := "attributes", type := .long, accessFlags := 18, slot := 1, constantValue := 0 }, { name := "characters", type := .long, accessFlags := 18, slot := 2, constantValue := 0 }]
  methods := #[k2m0, k2m1, k2m2, k2m3, k2m4]
  instanceTypes := #[.long, .long, .long]
  staticTypes := #[(.object "com/example/xylem/xylem/service/Extent")]
  resolved := Array.replicate 111 none
  statics := none }

def pool3 : Array CpInfo := pool [(1, u "java/lang/Cloneable"), (0, .class_ 1), (0, u "java/lang/Object"), (0, .class_ 3)] 3

/-- java/lang/Cloneable -/
def k3 : Class := { plain "java/lang/Cloneable" (some 0) with
  accessFlags := 1537
  interfaces := #[]
  cf := some (fileOf pool3 2 #[] #[] 1537 4 #[] #[])
  fields := #[]
  methods := #[]
  instanceTypes := #[]
  staticTypes := #[]
  resolved := Array.replicate 8 none
  statics := none }

def pool4 : Array CpInfo := pool [(1, u "java/io/Serializable"), (0, .class_ 1), (0, u "java/lang/Object"), (0, .class_ 3)] 3

/-- java/io/Serializable -/
def k4 : Class := { plain "java/io/Serializable" (some 0) with
  accessFlags := 1537
  interfaces := #[]
  cf := some (fileOf pool4 2 #[] #[] 1537 4 #[] #[])
  fields := #[]
  methods := #[]
  instanceTypes := #[]
  staticTypes := #[]
  resolved := Array.replicate 8 none
  statics := none }

/-- the primitive byte -/
def k5 : Class := { plain "byte" none with kind := .primitive 'B', accessFlags := 0x411 }
/-- [B -/
def k6 : Class := { plain "[B" (some 0) with kind := .array 5 .byte, interfaces := #[3, 4], accessFlags := 1041 }

/-- the primitive int -/
def k7 : Class := { plain "int" none with kind := .primitive 'I', accessFlags := 0x411 }
/-- [I -/
def k8 : Class := { plain "[I" (some 0) with kind := .array 7 .int, interfaces := #[3, 4], accessFlags := 1041 }

def heap : Heap := #[]
def classes : Array Class := #[k0, k1, k2, k3, k4, k5, k6, k7, k8]
def interned : List (Array UInt16 × Addr) := []
def slotsUsed : Nat := 0
def theMethod : MethodId := ⟨1, 1⟩
def args0 : Array Value := #[.long 1, .long 2, .long 3, .long 4, .long 5, .long 6]
def aboutOver (below : List Frame) : State where
  vm := { classes := classes, interned := interned.toArray }
  heap := heap
  slotsUsed := slotsUsed
  threads := #[{ frames := .invoking theMethod args0 :: below }]
def below0 : List Frame := [.native { method := ⟨0, 0⟩, args := #[] }]
def about1 : State := aboutOver below0
def p0 : Program := .bare "" "" ""
def e0 : Env := launch0.env 0 0 0
theorem w_frames : about1.frames = Frame.invoking theMethod args0 :: below0 := rfl
set_option maxRecDepth 65536 in
theorem w_args : argsFit about1.vm theMethod args0 = true := by decide +kernel
set_option maxRecDepth 65536 in
theorem w_heap : heapFits about1 = true := by decide +kernel
set_option maxRecDepth 65536 in
theorem w_runnable : about1.curStatus? = some .runnable := by decide +kernel
set_option maxRecDepth 65536 in
theorem w_alone : about1.alone = true := by decide +kernel
set_option maxRecDepth 65536 in
theorem w_named : about1.methodNamed? x = some theMethod := by decide +kernel
set_option maxRecDepth 65536 in
theorem w_hears : about1.hears theMethod below0 = true := by decide +kernel
set_option maxRecDepth 65536 in
theorem w_ripe : about1.ripe theMethod args0 below0 = true := by decide +kernel
theorem w_running : about1.status = .running := rfl
set_option maxRecDepth 65536 in
theorem w_room : about1.hasRoom e0.platform room_1 = true :=
  launch0.hasRoom_least _ room_1 (by decide +kernel) (by decide +kernel) (by decide +kernel) (by decide +kernel) (by decide +kernel) (by decide +kernel)
theorem allAtoms_all (ts : List Jvm.Cond) (a : Array Jvm.Value) (st : Jvm.State) : (allAtoms ts).before a st = ts.all (fun c => c.before a st) := by
  induction ts with
  | nil => rfl
  | cons c t ih =>
    show (Jvm.Cond.and c (allAtoms t)).before a st = _
    rw [Jvm.Cond.before_and, ih, List.all_cons]
def words1 : List Jvm.Cond := Jvm.Cond.code x code maxLocals ret :: tables_1
/-- a 'code' word, met by the world's own term for the bytes: nothing is compared byte by byte -/
theorem code_word {y : MethodName} {bytes : ByteArray} {mx : Nat} {rt : Option FieldType} {a : Array Value} {s : State} {m : MethodId} {meth : Method} {c : Code} (h1 : s.methodNamed? y = some m) (h2 : s.vm.method? m = some meth) (h3 : meth.code = some c) (h4 : c.code = bytes)
    (h5 : (c.maxLocals == mx && c.exceptionTable.isEmpty && decide (c.maxStack ≤ mostOperands) && decide (meth.sig.returnType = rt) && !meth.locks && decide (parseMethodDescriptor y.desc = some meth.sig)) = true) : (Jvm.Cond.code y bytes mx rt).before a s = true := by
  simp only [Bool.and_eq_true, beq_iff_eq, Bool.not_eq_true', decide_eq_true_eq] at h5
  obtain ⟨⟨⟨⟨⟨g1, g2⟩, g3⟩, g4⟩, g5⟩, g6⟩ := h5
  simp [Cond.before, Cond.holds, Cond.value, h1, h2, h3, h4, g1, g2, g3, g4, g5, g6]
def isCode : Jvm.Cond → Bool
  | .code _ _ _ _ => true
  | _ => false
theorem all_split {L : List Jvm.Cond} {P : Jvm.Cond → Bool} (h1 : L.all (fun c => isCode c || P c) = true) (h2 : ∀ c ∈ L.filter isCode, P c = true) : L.all P = true := by
  refine List.all_eq_true.mpr fun c hc => ?_
  have h := List.all_eq_true.mp h1 c hc
  rcases Bool.eq_false_or_eq_true (isCode c) with hi | hi
  · exact h2 c (List.mem_filter.mpr ⟨hc, hi⟩)
  · simpa [hi] using h
set_option maxRecDepth 65536 in
theorem w_c0 : (Jvm.Cond.code x code maxLocals ret).before args0 about1 = true := code_word (m := ⟨1, 1⟩) (meth := k1m1) (c := k1c1) (by decide +kernel) rfl rfl rfl (by decide +kernel)
set_option maxRecDepth 65536 in
theorem w_c1 : (Jvm.Cond.code ({ cls := "com/example/xylem/xylem/service/Extent", name := "<init>", desc := "(JJJ)V" } : Jvm.MethodName) prog_48_method_1_code (7 : Nat) (Option.none : Option Jvm.ClassFile.FieldType)).before args0 about1 = true := code_word (m := ⟨2, 0⟩) (meth := k2m0) (c := k2c0) (by decide +kernel) rfl rfl rfl (by decide +kernel)
set_option maxRecDepth 65536 in
theorem w_c2 : (Jvm.Cond.code ({ cls := "java/lang/Object", name := "<init>", desc := "()V" } : Jvm.MethodName) object_method_1_code (1 : Nat) (Option.none : Option Jvm.ClassFile.FieldType)).before args0 about1 = true := code_word (m := ⟨0, 0⟩) (meth := k0m0) (c := k0c0) (by decide +kernel) rfl rfl rfl (by decide +kernel)
set_option maxRecDepth 65536 in
theorem w_c3 : (Jvm.Cond.code ({ cls := "com/example/xylem/xylem/service/Extent", name := "plus", desc := "(Lcom/example/xylem/xylem/service/Extent;)Lcom/example/xylem/xylem/service/Extent;" } : Jvm.MethodName) prog_48_method_3_code (2 : Nat) (Option.some (Jvm.ClassFile.FieldType.object "com/example/xylem/xylem/service/Extent"))).before args0 about1 = true := code_word (m := ⟨2, 1⟩) (meth := k2m1) (c := k2c1) (by decide +kernel) rfl rfl rfl (by decide +kernel)
set_option maxRecDepth 65536 in
theorem w_c4 : (Jvm.Cond.code ({ cls := "com/example/xylem/xylem/service/Extent", name := "getElements", desc := "()J" } : Jvm.MethodName) prog_48_method_4_code (1 : Nat) (Option.some Jvm.ClassFile.FieldType.long)).before args0 about1 = true := code_word (m := ⟨2, 2⟩) (meth := k2m2) (c := k2c2) (by decide +kernel) rfl rfl rfl (by decide +kernel)
set_option maxRecDepth 65536 in
theorem w_c5 : (Jvm.Cond.code ({ cls := "com/example/xylem/xylem/service/Extent", name := "getAttributes", desc := "()J" } : Jvm.MethodName) prog_48_method_5_code (1 : Nat) (Option.some Jvm.ClassFile.FieldType.long)).before args0 about1 = true := code_word (m := ⟨2, 3⟩) (meth := k2m3) (c := k2c3) (by decide +kernel) rfl rfl rfl (by decide +kernel)
set_option maxRecDepth 65536 in
theorem w_c6 : (Jvm.Cond.code ({ cls := "com/example/xylem/xylem/service/Extent", name := "getCharacters", desc := "()J" } : Jvm.MethodName) prog_48_method_6_code (1 : Nat) (Option.some Jvm.ClassFile.FieldType.long)).before args0 about1 = true := code_word (m := ⟨2, 4⟩) (meth := k2m4) (c := k2c4) (by decide +kernel) rfl rfl rfl (by decide +kernel)
def codes1 : List Jvm.Cond := [Jvm.Cond.code x code maxLocals ret, Jvm.Cond.code ({ cls := "com/example/xylem/xylem/service/Extent", name := "<init>", desc := "(JJJ)V" } : Jvm.MethodName) prog_48_method_1_code (7 : Nat) (Option.none : Option Jvm.ClassFile.FieldType), Jvm.Cond.code ({ cls := "java/lang/Object", name := "<init>", desc := "()V" } : Jvm.MethodName) object_method_1_code (1 : Nat) (Option.none : Option Jvm.ClassFile.FieldType), Jvm.Cond.code ({ cls := "com/example/xylem/xylem/service/Extent", name := "plus", desc := "(Lcom/example/xylem/xylem/service/Extent;)Lcom/example/xylem/xylem/service/Extent;" } : Jvm.MethodName) prog_48_method_3_code (2 : Nat) (Option.some (Jvm.ClassFile.FieldType.object "com/example/xylem/xylem/service/Extent")), Jvm.Cond.code ({ cls := "com/example/xylem/xylem/service/Extent", name := "getElements", desc := "()J" } : Jvm.MethodName) prog_48_method_4_code (1 : Nat) (Option.some Jvm.ClassFile.FieldType.long), Jvm.Cond.code ({ cls := "com/example/xylem/xylem/service/Extent", name := "getAttributes", desc := "()J" } : Jvm.MethodName) prog_48_method_5_code (1 : Nat) (Option.some Jvm.ClassFile.FieldType.long), Jvm.Cond.code ({ cls := "com/example/xylem/xylem/service/Extent", name := "getCharacters", desc := "()J" } : Jvm.MethodName) prog_48_method_6_code (1 : Nat) (Option.some Jvm.ClassFile.FieldType.long)]
set_option maxRecDepth 65536 in
theorem codes_eq : words1.filter isCode = codes1 := rfl
theorem w_codes : ∀ c ∈ words1.filter isCode, c.before args0 about1 = true := by
  rw [codes_eq]
  intro c hc
  simp only [codes1, List.mem_cons, List.not_mem_nil, or_false] at hc
  rcases hc with rfl | rfl | rfl | rfl | rfl | rfl | rfl
  · exact w_c0
  · exact w_c1
  · exact w_c2
  · exact w_c3
  · exact w_c4
  · exact w_c5
  · exact w_c6
set_option maxRecDepth 65536 in
theorem w_t1 : (words1.take 24).all (fun c => isCode c || c.before args0 about1) = true := by decide +kernel
set_option maxRecDepth 65536 in
theorem w_t2 : (words1.drop 24).all (fun c => isCode c || c.before args0 about1) = true := by decide +kernel
theorem w_tables : (allAtoms (Jvm.Cond.code x code maxLocals ret :: tables_1)).before args0 about1 = true := by
  rw [allAtoms_all]
  show words1.all (fun c => c.before args0 about1) = true
  refine all_split ?_ w_codes
  rw [← List.take_append_drop 24 words1, List.all_append, w_t1, w_t2]
  rfl
set_option maxRecDepth 65536 in
theorem w_case : (Jvm.Cond.and given_1 narrow_1).before args0 about1 = true := by decide +kernel
theorem w_applies : (headSpec (Jvm.Cond.code x code maxLocals ret :: tables_1) room_1).applies x e0.platform about1 = true :=
  (Spec.applies_iff w_frames).mpr ⟨w_running, w_runnable, w_alone, w_named, w_hears, w_ripe, w_room, w_tables⟩
theorem atStart : AtStart classFile x code maxLocals ret World_1 tables_1 room_1 Calls_1 rest_1 Pre_1 launch0 p0 e0 about1 theMethod args0 below0 :=
  ⟨lists_1, trivial, launch0.admits_env _ _ _, launch0.least_env, fairChoices_fair.cas, fairChoices_fair.clock, w_frames, w_args, w_heap, w_applies, trivial, trivial, w_case⟩
end start1
theorem witness_1 : WitnessClaimed_1 := ⟨start1.p0, start1.e0, start1.about1, start1.theMethod, start1.args0, start1.below0, start1.atStart⟩
end Jvm.Pilot.@@N@@
