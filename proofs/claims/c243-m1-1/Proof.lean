import JvmDerived
import JvmDerived.Pilot.@@N@@Statement
import JvmDerived.Pilot.@@N@@Code
set_option linter.unusedVariables false
set_option linter.unusedSimpArgs false
namespace Jvm.RoadKit
open Sem ClassFile Op Lib Jvm.Stand Jvm.Free Jvm.LawKit
section New
variable {p : Program} {l : Launch} {e : Env} {R : Room} {s : State} {m : MethodId} {args : Array Value} {below : List Frame} {meth : Method} {c : Code} {T : State} {locs : List Loc} {cells slots : Nat}
theorem retI (X : Stand p l e R s m args below meth c T locs cells slots) (hx : p.tables.exec = Jvm.exec) {pc : Nat} {Ls : Array Slot} {z : Int32} {rest : List Value} (hret : meth.sig.returnType = some .int) (hd : decode c.code pc = .ok (.ireturn, 1)) {fs : List Frame}
    (hl : ∀ (f : JFrame) (acts : List Action), f.method = m → f.locked = none → f.entered = [] → (doReturn e (T.setTop f) acts (some (.int z))).1 = T.setFrames fs) : Steps p.tables e below (T.setTop (mkF m pc Ls (.int z :: rest))) (T.setFrames fs) := by
  have hm' : T.vm.method? m = some meth := X.method'
  have hn : narrow .int (.int z) = .int z := rfl
  show Steps p.tables e below (T.setTop { method := m, pc := pc, locals := Ls, stack := _ :: rest, locked := none }) _
  jvm_step X.here [X.here.top, hx, hd, hm', hret, hn]
  first | (intro acts; rw [hl _ acts rfl rfl rfl]) | rw [hl _ _ rfl rfl rfl]
  exact Steps.refl _
end New
end Jvm.RoadKit
namespace Jvm.Pilot.@@N@@
open Jvm Jvm.ClassFile Sem Op Lib Jvm.Free Jvm.Stand Jvm.LawKit Jvm.RoadKit Bundle Jvm.Pilot.@@N@@.Jvm.D
theorem own_lt {x y : Int32} {a b : Int} (h : x < y) (hx : x.toInt = a) (hy : y.toInt = b) : a < b := by rw [← hx, ← hy]; exact Int32.lt_iff_toInt_lt.mp h
theorem own_nlt {x y : Int32} {a b : Int} (h : ¬ x < y) (hx : x.toInt = a) (hy : y.toInt = b) : b ≤ a := by rw [← hx, ← hy]; exact Int.not_lt.mp fun q => h (Int32.lt_iff_toInt_lt.mpr q)
theorem own_eq {x y : Int32} {a b : Int} (h : x = y) (hx : x.toInt = a) (hy : y.toInt = b) : a = b := by rw [← hx, ← hy, h]
theorem own_ne {x y : Int32} {a b : Int} (h : ¬ x = y) (hx : x.toInt = a) (hy : y.toInt = b) : a ≠ b := by rw [← hx, ← hy]; exact fun q => h (Int32.toInt_inj.mp q)
def own_P (c : Int) : Prop := c = 9 ∨ c = 10 ∨ c = 13 ∨ (32 ≤ c ∧ c ≤ 55295) ∨ (57344 ≤ c ∧ c ≤ 65533) ∨ (65536 ≤ c ∧ c ≤ 1114111)
instance (c : Int) : Decidable (own_P c) := by unfold own_P; infer_instance
def own_isx (c : Int32) : Int32 := if own_P c.toInt then 1 else 0
theorem own_isx1 {c : Int32} (h : own_P c.toInt) : some (Value.int (1 : Int32)) = some (Value.int (own_isx c)) := by unfold own_isx; rw [if_pos h]
theorem own_isx0 {c : Int32} (h : ¬ own_P c.toInt) : some (Value.int (0 : Int32)) = some (Value.int (own_isx c)) := by unfold own_isx; rw [if_neg h]
theorem own_any : ∀ (l : List Int32) (n : Nat), ∃ v : Int32, (l.map Value.int).getD n (.int (0 : Int32)) = .int v
  | [], n => ⟨0, by simp⟩
  | a :: l, 0 => ⟨a, rfl⟩
  | a :: l, n + 1 => by obtain ⟨v, hv⟩ := own_any l n; exact ⟨v, by simpa using hv⟩
theorem own_idx (k : Int32) : ¬ ((k &&& (2147483647 : Int32)) % (16 : Int32)) < 0 ∧ ((k &&& (2147483647 : Int32)) % (16 : Int32)) < (16 : Int32) := by
  have h1 := c_mask k 2147483647 31 (by decide) rfl
  have h2 := (c_irem (k &&& (2147483647 : Int32)) 16 16 rfl).1 (by omega)
  refine ⟨fun q => ?_, ?_⟩
  · have := own_lt (b := 0) q rfl rfl; omega
  · rw [Int32.lt_iff_toInt_lt, h2, show (16 : Int32).toInt = 16 from rfl]; omega
theorem d1_0 : decode prog_61_method_6_code 0 = .ok (.iload_n 0, 1) := by decide +kernel
theorem d1_1 : decode prog_61_method_6_code 1 = .ok (.bipush 32, 2) := by decide +kernel
theorem d1_3 : decode prog_61_method_6_code 3 = .ok (.if_icmp .ge 30, 3) := by decide +kernel
theorem d1_6 : decode prog_61_method_6_code 6 = .ok (.iload_n 0, 1) := by decide +kernel
theorem d1_7 : decode prog_61_method_6_code 7 = .ok (.bipush 9, 2) := by decide +kernel
theorem d1_9 : decode prog_61_method_6_code 9 = .ok (.if_icmp .eq 15, 3) := by decide +kernel
theorem d1_24 : decode prog_61_method_6_code 24 = .ok (.iconst 1, 1) := by decide +kernel
theorem d1_25 : decode prog_61_method_6_code 25 = .ok (.goto 4, 3) := by decide +kernel
theorem d1_29 : decode prog_61_method_6_code 29 = .ok (.istore_n 1, 1) := by decide +kernel
theorem d1_30 : decode prog_61_method_6_code 30 = .ok (.goto 39, 3) := by decide +kernel
theorem d1_69 : decode prog_61_method_6_code 69 = .ok (.iload_n 1, 1) := by decide +kernel
theorem d1_70 : decode prog_61_method_6_code 70 = .ok (.ireturn, 1) := by decide +kernel
theorem d1_12 : decode prog_61_method_6_code 12 = .ok (.iload_n 0, 1) := by decide +kernel
theorem d1_13 : decode prog_61_method_6_code 13 = .ok (.bipush 10, 2) := by decide +kernel
theorem d1_15 : decode prog_61_method_6_code 15 = .ok (.if_icmp .eq 9, 3) := by decide +kernel
theorem d1_18 : decode prog_61_method_6_code 18 = .ok (.iload_n 0, 1) := by decide +kernel
theorem d1_19 : decode prog_61_method_6_code 19 = .ok (.bipush 13, 2) := by decide +kernel
theorem d1_21 : decode prog_61_method_6_code 21 = .ok (.if_icmp .ne 7, 3) := by decide +kernel
theorem d1_28 : decode prog_61_method_6_code 28 = .ok (.iconst 0, 1) := by decide +kernel
theorem d1_33 : decode prog_61_method_6_code 33 = .ok (.iload_n 0, 1) := by decide +kernel
theorem d1_34 : decode prog_61_method_6_code 34 = .ok (.ldc 49, 2) := by decide +kernel
theorem wd_20 {a0 : Array Value} {Z : State} (hw : ∀ d ∈ tables_1, d.before a0 Z = true) : (Jvm.Cond.constant "com/example/octavo/octavo/model/XmlNames" (49 : Nat) (55296 : Int32)).before a0 Z = true := hw _ (List.mem_of_getElem? (i := 20) rfl)
theorem d1_36 : decode prog_61_method_6_code 36 = .ok (.if_icmp .lt 27, 3) := by decide +kernel
theorem d1_63 : decode prog_61_method_6_code 63 = .ok (.iconst 1, 1) := by decide +kernel
theorem d1_64 : decode prog_61_method_6_code 64 = .ok (.goto 4, 3) := by decide +kernel
theorem d1_68 : decode prog_61_method_6_code 68 = .ok (.istore_n 1, 1) := by decide +kernel
theorem d1_39 : decode prog_61_method_6_code 39 = .ok (.iload_n 0, 1) := by decide +kernel
theorem d1_40 : decode prog_61_method_6_code 40 = .ok (.ldc 50, 2) := by decide +kernel
theorem wd_21 {a0 : Array Value} {Z : State} (hw : ∀ d ∈ tables_1, d.before a0 Z = true) : (Jvm.Cond.constant "com/example/octavo/octavo/model/XmlNames" (50 : Nat) (57344 : Int32)).before a0 Z = true := hw _ (List.mem_of_getElem? (i := 21) rfl)
theorem d1_42 : decode prog_61_method_6_code 42 = .ok (.if_icmp .lt 9, 3) := by decide +kernel
theorem d1_51 : decode prog_61_method_6_code 51 = .ok (.iload_n 0, 1) := by decide +kernel
theorem d1_52 : decode prog_61_method_6_code 52 = .ok (.ldc 52, 2) := by decide +kernel
theorem wd_23 {a0 : Array Value} {Z : State} (hw : ∀ d ∈ tables_1, d.before a0 Z = true) : (Jvm.Cond.constant "com/example/octavo/octavo/model/XmlNames" (52 : Nat) (65536 : Int32)).before a0 Z = true := hw _ (List.mem_of_getElem? (i := 23) rfl)
theorem d1_54 : decode prog_61_method_6_code 54 = .ok (.if_icmp .lt 13, 3) := by decide +kernel
theorem d1_67 : decode prog_61_method_6_code 67 = .ok (.iconst 0, 1) := by decide +kernel
theorem d1_57 : decode prog_61_method_6_code 57 = .ok (.iload_n 0, 1) := by decide +kernel
theorem d1_58 : decode prog_61_method_6_code 58 = .ok (.ldc 53, 2) := by decide +kernel
theorem wd_24 {a0 : Array Value} {Z : State} (hw : ∀ d ∈ tables_1, d.before a0 Z = true) : (Jvm.Cond.constant "com/example/octavo/octavo/model/XmlNames" (53 : Nat) (1114111 : Int32)).before a0 Z = true := hw _ (List.mem_of_getElem? (i := 24) rfl)
theorem d1_60 : decode prog_61_method_6_code 60 = .ok (.if_icmp .gt 7, 3) := by decide +kernel
theorem d1_45 : decode prog_61_method_6_code 45 = .ok (.iload_n 0, 1) := by decide +kernel
theorem d1_46 : decode prog_61_method_6_code 46 = .ok (.ldc 51, 2) := by decide +kernel
theorem wd_22 {a0 : Array Value} {Z : State} (hw : ∀ d ∈ tables_1, d.before a0 Z = true) : (Jvm.Cond.constant "com/example/octavo/octavo/model/XmlNames" (51 : Nat) (65533 : Int32)).before a0 Z = true := hw _ (List.mem_of_getElem? (i := 22) rfl)
theorem d1_48 : decode prog_61_method_6_code 48 = .ok (.if_icmp .le 15, 3) := by decide +kernel
theorem ef_1 (m : MethodId) (x0 : Int32) : entryFrame m #[(.int x0)] 2 = mkF m 0 #[.val (.int x0), .unset] [] := by first | (simp [entryFrame, mkF, argsToLocals, Value.category]; done) | rfl
theorem pn_com_example_octavo_octavo_model_XmlNames : plainName "com/example/octavo/octavo/model/XmlNames" = true := by first | (simp [plainName, overriddenIn]; done) | decide +kernel
def Q_rm1 (Z : State) (p1 : Int32) (h0 : Heap) (n0 : Nat) (v : Option Value) (h : Heap) (L : List Loc) : Prop := v = some (.int (own_isx p1)) ∧ Fr n0 L ∧ h = h0
set_option maxRecDepth 65536 in
set_option maxHeartbeats 40000000 in
theorem rm1 (l : Launch) (Z : State) (a0 : Array Value) (hw : ∀ d ∈ tables_1, d.before a0 Z = true) (ws : List Jvm.Cond) (p1 : Int32) (h0 : Heap) (n0 : Nat) (Z0 : n0 ≤ h0.size) :
    MetFree l (⟨"com/example/octavo/octavo/model/XmlNames", "isXmlChar", "(I)Z"⟩ : MethodName) (head1 (Jvm.Cond.code (⟨"com/example/octavo/octavo/model/XmlNames", "isXmlChar", "(I)Z"⟩ : MethodName) prog_61_method_6_code 2 (some .boolean) :: ws) ({ frames := 0, cells := 0, slots := 0, locals := 0 } : Room)) (fun a U => a = #[(.int p1)] ∧ Z.Warmed39 U.vm ∧ U.heap = h0) (fun _ _ _ _ _ => True) (fun _ U o U' => ∃ v L, o = .returned v ∧ Q_rm1 Z p1 h0 n0 v U'.heap L ∧ FrameEnd U o U' L ({ frames := 0, cells := 0, slots := 0, locals := 0 } : Room).cells ({ frames := 0, cells := 0, slots := 0, locals := 0 } : Room).slots) := by
  refine MetFree.of_bodySF (plainFor_of_name pn_com_example_octavo_octavo_model_XmlNames) hisR ?_
  intro p e s m args below meth c s₁ Bd hml0 hP hK
  obtain ⟨rfl, hZ, hh⟩ := hP
  have hx := Bd.exec
  have hby := Bd.bytes
  have hml : c.maxLocals = 2 := hml0
  have hown : s.vm.findClass "com/example/octavo/octavo/model/XmlNames" = some m.cls := findClass_of_methodNamed Bd.named
  have hnm := (name_of_methodNamed Bd.named Bd.method).1
  have X0 : Stand p l e ({ frames := 0, cells := 0, slots := 0, locals := 0 } : Room) s m #[(.int p1)] below meth c s₁ [] 0 0 := Stand.of_body Bd
  have e0 : s₁.heap = h0 := by rw [← hh, Bd.state]; rfl
  have N0 := Fr.nil n0
  have pre0 : ∀ t, Steps p.tables e below (s₁.setTop (mkF m 0 #[.val (.int p1), .unset] [])) t → Steps p.tables e below (s₁.setTop (entryFrame m #[(.int p1)] 2)) t := fun t k => castTop (ef_1 m p1) k
  have pre2 : ∀ t, Steps p.tables e below (s₁.setTop (mkF m 3 #[.val (.int p1), .unset] [(.int (32 : Int32)), (.int p1)])) t → Steps p.tables e below (s₁.setTop (entryFrame m #[(.int p1)] 2)) t := by
    intro t kt
    refine pre0 _ ?_
    show Steps p.tables e below (s₁.setTop (mkF m 0 #[.val (.int p1), .unset] [])) _
    refine XS.iloadN X0.here hx rfl (hb hby d1_0) rfl ?_
    refine XS.bipush X0.here hx rfl (hb hby d1_1) ?_
    exact kt
  by_cases hc3_1 : p1 < (32 : Int32)
  · have pre4 : ∀ t, Steps p.tables e below (s₁.setTop (mkF m 9 #[.val (.int p1), .unset] [(.int (9 : Int32)), (.int p1)])) t → Steps p.tables e below (s₁.setTop (entryFrame m #[(.int p1)] 2)) t := by
      intro t kt
      refine pre2 _ ?_
      show Steps p.tables e below (s₁.setTop (mkF m 3 #[.val (.int p1), .unset] [(.int (32 : Int32)), (.int p1)])) _
      refine XS.icmpNo X0.here hx rfl (hb hby d1_3) rfl (tlt hc3_1).2.1 ?_
      refine XS.iloadN X0.here hx rfl (hb hby d1_6) rfl ?_
      show Steps p.tables e below (s₁.setTop (mkF m 7 #[.val (.int p1), .unset] [(.int p1)])) _
      refine XS.bipush X0.here hx rfl (hb hby d1_7) ?_
      exact kt
    by_cases hc9_3 : p1 = (9 : Int32)
    · obtain ⟨fs, hr, hrun, hended, hW, hsame⟩ := X0.leave (v := some (.int (1 : Int32))) (fun h => by rw [Bd.returns] at h; cases h)
      refine ⟨_, _, pre4 _ ?_, hrun, hended, _, _, rfl, ?_, ⟨_, rfl⟩, hW, hsame.mono (by decide) (by decide)⟩
      · show Steps p.tables e below (s₁.setTop (mkF m 9 #[.val (.int p1), .unset] [(.int (9 : Int32)), (.int p1)])) _
        refine XS.icmpYes X0.here hx rfl (pc0 := 9) (pc' := 24) rfl (hb hby d1_9) rfl (teq hc9_3).1 (by decide) (by decide) ?_
        refine XS.iconst X0.here hx rfl (hb hby d1_24) ?_
        refine XS.goto X0.here hx rfl (pc0 := 25) (pc' := 29) rfl (hb hby d1_25) (by decide) (by decide) ?_
        show Steps p.tables e below (s₁.setTop (mkF m 29 #[.val (.int p1), .unset] [(.int (1 : Int32))])) _
        refine XS.istoreN X0.here hx rfl (hb hby d1_29) rfl (l' := #[.val (.int p1), .val (.int (1 : Int32))]) rfl ?_
        refine XS.goto X0.here hx rfl (pc0 := 30) (pc' := 69) rfl (hb hby d1_30) (by decide) (by decide) ?_
        refine XS.iloadN X0.here hx rfl (hb hby d1_69) rfl ?_
        exact retN X0 hx (t := .boolean) Bd.returns (by simp) (hb hby d1_70) hr
      · show Q_rm1 Z p1 h0 n0 _ s₁.heap _
        rw [e0]
        exact ⟨(own_isx1 (by (unfold own_P; have := own_lt (a := (p1).toInt) (b := 32) hc3_1 rfl rfl; have := own_eq (a := (p1).toInt) (b := 9) hc9_3 rfl rfl; omega))), N0, rfl⟩
    · have pre6 : ∀ t, Steps p.tables e below (s₁.setTop (mkF m 15 #[.val (.int p1), .unset] [(.int (10 : Int32)), (.int p1)])) t → Steps p.tables e below (s₁.setTop (entryFrame m #[(.int p1)] 2)) t := by
        intro t kt
        refine pre4 _ ?_
        show Steps p.tables e below (s₁.setTop (mkF m 9 #[.val (.int p1), .unset] [(.int (9 : Int32)), (.int p1)])) _
        refine XS.icmpNo X0.here hx rfl (hb hby d1_9) rfl (feq hc9_3).1 ?_
        refine XS.iloadN X0.here hx rfl (hb hby d1_12) rfl ?_
        refine XS.bipush X0.here hx rfl (hb hby d1_13) ?_
        show Steps p.tables e below (s₁.setTop (mkF m 15 #[.val (.int p1), .unset] [(.int (10 : Int32)), (.int p1)])) _
        exact kt
      by_cases hc15_5 : p1 = (10 : Int32)
      · obtain ⟨fs, hr, hrun, hended, hW, hsame⟩ := X0.leave (v := some (.int (1 : Int32))) (fun h => by rw [Bd.returns] at h; cases h)
        refine ⟨_, _, pre6 _ ?_, hrun, hended, _, _, rfl, ?_, ⟨_, rfl⟩, hW, hsame.mono (by decide) (by decide)⟩
        · show Steps p.tables e below (s₁.setTop (mkF m 15 #[.val (.int p1), .unset] [(.int (10 : Int32)), (.int p1)])) _
          refine XS.icmpYes X0.here hx rfl (pc0 := 15) (pc' := 24) rfl (hb hby d1_15) rfl (teq hc15_5).1 (by decide) (by decide) ?_
          refine XS.iconst X0.here hx rfl (hb hby d1_24) ?_
          refine XS.goto X0.here hx rfl (pc0 := 25) (pc' := 29) rfl (hb hby d1_25) (by decide) (by decide) ?_
          refine XS.istoreN X0.here hx rfl (hb hby d1_29) rfl (l' := #[.val (.int p1), .val (.int (1 : Int32))]) rfl ?_
          show Steps p.tables e below (s₁.setTop (mkF m 30 #[.val (.int p1), .val (.int (1 : Int32))] [])) _
          refine XS.goto X0.here hx rfl (pc0 := 30) (pc' := 69) rfl (hb hby d1_30) (by decide) (by decide) ?_
          refine XS.iloadN X0.here hx rfl (hb hby d1_69) rfl ?_
          exact retN X0 hx (t := .boolean) Bd.returns (by simp) (hb hby d1_70) hr
        · show Q_rm1 Z p1 h0 n0 _ s₁.heap _
          rw [e0]
          exact ⟨(own_isx1 (by (unfold own_P; have := own_lt (a := (p1).toInt) (b := 32) hc3_1 rfl rfl; have := own_ne (a := (p1).toInt) (b := 9) hc9_3 rfl rfl; have := own_eq (a := (p1).toInt) (b := 10) hc15_5 rfl rfl; omega))), N0, rfl⟩
      · have pre8 : ∀ t, Steps p.tables e below (s₁.setTop (mkF m 21 #[.val (.int p1), .unset] [(.int (13 : Int32)), (.int p1)])) t → Steps p.tables e below (s₁.setTop (entryFrame m #[(.int p1)] 2)) t := by
          intro t kt
          refine pre6 _ ?_
          show Steps p.tables e below (s₁.setTop (mkF m 15 #[.val (.int p1), .unset] [(.int (10 : Int32)), (.int p1)])) _
          refine XS.icmpNo X0.here hx rfl (hb hby d1_15) rfl (feq hc15_5).1 ?_
          refine XS.iloadN X0.here hx rfl (hb hby d1_18) rfl ?_
          refine XS.bipush X0.here hx rfl (hb hby d1_19) ?_
          exact kt
        by_cases hc21_7 : p1 = (13 : Int32)
        · obtain ⟨fs, hr, hrun, hended, hW, hsame⟩ := X0.leave (v := some (.int (1 : Int32))) (fun h => by rw [Bd.returns] at h; cases h)
          refine ⟨_, _, pre8 _ ?_, hrun, hended, _, _, rfl, ?_, ⟨_, rfl⟩, hW, hsame.mono (by decide) (by decide)⟩
          · show Steps p.tables e below (s₁.setTop (mkF m 21 #[.val (.int p1), .unset] [(.int (13 : Int32)), (.int p1)])) _
            refine XS.icmpNo X0.here hx rfl (hb hby d1_21) rfl (teq hc21_7).2 ?_
            show Steps p.tables e below (s₁.setTop (mkF m 24 #[.val (.int p1), .unset] [])) _
            refine XS.iconst X0.here hx rfl (hb hby d1_24) ?_
            refine XS.goto X0.here hx rfl (pc0 := 25) (pc' := 29) rfl (hb hby d1_25) (by decide) (by decide) ?_
            refine XS.istoreN X0.here hx rfl (hb hby d1_29) rfl (l' := #[.val (.int p1), .val (.int (1 : Int32))]) rfl ?_
            refine XS.goto X0.here hx rfl (pc0 := 30) (pc' := 69) rfl (hb hby d1_30) (by decide) (by decide) ?_
            show Steps p.tables e below (s₁.setTop (mkF m 69 #[.val (.int p1), .val (.int (1 : Int32))] [])) _
            refine XS.iloadN X0.here hx rfl (hb hby d1_69) rfl ?_
            exact retN X0 hx (t := .boolean) Bd.returns (by simp) (hb hby d1_70) hr
          · show Q_rm1 Z p1 h0 n0 _ s₁.heap _
            rw [e0]
            exact ⟨(own_isx1 (by (unfold own_P; have := own_lt (a := (p1).toInt) (b := 32) hc3_1 rfl rfl; have := own_ne (a := (p1).toInt) (b := 9) hc9_3 rfl rfl; have := own_ne (a := (p1).toInt) (b := 10) hc15_5 rfl rfl; have := own_eq (a := (p1).toInt) (b := 13) hc21_7 rfl rfl; omega))), N0, rfl⟩
        · obtain ⟨fs, hr, hrun, hended, hW, hsame⟩ := X0.leave (v := some (.int (0 : Int32))) (fun h => by rw [Bd.returns] at h; cases h)
          refine ⟨_, _, pre8 _ ?_, hrun, hended, _, _, rfl, ?_, ⟨_, rfl⟩, hW, hsame.mono (by decide) (by decide)⟩
          · show Steps p.tables e below (s₁.setTop (mkF m 21 #[.val (.int p1), .unset] [(.int (13 : Int32)), (.int p1)])) _
            refine XS.icmpYes X0.here hx rfl (pc0 := 21) (pc' := 28) rfl (hb hby d1_21) rfl (feq hc21_7).2 (by decide) (by decide) ?_
            show Steps p.tables e below (s₁.setTop (mkF m 28 #[.val (.int p1), .unset] [])) _
            refine XS.iconst X0.here hx rfl (hb hby d1_28) ?_
            refine XS.istoreN X0.here hx rfl (hb hby d1_29) rfl (l' := #[.val (.int p1), .val (.int (0 : Int32))]) rfl ?_
            refine XS.goto X0.here hx rfl (pc0 := 30) (pc' := 69) rfl (hb hby d1_30) (by decide) (by decide) ?_
            refine XS.iloadN X0.here hx rfl (hb hby d1_69) rfl ?_
            show Steps p.tables e below (s₁.setTop (mkF m 70 #[.val (.int p1), .val (.int (0 : Int32))] [(.int (0 : Int32))])) _
            exact retN X0 hx (t := .boolean) Bd.returns (by simp) (hb hby d1_70) hr
          · show Q_rm1 Z p1 h0 n0 _ s₁.heap _
            rw [e0]
            exact ⟨(own_isx0 (by (unfold own_P; have := own_lt (a := (p1).toInt) (b := 32) hc3_1 rfl rfl; have := own_ne (a := (p1).toInt) (b := 9) hc9_3 rfl rfl; have := own_ne (a := (p1).toInt) (b := 10) hc15_5 rfl rfl; have := own_ne (a := (p1).toInt) (b := 13) hc21_7 rfl rfl; omega))), N0, rfl⟩
  · have pre10 : ∀ t, Steps p.tables e below (s₁.setTop (mkF m 36 #[.val (.int p1), .unset] [(.int (55296 : Int32)), (.int p1)])) t → Steps p.tables e below (s₁.setTop (entryFrame m #[(.int p1)] 2)) t := by
      intro t kt
      refine pre2 _ ?_
      show Steps p.tables e below (s₁.setTop (mkF m 3 #[.val (.int p1), .unset] [(.int (32 : Int32)), (.int p1)])) _
      refine XS.icmpYes X0.here hx rfl (pc0 := 3) (pc' := 33) rfl (hb hby d1_3) rfl (flt hc3_1).2.1 (by decide) (by decide) ?_
      refine XS.iloadN X0.here hx rfl (hb hby d1_33) rfl ?_
      show Steps p.tables e below (s₁.setTop (mkF m 34 #[.val (.int p1), .unset] [(.int p1)])) _
      refine X0.ldcInt hx hown (mvT hZ (wd_20 hw)) (g := (mkF m 34 #[.val (.int p1), .unset] [(.int p1)])) rfl (hb hby d1_34) _ ?_
      exact kt
    by_cases hc36_9 : p1 < (55296 : Int32)
    · obtain ⟨fs, hr, hrun, hended, hW, hsame⟩ := X0.leave (v := some (.int (1 : Int32))) (fun h => by rw [Bd.returns] at h; cases h)
      refine ⟨_, _, pre10 _ ?_, hrun, hended, _, _, rfl, ?_, ⟨_, rfl⟩, hW, hsame.mono (by decide) (by decide)⟩
      · show Steps p.tables e below (s₁.setTop (mkF m 36 #[.val (.int p1), .unset] [(.int (55296 : Int32)), (.int p1)])) _
        refine XS.icmpYes X0.here hx rfl (pc0 := 36) (pc' := 63) rfl (hb hby d1_36) rfl (tlt hc36_9).1 (by decide) (by decide) ?_
        refine XS.iconst X0.here hx rfl (hb hby d1_63) ?_
        refine XS.goto X0.here hx rfl (pc0 := 64) (pc' := 68) rfl (hb hby d1_64) (by decide) (by decide) ?_
        show Steps p.tables e below (s₁.setTop (mkF m 68 #[.val (.int p1), .unset] [(.int (1 : Int32))])) _
        refine XS.istoreN X0.here hx rfl (hb hby d1_68) rfl (l' := #[.val (.int p1), .val (.int (1 : Int32))]) rfl ?_
        refine XS.iloadN X0.here hx rfl (hb hby d1_69) rfl ?_
        exact retN X0 hx (t := .boolean) Bd.returns (by simp) (hb hby d1_70) hr
      · show Q_rm1 Z p1 h0 n0 _ s₁.heap _
        rw [e0]
        exact ⟨(own_isx1 (by (unfold own_P; have := own_nlt (a := (p1).toInt) (b := 32) hc3_1 rfl rfl; have := own_lt (a := (p1).toInt) (b := 55296) hc36_9 rfl rfl; omega))), N0, rfl⟩
    · have pre12 : ∀ t, Steps p.tables e below (s₁.setTop (mkF m 42 #[.val (.int p1), .unset] [(.int (57344 : Int32)), (.int p1)])) t → Steps p.tables e below (s₁.setTop (entryFrame m #[(.int p1)] 2)) t := by
        intro t kt
        refine pre10 _ ?_
        show Steps p.tables e below (s₁.setTop (mkF m 36 #[.val (.int p1), .unset] [(.int (55296 : Int32)), (.int p1)])) _
        refine XS.icmpNo X0.here hx rfl (hb hby d1_36) rfl (flt hc36_9).1 ?_
        refine XS.iloadN X0.here hx rfl (hb hby d1_39) rfl ?_
        refine X0.ldcInt hx hown (mvT hZ (wd_21 hw)) (g := (mkF m 40 #[.val (.int p1), .unset] [(.int p1)])) rfl (hb hby d1_40) _ ?_
        show Steps p.tables e below (s₁.setTop (mkF m 42 #[.val (.int p1), .unset] [(.int (57344 : Int32)), (.int p1)])) _
        exact kt
      by_cases hc42_11 : p1 < (57344 : Int32)
      · have pre14 : ∀ t, Steps p.tables e below (s₁.setTop (mkF m 54 #[.val (.int p1), .unset] [(.int (65536 : Int32)), (.int p1)])) t → Steps p.tables e below (s₁.setTop (entryFrame m #[(.int p1)] 2)) t := by
          intro t kt
          refine pre12 _ ?_
          show Steps p.tables e below (s₁.setTop (mkF m 42 #[.val (.int p1), .unset] [(.int (57344 : Int32)), (.int p1)])) _
          refine XS.icmpYes X0.here hx rfl (pc0 := 42) (pc' := 51) rfl (hb hby d1_42) rfl (tlt hc42_11).1 (by decide) (by decide) ?_
          refine XS.iloadN X0.here hx rfl (hb hby d1_51) rfl ?_
          refine X0.ldcInt hx hown (mvT hZ (wd_23 hw)) (g := (mkF m 52 #[.val (.int p1), .unset] [(.int p1)])) rfl (hb hby d1_52) _ ?_
          exact kt
        by_cases hc54_13 : p1 < (65536 : Int32)
        · obtain ⟨fs, hr, hrun, hended, hW, hsame⟩ := X0.leave (v := some (.int (0 : Int32))) (fun h => by rw [Bd.returns] at h; cases h)
          refine ⟨_, _, pre14 _ ?_, hrun, hended, _, _, rfl, ?_, ⟨_, rfl⟩, hW, hsame.mono (by decide) (by decide)⟩
          · show Steps p.tables e below (s₁.setTop (mkF m 54 #[.val (.int p1), .unset] [(.int (65536 : Int32)), (.int p1)])) _
            refine XS.icmpYes X0.here hx rfl (pc0 := 54) (pc' := 67) rfl (hb hby d1_54) rfl (tlt hc54_13).1 (by decide) (by decide) ?_
            show Steps p.tables e below (s₁.setTop (mkF m 67 #[.val (.int p1), .unset] [])) _
            refine XS.iconst X0.here hx rfl (hb hby d1_67) ?_
            refine XS.istoreN X0.here hx rfl (hb hby d1_68) rfl (l' := #[.val (.int p1), .val (.int (0 : Int32))]) rfl ?_
            refine XS.iloadN X0.here hx rfl (hb hby d1_69) rfl ?_
            exact retN X0 hx (t := .boolean) Bd.returns (by simp) (hb hby d1_70) hr
          · show Q_rm1 Z p1 h0 n0 _ s₁.heap _
            rw [e0]
            exact ⟨(own_isx0 (by (unfold own_P; have := own_nlt (a := (p1).toInt) (b := 32) hc3_1 rfl rfl; have := own_nlt (a := (p1).toInt) (b := 55296) hc36_9 rfl rfl; have := own_lt (a := (p1).toInt) (b := 57344) hc42_11 rfl rfl; have := own_lt (a := (p1).toInt) (b := 65536) hc54_13 rfl rfl; omega))), N0, rfl⟩
        · have pre16 : ∀ t, Steps p.tables e below (s₁.setTop (mkF m 60 #[.val (.int p1), .unset] [(.int (1114111 : Int32)), (.int p1)])) t → Steps p.tables e below (s₁.setTop (entryFrame m #[(.int p1)] 2)) t := by
            intro t kt
            refine pre14 _ ?_
            show Steps p.tables e below (s₁.setTop (mkF m 54 #[.val (.int p1), .unset] [(.int (65536 : Int32)), (.int p1)])) _
            refine XS.icmpNo X0.here hx rfl (hb hby d1_54) rfl (flt hc54_13).1 ?_
            show Steps p.tables e below (s₁.setTop (mkF m 57 #[.val (.int p1), .unset] [])) _
            refine XS.iloadN X0.here hx rfl (hb hby d1_57) rfl ?_
            refine X0.ldcInt hx hown (mvT hZ (wd_24 hw)) (g := (mkF m 58 #[.val (.int p1), .unset] [(.int p1)])) rfl (hb hby d1_58) _ ?_
            exact kt
          by_cases hc60_15 : (1114111 : Int32) < p1
          · obtain ⟨fs, hr, hrun, hended, hW, hsame⟩ := X0.leave (v := some (.int (0 : Int32))) (fun h => by rw [Bd.returns] at h; cases h)
            refine ⟨_, _, pre16 _ ?_, hrun, hended, _, _, rfl, ?_, ⟨_, rfl⟩, hW, hsame.mono (by decide) (by decide)⟩
            · show Steps p.tables e below (s₁.setTop (mkF m 60 #[.val (.int p1), .unset] [(.int (1114111 : Int32)), (.int p1)])) _
              refine XS.icmpYes X0.here hx rfl (pc0 := 60) (pc' := 67) rfl (hb hby d1_60) rfl (tlt hc60_15).2.2.1 (by decide) (by decide) ?_
              refine XS.iconst X0.here hx rfl (hb hby d1_67) ?_
              show Steps p.tables e below (s₁.setTop (mkF m 68 #[.val (.int p1), .unset] [(.int (0 : Int32))])) _
              refine XS.istoreN X0.here hx rfl (hb hby d1_68) rfl (l' := #[.val (.int p1), .val (.int (0 : Int32))]) rfl ?_
              refine XS.iloadN X0.here hx rfl (hb hby d1_69) rfl ?_
              exact retN X0 hx (t := .boolean) Bd.returns (by simp) (hb hby d1_70) hr
            · show Q_rm1 Z p1 h0 n0 _ s₁.heap _
              rw [e0]
              exact ⟨(own_isx0 (by (unfold own_P; have := own_nlt (a := (p1).toInt) (b := 32) hc3_1 rfl rfl; have := own_nlt (a := (p1).toInt) (b := 55296) hc36_9 rfl rfl; have := own_lt (a := (p1).toInt) (b := 57344) hc42_11 rfl rfl; have := own_nlt (a := (p1).toInt) (b := 65536) hc54_13 rfl rfl; have := own_lt (a := 1114111) (b := (p1).toInt) hc60_15 rfl rfl; omega))), N0, rfl⟩
          · obtain ⟨fs, hr, hrun, hended, hW, hsame⟩ := X0.leave (v := some (.int (1 : Int32))) (fun h => by rw [Bd.returns] at h; cases h)
            refine ⟨_, _, pre16 _ ?_, hrun, hended, _, _, rfl, ?_, ⟨_, rfl⟩, hW, hsame.mono (by decide) (by decide)⟩
            · show Steps p.tables e below (s₁.setTop (mkF m 60 #[.val (.int p1), .unset] [(.int (1114111 : Int32)), (.int p1)])) _
              refine XS.icmpNo X0.here hx rfl (hb hby d1_60) rfl (flt hc60_15).2.2.1 ?_
              refine XS.iconst X0.here hx rfl (hb hby d1_63) ?_
              show Steps p.tables e below (s₁.setTop (mkF m 64 #[.val (.int p1), .unset] [(.int (1 : Int32))])) _
              refine XS.goto X0.here hx rfl (pc0 := 64) (pc' := 68) rfl (hb hby d1_64) (by decide) (by decide) ?_
              refine XS.istoreN X0.here hx rfl (hb hby d1_68) rfl (l' := #[.val (.int p1), .val (.int (1 : Int32))]) rfl ?_
              refine XS.iloadN X0.here hx rfl (hb hby d1_69) rfl ?_
              exact retN X0 hx (t := .boolean) Bd.returns (by simp) (hb hby d1_70) hr
            · show Q_rm1 Z p1 h0 n0 _ s₁.heap _
              rw [e0]
              exact ⟨(own_isx1 (by (unfold own_P; have := own_nlt (a := (p1).toInt) (b := 32) hc3_1 rfl rfl; have := own_nlt (a := (p1).toInt) (b := 55296) hc36_9 rfl rfl; have := own_lt (a := (p1).toInt) (b := 57344) hc42_11 rfl rfl; have := own_nlt (a := (p1).toInt) (b := 65536) hc54_13 rfl rfl; have := own_nlt (a := 1114111) (b := (p1).toInt) hc60_15 rfl rfl; omega))), N0, rfl⟩
      · have pre18 : ∀ t, Steps p.tables e below (s₁.setTop (mkF m 48 #[.val (.int p1), .unset] [(.int (65533 : Int32)), (.int p1)])) t → Steps p.tables e below (s₁.setTop (entryFrame m #[(.int p1)] 2)) t := by
          intro t kt
          refine pre12 _ ?_
          show Steps p.tables e below (s₁.setTop (mkF m 42 #[.val (.int p1), .unset] [(.int (57344 : Int32)), (.int p1)])) _
          refine XS.icmpNo X0.here hx rfl (hb hby d1_42) rfl (flt hc42_11).1 ?_
          refine XS.iloadN X0.here hx rfl (hb hby d1_45) rfl ?_
          refine X0.ldcInt hx hown (mvT hZ (wd_22 hw)) (g := (mkF m 46 #[.val (.int p1), .unset] [(.int p1)])) rfl (hb hby d1_46) _ ?_
          exact kt
        by_cases hc48_17 : (65533 : Int32) < p1
        · have pre20 : ∀ t, Steps p.tables e below (s₁.setTop (mkF m 54 #[.val (.int p1), .unset] [(.int (65536 : Int32)), (.int p1)])) t → Steps p.tables e below (s₁.setTop (entryFrame m #[(.int p1)] 2)) t := by
            intro t kt
            refine pre18 _ ?_
            show Steps p.tables e below (s₁.setTop (mkF m 48 #[.val (.int p1), .unset] [(.int (65533 : Int32)), (.int p1)])) _
            refine XS.icmpNo X0.here hx rfl (hb hby d1_48) rfl (tlt hc48_17).2.2.2 ?_
            show Steps p.tables e below (s₁.setTop (mkF m 51 #[.val (.int p1), .unset] [])) _
            refine XS.iloadN X0.here hx rfl (hb hby d1_51) rfl ?_
            refine X0.ldcInt hx hown (mvT hZ (wd_23 hw)) (g := (mkF m 52 #[.val (.int p1), .unset] [(.int p1)])) rfl (hb hby d1_52) _ ?_
            exact kt
          by_cases hc54_19 : p1 < (65536 : Int32)
          · obtain ⟨fs, hr, hrun, hended, hW, hsame⟩ := X0.leave (v := some (.int (0 : Int32))) (fun h => by rw [Bd.returns] at h; cases h)
            refine ⟨_, _, pre20 _ ?_, hrun, hended, _, _, rfl, ?_, ⟨_, rfl⟩, hW, hsame.mono (by decide) (by decide)⟩
            · show Steps p.tables e below (s₁.setTop (mkF m 54 #[.val (.int p1), .unset] [(.int (65536 : Int32)), (.int p1)])) _
              refine XS.icmpYes X0.here hx rfl (pc0 := 54) (pc' := 67) rfl (hb hby d1_54) rfl (tlt hc54_19).1 (by decide) (by decide) ?_
              refine XS.iconst X0.here hx rfl (hb hby d1_67) ?_
              show Steps p.tables e below (s₁.setTop (mkF m 68 #[.val (.int p1), .unset] [(.int (0 : Int32))])) _
              refine XS.istoreN X0.here hx rfl (hb hby d1_68) rfl (l' := #[.val (.int p1), .val (.int (0 : Int32))]) rfl ?_
              refine XS.iloadN X0.here hx rfl (hb hby d1_69) rfl ?_
              exact retN X0 hx (t := .boolean) Bd.returns (by simp) (hb hby d1_70) hr
            · show Q_rm1 Z p1 h0 n0 _ s₁.heap _
              rw [e0]
              exact ⟨(own_isx0 (by (unfold own_P; have := own_nlt (a := (p1).toInt) (b := 32) hc3_1 rfl rfl; have := own_nlt (a := (p1).toInt) (b := 55296) hc36_9 rfl rfl; have := own_nlt (a := (p1).toInt) (b := 57344) hc42_11 rfl rfl; have := own_lt (a := 65533) (b := (p1).toInt) hc48_17 rfl rfl; have := own_lt (a := (p1).toInt) (b := 65536) hc54_19 rfl rfl; omega))), N0, rfl⟩
          · have pre22 : ∀ t, Steps p.tables e below (s₁.setTop (mkF m 60 #[.val (.int p1), .unset] [(.int (1114111 : Int32)), (.int p1)])) t → Steps p.tables e below (s₁.setTop (entryFrame m #[(.int p1)] 2)) t := by
              intro t kt
              refine pre20 _ ?_
              show Steps p.tables e below (s₁.setTop (mkF m 54 #[.val (.int p1), .unset] [(.int (65536 : Int32)), (.int p1)])) _
              refine XS.icmpNo X0.here hx rfl (hb hby d1_54) rfl (flt hc54_19).1 ?_
              refine XS.iloadN X0.here hx rfl (hb hby d1_57) rfl ?_
              show Steps p.tables e below (s₁.setTop (mkF m 58 #[.val (.int p1), .unset] [(.int p1)])) _
              refine X0.ldcInt hx hown (mvT hZ (wd_24 hw)) (g := (mkF m 58 #[.val (.int p1), .unset] [(.int p1)])) rfl (hb hby d1_58) _ ?_
              exact kt
            by_cases hc60_21 : (1114111 : Int32) < p1
            · obtain ⟨fs, hr, hrun, hended, hW, hsame⟩ := X0.leave (v := some (.int (0 : Int32))) (fun h => by rw [Bd.returns] at h; cases h)
              refine ⟨_, _, pre22 _ ?_, hrun, hended, _, _, rfl, ?_, ⟨_, rfl⟩, hW, hsame.mono (by decide) (by decide)⟩
              · show Steps p.tables e below (s₁.setTop (mkF m 60 #[.val (.int p1), .unset] [(.int (1114111 : Int32)), (.int p1)])) _
                refine XS.icmpYes X0.here hx rfl (pc0 := 60) (pc' := 67) rfl (hb hby d1_60) rfl (tlt hc60_21).2.2.1 (by decide) (by decide) ?_
                refine XS.iconst X0.here hx rfl (hb hby d1_67) ?_
                refine XS.istoreN X0.here hx rfl (hb hby d1_68) rfl (l' := #[.val (.int p1), .val (.int (0 : Int32))]) rfl ?_
                show Steps p.tables e below (s₁.setTop (mkF m 69 #[.val (.int p1), .val (.int (0 : Int32))] [])) _
                refine XS.iloadN X0.here hx rfl (hb hby d1_69) rfl ?_
                exact retN X0 hx (t := .boolean) Bd.returns (by simp) (hb hby d1_70) hr
              · show Q_rm1 Z p1 h0 n0 _ s₁.heap _
                rw [e0]
                exact ⟨(own_isx0 (by (unfold own_P; have := own_nlt (a := (p1).toInt) (b := 32) hc3_1 rfl rfl; have := own_nlt (a := (p1).toInt) (b := 55296) hc36_9 rfl rfl; have := own_nlt (a := (p1).toInt) (b := 57344) hc42_11 rfl rfl; have := own_lt (a := 65533) (b := (p1).toInt) hc48_17 rfl rfl; have := own_nlt (a := (p1).toInt) (b := 65536) hc54_19 rfl rfl; have := own_lt (a := 1114111) (b := (p1).toInt) hc60_21 rfl rfl; omega))), N0, rfl⟩
            · obtain ⟨fs, hr, hrun, hended, hW, hsame⟩ := X0.leave (v := some (.int (1 : Int32))) (fun h => by rw [Bd.returns] at h; cases h)
              refine ⟨_, _, pre22 _ ?_, hrun, hended, _, _, rfl, ?_, ⟨_, rfl⟩, hW, hsame.mono (by decide) (by decide)⟩
              · show Steps p.tables e below (s₁.setTop (mkF m 60 #[.val (.int p1), .unset] [(.int (1114111 : Int32)), (.int p1)])) _
                refine XS.icmpNo X0.here hx rfl (hb hby d1_60) rfl (flt hc60_21).2.2.1 ?_
                refine XS.iconst X0.here hx rfl (hb hby d1_63) ?_
                refine XS.goto X0.here hx rfl (pc0 := 64) (pc' := 68) rfl (hb hby d1_64) (by decide) (by decide) ?_
                show Steps p.tables e below (s₁.setTop (mkF m 68 #[.val (.int p1), .unset] [(.int (1 : Int32))])) _
                refine XS.istoreN X0.here hx rfl (hb hby d1_68) rfl (l' := #[.val (.int p1), .val (.int (1 : Int32))]) rfl ?_
                refine XS.iloadN X0.here hx rfl (hb hby d1_69) rfl ?_
                exact retN X0 hx (t := .boolean) Bd.returns (by simp) (hb hby d1_70) hr
              · show Q_rm1 Z p1 h0 n0 _ s₁.heap _
                rw [e0]
                exact ⟨(own_isx1 (by (unfold own_P; have := own_nlt (a := (p1).toInt) (b := 32) hc3_1 rfl rfl; have := own_nlt (a := (p1).toInt) (b := 55296) hc36_9 rfl rfl; have := own_nlt (a := (p1).toInt) (b := 57344) hc42_11 rfl rfl; have := own_lt (a := 65533) (b := (p1).toInt) hc48_17 rfl rfl; have := own_nlt (a := (p1).toInt) (b := 65536) hc54_19 rfl rfl; have := own_nlt (a := 1114111) (b := (p1).toInt) hc60_21 rfl rfl; omega))), N0, rfl⟩
        · obtain ⟨fs, hr, hrun, hended, hW, hsame⟩ := X0.leave (v := some (.int (1 : Int32))) (fun h => by rw [Bd.returns] at h; cases h)
          refine ⟨_, _, pre18 _ ?_, hrun, hended, _, _, rfl, ?_, ⟨_, rfl⟩, hW, hsame.mono (by decide) (by decide)⟩
          · show Steps p.tables e below (s₁.setTop (mkF m 48 #[.val (.int p1), .unset] [(.int (65533 : Int32)), (.int p1)])) _
            refine XS.icmpYes X0.here hx rfl (pc0 := 48) (pc' := 63) rfl (hb hby d1_48) rfl (flt hc48_17).2.2.2 (by decide) (by decide) ?_
            show Steps p.tables e below (s₁.setTop (mkF m 63 #[.val (.int p1), .unset] [])) _
            refine XS.iconst X0.here hx rfl (hb hby d1_63) ?_
            refine XS.goto X0.here hx rfl (pc0 := 64) (pc' := 68) rfl (hb hby d1_64) (by decide) (by decide) ?_
            refine XS.istoreN X0.here hx rfl (hb hby d1_68) rfl (l' := #[.val (.int p1), .val (.int (1 : Int32))]) rfl ?_
            refine XS.iloadN X0.here hx rfl (hb hby d1_69) rfl ?_
            show Steps p.tables e below (s₁.setTop (mkF m 70 #[.val (.int p1), .val (.int (1 : Int32))] [(.int (1 : Int32))])) _
            exact retN X0 hx (t := .boolean) Bd.returns (by simp) (hb hby d1_70) hr
          · show Q_rm1 Z p1 h0 n0 _ s₁.heap _
            rw [e0]
            exact ⟨(own_isx1 (by (unfold own_P; have := own_nlt (a := (p1).toInt) (b := 32) hc3_1 rfl rfl; have := own_nlt (a := (p1).toInt) (b := 55296) hc36_9 rfl rfl; have := own_nlt (a := (p1).toInt) (b := 57344) hc42_11 rfl rfl; have := own_nlt (a := 65533) (b := (p1).toInt) hc48_17 rfl rfl; omega))), N0, rfl⟩
theorem d2_0 : decode method_2_code 0 = .ok (.iload_n 0, 1) := by decide +kernel
theorem d2_1 : decode method_2_code 1 = .ok (.bipush 9, 2) := by decide +kernel
theorem d2_3 : decode method_2_code 3 = .ok (.if_icmp .eq 15, 3) := by decide +kernel
theorem d2_18 : decode method_2_code 18 = .ok (.iconst 1, 1) := by decide +kernel
theorem d2_19 : decode method_2_code 19 = .ok (.ireturn, 1) := by decide +kernel
theorem d2_6 : decode method_2_code 6 = .ok (.iload_n 0, 1) := by decide +kernel
theorem d2_7 : decode method_2_code 7 = .ok (.bipush 10, 2) := by decide +kernel
theorem d2_9 : decode method_2_code 9 = .ok (.if_icmp .eq 9, 3) := by decide +kernel
theorem d2_12 : decode method_2_code 12 = .ok (.iload_n 0, 1) := by decide +kernel
theorem d2_13 : decode method_2_code 13 = .ok (.bipush 13, 2) := by decide +kernel
theorem d2_15 : decode method_2_code 15 = .ok (.if_icmp .ne 5, 3) := by decide +kernel
theorem d2_20 : decode method_2_code 20 = .ok (.iload_n 0, 1) := by decide +kernel
theorem d2_21 : decode method_2_code 21 = .ok (.bipush 32, 2) := by decide +kernel
theorem d2_23 : decode method_2_code 23 = .ok (.if_icmp .lt 11, 3) := by decide +kernel
theorem d2_34 : decode method_2_code 34 = .ok (.iload_n 0, 1) := by decide +kernel
theorem d2_35 : decode method_2_code 35 = .ok (.ldc 8, 2) := by decide +kernel
theorem wd_4 {a0 : Array Value} {Z : State} (hw : ∀ d ∈ tables_1, d.before a0 Z = true) : (Jvm.Cond.constant "com/example/octavo/octavo/model/XmlNamesIsXmlCharPinLaw" (8 : Nat) (57344 : Int32)).before a0 Z = true := hw _ (List.mem_of_getElem? (i := 4) rfl)
theorem d2_37 : decode method_2_code 37 = .ok (.if_icmp .lt 11, 3) := by decide +kernel
theorem d2_48 : decode method_2_code 48 = .ok (.iload_n 0, 1) := by decide +kernel
theorem d2_49 : decode method_2_code 49 = .ok (.ldc 10, 2) := by decide +kernel
theorem wd_7 {a0 : Array Value} {Z : State} (hw : ∀ d ∈ tables_1, d.before a0 Z = true) : (Jvm.Cond.constant "com/example/octavo/octavo/model/XmlNamesIsXmlCharPinLaw" (10 : Nat) (65536 : Int32)).before a0 Z = true := hw _ (List.mem_of_getElem? (i := 7) rfl)
theorem d2_51 : decode method_2_code 51 = .ok (.if_icmp .lt 13, 3) := by decide +kernel
theorem d2_64 : decode method_2_code 64 = .ok (.iconst 0, 1) := by decide +kernel
theorem d2_65 : decode method_2_code 65 = .ok (.ireturn, 1) := by decide +kernel
theorem d2_54 : decode method_2_code 54 = .ok (.iload_n 0, 1) := by decide +kernel
theorem d2_55 : decode method_2_code 55 = .ok (.ldc 11, 2) := by decide +kernel
theorem wd_8 {a0 : Array Value} {Z : State} (hw : ∀ d ∈ tables_1, d.before a0 Z = true) : (Jvm.Cond.constant "com/example/octavo/octavo/model/XmlNamesIsXmlCharPinLaw" (11 : Nat) (1114111 : Int32)).before a0 Z = true := hw _ (List.mem_of_getElem? (i := 8) rfl)
theorem d2_57 : decode method_2_code 57 = .ok (.if_icmp .gt 7, 3) := by decide +kernel
theorem d2_60 : decode method_2_code 60 = .ok (.iconst 1, 1) := by decide +kernel
theorem d2_61 : decode method_2_code 61 = .ok (.goto 4, 3) := by decide +kernel
theorem d2_40 : decode method_2_code 40 = .ok (.iload_n 0, 1) := by decide +kernel
theorem d2_41 : decode method_2_code 41 = .ok (.ldc 9, 2) := by decide +kernel
theorem wd_5 {a0 : Array Value} {Z : State} (hw : ∀ d ∈ tables_1, d.before a0 Z = true) : (Jvm.Cond.constant "com/example/octavo/octavo/model/XmlNamesIsXmlCharPinLaw" (9 : Nat) (65533 : Int32)).before a0 Z = true := hw _ (List.mem_of_getElem? (i := 5) rfl)
theorem d2_43 : decode method_2_code 43 = .ok (.if_icmp .gt 5, 3) := by decide +kernel
theorem d2_46 : decode method_2_code 46 = .ok (.iconst 1, 1) := by decide +kernel
theorem d2_47 : decode method_2_code 47 = .ok (.ireturn, 1) := by decide +kernel
theorem d2_26 : decode method_2_code 26 = .ok (.iload_n 0, 1) := by decide +kernel
theorem d2_27 : decode method_2_code 27 = .ok (.ldc 7, 2) := by decide +kernel
theorem wd_1 {a0 : Array Value} {Z : State} (hw : ∀ d ∈ tables_1, d.before a0 Z = true) : (Jvm.Cond.constant "com/example/octavo/octavo/model/XmlNamesIsXmlCharPinLaw" (7 : Nat) (55295 : Int32)).before a0 Z = true := hw _ (List.mem_of_getElem? (i := 1) rfl)
theorem d2_29 : decode method_2_code 29 = .ok (.if_icmp .gt 5, 3) := by decide +kernel
theorem d2_32 : decode method_2_code 32 = .ok (.iconst 1, 1) := by decide +kernel
theorem d2_33 : decode method_2_code 33 = .ok (.ireturn, 1) := by decide +kernel
theorem ef_2 (m : MethodId) (x0 : Int32) : entryFrame m #[(.int x0)] 1 = mkF m 0 #[.val (.int x0)] [] := by first | (simp [entryFrame, mkF, argsToLocals, Value.category]; done) | rfl
theorem pn_com_example_octavo_octavo_model_XmlNamesIsXmlCharPinLaw : plainName "com/example/octavo/octavo/model/XmlNamesIsXmlCharPinLaw" = true := by first | (simp [plainName, overriddenIn]; done) | decide +kernel
def Q_rm2 (Z : State) (p1 : Int32) (h0 : Heap) (n0 : Nat) (v : Option Value) (h : Heap) (L : List Loc) : Prop := v = some (.int (own_isx p1)) ∧ Fr n0 L ∧ h = h0
set_option maxRecDepth 65536 in
set_option maxHeartbeats 40000000 in
theorem rm2 (l : Launch) (Z : State) (a0 : Array Value) (hw : ∀ d ∈ tables_1, d.before a0 Z = true) (ws : List Jvm.Cond) (p1 : Int32) (h0 : Heap) (n0 : Nat) (Z0 : n0 ≤ h0.size) :
    MetFree l (⟨"com/example/octavo/octavo/model/XmlNamesIsXmlCharPinLaw", "ref", "(I)Z"⟩ : MethodName) (head1 (Jvm.Cond.code (⟨"com/example/octavo/octavo/model/XmlNamesIsXmlCharPinLaw", "ref", "(I)Z"⟩ : MethodName) method_2_code 1 (some .boolean) :: ws) ({ frames := 0, cells := 0, slots := 0, locals := 0 } : Room)) (fun a U => a = #[(.int p1)] ∧ Z.Warmed39 U.vm ∧ U.heap = h0) (fun _ _ _ _ _ => True) (fun _ U o U' => ∃ v L, o = .returned v ∧ Q_rm2 Z p1 h0 n0 v U'.heap L ∧ FrameEnd U o U' L ({ frames := 0, cells := 0, slots := 0, locals := 0 } : Room).cells ({ frames := 0, cells := 0, slots := 0, locals := 0 } : Room).slots) := by
  refine MetFree.of_bodySF (plainFor_of_name pn_com_example_octavo_octavo_model_XmlNamesIsXmlCharPinLaw) hisR ?_
  intro p e s m args below meth c s₁ Bd hml0 hP hK
  obtain ⟨rfl, hZ, hh⟩ := hP
  have hx := Bd.exec
  have hby := Bd.bytes
  have hml : c.maxLocals = 1 := hml0
  have hown : s.vm.findClass "com/example/octavo/octavo/model/XmlNamesIsXmlCharPinLaw" = some m.cls := findClass_of_methodNamed Bd.named
  have hnm := (name_of_methodNamed Bd.named Bd.method).1
  have X0 : Stand p l e ({ frames := 0, cells := 0, slots := 0, locals := 0 } : Room) s m #[(.int p1)] below meth c s₁ [] 0 0 := Stand.of_body Bd
  have e0 : s₁.heap = h0 := by rw [← hh, Bd.state]; rfl
  have N0 := Fr.nil n0
  have pre0 : ∀ t, Steps p.tables e below (s₁.setTop (mkF m 0 #[.val (.int p1)] [])) t → Steps p.tables e below (s₁.setTop (entryFrame m #[(.int p1)] 1)) t := fun t k => castTop (ef_2 m p1) k
  have pre24 : ∀ t, Steps p.tables e below (s₁.setTop (mkF m 3 #[.val (.int p1)] [(.int (9 : Int32)), (.int p1)])) t → Steps p.tables e below (s₁.setTop (entryFrame m #[(.int p1)] 1)) t := by
    intro t kt
    refine pre0 _ ?_
    show Steps p.tables e below (s₁.setTop (mkF m 0 #[.val (.int p1)] [])) _
    refine XS.iloadN X0.here hx rfl (hb hby d2_0) rfl ?_
    refine XS.bipush X0.here hx rfl (hb hby d2_1) ?_
    exact kt
  by_cases hc3_23 : p1 = (9 : Int32)
  · obtain ⟨fs, hr, hrun, hended, hW, hsame⟩ := X0.leave (v := some (.int (1 : Int32))) (fun h => by rw [Bd.returns] at h; cases h)
    refine ⟨_, _, pre24 _ ?_, hrun, hended, _, _, rfl, ?_, ⟨_, rfl⟩, hW, hsame.mono (by decide) (by decide)⟩
    · show Steps p.tables e below (s₁.setTop (mkF m 3 #[.val (.int p1)] [(.int (9 : Int32)), (.int p1)])) _
      refine XS.icmpYes X0.here hx rfl (pc0 := 3) (pc' := 18) rfl (hb hby d2_3) rfl (teq hc3_23).1 (by decide) (by decide) ?_
      refine XS.iconst X0.here hx rfl (hb hby d2_18) ?_
      show Steps p.tables e below (s₁.setTop (mkF m 19 #[.val (.int p1)] [(.int (1 : Int32))])) _
      exact retN X0 hx (t := .boolean) Bd.returns (by simp) (hb hby d2_19) hr
    · show Q_rm2 Z p1 h0 n0 _ s₁.heap _
      rw [e0]
      exact ⟨(own_isx1 (by (unfold own_P; have := own_eq (a := (p1).toInt) (b := 9) hc3_23 rfl rfl; omega))), N0, rfl⟩
  · have pre26 : ∀ t, Steps p.tables e below (s₁.setTop (mkF m 9 #[.val (.int p1)] [(.int (10 : Int32)), (.int p1)])) t → Steps p.tables e below (s₁.setTop (entryFrame m #[(.int p1)] 1)) t := by
      intro t kt
      refine pre24 _ ?_
      show Steps p.tables e below (s₁.setTop (mkF m 3 #[.val (.int p1)] [(.int (9 : Int32)), (.int p1)])) _
      refine XS.icmpNo X0.here hx rfl (hb hby d2_3) rfl (feq hc3_23).1 ?_
      refine XS.iloadN X0.here hx rfl (hb hby d2_6) rfl ?_
      show Steps p.tables e below (s₁.setTop (mkF m 7 #[.val (.int p1)] [(.int p1)])) _
      refine XS.bipush X0.here hx rfl (hb hby d2_7) ?_
      exact kt
    by_cases hc9_25 : p1 = (10 : Int32)
    · obtain ⟨fs, hr, hrun, hended, hW, hsame⟩ := X0.leave (v := some (.int (1 : Int32))) (fun h => by rw [Bd.returns] at h; cases h)
      refine ⟨_, _, pre26 _ ?_, hrun, hended, _, _, rfl, ?_, ⟨_, rfl⟩, hW, hsame.mono (by decide) (by decide)⟩
      · show Steps p.tables e below (s₁.setTop (mkF m 9 #[.val (.int p1)] [(.int (10 : Int32)), (.int p1)])) _
        refine XS.icmpYes X0.here hx rfl (pc0 := 9) (pc' := 18) rfl (hb hby d2_9) rfl (teq hc9_25).1 (by decide) (by decide) ?_
        refine XS.iconst X0.here hx rfl (hb hby d2_18) ?_
        exact retN X0 hx (t := .boolean) Bd.returns (by simp) (hb hby d2_19) hr
      · show Q_rm2 Z p1 h0 n0 _ s₁.heap _
        rw [e0]
        exact ⟨(own_isx1 (by (unfold own_P; have := own_ne (a := (p1).toInt) (b := 9) hc3_23 rfl rfl; have := own_eq (a := (p1).toInt) (b := 10) hc9_25 rfl rfl; omega))), N0, rfl⟩
    · have pre28 : ∀ t, Steps p.tables e below (s₁.setTop (mkF m 15 #[.val (.int p1)] [(.int (13 : Int32)), (.int p1)])) t → Steps p.tables e below (s₁.setTop (entryFrame m #[(.int p1)] 1)) t := by
        intro t kt
        refine pre26 _ ?_
        show Steps p.tables e below (s₁.setTop (mkF m 9 #[.val (.int p1)] [(.int (10 : Int32)), (.int p1)])) _
        refine XS.icmpNo X0.here hx rfl (hb hby d2_9) rfl (feq hc9_25).1 ?_
        refine XS.iloadN X0.here hx rfl (hb hby d2_12) rfl ?_
        refine XS.bipush X0.here hx rfl (hb hby d2_13) ?_
        show Steps p.tables e below (s₁.setTop (mkF m 15 #[.val (.int p1)] [(.int (13 : Int32)), (.int p1)])) _
        exact kt
      by_cases hc15_27 : p1 = (13 : Int32)
      · obtain ⟨fs, hr, hrun, hended, hW, hsame⟩ := X0.leave (v := some (.int (1 : Int32))) (fun h => by rw [Bd.returns] at h; cases h)
        refine ⟨_, _, pre28 _ ?_, hrun, hended, _, _, rfl, ?_, ⟨_, rfl⟩, hW, hsame.mono (by decide) (by decide)⟩
        · show Steps p.tables e below (s₁.setTop (mkF m 15 #[.val (.int p1)] [(.int (13 : Int32)), (.int p1)])) _
          refine XS.icmpNo X0.here hx rfl (hb hby d2_15) rfl (teq hc15_27).2 ?_
          refine XS.iconst X0.here hx rfl (hb hby d2_18) ?_
          exact retN X0 hx (t := .boolean) Bd.returns (by simp) (hb hby d2_19) hr
        · show Q_rm2 Z p1 h0 n0 _ s₁.heap _
          rw [e0]
          exact ⟨(own_isx1 (by (unfold own_P; have := own_ne (a := (p1).toInt) (b := 9) hc3_23 rfl rfl; have := own_ne (a := (p1).toInt) (b := 10) hc9_25 rfl rfl; have := own_eq (a := (p1).toInt) (b := 13) hc15_27 rfl rfl; omega))), N0, rfl⟩
      · have pre30 : ∀ t, Steps p.tables e below (s₁.setTop (mkF m 23 #[.val (.int p1)] [(.int (32 : Int32)), (.int p1)])) t → Steps p.tables e below (s₁.setTop (entryFrame m #[(.int p1)] 1)) t := by
          intro t kt
          refine pre28 _ ?_
          show Steps p.tables e below (s₁.setTop (mkF m 15 #[.val (.int p1)] [(.int (13 : Int32)), (.int p1)])) _
          refine XS.icmpYes X0.here hx rfl (pc0 := 15) (pc' := 20) rfl (hb hby d2_15) rfl (feq hc15_27).2 (by decide) (by decide) ?_
          refine XS.iloadN X0.here hx rfl (hb hby d2_20) rfl ?_
          refine XS.bipush X0.here hx rfl (hb hby d2_21) ?_
          exact kt
        by_cases hc23_29 : p1 < (32 : Int32)
        · have pre32 : ∀ t, Steps p.tables e below (s₁.setTop (mkF m 37 #[.val (.int p1)] [(.int (57344 : Int32)), (.int p1)])) t → Steps p.tables e below (s₁.setTop (entryFrame m #[(.int p1)] 1)) t := by
            intro t kt
            refine pre30 _ ?_
            show Steps p.tables e below (s₁.setTop (mkF m 23 #[.val (.int p1)] [(.int (32 : Int32)), (.int p1)])) _
            refine XS.icmpYes X0.here hx rfl (pc0 := 23) (pc' := 34) rfl (hb hby d2_23) rfl (tlt hc23_29).1 (by decide) (by decide) ?_
            show Steps p.tables e below (s₁.setTop (mkF m 34 #[.val (.int p1)] [])) _
            refine XS.iloadN X0.here hx rfl (hb hby d2_34) rfl ?_
            refine X0.ldcInt hx hown (mvT hZ (wd_4 hw)) (g := (mkF m 35 #[.val (.int p1)] [(.int p1)])) rfl (hb hby d2_35) _ ?_
            exact kt
          by_cases hc37_31 : p1 < (57344 : Int32)
          · have pre34 : ∀ t, Steps p.tables e below (s₁.setTop (mkF m 51 #[.val (.int p1)] [(.int (65536 : Int32)), (.int p1)])) t → Steps p.tables e below (s₁.setTop (entryFrame m #[(.int p1)] 1)) t := by
              intro t kt
              refine pre32 _ ?_
              show Steps p.tables e below (s₁.setTop (mkF m 37 #[.val (.int p1)] [(.int (57344 : Int32)), (.int p1)])) _
              refine XS.icmpYes X0.here hx rfl (pc0 := 37) (pc' := 48) rfl (hb hby d2_37) rfl (tlt hc37_31).1 (by decide) (by decide) ?_
              refine XS.iloadN X0.here hx rfl (hb hby d2_48) rfl ?_
              show Steps p.tables e below (s₁.setTop (mkF m 49 #[.val (.int p1)] [(.int p1)])) _
              refine X0.ldcInt hx hown (mvT hZ (wd_7 hw)) (g := (mkF m 49 #[.val (.int p1)] [(.int p1)])) rfl (hb hby d2_49) _ ?_
              exact kt
            by_cases hc51_33 : p1 < (65536 : Int32)
            · obtain ⟨fs, hr, hrun, hended, hW, hsame⟩ := X0.leave (v := some (.int (0 : Int32))) (fun h => by rw [Bd.returns] at h; cases h)
              refine ⟨_, _, pre34 _ ?_, hrun, hended, _, _, rfl, ?_, ⟨_, rfl⟩, hW, hsame.mono (by decide) (by decide)⟩
              · show Steps p.tables e below (s₁.setTop (mkF m 51 #[.val (.int p1)] [(.int (65536 : Int32)), (.int p1)])) _
                refine XS.icmpYes X0.here hx rfl (pc0 := 51) (pc' := 64) rfl (hb hby d2_51) rfl (tlt hc51_33).1 (by decide) (by decide) ?_
                refine XS.iconst X0.here hx rfl (hb hby d2_64) ?_
                exact retN X0 hx (t := .boolean) Bd.returns (by simp) (hb hby d2_65) hr
              · show Q_rm2 Z p1 h0 n0 _ s₁.heap _
                rw [e0]
                exact ⟨(own_isx0 (by (unfold own_P; have := own_ne (a := (p1).toInt) (b := 9) hc3_23 rfl rfl; have := own_ne (a := (p1).toInt) (b := 10) hc9_25 rfl rfl; have := own_ne (a := (p1).toInt) (b := 13) hc15_27 rfl rfl; have := own_lt (a := (p1).toInt) (b := 32) hc23_29 rfl rfl; have := own_lt (a := (p1).toInt) (b := 57344) hc37_31 rfl rfl; have := own_lt (a := (p1).toInt) (b := 65536) hc51_33 rfl rfl; omega))), N0, rfl⟩
            · have pre36 : ∀ t, Steps p.tables e below (s₁.setTop (mkF m 57 #[.val (.int p1)] [(.int (1114111 : Int32)), (.int p1)])) t → Steps p.tables e below (s₁.setTop (entryFrame m #[(.int p1)] 1)) t := by
                intro t kt
                refine pre34 _ ?_
                show Steps p.tables e below (s₁.setTop (mkF m 51 #[.val (.int p1)] [(.int (65536 : Int32)), (.int p1)])) _
                refine XS.icmpNo X0.here hx rfl (hb hby d2_51) rfl (flt hc51_33).1 ?_
                refine XS.iloadN X0.here hx rfl (hb hby d2_54) rfl ?_
                refine X0.ldcInt hx hown (mvT hZ (wd_8 hw)) (g := (mkF m 55 #[.val (.int p1)] [(.int p1)])) rfl (hb hby d2_55) _ ?_
                show Steps p.tables e below (s₁.setTop (mkF m 57 #[.val (.int p1)] [(.int (1114111 : Int32)), (.int p1)])) _
                exact kt
              by_cases hc57_35 : (1114111 : Int32) < p1
              · obtain ⟨fs, hr, hrun, hended, hW, hsame⟩ := X0.leave (v := some (.int (0 : Int32))) (fun h => by rw [Bd.returns] at h; cases h)
                refine ⟨_, _, pre36 _ ?_, hrun, hended, _, _, rfl, ?_, ⟨_, rfl⟩, hW, hsame.mono (by decide) (by decide)⟩
                · show Steps p.tables e below (s₁.setTop (mkF m 57 #[.val (.int p1)] [(.int (1114111 : Int32)), (.int p1)])) _
                  refine XS.icmpYes X0.here hx rfl (pc0 := 57) (pc' := 64) rfl (hb hby d2_57) rfl (tlt hc57_35).2.2.1 (by decide) (by decide) ?_
                  refine XS.iconst X0.here hx rfl (hb hby d2_64) ?_
                  exact retN X0 hx (t := .boolean) Bd.returns (by simp) (hb hby d2_65) hr
                · show Q_rm2 Z p1 h0 n0 _ s₁.heap _
                  rw [e0]
                  exact ⟨(own_isx0 (by (unfold own_P; have := own_ne (a := (p1).toInt) (b := 9) hc3_23 rfl rfl; have := own_ne (a := (p1).toInt) (b := 10) hc9_25 rfl rfl; have := own_ne (a := (p1).toInt) (b := 13) hc15_27 rfl rfl; have := own_lt (a := (p1).toInt) (b := 32) hc23_29 rfl rfl; have := own_lt (a := (p1).toInt) (b := 57344) hc37_31 rfl rfl; have := own_nlt (a := (p1).toInt) (b := 65536) hc51_33 rfl rfl; have := own_lt (a := 1114111) (b := (p1).toInt) hc57_35 rfl rfl; omega))), N0, rfl⟩
              · obtain ⟨fs, hr, hrun, hended, hW, hsame⟩ := X0.leave (v := some (.int (1 : Int32))) (fun h => by rw [Bd.returns] at h; cases h)
                refine ⟨_, _, pre36 _ ?_, hrun, hended, _, _, rfl, ?_, ⟨_, rfl⟩, hW, hsame.mono (by decide) (by decide)⟩
                · show Steps p.tables e below (s₁.setTop (mkF m 57 #[.val (.int p1)] [(.int (1114111 : Int32)), (.int p1)])) _
                  refine XS.icmpNo X0.here hx rfl (hb hby d2_57) rfl (flt hc57_35).2.2.1 ?_
                  refine XS.iconst X0.here hx rfl (hb hby d2_60) ?_
                  refine XS.goto X0.here hx rfl (pc0 := 61) (pc' := 65) rfl (hb hby d2_61) (by decide) (by decide) ?_
                  exact retN X0 hx (t := .boolean) Bd.returns (by simp) (hb hby d2_65) hr
                · show Q_rm2 Z p1 h0 n0 _ s₁.heap _
                  rw [e0]
                  exact ⟨(own_isx1 (by (unfold own_P; have := own_ne (a := (p1).toInt) (b := 9) hc3_23 rfl rfl; have := own_ne (a := (p1).toInt) (b := 10) hc9_25 rfl rfl; have := own_ne (a := (p1).toInt) (b := 13) hc15_27 rfl rfl; have := own_lt (a := (p1).toInt) (b := 32) hc23_29 rfl rfl; have := own_lt (a := (p1).toInt) (b := 57344) hc37_31 rfl rfl; have := own_nlt (a := (p1).toInt) (b := 65536) hc51_33 rfl rfl; have := own_nlt (a := 1114111) (b := (p1).toInt) hc57_35 rfl rfl; omega))), N0, rfl⟩
          · have pre38 : ∀ t, Steps p.tables e below (s₁.setTop (mkF m 43 #[.val (.int p1)] [(.int (65533 : Int32)), (.int p1)])) t → Steps p.tables e below (s₁.setTop (entryFrame m #[(.int p1)] 1)) t := by
              intro t kt
              refine pre32 _ ?_
              show Steps p.tables e below (s₁.setTop (mkF m 37 #[.val (.int p1)] [(.int (57344 : Int32)), (.int p1)])) _
              refine XS.icmpNo X0.here hx rfl (hb hby d2_37) rfl (flt hc37_31).1 ?_
              refine XS.iloadN X0.here hx rfl (hb hby d2_40) rfl ?_
              show Steps p.tables e below (s₁.setTop (mkF m 41 #[.val (.int p1)] [(.int p1)])) _
              refine X0.ldcInt hx hown (mvT hZ (wd_5 hw)) (g := (mkF m 41 #[.val (.int p1)] [(.int p1)])) rfl (hb hby d2_41) _ ?_
              exact kt
            by_cases hc43_37 : (65533 : Int32) < p1
            · have pre40 : ∀ t, Steps p.tables e below (s₁.setTop (mkF m 51 #[.val (.int p1)] [(.int (65536 : Int32)), (.int p1)])) t → Steps p.tables e below (s₁.setTop (entryFrame m #[(.int p1)] 1)) t := by
                intro t kt
                refine pre38 _ ?_
                show Steps p.tables e below (s₁.setTop (mkF m 43 #[.val (.int p1)] [(.int (65533 : Int32)), (.int p1)])) _
                refine XS.icmpYes X0.here hx rfl (pc0 := 43) (pc' := 48) rfl (hb hby d2_43) rfl (tlt hc43_37).2.2.1 (by decide) (by decide) ?_
                refine XS.iloadN X0.here hx rfl (hb hby d2_48) rfl ?_
                refine X0.ldcInt hx hown (mvT hZ (wd_7 hw)) (g := (mkF m 49 #[.val (.int p1)] [(.int p1)])) rfl (hb hby d2_49) _ ?_
                show Steps p.tables e below (s₁.setTop (mkF m 51 #[.val (.int p1)] [(.int (65536 : Int32)), (.int p1)])) _
                exact kt
              by_cases hc51_39 : p1 < (65536 : Int32)
              · obtain ⟨fs, hr, hrun, hended, hW, hsame⟩ := X0.leave (v := some (.int (0 : Int32))) (fun h => by rw [Bd.returns] at h; cases h)
                refine ⟨_, _, pre40 _ ?_, hrun, hended, _, _, rfl, ?_, ⟨_, rfl⟩, hW, hsame.mono (by decide) (by decide)⟩
                · show Steps p.tables e below (s₁.setTop (mkF m 51 #[.val (.int p1)] [(.int (65536 : Int32)), (.int p1)])) _
                  refine XS.icmpYes X0.here hx rfl (pc0 := 51) (pc' := 64) rfl (hb hby d2_51) rfl (tlt hc51_39).1 (by decide) (by decide) ?_
                  refine XS.iconst X0.here hx rfl (hb hby d2_64) ?_
                  exact retN X0 hx (t := .boolean) Bd.returns (by simp) (hb hby d2_65) hr
                · show Q_rm2 Z p1 h0 n0 _ s₁.heap _
                  rw [e0]
                  exact ⟨(own_isx0 (by (unfold own_P; have := own_ne (a := (p1).toInt) (b := 9) hc3_23 rfl rfl; have := own_ne (a := (p1).toInt) (b := 10) hc9_25 rfl rfl; have := own_ne (a := (p1).toInt) (b := 13) hc15_27 rfl rfl; have := own_lt (a := (p1).toInt) (b := 32) hc23_29 rfl rfl; have := own_nlt (a := (p1).toInt) (b := 57344) hc37_31 rfl rfl; have := own_lt (a := 65533) (b := (p1).toInt) hc43_37 rfl rfl; have := own_lt (a := (p1).toInt) (b := 65536) hc51_39 rfl rfl; omega))), N0, rfl⟩
              · have pre42 : ∀ t, Steps p.tables e below (s₁.setTop (mkF m 57 #[.val (.int p1)] [(.int (1114111 : Int32)), (.int p1)])) t → Steps p.tables e below (s₁.setTop (entryFrame m #[(.int p1)] 1)) t := by
                  intro t kt
                  refine pre40 _ ?_
                  show Steps p.tables e below (s₁.setTop (mkF m 51 #[.val (.int p1)] [(.int (65536 : Int32)), (.int p1)])) _
                  refine XS.icmpNo X0.here hx rfl (hb hby d2_51) rfl (flt hc51_39).1 ?_
                  refine XS.iloadN X0.here hx rfl (hb hby d2_54) rfl ?_
                  refine X0.ldcInt hx hown (mvT hZ (wd_8 hw)) (g := (mkF m 55 #[.val (.int p1)] [(.int p1)])) rfl (hb hby d2_55) _ ?_
                  exact kt
                by_cases hc57_41 : (1114111 : Int32) < p1
                · obtain ⟨fs, hr, hrun, hended, hW, hsame⟩ := X0.leave (v := some (.int (0 : Int32))) (fun h => by rw [Bd.returns] at h; cases h)
                  refine ⟨_, _, pre42 _ ?_, hrun, hended, _, _, rfl, ?_, ⟨_, rfl⟩, hW, hsame.mono (by decide) (by decide)⟩
                  · show Steps p.tables e below (s₁.setTop (mkF m 57 #[.val (.int p1)] [(.int (1114111 : Int32)), (.int p1)])) _
                    refine XS.icmpYes X0.here hx rfl (pc0 := 57) (pc' := 64) rfl (hb hby d2_57) rfl (tlt hc57_41).2.2.1 (by decide) (by decide) ?_
                    show Steps p.tables e below (s₁.setTop (mkF m 64 #[.val (.int p1)] [])) _
                    refine XS.iconst X0.here hx rfl (hb hby d2_64) ?_
                    exact retN X0 hx (t := .boolean) Bd.returns (by simp) (hb hby d2_65) hr
                  · show Q_rm2 Z p1 h0 n0 _ s₁.heap _
                    rw [e0]
                    exact ⟨(own_isx0 (by (unfold own_P; have := own_ne (a := (p1).toInt) (b := 9) hc3_23 rfl rfl; have := own_ne (a := (p1).toInt) (b := 10) hc9_25 rfl rfl; have := own_ne (a := (p1).toInt) (b := 13) hc15_27 rfl rfl; have := own_lt (a := (p1).toInt) (b := 32) hc23_29 rfl rfl; have := own_nlt (a := (p1).toInt) (b := 57344) hc37_31 rfl rfl; have := own_lt (a := 65533) (b := (p1).toInt) hc43_37 rfl rfl; have := own_nlt (a := (p1).toInt) (b := 65536) hc51_39 rfl rfl; have := own_lt (a := 1114111) (b := (p1).toInt) hc57_41 rfl rfl; omega))), N0, rfl⟩
                · obtain ⟨fs, hr, hrun, hended, hW, hsame⟩ := X0.leave (v := some (.int (1 : Int32))) (fun h => by rw [Bd.returns] at h; cases h)
                  refine ⟨_, _, pre42 _ ?_, hrun, hended, _, _, rfl, ?_, ⟨_, rfl⟩, hW, hsame.mono (by decide) (by decide)⟩
                  · show Steps p.tables e below (s₁.setTop (mkF m 57 #[.val (.int p1)] [(.int (1114111 : Int32)), (.int p1)])) _
                    refine XS.icmpNo X0.here hx rfl (hb hby d2_57) rfl (flt hc57_41).2.2.1 ?_
                    show Steps p.tables e below (s₁.setTop (mkF m 60 #[.val (.int p1)] [])) _
                    refine XS.iconst X0.here hx rfl (hb hby d2_60) ?_
                    refine XS.goto X0.here hx rfl (pc0 := 61) (pc' := 65) rfl (hb hby d2_61) (by decide) (by decide) ?_
                    exact retN X0 hx (t := .boolean) Bd.returns (by simp) (hb hby d2_65) hr
                  · show Q_rm2 Z p1 h0 n0 _ s₁.heap _
                    rw [e0]
                    exact ⟨(own_isx1 (by (unfold own_P; have := own_ne (a := (p1).toInt) (b := 9) hc3_23 rfl rfl; have := own_ne (a := (p1).toInt) (b := 10) hc9_25 rfl rfl; have := own_ne (a := (p1).toInt) (b := 13) hc15_27 rfl rfl; have := own_lt (a := (p1).toInt) (b := 32) hc23_29 rfl rfl; have := own_nlt (a := (p1).toInt) (b := 57344) hc37_31 rfl rfl; have := own_lt (a := 65533) (b := (p1).toInt) hc43_37 rfl rfl; have := own_nlt (a := (p1).toInt) (b := 65536) hc51_39 rfl rfl; have := own_nlt (a := 1114111) (b := (p1).toInt) hc57_41 rfl rfl; omega))), N0, rfl⟩
            · obtain ⟨fs, hr, hrun, hended, hW, hsame⟩ := X0.leave (v := some (.int (1 : Int32))) (fun h => by rw [Bd.returns] at h; cases h)
              refine ⟨_, _, pre38 _ ?_, hrun, hended, _, _, rfl, ?_, ⟨_, rfl⟩, hW, hsame.mono (by decide) (by decide)⟩
              · show Steps p.tables e below (s₁.setTop (mkF m 43 #[.val (.int p1)] [(.int (65533 : Int32)), (.int p1)])) _
                refine XS.icmpNo X0.here hx rfl (hb hby d2_43) rfl (flt hc43_37).2.2.1 ?_
                refine XS.iconst X0.here hx rfl (hb hby d2_46) ?_
                exact retN X0 hx (t := .boolean) Bd.returns (by simp) (hb hby d2_47) hr
              · show Q_rm2 Z p1 h0 n0 _ s₁.heap _
                rw [e0]
                exact ⟨(own_isx1 (by (unfold own_P; have := own_ne (a := (p1).toInt) (b := 9) hc3_23 rfl rfl; have := own_ne (a := (p1).toInt) (b := 10) hc9_25 rfl rfl; have := own_ne (a := (p1).toInt) (b := 13) hc15_27 rfl rfl; have := own_lt (a := (p1).toInt) (b := 32) hc23_29 rfl rfl; have := own_nlt (a := (p1).toInt) (b := 57344) hc37_31 rfl rfl; have := own_nlt (a := 65533) (b := (p1).toInt) hc43_37 rfl rfl; omega))), N0, rfl⟩
        · have pre44 : ∀ t, Steps p.tables e below (s₁.setTop (mkF m 29 #[.val (.int p1)] [(.int (55295 : Int32)), (.int p1)])) t → Steps p.tables e below (s₁.setTop (entryFrame m #[(.int p1)] 1)) t := by
            intro t kt
            refine pre30 _ ?_
            show Steps p.tables e below (s₁.setTop (mkF m 23 #[.val (.int p1)] [(.int (32 : Int32)), (.int p1)])) _
            refine XS.icmpNo X0.here hx rfl (hb hby d2_23) rfl (flt hc23_29).1 ?_
            show Steps p.tables e below (s₁.setTop (mkF m 26 #[.val (.int p1)] [])) _
            refine XS.iloadN X0.here hx rfl (hb hby d2_26) rfl ?_
            refine X0.ldcInt hx hown (mvT hZ (wd_1 hw)) (g := (mkF m 27 #[.val (.int p1)] [(.int p1)])) rfl (hb hby d2_27) _ ?_
            exact kt
          by_cases hc29_43 : (55295 : Int32) < p1
          · have pre46 : ∀ t, Steps p.tables e below (s₁.setTop (mkF m 37 #[.val (.int p1)] [(.int (57344 : Int32)), (.int p1)])) t → Steps p.tables e below (s₁.setTop (entryFrame m #[(.int p1)] 1)) t := by
              intro t kt
              refine pre44 _ ?_
              show Steps p.tables e below (s₁.setTop (mkF m 29 #[.val (.int p1)] [(.int (55295 : Int32)), (.int p1)])) _
              refine XS.icmpYes X0.here hx rfl (pc0 := 29) (pc' := 34) rfl (hb hby d2_29) rfl (tlt hc29_43).2.2.1 (by decide) (by decide) ?_
              refine XS.iloadN X0.here hx rfl (hb hby d2_34) rfl ?_
              show Steps p.tables e below (s₁.setTop (mkF m 35 #[.val (.int p1)] [(.int p1)])) _
              refine X0.ldcInt hx hown (mvT hZ (wd_4 hw)) (g := (mkF m 35 #[.val (.int p1)] [(.int p1)])) rfl (hb hby d2_35) _ ?_
              exact kt
            by_cases hc37_45 : p1 < (57344 : Int32)
            · have pre48 : ∀ t, Steps p.tables e below (s₁.setTop (mkF m 51 #[.val (.int p1)] [(.int (65536 : Int32)), (.int p1)])) t → Steps p.tables e below (s₁.setTop (entryFrame m #[(.int p1)] 1)) t := by
                intro t kt
                refine pre46 _ ?_
                show Steps p.tables e below (s₁.setTop (mkF m 37 #[.val (.int p1)] [(.int (57344 : Int32)), (.int p1)])) _
                refine XS.icmpYes X0.here hx rfl (pc0 := 37) (pc' := 48) rfl (hb hby d2_37) rfl (tlt hc37_45).1 (by decide) (by decide) ?_
                refine XS.iloadN X0.here hx rfl (hb hby d2_48) rfl ?_
                refine X0.ldcInt hx hown (mvT hZ (wd_7 hw)) (g := (mkF m 49 #[.val (.int p1)] [(.int p1)])) rfl (hb hby d2_49) _ ?_
                show Steps p.tables e below (s₁.setTop (mkF m 51 #[.val (.int p1)] [(.int (65536 : Int32)), (.int p1)])) _
                exact kt
              by_cases hc51_47 : p1 < (65536 : Int32)
              · obtain ⟨fs, hr, hrun, hended, hW, hsame⟩ := X0.leave (v := some (.int (0 : Int32))) (fun h => by rw [Bd.returns] at h; cases h)
                refine ⟨_, _, pre48 _ ?_, hrun, hended, _, _, rfl, ?_, ⟨_, rfl⟩, hW, hsame.mono (by decide) (by decide)⟩
                · show Steps p.tables e below (s₁.setTop (mkF m 51 #[.val (.int p1)] [(.int (65536 : Int32)), (.int p1)])) _
                  refine XS.icmpYes X0.here hx rfl (pc0 := 51) (pc' := 64) rfl (hb hby d2_51) rfl (tlt hc51_47).1 (by decide) (by decide) ?_
                  refine XS.iconst X0.here hx rfl (hb hby d2_64) ?_
                  exact retN X0 hx (t := .boolean) Bd.returns (by simp) (hb hby d2_65) hr
                · show Q_rm2 Z p1 h0 n0 _ s₁.heap _
                  rw [e0]
                  exact ⟨(own_isx0 (by (unfold own_P; have := own_ne (a := (p1).toInt) (b := 9) hc3_23 rfl rfl; have := own_ne (a := (p1).toInt) (b := 10) hc9_25 rfl rfl; have := own_ne (a := (p1).toInt) (b := 13) hc15_27 rfl rfl; have := own_nlt (a := (p1).toInt) (b := 32) hc23_29 rfl rfl; have := own_lt (a := 55295) (b := (p1).toInt) hc29_43 rfl rfl; have := own_lt (a := (p1).toInt) (b := 57344) hc37_45 rfl rfl; have := own_lt (a := (p1).toInt) (b := 65536) hc51_47 rfl rfl; omega))), N0, rfl⟩
              · have pre50 : ∀ t, Steps p.tables e below (s₁.setTop (mkF m 57 #[.val (.int p1)] [(.int (1114111 : Int32)), (.int p1)])) t → Steps p.tables e below (s₁.setTop (entryFrame m #[(.int p1)] 1)) t := by
                  intro t kt
                  refine pre48 _ ?_
                  show Steps p.tables e below (s₁.setTop (mkF m 51 #[.val (.int p1)] [(.int (65536 : Int32)), (.int p1)])) _
                  refine XS.icmpNo X0.here hx rfl (hb hby d2_51) rfl (flt hc51_47).1 ?_
                  refine XS.iloadN X0.here hx rfl (hb hby d2_54) rfl ?_
                  refine X0.ldcInt hx hown (mvT hZ (wd_8 hw)) (g := (mkF m 55 #[.val (.int p1)] [(.int p1)])) rfl (hb hby d2_55) _ ?_
                  exact kt
                by_cases hc57_49 : (1114111 : Int32) < p1
                · obtain ⟨fs, hr, hrun, hended, hW, hsame⟩ := X0.leave (v := some (.int (0 : Int32))) (fun h => by rw [Bd.returns] at h; cases h)
                  refine ⟨_, _, pre50 _ ?_, hrun, hended, _, _, rfl, ?_, ⟨_, rfl⟩, hW, hsame.mono (by decide) (by decide)⟩
                  · show Steps p.tables e below (s₁.setTop (mkF m 57 #[.val (.int p1)] [(.int (1114111 : Int32)), (.int p1)])) _
                    refine XS.icmpYes X0.here hx rfl (pc0 := 57) (pc' := 64) rfl (hb hby d2_57) rfl (tlt hc57_49).2.2.1 (by decide) (by decide) ?_
                    show Steps p.tables e below (s₁.setTop (mkF m 64 #[.val (.int p1)] [])) _
                    refine XS.iconst X0.here hx rfl (hb hby d2_64) ?_
                    exact retN X0 hx (t := .boolean) Bd.returns (by simp) (hb hby d2_65) hr
                  · show Q_rm2 Z p1 h0 n0 _ s₁.heap _
                    rw [e0]
                    exact ⟨(own_isx0 (by (unfold own_P; have := own_ne (a := (p1).toInt) (b := 9) hc3_23 rfl rfl; have := own_ne (a := (p1).toInt) (b := 10) hc9_25 rfl rfl; have := own_ne (a := (p1).toInt) (b := 13) hc15_27 rfl rfl; have := own_nlt (a := (p1).toInt) (b := 32) hc23_29 rfl rfl; have := own_lt (a := 55295) (b := (p1).toInt) hc29_43 rfl rfl; have := own_lt (a := (p1).toInt) (b := 57344) hc37_45 rfl rfl; have := own_nlt (a := (p1).toInt) (b := 65536) hc51_47 rfl rfl; have := own_lt (a := 1114111) (b := (p1).toInt) hc57_49 rfl rfl; omega))), N0, rfl⟩
                · obtain ⟨fs, hr, hrun, hended, hW, hsame⟩ := X0.leave (v := some (.int (1 : Int32))) (fun h => by rw [Bd.returns] at h; cases h)
                  refine ⟨_, _, pre50 _ ?_, hrun, hended, _, _, rfl, ?_, ⟨_, rfl⟩, hW, hsame.mono (by decide) (by decide)⟩
                  · show Steps p.tables e below (s₁.setTop (mkF m 57 #[.val (.int p1)] [(.int (1114111 : Int32)), (.int p1)])) _
                    refine XS.icmpNo X0.here hx rfl (hb hby d2_57) rfl (flt hc57_49).2.2.1 ?_
                    show Steps p.tables e below (s₁.setTop (mkF m 60 #[.val (.int p1)] [])) _
                    refine XS.iconst X0.here hx rfl (hb hby d2_60) ?_
                    refine XS.goto X0.here hx rfl (pc0 := 61) (pc' := 65) rfl (hb hby d2_61) (by decide) (by decide) ?_
                    exact retN X0 hx (t := .boolean) Bd.returns (by simp) (hb hby d2_65) hr
                  · show Q_rm2 Z p1 h0 n0 _ s₁.heap _
                    rw [e0]
                    exact ⟨(own_isx1 (by (unfold own_P; have := own_ne (a := (p1).toInt) (b := 9) hc3_23 rfl rfl; have := own_ne (a := (p1).toInt) (b := 10) hc9_25 rfl rfl; have := own_ne (a := (p1).toInt) (b := 13) hc15_27 rfl rfl; have := own_nlt (a := (p1).toInt) (b := 32) hc23_29 rfl rfl; have := own_lt (a := 55295) (b := (p1).toInt) hc29_43 rfl rfl; have := own_lt (a := (p1).toInt) (b := 57344) hc37_45 rfl rfl; have := own_nlt (a := (p1).toInt) (b := 65536) hc51_47 rfl rfl; have := own_nlt (a := 1114111) (b := (p1).toInt) hc57_49 rfl rfl; omega))), N0, rfl⟩
            · have pre52 : ∀ t, Steps p.tables e below (s₁.setTop (mkF m 43 #[.val (.int p1)] [(.int (65533 : Int32)), (.int p1)])) t → Steps p.tables e below (s₁.setTop (entryFrame m #[(.int p1)] 1)) t := by
                intro t kt
                refine pre46 _ ?_
                show Steps p.tables e below (s₁.setTop (mkF m 37 #[.val (.int p1)] [(.int (57344 : Int32)), (.int p1)])) _
                refine XS.icmpNo X0.here hx rfl (hb hby d2_37) rfl (flt hc37_45).1 ?_
                refine XS.iloadN X0.here hx rfl (hb hby d2_40) rfl ?_
                refine X0.ldcInt hx hown (mvT hZ (wd_5 hw)) (g := (mkF m 41 #[.val (.int p1)] [(.int p1)])) rfl (hb hby d2_41) _ ?_
                show Steps p.tables e below (s₁.setTop (mkF m 43 #[.val (.int p1)] [(.int (65533 : Int32)), (.int p1)])) _
                exact kt
              by_cases hc43_51 : (65533 : Int32) < p1
              · have pre54 : ∀ t, Steps p.tables e below (s₁.setTop (mkF m 51 #[.val (.int p1)] [(.int (65536 : Int32)), (.int p1)])) t → Steps p.tables e below (s₁.setTop (entryFrame m #[(.int p1)] 1)) t := by
                  intro t kt
                  refine pre52 _ ?_
                  show Steps p.tables e below (s₁.setTop (mkF m 43 #[.val (.int p1)] [(.int (65533 : Int32)), (.int p1)])) _
                  refine XS.icmpYes X0.here hx rfl (pc0 := 43) (pc' := 48) rfl (hb hby d2_43) rfl (tlt hc43_51).2.2.1 (by decide) (by decide) ?_
                  refine XS.iloadN X0.here hx rfl (hb hby d2_48) rfl ?_
                  refine X0.ldcInt hx hown (mvT hZ (wd_7 hw)) (g := (mkF m 49 #[.val (.int p1)] [(.int p1)])) rfl (hb hby d2_49) _ ?_
                  exact kt
                by_cases hc51_53 : p1 < (65536 : Int32)
                · obtain ⟨fs, hr, hrun, hended, hW, hsame⟩ := X0.leave (v := some (.int (0 : Int32))) (fun h => by rw [Bd.returns] at h; cases h)
                  refine ⟨_, _, pre54 _ ?_, hrun, hended, _, _, rfl, ?_, ⟨_, rfl⟩, hW, hsame.mono (by decide) (by decide)⟩
                  · show Steps p.tables e below (s₁.setTop (mkF m 51 #[.val (.int p1)] [(.int (65536 : Int32)), (.int p1)])) _
                    refine XS.icmpYes X0.here hx rfl (pc0 := 51) (pc' := 64) rfl (hb hby d2_51) rfl (tlt hc51_53).1 (by decide) (by decide) ?_
                    show Steps p.tables e below (s₁.setTop (mkF m 64 #[.val (.int p1)] [])) _
                    refine XS.iconst X0.here hx rfl (hb hby d2_64) ?_
                    exact retN X0 hx (t := .boolean) Bd.returns (by simp) (hb hby d2_65) hr
                  · show Q_rm2 Z p1 h0 n0 _ s₁.heap _
                    rw [e0]
                    exact ⟨(own_isx0 (by (unfold own_P; have := own_ne (a := (p1).toInt) (b := 9) hc3_23 rfl rfl; have := own_ne (a := (p1).toInt) (b := 10) hc9_25 rfl rfl; have := own_ne (a := (p1).toInt) (b := 13) hc15_27 rfl rfl; have := own_nlt (a := (p1).toInt) (b := 32) hc23_29 rfl rfl; have := own_lt (a := 55295) (b := (p1).toInt) hc29_43 rfl rfl; have := own_nlt (a := (p1).toInt) (b := 57344) hc37_45 rfl rfl; have := own_lt (a := 65533) (b := (p1).toInt) hc43_51 rfl rfl; have := own_lt (a := (p1).toInt) (b := 65536) hc51_53 rfl rfl; omega))), N0, rfl⟩
                · have pre56 : ∀ t, Steps p.tables e below (s₁.setTop (mkF m 57 #[.val (.int p1)] [(.int (1114111 : Int32)), (.int p1)])) t → Steps p.tables e below (s₁.setTop (entryFrame m #[(.int p1)] 1)) t := by
                    intro t kt
                    refine pre54 _ ?_
                    show Steps p.tables e below (s₁.setTop (mkF m 51 #[.val (.int p1)] [(.int (65536 : Int32)), (.int p1)])) _
                    refine XS.icmpNo X0.here hx rfl (hb hby d2_51) rfl (flt hc51_53).1 ?_
                    show Steps p.tables e below (s₁.setTop (mkF m 54 #[.val (.int p1)] [])) _
                    refine XS.iloadN X0.here hx rfl (hb hby d2_54) rfl ?_
                    refine X0.ldcInt hx hown (mvT hZ (wd_8 hw)) (g := (mkF m 55 #[.val (.int p1)] [(.int p1)])) rfl (hb hby d2_55) _ ?_
                    exact kt
                  by_cases hc57_55 : (1114111 : Int32) < p1
                  · obtain ⟨fs, hr, hrun, hended, hW, hsame⟩ := X0.leave (v := some (.int (0 : Int32))) (fun h => by rw [Bd.returns] at h; cases h)
                    refine ⟨_, _, pre56 _ ?_, hrun, hended, _, _, rfl, ?_, ⟨_, rfl⟩, hW, hsame.mono (by decide) (by decide)⟩
                    · show Steps p.tables e below (s₁.setTop (mkF m 57 #[.val (.int p1)] [(.int (1114111 : Int32)), (.int p1)])) _
                      refine XS.icmpYes X0.here hx rfl (pc0 := 57) (pc' := 64) rfl (hb hby d2_57) rfl (tlt hc57_55).2.2.1 (by decide) (by decide) ?_
                      refine XS.iconst X0.here hx rfl (hb hby d2_64) ?_
                      show Steps p.tables e below (s₁.setTop (mkF m 65 #[.val (.int p1)] [(.int (0 : Int32))])) _
                      exact retN X0 hx (t := .boolean) Bd.returns (by simp) (hb hby d2_65) hr
                    · show Q_rm2 Z p1 h0 n0 _ s₁.heap _
                      rw [e0]
                      exact ⟨(own_isx0 (by (unfold own_P; have := own_ne (a := (p1).toInt) (b := 9) hc3_23 rfl rfl; have := own_ne (a := (p1).toInt) (b := 10) hc9_25 rfl rfl; have := own_ne (a := (p1).toInt) (b := 13) hc15_27 rfl rfl; have := own_nlt (a := (p1).toInt) (b := 32) hc23_29 rfl rfl; have := own_lt (a := 55295) (b := (p1).toInt) hc29_43 rfl rfl; have := own_nlt (a := (p1).toInt) (b := 57344) hc37_45 rfl rfl; have := own_lt (a := 65533) (b := (p1).toInt) hc43_51 rfl rfl; have := own_nlt (a := (p1).toInt) (b := 65536) hc51_53 rfl rfl; have := own_lt (a := 1114111) (b := (p1).toInt) hc57_55 rfl rfl; omega))), N0, rfl⟩
                  · obtain ⟨fs, hr, hrun, hended, hW, hsame⟩ := X0.leave (v := some (.int (1 : Int32))) (fun h => by rw [Bd.returns] at h; cases h)
                    refine ⟨_, _, pre56 _ ?_, hrun, hended, _, _, rfl, ?_, ⟨_, rfl⟩, hW, hsame.mono (by decide) (by decide)⟩
                    · show Steps p.tables e below (s₁.setTop (mkF m 57 #[.val (.int p1)] [(.int (1114111 : Int32)), (.int p1)])) _
                      refine XS.icmpNo X0.here hx rfl (hb hby d2_57) rfl (flt hc57_55).2.2.1 ?_
                      refine XS.iconst X0.here hx rfl (hb hby d2_60) ?_
                      show Steps p.tables e below (s₁.setTop (mkF m 61 #[.val (.int p1)] [(.int (1 : Int32))])) _
                      refine XS.goto X0.here hx rfl (pc0 := 61) (pc' := 65) rfl (hb hby d2_61) (by decide) (by decide) ?_
                      exact retN X0 hx (t := .boolean) Bd.returns (by simp) (hb hby d2_65) hr
                    · show Q_rm2 Z p1 h0 n0 _ s₁.heap _
                      rw [e0]
                      exact ⟨(own_isx1 (by (unfold own_P; have := own_ne (a := (p1).toInt) (b := 9) hc3_23 rfl rfl; have := own_ne (a := (p1).toInt) (b := 10) hc9_25 rfl rfl; have := own_ne (a := (p1).toInt) (b := 13) hc15_27 rfl rfl; have := own_nlt (a := (p1).toInt) (b := 32) hc23_29 rfl rfl; have := own_lt (a := 55295) (b := (p1).toInt) hc29_43 rfl rfl; have := own_nlt (a := (p1).toInt) (b := 57344) hc37_45 rfl rfl; have := own_lt (a := 65533) (b := (p1).toInt) hc43_51 rfl rfl; have := own_nlt (a := (p1).toInt) (b := 65536) hc51_53 rfl rfl; have := own_nlt (a := 1114111) (b := (p1).toInt) hc57_55 rfl rfl; omega))), N0, rfl⟩
              · obtain ⟨fs, hr, hrun, hended, hW, hsame⟩ := X0.leave (v := some (.int (1 : Int32))) (fun h => by rw [Bd.returns] at h; cases h)
                refine ⟨_, _, pre52 _ ?_, hrun, hended, _, _, rfl, ?_, ⟨_, rfl⟩, hW, hsame.mono (by decide) (by decide)⟩
                · show Steps p.tables e below (s₁.setTop (mkF m 43 #[.val (.int p1)] [(.int (65533 : Int32)), (.int p1)])) _
                  refine XS.icmpNo X0.here hx rfl (hb hby d2_43) rfl (flt hc43_51).2.2.1 ?_
                  refine XS.iconst X0.here hx rfl (hb hby d2_46) ?_
                  exact retN X0 hx (t := .boolean) Bd.returns (by simp) (hb hby d2_47) hr
                · show Q_rm2 Z p1 h0 n0 _ s₁.heap _
                  rw [e0]
                  exact ⟨(own_isx1 (by (unfold own_P; have := own_ne (a := (p1).toInt) (b := 9) hc3_23 rfl rfl; have := own_ne (a := (p1).toInt) (b := 10) hc9_25 rfl rfl; have := own_ne (a := (p1).toInt) (b := 13) hc15_27 rfl rfl; have := own_nlt (a := (p1).toInt) (b := 32) hc23_29 rfl rfl; have := own_lt (a := 55295) (b := (p1).toInt) hc29_43 rfl rfl; have := own_nlt (a := (p1).toInt) (b := 57344) hc37_45 rfl rfl; have := own_nlt (a := 65533) (b := (p1).toInt) hc43_51 rfl rfl; omega))), N0, rfl⟩
          · obtain ⟨fs, hr, hrun, hended, hW, hsame⟩ := X0.leave (v := some (.int (1 : Int32))) (fun h => by rw [Bd.returns] at h; cases h)
            refine ⟨_, _, pre44 _ ?_, hrun, hended, _, _, rfl, ?_, ⟨_, rfl⟩, hW, hsame.mono (by decide) (by decide)⟩
            · show Steps p.tables e below (s₁.setTop (mkF m 29 #[.val (.int p1)] [(.int (55295 : Int32)), (.int p1)])) _
              refine XS.icmpNo X0.here hx rfl (hb hby d2_29) rfl (flt hc29_43).2.2.1 ?_
              refine XS.iconst X0.here hx rfl (hb hby d2_32) ?_
              show Steps p.tables e below (s₁.setTop (mkF m 33 #[.val (.int p1)] [(.int (1 : Int32))])) _
              exact retN X0 hx (t := .boolean) Bd.returns (by simp) (hb hby d2_33) hr
            · show Q_rm2 Z p1 h0 n0 _ s₁.heap _
              rw [e0]
              exact ⟨(own_isx1 (by (unfold own_P; have := own_ne (a := (p1).toInt) (b := 9) hc3_23 rfl rfl; have := own_ne (a := (p1).toInt) (b := 10) hc9_25 rfl rfl; have := own_ne (a := (p1).toInt) (b := 13) hc15_27 rfl rfl; have := own_nlt (a := (p1).toInt) (b := 32) hc23_29 rfl rfl; have := own_nlt (a := 55295) (b := (p1).toInt) hc29_43 rfl rfl; omega))), N0, rfl⟩
theorem wd_0 {a0 : Array Value} {Z : State} (hw : ∀ d ∈ tables_1, d.before a0 Z = true) : (Jvm.Cond.arrayClass Jvm.ClassFile.FieldType.int).before a0 Z = true := hw _ (List.mem_of_getElem? (i := 0) rfl)
theorem wd_2 {a0 : Array Value} {Z : State} (hw : ∀ d ∈ tables_1, d.before a0 Z = true) : (Jvm.Cond.constant "com/example/octavo/octavo/model/XmlNamesIsXmlCharPinLaw" (12 : Nat) (55296 : Int32)).before a0 Z = true := hw _ (List.mem_of_getElem? (i := 2) rfl)
theorem wd_3 {a0 : Array Value} {Z : State} (hw : ∀ d ∈ tables_1, d.before a0 Z = true) : (Jvm.Cond.constant "com/example/octavo/octavo/model/XmlNamesIsXmlCharPinLaw" (13 : Nat) (57343 : Int32)).before a0 Z = true := hw _ (List.mem_of_getElem? (i := 3) rfl)
theorem wd_6 {a0 : Array Value} {Z : State} (hw : ∀ d ∈ tables_1, d.before a0 Z = true) : (Jvm.Cond.constant "com/example/octavo/octavo/model/XmlNamesIsXmlCharPinLaw" (14 : Nat) (65535 : Int32)).before a0 Z = true := hw _ (List.mem_of_getElem? (i := 6) rfl)
theorem wd_9 {a0 : Array Value} {Z : State} (hw : ∀ d ∈ tables_1, d.before a0 Z = true) : (Jvm.Cond.constant "com/example/octavo/octavo/model/XmlNamesIsXmlCharPinLaw" (15 : Nat) (1114112 : Int32)).before a0 Z = true := hw _ (List.mem_of_getElem? (i := 9) rfl)
theorem wd_10 {a0 : Array Value} {Z : State} (hw : ∀ d ∈ tables_1, d.before a0 Z = true) : (Jvm.Cond.constant "com/example/octavo/octavo/model/XmlNamesIsXmlCharPinLaw" (18 : Nat) (-2147483648 : Int32)).before a0 Z = true := hw _ (List.mem_of_getElem? (i := 10) rfl)
theorem wd_11 {a0 : Array Value} {Z : State} (hw : ∀ d ∈ tables_1, d.before a0 Z = true) : (Jvm.Cond.constant "com/example/octavo/octavo/model/XmlNamesIsXmlCharPinLaw" (19 : Nat) (2147483647 : Int32)).before a0 Z = true := hw _ (List.mem_of_getElem? (i := 11) rfl)
theorem wd_12 {a0 : Array Value} {Z : State} (hw : ∀ d ∈ tables_1, d.before a0 Z = true) : (Jvm.Cond.methodLink "com/example/octavo/octavo/model/XmlNamesIsXmlCharPinLaw" (20 : Nat) ({ cls := "com/example/octavo/octavo/model/XmlNames", name := "isXmlChar", desc := "(I)Z" } : Jvm.MethodName)).before a0 Z = true := hw _ (List.mem_of_getElem? (i := 12) rfl)
theorem wd_15 {a0 : Array Value} {Z : State} (hw : ∀ d ∈ tables_1, d.before a0 Z = true) : (Jvm.Cond.code ({ cls := "com/example/octavo/octavo/model/XmlNames", name := "isXmlChar", desc := "(I)Z" } : Jvm.MethodName) prog_61_method_6_code (2 : Nat) (Option.some Jvm.ClassFile.FieldType.boolean)).before a0 Z = true := hw _ (List.mem_of_getElem? (i := 15) rfl)
theorem wd_14 {a0 : Array Value} {Z : State} (hw : ∀ d ∈ tables_1, d.before a0 Z = true) : (Jvm.Cond.initialized "com/example/octavo/octavo/model/XmlNames").before a0 Z = true := hw _ (List.mem_of_getElem? (i := 14) rfl)
theorem pd__I_Z : parseMethodDescriptor "(I)Z" = some ⟨[.int], some .boolean⟩ := by decide +kernel
theorem wd_13 {a0 : Array Value} {Z : State} (hw : ∀ d ∈ tables_1, d.before a0 Z = true) : (Jvm.Cond.static ({ cls := "com/example/octavo/octavo/model/XmlNames", name := "isXmlChar", desc := "(I)Z" } : Jvm.MethodName)).before a0 Z = true := hw _ (List.mem_of_getElem? (i := 13) rfl)
theorem wd_16 {a0 : Array Value} {Z : State} (hw : ∀ d ∈ tables_1, d.before a0 Z = true) : (Jvm.Cond.methodLink "com/example/octavo/octavo/model/XmlNamesIsXmlCharPinLaw" (26 : Nat) ({ cls := "com/example/octavo/octavo/model/XmlNamesIsXmlCharPinLaw", name := "ref", desc := "(I)Z" } : Jvm.MethodName)).before a0 Z = true := hw _ (List.mem_of_getElem? (i := 16) rfl)
theorem wd_19 {a0 : Array Value} {Z : State} (hw : ∀ d ∈ tables_1, d.before a0 Z = true) : (Jvm.Cond.code ({ cls := "com/example/octavo/octavo/model/XmlNamesIsXmlCharPinLaw", name := "ref", desc := "(I)Z" } : Jvm.MethodName) method_2_code (1 : Nat) (Option.some Jvm.ClassFile.FieldType.boolean)).before a0 Z = true := hw _ (List.mem_of_getElem? (i := 19) rfl)
theorem wd_18 {a0 : Array Value} {Z : State} (hw : ∀ d ∈ tables_1, d.before a0 Z = true) : (Jvm.Cond.initialized "com/example/octavo/octavo/model/XmlNamesIsXmlCharPinLaw").before a0 Z = true := hw _ (List.mem_of_getElem? (i := 18) rfl)
theorem wd_17 {a0 : Array Value} {Z : State} (hw : ∀ d ∈ tables_1, d.before a0 Z = true) : (Jvm.Cond.static ({ cls := "com/example/octavo/octavo/model/XmlNamesIsXmlCharPinLaw", name := "ref", desc := "(I)Z" } : Jvm.MethodName)).before a0 Z = true := hw _ (List.mem_of_getElem? (i := 17) rfl)
theorem ef_0 (m : MethodId) (x0 : Int32) (x1 : Int32) (x2 : Int32) : entryFrame m #[(.int x0), (.int x1), (.int x2)] maxLocals = mkF m 0 #[.val (.int x0), .val (.int x1), .val (.int x2), .unset, .unset, .unset, .unset] [] := by first | (simp [entryFrame, mkF, argsToLocals, Value.category, maxLocals]; done) | rfl
def Q_rm0 (Z : State) (p1 : Int32) (p2 : Int32) (p3 : Int32) (h0 : Heap) (n0 : Nat) (v : Option Value) (h : Heap) (L : List Loc) : Prop := v = some (.int (1 : Int32)) ∧ Fr n0 L ∧ True
set_option maxRecDepth 65536 in
set_option maxHeartbeats 40000000 in
theorem rm0 (l : Launch) (Z : State) (a0 : Array Value) (hw : ∀ d ∈ tables_1, d.before a0 Z = true) (ws : List Jvm.Cond) (p1 : Int32) (p2 : Int32) (p3 : Int32) (h0 : Heap) (n0 : Nat) (Z0 : n0 ≤ h0.size) :
    MetFree l x (head1 (Jvm.Cond.code x code maxLocals ret :: ws) room_1) (fun a U => a = #[(.int p1), (.int p2), (.int p3)] ∧ Z.Warmed39 U.vm ∧ U.heap = h0) (fun _ _ _ _ _ => True) (fun _ U o U' => ∃ v L, o = .returned v ∧ Q_rm0 Z p1 p2 p3 h0 n0 v U'.heap L ∧ FrameEnd U o U' L room_1.cells room_1.slots) := by
  refine MetFree.of_bodySF (plainFor_of_name pn_com_example_octavo_octavo_model_XmlNamesIsXmlCharPinLaw) hisR ?_
  intro p e s m args below meth c s₁ Bd hml0 hP hK
  obtain ⟨rfl, hZ, hh⟩ := hP
  have hx := Bd.exec
  have hby := Bd.bytes
  have hml : c.maxLocals = 7 := hml0
  have hown : s.vm.findClass "com/example/octavo/octavo/model/XmlNamesIsXmlCharPinLaw" = some m.cls := findClass_of_methodNamed Bd.named
  have hnm := (name_of_methodNamed Bd.named Bd.method).1
  have X0 : Stand p l e room_1 s m #[(.int p1), (.int p2), (.int p3)] below meth c s₁ [] 0 0 := Stand.of_body Bd
  have e0 : s₁.heap = h0 := by rw [← hh, Bd.state]; rfl
  have N0 := Fr.nil n0
  have pre0 : ∀ t, Steps p.tables e below (s₁.setTop (mkF m 0 #[.val (.int p1), .val (.int p2), .val (.int p3), .unset, .unset, .unset, .unset] [])) t → Steps p.tables e below (s₁.setTop (entryFrame m #[(.int p1), (.int p2), (.int p3)] maxLocals)) t := fun t k => castTop (ef_0 m p1 p2 p3) k
  obtain ⟨T57, h57, k57, X57, e57, E57, A57, st57⟩ := newP (aty := .int) X0 hx hZ (wd_0 hw) e0 (g := (mkF m 2 #[.val (.int p1), .val (.int p2), .val (.int p3), .unset, .unset, .unset, .unset] [(.int (16 : Int32))])) rfl (hb hby at_2) rfl (by decide) (cap := 16) (by decide) (by decide) (by decide) (by decide)
  obtain ⟨b57, g57⟩ : ∃ z, z = h0.size := ⟨_, rfl⟩
  rw [← g57] at A57 st57
  have g_b57 : n0 ≤ b57 := Nat.le_trans Z0 (Nat.le_of_eq g57.symm)
  have Z58 : n0 ≤ h57.size := Nat.le_trans Z0 E57.1
  have V0_b57 := (Arv.new A57 (by decide)).pad (pad_rep [] (.int (0 : Int32)) 16)
  have V_b57 : Arv Z h57 b57 k57 .int (16 : Int32) [(.int (0 : Int32)), (.int (0 : Int32)), (.int (0 : Int32)), (.int (0 : Int32)), (.int (0 : Int32)), (.int (0 : Int32)), (.int (0 : Int32)), (.int (0 : Int32)), (.int (0 : Int32)), (.int (0 : Int32)), (.int (0 : Int32)), (.int (0 : Int32)), (.int (0 : Int32)), (.int (0 : Int32)), (.int (0 : Int32)), (.int (0 : Int32))] (.int (0 : Int32)) := V0_b57
  obtain ⟨cl59, Ar59, q59, S59, N59n, H59, G59⟩ := id (V_b57)
  have hin59 : ¬ ((0 : Int32) < 0 ∨ cl59.slots.size ≤ ((0 : Int32)).toNatClampNeg) := inb_of S59 ⟨by decide, by decide⟩
  obtain ⟨T60, h60, X60, e60, W60, st60⟩ := stI X57 hx hZ e57 Ar59 (j := (0 : Int32)) hin59 (g := (mkF m 7 #[.val (.int p1), .val (.int p2), .val (.int p3), .unset, .unset, .unset, .unset] [(.int (0 : Int32)), (.int (0 : Int32)), (.ref b57), (.ref b57)])) rfl rfl (hb hby at_7)
  have V_b57_60 : Arv Z h60 b57 k57 .int (16 : Int32) [(.int (0 : Int32)), (.int (0 : Int32)), (.int (0 : Int32)), (.int (0 : Int32)), (.int (0 : Int32)), (.int (0 : Int32)), (.int (0 : Int32)), (.int (0 : Int32)), (.int (0 : Int32)), (.int (0 : Int32)), (.int (0 : Int32)), (.int (0 : Int32)), (.int (0 : Int32)), (.int (0 : Int32)), (.int (0 : Int32)), (.int (0 : Int32))] (.int (0 : Int32)) := Arv.set Ar59 q59 S59 N59n H59 G59 rfl W60 0 rfl (Nat.le_of_ble_eq_true rfl)
  have Z61 : n0 ≤ h60.size := Nat.le_trans Z58 (Keep.of_wr W60).1
  have N60 := Fr.snoc X60 N0 g_b57
  obtain ⟨cl62, Ar62, q62, S62, N62n, H62, G62⟩ := id (V_b57_60)
  have hin62 : ¬ ((1 : Int32) < 0 ∨ cl62.slots.size ≤ ((1 : Int32)).toNatClampNeg) := inb_of S62 ⟨by decide, by decide⟩
  obtain ⟨T63, h63, X63, e63, W63, st63⟩ := stI X60 hx hZ e60 Ar62 (j := (1 : Int32)) hin62 (g := (mkF m 12 #[.val (.int p1), .val (.int p2), .val (.int p3), .unset, .unset, .unset, .unset] [(.int (9 : Int32)), (.int (1 : Int32)), (.ref b57), (.ref b57)])) rfl rfl (hb hby at_12)
  have V_b57_63 : Arv Z h63 b57 k57 .int (16 : Int32) [(.int (0 : Int32)), (.int (9 : Int32)), (.int (0 : Int32)), (.int (0 : Int32)), (.int (0 : Int32)), (.int (0 : Int32)), (.int (0 : Int32)), (.int (0 : Int32)), (.int (0 : Int32)), (.int (0 : Int32)), (.int (0 : Int32)), (.int (0 : Int32)), (.int (0 : Int32)), (.int (0 : Int32)), (.int (0 : Int32)), (.int (0 : Int32))] (.int (0 : Int32)) := Arv.set Ar62 q62 S62 N62n H62 G62 rfl W63 1 rfl (Nat.le_of_ble_eq_true rfl)
  have Z64 : n0 ≤ h63.size := Nat.le_trans Z61 (Keep.of_wr W63).1
  have N63 := Fr.snoc X63 N60 g_b57
  obtain ⟨cl65, Ar65, q65, S65, N65n, H65, G65⟩ := id (V_b57_63)
  have hin65 : ¬ ((2 : Int32) < 0 ∨ cl65.slots.size ≤ ((2 : Int32)).toNatClampNeg) := inb_of S65 ⟨by decide, by decide⟩
  obtain ⟨T66, h66, X66, e66, W66, st66⟩ := stI X63 hx hZ e63 Ar65 (j := (2 : Int32)) hin65 (g := (mkF m 17 #[.val (.int p1), .val (.int p2), .val (.int p3), .unset, .unset, .unset, .unset] [(.int (10 : Int32)), (.int (2 : Int32)), (.ref b57), (.ref b57)])) rfl rfl (hb hby at_17)
  have V_b57_66 : Arv Z h66 b57 k57 .int (16 : Int32) [(.int (0 : Int32)), (.int (9 : Int32)), (.int (10 : Int32)), (.int (0 : Int32)), (.int (0 : Int32)), (.int (0 : Int32)), (.int (0 : Int32)), (.int (0 : Int32)), (.int (0 : Int32)), (.int (0 : Int32)), (.int (0 : Int32)), (.int (0 : Int32)), (.int (0 : Int32)), (.int (0 : Int32)), (.int (0 : Int32)), (.int (0 : Int32))] (.int (0 : Int32)) := Arv.set Ar65 q65 S65 N65n H65 G65 rfl W66 2 rfl (Nat.le_of_ble_eq_true rfl)
  have Z67 : n0 ≤ h66.size := Nat.le_trans Z64 (Keep.of_wr W66).1
  have N66 := Fr.snoc X66 N63 g_b57
  obtain ⟨cl68, Ar68, q68, S68, N68n, H68, G68⟩ := id (V_b57_66)
  have hin68 : ¬ ((3 : Int32) < 0 ∨ cl68.slots.size ≤ ((3 : Int32)).toNatClampNeg) := inb_of S68 ⟨by decide, by decide⟩
  obtain ⟨T69, h69, X69, e69, W69, st69⟩ := stI X66 hx hZ e66 Ar68 (j := (3 : Int32)) hin68 (g := (mkF m 22 #[.val (.int p1), .val (.int p2), .val (.int p3), .unset, .unset, .unset, .unset] [(.int (13 : Int32)), (.int (3 : Int32)), (.ref b57), (.ref b57)])) rfl rfl (hb hby at_22)
  have V_b57_69 : Arv Z h69 b57 k57 .int (16 : Int32) [(.int (0 : Int32)), (.int (9 : Int32)), (.int (10 : Int32)), (.int (13 : Int32)), (.int (0 : Int32)), (.int (0 : Int32)), (.int (0 : Int32)), (.int (0 : Int32)), (.int (0 : Int32)), (.int (0 : Int32)), (.int (0 : Int32)), (.int (0 : Int32)), (.int (0 : Int32)), (.int (0 : Int32)), (.int (0 : Int32)), (.int (0 : Int32))] (.int (0 : Int32)) := Arv.set Ar68 q68 S68 N68n H68 G68 rfl W69 3 rfl (Nat.le_of_ble_eq_true rfl)
  have Z70 : n0 ≤ h69.size := Nat.le_trans Z67 (Keep.of_wr W69).1
  have N69 := Fr.snoc X69 N66 g_b57
  obtain ⟨cl71, Ar71, q71, S71, N71n, H71, G71⟩ := id (V_b57_69)
  have hin71 : ¬ ((4 : Int32) < 0 ∨ cl71.slots.size ≤ ((4 : Int32)).toNatClampNeg) := inb_of S71 ⟨by decide, by decide⟩
  obtain ⟨T72, h72, X72, e72, W72, st72⟩ := stI X69 hx hZ e69 Ar71 (j := (4 : Int32)) hin71 (g := (mkF m 27 #[.val (.int p1), .val (.int p2), .val (.int p3), .unset, .unset, .unset, .unset] [(.int (32 : Int32)), (.int (4 : Int32)), (.ref b57), (.ref b57)])) rfl rfl (hb hby at_27)
  have V_b57_72 : Arv Z h72 b57 k57 .int (16 : Int32) [(.int (0 : Int32)), (.int (9 : Int32)), (.int (10 : Int32)), (.int (13 : Int32)), (.int (32 : Int32)), (.int (0 : Int32)), (.int (0 : Int32)), (.int (0 : Int32)), (.int (0 : Int32)), (.int (0 : Int32)), (.int (0 : Int32)), (.int (0 : Int32)), (.int (0 : Int32)), (.int (0 : Int32)), (.int (0 : Int32)), (.int (0 : Int32))] (.int (0 : Int32)) := Arv.set Ar71 q71 S71 N71n H71 G71 rfl W72 4 rfl (Nat.le_of_ble_eq_true rfl)
  have Z73 : n0 ≤ h72.size := Nat.le_trans Z70 (Keep.of_wr W72).1
  have N72 := Fr.snoc X72 N69 g_b57
  obtain ⟨cl74, Ar74, q74, S74, N74n, H74, G74⟩ := id (V_b57_72)
  have hin74 : ¬ ((5 : Int32) < 0 ∨ cl74.slots.size ≤ ((5 : Int32)).toNatClampNeg) := inb_of S74 ⟨by decide, by decide⟩
  obtain ⟨T75, h75, X75, e75, W75, st75⟩ := stI X72 hx hZ e72 Ar74 (j := (5 : Int32)) hin74 (g := (mkF m 32 #[.val (.int p1), .val (.int p2), .val (.int p3), .unset, .unset, .unset, .unset] [(.int (55295 : Int32)), (.int (5 : Int32)), (.ref b57), (.ref b57)])) rfl rfl (hb hby at_32)
  have V_b57_75 : Arv Z h75 b57 k57 .int (16 : Int32) [(.int (0 : Int32)), (.int (9 : Int32)), (.int (10 : Int32)), (.int (13 : Int32)), (.int (32 : Int32)), (.int (55295 : Int32)), (.int (0 : Int32)), (.int (0 : Int32)), (.int (0 : Int32)), (.int (0 : Int32)), (.int (0 : Int32)), (.int (0 : Int32)), (.int (0 : Int32)), (.int (0 : Int32)), (.int (0 : Int32)), (.int (0 : Int32))] (.int (0 : Int32)) := Arv.set Ar74 q74 S74 N74n H74 G74 rfl W75 5 rfl (Nat.le_of_ble_eq_true rfl)
  have Z76 : n0 ≤ h75.size := Nat.le_trans Z73 (Keep.of_wr W75).1
  have N75 := Fr.snoc X75 N72 g_b57
  obtain ⟨cl77, Ar77, q77, S77, N77n, H77, G77⟩ := id (V_b57_75)
  have hin77 : ¬ ((6 : Int32) < 0 ∨ cl77.slots.size ≤ ((6 : Int32)).toNatClampNeg) := inb_of S77 ⟨by decide, by decide⟩
  obtain ⟨T78, h78, X78, e78, W78, st78⟩ := stI X75 hx hZ e75 Ar77 (j := (6 : Int32)) hin77 (g := (mkF m 38 #[.val (.int p1), .val (.int p2), .val (.int p3), .unset, .unset, .unset, .unset] [(.int (55296 : Int32)), (.int (6 : Int32)), (.ref b57), (.ref b57)])) rfl rfl (hb hby at_38)
  have V_b57_78 : Arv Z h78 b57 k57 .int (16 : Int32) [(.int (0 : Int32)), (.int (9 : Int32)), (.int (10 : Int32)), (.int (13 : Int32)), (.int (32 : Int32)), (.int (55295 : Int32)), (.int (55296 : Int32)), (.int (0 : Int32)), (.int (0 : Int32)), (.int (0 : Int32)), (.int (0 : Int32)), (.int (0 : Int32)), (.int (0 : Int32)), (.int (0 : Int32)), (.int (0 : Int32)), (.int (0 : Int32))] (.int (0 : Int32)) := Arv.set Ar77 q77 S77 N77n H77 G77 rfl W78 6 rfl (Nat.le_of_ble_eq_true rfl)
  have Z79 : n0 ≤ h78.size := Nat.le_trans Z76 (Keep.of_wr W78).1
  have N78 := Fr.snoc X78 N75 g_b57
  obtain ⟨cl80, Ar80, q80, S80, N80n, H80, G80⟩ := id (V_b57_78)
  have hin80 : ¬ ((7 : Int32) < 0 ∨ cl80.slots.size ≤ ((7 : Int32)).toNatClampNeg) := inb_of S80 ⟨by decide, by decide⟩
  obtain ⟨T81, h81, X81, e81, W81, st81⟩ := stI X78 hx hZ e78 Ar80 (j := (7 : Int32)) hin80 (g := (mkF m 44 #[.val (.int p1), .val (.int p2), .val (.int p3), .unset, .unset, .unset, .unset] [(.int (57343 : Int32)), (.int (7 : Int32)), (.ref b57), (.ref b57)])) rfl rfl (hb hby at_44)
  have V_b57_81 : Arv Z h81 b57 k57 .int (16 : Int32) [(.int (0 : Int32)), (.int (9 : Int32)), (.int (10 : Int32)), (.int (13 : Int32)), (.int (32 : Int32)), (.int (55295 : Int32)), (.int (55296 : Int32)), (.int (57343 : Int32)), (.int (0 : Int32)), (.int (0 : Int32)), (.int (0 : Int32)), (.int (0 : Int32)), (.int (0 : Int32)), (.int (0 : Int32)), (.int (0 : Int32)), (.int (0 : Int32))] (.int (0 : Int32)) := Arv.set Ar80 q80 S80 N80n H80 G80 rfl W81 7 rfl (Nat.le_of_ble_eq_true rfl)
  have Z82 : n0 ≤ h81.size := Nat.le_trans Z79 (Keep.of_wr W81).1
  have N81 := Fr.snoc X81 N78 g_b57
  obtain ⟨cl83, Ar83, q83, S83, N83n, H83, G83⟩ := id (V_b57_81)
  have hin83 : ¬ ((8 : Int32) < 0 ∨ cl83.slots.size ≤ ((8 : Int32)).toNatClampNeg) := inb_of S83 ⟨by decide, by decide⟩
  obtain ⟨T84, h84, X84, e84, W84, st84⟩ := stI X81 hx hZ e81 Ar83 (j := (8 : Int32)) hin83 (g := (mkF m 50 #[.val (.int p1), .val (.int p2), .val (.int p3), .unset, .unset, .unset, .unset] [(.int (57344 : Int32)), (.int (8 : Int32)), (.ref b57), (.ref b57)])) rfl rfl (hb hby at_50)
  have V_b57_84 : Arv Z h84 b57 k57 .int (16 : Int32) [(.int (0 : Int32)), (.int (9 : Int32)), (.int (10 : Int32)), (.int (13 : Int32)), (.int (32 : Int32)), (.int (55295 : Int32)), (.int (55296 : Int32)), (.int (57343 : Int32)), (.int (57344 : Int32)), (.int (0 : Int32)), (.int (0 : Int32)), (.int (0 : Int32)), (.int (0 : Int32)), (.int (0 : Int32)), (.int (0 : Int32)), (.int (0 : Int32))] (.int (0 : Int32)) := Arv.set Ar83 q83 S83 N83n H83 G83 rfl W84 8 rfl (Nat.le_of_ble_eq_true rfl)
  have Z85 : n0 ≤ h84.size := Nat.le_trans Z82 (Keep.of_wr W84).1
  have N84 := Fr.snoc X84 N81 g_b57
  obtain ⟨cl86, Ar86, q86, S86, N86n, H86, G86⟩ := id (V_b57_84)
  have hin86 : ¬ ((9 : Int32) < 0 ∨ cl86.slots.size ≤ ((9 : Int32)).toNatClampNeg) := inb_of S86 ⟨by decide, by decide⟩
  obtain ⟨T87, h87, X87, e87, W87, st87⟩ := stI X84 hx hZ e84 Ar86 (j := (9 : Int32)) hin86 (g := (mkF m 56 #[.val (.int p1), .val (.int p2), .val (.int p3), .unset, .unset, .unset, .unset] [(.int (65533 : Int32)), (.int (9 : Int32)), (.ref b57), (.ref b57)])) rfl rfl (hb hby at_56)
  have V_b57_87 : Arv Z h87 b57 k57 .int (16 : Int32) [(.int (0 : Int32)), (.int (9 : Int32)), (.int (10 : Int32)), (.int (13 : Int32)), (.int (32 : Int32)), (.int (55295 : Int32)), (.int (55296 : Int32)), (.int (57343 : Int32)), (.int (57344 : Int32)), (.int (65533 : Int32)), (.int (0 : Int32)), (.int (0 : Int32)), (.int (0 : Int32)), (.int (0 : Int32)), (.int (0 : Int32)), (.int (0 : Int32))] (.int (0 : Int32)) := Arv.set Ar86 q86 S86 N86n H86 G86 rfl W87 9 rfl (Nat.le_of_ble_eq_true rfl)
  have Z88 : n0 ≤ h87.size := Nat.le_trans Z85 (Keep.of_wr W87).1
  have N87 := Fr.snoc X87 N84 g_b57
  obtain ⟨cl89, Ar89, q89, S89, N89n, H89, G89⟩ := id (V_b57_87)
  have hin89 : ¬ ((10 : Int32) < 0 ∨ cl89.slots.size ≤ ((10 : Int32)).toNatClampNeg) := inb_of S89 ⟨by decide, by decide⟩
  obtain ⟨T90, h90, X90, e90, W90, st90⟩ := stI X87 hx hZ e87 Ar89 (j := (10 : Int32)) hin89 (g := (mkF m 62 #[.val (.int p1), .val (.int p2), .val (.int p3), .unset, .unset, .unset, .unset] [(.int (65535 : Int32)), (.int (10 : Int32)), (.ref b57), (.ref b57)])) rfl rfl (hb hby at_62)
  have V_b57_90 : Arv Z h90 b57 k57 .int (16 : Int32) [(.int (0 : Int32)), (.int (9 : Int32)), (.int (10 : Int32)), (.int (13 : Int32)), (.int (32 : Int32)), (.int (55295 : Int32)), (.int (55296 : Int32)), (.int (57343 : Int32)), (.int (57344 : Int32)), (.int (65533 : Int32)), (.int (65535 : Int32)), (.int (0 : Int32)), (.int (0 : Int32)), (.int (0 : Int32)), (.int (0 : Int32)), (.int (0 : Int32))] (.int (0 : Int32)) := Arv.set Ar89 q89 S89 N89n H89 G89 rfl W90 10 rfl (Nat.le_of_ble_eq_true rfl)
  have Z91 : n0 ≤ h90.size := Nat.le_trans Z88 (Keep.of_wr W90).1
  have N90 := Fr.snoc X90 N87 g_b57
  obtain ⟨cl92, Ar92, q92, S92, N92n, H92, G92⟩ := id (V_b57_90)
  have hin92 : ¬ ((11 : Int32) < 0 ∨ cl92.slots.size ≤ ((11 : Int32)).toNatClampNeg) := inb_of S92 ⟨by decide, by decide⟩
  obtain ⟨T93, h93, X93, e93, W93, st93⟩ := stI X90 hx hZ e90 Ar92 (j := (11 : Int32)) hin92 (g := (mkF m 68 #[.val (.int p1), .val (.int p2), .val (.int p3), .unset, .unset, .unset, .unset] [(.int (65536 : Int32)), (.int (11 : Int32)), (.ref b57), (.ref b57)])) rfl rfl (hb hby at_68)
  have V_b57_93 : Arv Z h93 b57 k57 .int (16 : Int32) [(.int (0 : Int32)), (.int (9 : Int32)), (.int (10 : Int32)), (.int (13 : Int32)), (.int (32 : Int32)), (.int (55295 : Int32)), (.int (55296 : Int32)), (.int (57343 : Int32)), (.int (57344 : Int32)), (.int (65533 : Int32)), (.int (65535 : Int32)), (.int (65536 : Int32)), (.int (0 : Int32)), (.int (0 : Int32)), (.int (0 : Int32)), (.int (0 : Int32))] (.int (0 : Int32)) := Arv.set Ar92 q92 S92 N92n H92 G92 rfl W93 11 rfl (Nat.le_of_ble_eq_true rfl)
  have Z94 : n0 ≤ h93.size := Nat.le_trans Z91 (Keep.of_wr W93).1
  have N93 := Fr.snoc X93 N90 g_b57
  obtain ⟨cl95, Ar95, q95, S95, N95n, H95, G95⟩ := id (V_b57_93)
  have hin95 : ¬ ((12 : Int32) < 0 ∨ cl95.slots.size ≤ ((12 : Int32)).toNatClampNeg) := inb_of S95 ⟨by decide, by decide⟩
  obtain ⟨T96, h96, X96, e96, W96, st96⟩ := stI X93 hx hZ e93 Ar95 (j := (12 : Int32)) hin95 (g := (mkF m 74 #[.val (.int p1), .val (.int p2), .val (.int p3), .unset, .unset, .unset, .unset] [(.int (1114111 : Int32)), (.int (12 : Int32)), (.ref b57), (.ref b57)])) rfl rfl (hb hby at_74)
  have V_b57_96 : Arv Z h96 b57 k57 .int (16 : Int32) [(.int (0 : Int32)), (.int (9 : Int32)), (.int (10 : Int32)), (.int (13 : Int32)), (.int (32 : Int32)), (.int (55295 : Int32)), (.int (55296 : Int32)), (.int (57343 : Int32)), (.int (57344 : Int32)), (.int (65533 : Int32)), (.int (65535 : Int32)), (.int (65536 : Int32)), (.int (1114111 : Int32)), (.int (0 : Int32)), (.int (0 : Int32)), (.int (0 : Int32))] (.int (0 : Int32)) := Arv.set Ar95 q95 S95 N95n H95 G95 rfl W96 12 rfl (Nat.le_of_ble_eq_true rfl)
  have Z97 : n0 ≤ h96.size := Nat.le_trans Z94 (Keep.of_wr W96).1
  have N96 := Fr.snoc X96 N93 g_b57
  obtain ⟨cl98, Ar98, q98, S98, N98n, H98, G98⟩ := id (V_b57_96)
  have hin98 : ¬ ((13 : Int32) < 0 ∨ cl98.slots.size ≤ ((13 : Int32)).toNatClampNeg) := inb_of S98 ⟨by decide, by decide⟩
  obtain ⟨T99, h99, X99, e99, W99, st99⟩ := stI X96 hx hZ e96 Ar98 (j := (13 : Int32)) hin98 (g := (mkF m 80 #[.val (.int p1), .val (.int p2), .val (.int p3), .unset, .unset, .unset, .unset] [(.int (1114112 : Int32)), (.int (13 : Int32)), (.ref b57), (.ref b57)])) rfl rfl (hb hby at_80)
  have V_b57_99 : Arv Z h99 b57 k57 .int (16 : Int32) [(.int (0 : Int32)), (.int (9 : Int32)), (.int (10 : Int32)), (.int (13 : Int32)), (.int (32 : Int32)), (.int (55295 : Int32)), (.int (55296 : Int32)), (.int (57343 : Int32)), (.int (57344 : Int32)), (.int (65533 : Int32)), (.int (65535 : Int32)), (.int (65536 : Int32)), (.int (1114111 : Int32)), (.int (1114112 : Int32)), (.int (0 : Int32)), (.int (0 : Int32))] (.int (0 : Int32)) := Arv.set Ar98 q98 S98 N98n H98 G98 rfl W99 13 rfl (Nat.le_of_ble_eq_true rfl)
  have Z100 : n0 ≤ h99.size := Nat.le_trans Z97 (Keep.of_wr W99).1
  have N99 := Fr.snoc X99 N96 g_b57
  obtain ⟨cl101, Ar101, q101, S101, N101n, H101, G101⟩ := id (V_b57_99)
  have hin101 : ¬ ((14 : Int32) < 0 ∨ cl101.slots.size ≤ ((14 : Int32)).toNatClampNeg) := inb_of S101 ⟨by decide, by decide⟩
  obtain ⟨T102, h102, X102, e102, W102, st102⟩ := stI X99 hx hZ e99 Ar101 (j := (14 : Int32)) hin101 (g := (mkF m 86 #[.val (.int p1), .val (.int p2), .val (.int p3), .unset, .unset, .unset, .unset] [(.int (-2147483648 : Int32)), (.int (14 : Int32)), (.ref b57), (.ref b57)])) rfl rfl (hb hby at_86)
  have V_b57_102 : Arv Z h102 b57 k57 .int (16 : Int32) [(.int (0 : Int32)), (.int (9 : Int32)), (.int (10 : Int32)), (.int (13 : Int32)), (.int (32 : Int32)), (.int (55295 : Int32)), (.int (55296 : Int32)), (.int (57343 : Int32)), (.int (57344 : Int32)), (.int (65533 : Int32)), (.int (65535 : Int32)), (.int (65536 : Int32)), (.int (1114111 : Int32)), (.int (1114112 : Int32)), (.int (-2147483648 : Int32)), (.int (0 : Int32))] (.int (0 : Int32)) := Arv.set Ar101 q101 S101 N101n H101 G101 rfl W102 14 rfl (Nat.le_of_ble_eq_true rfl)
  have Z103 : n0 ≤ h102.size := Nat.le_trans Z100 (Keep.of_wr W102).1
  have N102 := Fr.snoc X102 N99 g_b57
  obtain ⟨cl104, Ar104, q104, S104, N104n, H104, G104⟩ := id (V_b57_102)
  have hin104 : ¬ ((15 : Int32) < 0 ∨ cl104.slots.size ≤ ((15 : Int32)).toNatClampNeg) := inb_of S104 ⟨by decide, by decide⟩
  obtain ⟨T105, h105, X105, e105, W105, st105⟩ := stI X102 hx hZ e102 Ar104 (j := (15 : Int32)) hin104 (g := (mkF m 92 #[.val (.int p1), .val (.int p2), .val (.int p3), .unset, .unset, .unset, .unset] [(.int (2147483647 : Int32)), (.int (15 : Int32)), (.ref b57), (.ref b57)])) rfl rfl (hb hby at_92)
  have V_b57_105 : Arv Z h105 b57 k57 .int (16 : Int32) [(.int (0 : Int32)), (.int (9 : Int32)), (.int (10 : Int32)), (.int (13 : Int32)), (.int (32 : Int32)), (.int (55295 : Int32)), (.int (55296 : Int32)), (.int (57343 : Int32)), (.int (57344 : Int32)), (.int (65533 : Int32)), (.int (65535 : Int32)), (.int (65536 : Int32)), (.int (1114111 : Int32)), (.int (1114112 : Int32)), (.int (-2147483648 : Int32)), (.int (2147483647 : Int32))] (.int (0 : Int32)) := Arv.set Ar104 q104 S104 N104n H104 G104 rfl W105 15 rfl (Nat.le_of_ble_eq_true rfl)
  have Z106 : n0 ≤ h105.size := Nat.le_trans Z103 (Keep.of_wr W105).1
  have N105 := Fr.snoc X105 N102 g_b57
  obtain ⟨cl107, Ar107, q107, S107, N107n, H107, G107⟩ := id (V_b57_105)
  obtain ⟨cl108, Ar108, q108, S108, N108n, H108, G108⟩ := id (V_b57_105)
  have hin108 : ¬ (((p2 &&& (2147483647 : Int32)) % (16 : Int32)) < 0 ∨ cl108.slots.size ≤ (((p2 &&& (2147483647 : Int32)) % (16 : Int32))).toNatClampNeg) := inb_of S108 (own_idx p2)
  obtain ⟨vE109, hvE109⟩ : ∃ v : Int32, ([(.int (0 : Int32)), (.int (9 : Int32)), (.int (10 : Int32)), (.int (13 : Int32)), (.int (32 : Int32)), (.int (55295 : Int32)), (.int (55296 : Int32)), (.int (57343 : Int32)), (.int (57344 : Int32)), (.int (65533 : Int32)), (.int (65535 : Int32)), (.int (65536 : Int32)), (.int (1114111 : Int32)), (.int (1114112 : Int32)), (.int (-2147483648 : Int32)), (.int (2147483647 : Int32))] : List Value).getD (((p2 &&& (2147483647 : Int32)) % (16 : Int32))).toNatClampNeg (.int (0 : Int32)) = .int v := own_any [(0 : Int32), (9 : Int32), (10 : Int32), (13 : Int32), (32 : Int32), (55295 : Int32), (55296 : Int32), (57343 : Int32), (57344 : Int32), (65533 : Int32), (65535 : Int32), (65536 : Int32), (1114111 : Int32), (1114112 : Int32), (-2147483648 : Int32), (2147483647 : Int32)] _
  have hat108 : cl108.slots[(((p2 &&& (2147483647 : Int32)) % (16 : Int32))).toNatClampNeg]? = some (.int vE109) := H108.at hin108 hvE109
  obtain ⟨_, _, ⟨T110, L110, k110, n110⟩, -, X110, ⟨Lc110, hQ110, l110, y110, z110⟩, st110⟩ := Jvm.LawKit.callS X105 hx (y := (⟨"com/example/octavo/octavo/model/XmlNames", "isXmlChar", "(I)Z"⟩ : MethodName)) hown (mvT hZ (wd_12 hw)) (mvT hZ (wd_13 hw)) (mvT hZ (wd_14 hw)) (mvT hZ (wd_15 hw)) (by decide) (backOf (W := 0) (rm1 l Z a0 hw [] p1 h105 n0 Z106) hZ (wd_15 hw) (wd_14 hw) (by decide) (by decide)) (g := (mkF m 112 #[.val (.int p1), .val (.int p2), .val (.int p3), .val (.ref b57), .val (.int (vE109 + ((p3 &&& (3 : Int32)) - (1 : Int32)))), .unset, .unset] [(.int p1)])) rfl (by rw [hml]; rfl) (argsL := [(.int p1)]) (rest := []) (lenOf pd__I_Z rfl) rfl (by show 2 * 0 + _ ≤ _; exact Nat.le_of_eq rfl) (hb hby at_112) (fun _ _ => ⟨rfl, e105, (by decide : 1 + 0 ≤ _), (by decide : 16 + 0 ≤ _)⟩)
  dsimp only [Pt.U, Pt.locs, Pt.cells, Pt.slots] at X110 l110 y110 z110 st110 hQ110
  subst l110 y110 z110
  obtain ⟨rfl, N110q, e110⟩ := hQ110
  have N110 := Fr.app N105 N110q
  obtain ⟨_, _, ⟨T111, L111, k111, n111⟩, -, X111, ⟨Lc111, hQ111, l111, y111, z111⟩, st111⟩ := Jvm.LawKit.callS X110 hx (y := (⟨"com/example/octavo/octavo/model/XmlNamesIsXmlCharPinLaw", "ref", "(I)Z"⟩ : MethodName)) hown (mvT hZ (wd_16 hw)) (mvT hZ (wd_17 hw)) (mvT hZ (wd_18 hw)) (mvT hZ (wd_19 hw)) (by decide) (backOf (W := 1) (rm2 l Z a0 hw [] p1 h105 n0 Z106) hZ (wd_19 hw) (wd_18 hw) (by decide) (by decide)) (g := (mkF m 116 #[.val (.int p1), .val (.int p2), .val (.int p3), .val (.ref b57), .val (.int (vE109 + ((p3 &&& (3 : Int32)) - (1 : Int32)))), .unset, .unset] [(.int p1), (.int (own_isx p1))])) rfl (by rw [hml]; rfl) (argsL := [(.int p1)]) (rest := [(.int (own_isx p1))]) (lenOf pd__I_Z rfl) rfl (by show 2 * 0 + _ ≤ _; exact Nat.le_of_eq rfl) (hb hby at_116) (fun _ _ => ⟨rfl, e110, (by decide : 1 + 0 ≤ _), (by decide : 16 + 0 ≤ _)⟩)
  dsimp only [Pt.U, Pt.locs, Pt.cells, Pt.slots] at X111 l111 y111 z111 st111 hQ111
  subst l111 y111 z111
  obtain ⟨rfl, N111q, e111⟩ := hQ111
  have N111 := Fr.app N110 N111q
  obtain ⟨_, _, ⟨T112, L112, k112, n112⟩, -, X112, ⟨Lc112, hQ112, l112, y112, z112⟩, st112⟩ := Jvm.LawKit.callS X111 hx (y := (⟨"com/example/octavo/octavo/model/XmlNames", "isXmlChar", "(I)Z"⟩ : MethodName)) hown (mvT hZ (wd_12 hw)) (mvT hZ (wd_13 hw)) (mvT hZ (wd_14 hw)) (mvT hZ (wd_15 hw)) (by decide) (backOf (W := 0) (rm1 l Z a0 hw [] (vE109 + ((p3 &&& (3 : Int32)) - (1 : Int32))) h105 n0 Z106) hZ (wd_15 hw) (wd_14 hw) (by decide) (by decide)) (g := (mkF m 131 #[.val (.int p1), .val (.int p2), .val (.int p3), .val (.ref b57), .val (.int (vE109 + ((p3 &&& (3 : Int32)) - (1 : Int32)))), .val (.int (1 : Int32)), .unset] [(.int (vE109 + ((p3 &&& (3 : Int32)) - (1 : Int32))))])) rfl (by rw [hml]; rfl) (argsL := [(.int (vE109 + ((p3 &&& (3 : Int32)) - (1 : Int32))))]) (rest := []) (lenOf pd__I_Z rfl) rfl (by show 2 * 0 + _ ≤ _; exact Nat.le_of_eq rfl) (hb hby at_131) (fun _ _ => ⟨rfl, e111, (by decide : 1 + 0 ≤ _), (by decide : 16 + 0 ≤ _)⟩)
  dsimp only [Pt.U, Pt.locs, Pt.cells, Pt.slots] at X112 l112 y112 z112 st112 hQ112
  subst l112 y112 z112
  obtain ⟨rfl, N112q, e112⟩ := hQ112
  have N112 := Fr.app N111 N112q
  obtain ⟨_, _, ⟨T113, L113, k113, n113⟩, -, X113, ⟨Lc113, hQ113, l113, y113, z113⟩, st113⟩ := Jvm.LawKit.callS X112 hx (y := (⟨"com/example/octavo/octavo/model/XmlNamesIsXmlCharPinLaw", "ref", "(I)Z"⟩ : MethodName)) hown (mvT hZ (wd_16 hw)) (mvT hZ (wd_17 hw)) (mvT hZ (wd_18 hw)) (mvT hZ (wd_19 hw)) (by decide) (backOf (W := 1) (rm2 l Z a0 hw [] (vE109 + ((p3 &&& (3 : Int32)) - (1 : Int32))) h105 n0 Z106) hZ (wd_19 hw) (wd_18 hw) (by decide) (by decide)) (g := (mkF m 136 #[.val (.int p1), .val (.int p2), .val (.int p3), .val (.ref b57), .val (.int (vE109 + ((p3 &&& (3 : Int32)) - (1 : Int32)))), .val (.int (1 : Int32)), .unset] [(.int (vE109 + ((p3 &&& (3 : Int32)) - (1 : Int32)))), (.int (own_isx (vE109 + ((p3 &&& (3 : Int32)) - (1 : Int32)))))])) rfl (by rw [hml]; rfl) (argsL := [(.int (vE109 + ((p3 &&& (3 : Int32)) - (1 : Int32))))]) (rest := [(.int (own_isx (vE109 + ((p3 &&& (3 : Int32)) - (1 : Int32)))))]) (lenOf pd__I_Z rfl) rfl (by show 2 * 0 + _ ≤ _; exact Nat.le_of_eq rfl) (hb hby at_136) (fun _ _ => ⟨rfl, e112, (by decide : 1 + 0 ≤ _), (by decide : 16 + 0 ≤ _)⟩)
  dsimp only [Pt.U, Pt.locs, Pt.cells, Pt.slots] at X113 l113 y113 z113 st113 hQ113
  subst l113 y113 z113
  obtain ⟨rfl, N113q, e113⟩ := hQ113
  have N113 := Fr.app N112 N113q
  obtain ⟨fs, hr, hrun, hended, hW, hsame⟩ := X113.leave (v := some (.int (1 : Int32))) (fun h => by rw [Bd.returns] at h; cases h)
  refine ⟨_, _, pre0 _ ?_, hrun, hended, _, _, rfl, ?_, ⟨_, rfl⟩, hW, hsame.mono (by decide) (by decide)⟩
  · show Steps p.tables e below (s₁.setTop (mkF m 0 #[.val (.int p1), .val (.int p2), .val (.int p3), .unset, .unset, .unset, .unset] [])) _
    refine XS.bipush X0.here hx rfl (hb hby at_0) ?_
    refine st57 _ ?_
    refine XS.dup X57.here hx rfl (hb hby at_4) rfl rfl ?_
    refine XS.iconst X57.here hx rfl (hb hby at_5) ?_
    show Steps p.tables e below (T57.setTop (mkF m 6 #[.val (.int p1), .val (.int p2), .val (.int p3), .unset, .unset, .unset, .unset] [(.int (0 : Int32)), (.ref b57), (.ref b57)])) _
    refine XS.iconst X57.here hx rfl (hb hby at_6) ?_
    refine st60 _ ?_
    refine XS.dup X60.here hx rfl (hb hby at_8) rfl rfl ?_
    refine XS.iconst X60.here hx rfl (hb hby at_9) ?_
    show Steps p.tables e below (T60.setTop (mkF m 10 #[.val (.int p1), .val (.int p2), .val (.int p3), .unset, .unset, .unset, .unset] [(.int (1 : Int32)), (.ref b57), (.ref b57)])) _
    refine XS.bipush X60.here hx rfl (hb hby at_10) ?_
    refine st63 _ ?_
    refine XS.dup X63.here hx rfl (hb hby at_13) rfl rfl ?_
    refine XS.iconst X63.here hx rfl (hb hby at_14) ?_
    show Steps p.tables e below (T63.setTop (mkF m 15 #[.val (.int p1), .val (.int p2), .val (.int p3), .unset, .unset, .unset, .unset] [(.int (2 : Int32)), (.ref b57), (.ref b57)])) _
    refine XS.bipush X63.here hx rfl (hb hby at_15) ?_
    refine st66 _ ?_
    refine XS.dup X66.here hx rfl (hb hby at_18) rfl rfl ?_
    refine XS.iconst X66.here hx rfl (hb hby at_19) ?_
    show Steps p.tables e below (T66.setTop (mkF m 20 #[.val (.int p1), .val (.int p2), .val (.int p3), .unset, .unset, .unset, .unset] [(.int (3 : Int32)), (.ref b57), (.ref b57)])) _
    refine XS.bipush X66.here hx rfl (hb hby at_20) ?_
    refine st69 _ ?_
    refine XS.dup X69.here hx rfl (hb hby at_23) rfl rfl ?_
    refine XS.iconst X69.here hx rfl (hb hby at_24) ?_
    show Steps p.tables e below (T69.setTop (mkF m 25 #[.val (.int p1), .val (.int p2), .val (.int p3), .unset, .unset, .unset, .unset] [(.int (4 : Int32)), (.ref b57), (.ref b57)])) _
    refine XS.bipush X69.here hx rfl (hb hby at_25) ?_
    refine st72 _ ?_
    refine XS.dup X72.here hx rfl (hb hby at_28) rfl rfl ?_
    refine XS.iconst X72.here hx rfl (hb hby at_29) ?_
    show Steps p.tables e below (T72.setTop (mkF m 30 #[.val (.int p1), .val (.int p2), .val (.int p3), .unset, .unset, .unset, .unset] [(.int (5 : Int32)), (.ref b57), (.ref b57)])) _
    refine X72.ldcInt hx hown (mvT hZ (wd_1 hw)) (g := (mkF m 30 #[.val (.int p1), .val (.int p2), .val (.int p3), .unset, .unset, .unset, .unset] [(.int (5 : Int32)), (.ref b57), (.ref b57)])) rfl (hb hby at_30) _ ?_
    refine st75 _ ?_
    refine XS.dup X75.here hx rfl (hb hby at_33) rfl rfl ?_
    refine XS.bipush X75.here hx rfl (hb hby at_34) ?_
    show Steps p.tables e below (T75.setTop (mkF m 36 #[.val (.int p1), .val (.int p2), .val (.int p3), .unset, .unset, .unset, .unset] [(.int (6 : Int32)), (.ref b57), (.ref b57)])) _
    refine X75.ldcInt hx hown (mvT hZ (wd_2 hw)) (g := (mkF m 36 #[.val (.int p1), .val (.int p2), .val (.int p3), .unset, .unset, .unset, .unset] [(.int (6 : Int32)), (.ref b57), (.ref b57)])) rfl (hb hby at_36) _ ?_
    refine st78 _ ?_
    refine XS.dup X78.here hx rfl (hb hby at_39) rfl rfl ?_
    refine XS.bipush X78.here hx rfl (hb hby at_40) ?_
    show Steps p.tables e below (T78.setTop (mkF m 42 #[.val (.int p1), .val (.int p2), .val (.int p3), .unset, .unset, .unset, .unset] [(.int (7 : Int32)), (.ref b57), (.ref b57)])) _
    refine X78.ldcInt hx hown (mvT hZ (wd_3 hw)) (g := (mkF m 42 #[.val (.int p1), .val (.int p2), .val (.int p3), .unset, .unset, .unset, .unset] [(.int (7 : Int32)), (.ref b57), (.ref b57)])) rfl (hb hby at_42) _ ?_
    refine st81 _ ?_
    refine XS.dup X81.here hx rfl (hb hby at_45) rfl rfl ?_
    refine XS.bipush X81.here hx rfl (hb hby at_46) ?_
    show Steps p.tables e below (T81.setTop (mkF m 48 #[.val (.int p1), .val (.int p2), .val (.int p3), .unset, .unset, .unset, .unset] [(.int (8 : Int32)), (.ref b57), (.ref b57)])) _
    refine X81.ldcInt hx hown (mvT hZ (wd_4 hw)) (g := (mkF m 48 #[.val (.int p1), .val (.int p2), .val (.int p3), .unset, .unset, .unset, .unset] [(.int (8 : Int32)), (.ref b57), (.ref b57)])) rfl (hb hby at_48) _ ?_
    refine st84 _ ?_
    refine XS.dup X84.here hx rfl (hb hby at_51) rfl rfl ?_
    refine XS.bipush X84.here hx rfl (hb hby at_52) ?_
    show Steps p.tables e below (T84.setTop (mkF m 54 #[.val (.int p1), .val (.int p2), .val (.int p3), .unset, .unset, .unset, .unset] [(.int (9 : Int32)), (.ref b57), (.ref b57)])) _
    refine X84.ldcInt hx hown (mvT hZ (wd_5 hw)) (g := (mkF m 54 #[.val (.int p1), .val (.int p2), .val (.int p3), .unset, .unset, .unset, .unset] [(.int (9 : Int32)), (.ref b57), (.ref b57)])) rfl (hb hby at_54) _ ?_
    refine st87 _ ?_
    refine XS.dup X87.here hx rfl (hb hby at_57) rfl rfl ?_
    refine XS.bipush X87.here hx rfl (hb hby at_58) ?_
    show Steps p.tables e below (T87.setTop (mkF m 60 #[.val (.int p1), .val (.int p2), .val (.int p3), .unset, .unset, .unset, .unset] [(.int (10 : Int32)), (.ref b57), (.ref b57)])) _
    refine X87.ldcInt hx hown (mvT hZ (wd_6 hw)) (g := (mkF m 60 #[.val (.int p1), .val (.int p2), .val (.int p3), .unset, .unset, .unset, .unset] [(.int (10 : Int32)), (.ref b57), (.ref b57)])) rfl (hb hby at_60) _ ?_
    refine st90 _ ?_
    refine XS.dup X90.here hx rfl (hb hby at_63) rfl rfl ?_
    refine XS.bipush X90.here hx rfl (hb hby at_64) ?_
    show Steps p.tables e below (T90.setTop (mkF m 66 #[.val (.int p1), .val (.int p2), .val (.int p3), .unset, .unset, .unset, .unset] [(.int (11 : Int32)), (.ref b57), (.ref b57)])) _
    refine X90.ldcInt hx hown (mvT hZ (wd_7 hw)) (g := (mkF m 66 #[.val (.int p1), .val (.int p2), .val (.int p3), .unset, .unset, .unset, .unset] [(.int (11 : Int32)), (.ref b57), (.ref b57)])) rfl (hb hby at_66) _ ?_
    refine st93 _ ?_
    refine XS.dup X93.here hx rfl (hb hby at_69) rfl rfl ?_
    refine XS.bipush X93.here hx rfl (hb hby at_70) ?_
    show Steps p.tables e below (T93.setTop (mkF m 72 #[.val (.int p1), .val (.int p2), .val (.int p3), .unset, .unset, .unset, .unset] [(.int (12 : Int32)), (.ref b57), (.ref b57)])) _
    refine X93.ldcInt hx hown (mvT hZ (wd_8 hw)) (g := (mkF m 72 #[.val (.int p1), .val (.int p2), .val (.int p3), .unset, .unset, .unset, .unset] [(.int (12 : Int32)), (.ref b57), (.ref b57)])) rfl (hb hby at_72) _ ?_
    refine st96 _ ?_
    refine XS.dup X96.here hx rfl (hb hby at_75) rfl rfl ?_
    refine XS.bipush X96.here hx rfl (hb hby at_76) ?_
    show Steps p.tables e below (T96.setTop (mkF m 78 #[.val (.int p1), .val (.int p2), .val (.int p3), .unset, .unset, .unset, .unset] [(.int (13 : Int32)), (.ref b57), (.ref b57)])) _
    refine X96.ldcInt hx hown (mvT hZ (wd_9 hw)) (g := (mkF m 78 #[.val (.int p1), .val (.int p2), .val (.int p3), .unset, .unset, .unset, .unset] [(.int (13 : Int32)), (.ref b57), (.ref b57)])) rfl (hb hby at_78) _ ?_
    refine st99 _ ?_
    refine XS.dup X99.here hx rfl (hb hby at_81) rfl rfl ?_
    refine XS.bipush X99.here hx rfl (hb hby at_82) ?_
    show Steps p.tables e below (T99.setTop (mkF m 84 #[.val (.int p1), .val (.int p2), .val (.int p3), .unset, .unset, .unset, .unset] [(.int (14 : Int32)), (.ref b57), (.ref b57)])) _
    refine X99.ldcInt hx hown (mvT hZ (wd_10 hw)) (g := (mkF m 84 #[.val (.int p1), .val (.int p2), .val (.int p3), .unset, .unset, .unset, .unset] [(.int (14 : Int32)), (.ref b57), (.ref b57)])) rfl (hb hby at_84) _ ?_
    refine st102 _ ?_
    refine XS.dup X102.here hx rfl (hb hby at_87) rfl rfl ?_
    refine XS.bipush X102.here hx rfl (hb hby at_88) ?_
    show Steps p.tables e below (T102.setTop (mkF m 90 #[.val (.int p1), .val (.int p2), .val (.int p3), .unset, .unset, .unset, .unset] [(.int (15 : Int32)), (.ref b57), (.ref b57)])) _
    refine X102.ldcInt hx hown (mvT hZ (wd_11 hw)) (g := (mkF m 90 #[.val (.int p1), .val (.int p2), .val (.int p3), .unset, .unset, .unset, .unset] [(.int (15 : Int32)), (.ref b57), (.ref b57)])) rfl (hb hby at_90) _ ?_
    refine st105 _ ?_
    refine XS.astoreN X105.here hx rfl (hb hby at_93) rfl rfl (l' := #[.val (.int p1), .val (.int p2), .val (.int p3), .val (.ref b57), .unset, .unset, .unset]) rfl ?_
    refine XS.aloadN X105.here hx rfl (hb hby at_94) rfl rfl ?_
    show Steps p.tables e below (T105.setTop (mkF m 95 #[.val (.int p1), .val (.int p2), .val (.int p3), .val (.ref b57), .unset, .unset, .unset] [(.ref b57)])) _
    refine XS.iloadN X105.here hx rfl (hb hby at_95) rfl ?_
    refine X105.ldcInt hx hown (mvT hZ (wd_11 hw)) (g := (mkF m 96 #[.val (.int p1), .val (.int p2), .val (.int p3), .val (.ref b57), .unset, .unset, .unset] [(.int p2), (.ref b57)])) rfl (hb hby at_96) _ ?_
    refine XS.iand X105.here hx rfl (hb hby at_98) rfl ?_
    refine XS.aloadN X105.here hx rfl (hb hby at_99) rfl rfl ?_
    show Steps p.tables e below (T105.setTop (mkF m 100 #[.val (.int p1), .val (.int p2), .val (.int p3), .val (.ref b57), .unset, .unset, .unset] [(.ref b57), (.int (p2 &&& (2147483647 : Int32))), (.ref b57)])) _
    refine X105.arraylength hx (by rw [e105]; exact Ar107.1) (State.isArrayOf_alike hZ.alike Ar107.2.1) (g := (mkF m 100 #[.val (.int p1), .val (.int p2), .val (.int p3), .val (.ref b57), .unset, .unset, .unset] [(.ref b57), (.int (p2 &&& (2147483647 : Int32))), (.ref b57)])) rfl rfl (hb hby at_100) _ ?_
    rw [len_of S107 N107n]
    refine iremM (g := (mkF m 101 #[.val (.int p1), .val (.int p2), .val (.int p3), .val (.ref b57), .unset, .unset, .unset] [(.int (16 : Int32)), (.int (p2 &&& (2147483647 : Int32))), (.ref b57)])) X105 hx rfl (hb hby at_101) rfl (by decide) ?_
    refine X105.iaload hx (j := ((p2 &&& (2147483647 : Int32)) % (16 : Int32))) (v := (.int vE109)) (by rw [e105]; exact Ar108.1) (State.isArrayOf_alike hZ.alike Ar108.2.1) Ar108.2.2 hin108 hat108 (g := (mkF m 102 #[.val (.int p1), .val (.int p2), .val (.int p3), .val (.ref b57), .unset, .unset, .unset] [(.int ((p2 &&& (2147483647 : Int32)) % (16 : Int32))), (.ref b57)])) rfl rfl (hb hby at_102) _ ?_
    refine XS.iloadN X105.here hx rfl (hb hby at_103) rfl ?_
    show Steps p.tables e below (T105.setTop (mkF m 104 #[.val (.int p1), .val (.int p2), .val (.int p3), .val (.ref b57), .unset, .unset, .unset] [(.int p3), (.int vE109)])) _
    refine XS.iconst X105.here hx rfl (hb hby at_104) ?_
    refine XS.iand X105.here hx rfl (hb hby at_105) rfl ?_
    refine XS.iconst X105.here hx rfl (hb hby at_106) ?_
    refine XS.isub X105.here hx rfl (hb hby at_107) rfl ?_
    show Steps p.tables e below (T105.setTop (mkF m 108 #[.val (.int p1), .val (.int p2), .val (.int p3), .val (.ref b57), .unset, .unset, .unset] [(.int ((p3 &&& (3 : Int32)) - (1 : Int32))), (.int vE109)])) _
    refine XS.iadd X105.here hx rfl (hb hby at_108) rfl ?_
    refine XS.istore X105.here hx rfl (hb hby at_109) rfl (l' := #[.val (.int p1), .val (.int p2), .val (.int p3), .val (.ref b57), .val (.int (vE109 + ((p3 &&& (3 : Int32)) - (1 : Int32)))), .unset, .unset]) rfl ?_
    refine XS.iloadN X105.here hx rfl (hb hby at_111) rfl ?_
    refine st110 _ ?_
    show Steps p.tables e below (T110.setTop (mkF m 115 #[.val (.int p1), .val (.int p2), .val (.int p3), .val (.ref b57), .val (.int (vE109 + ((p3 &&& (3 : Int32)) - (1 : Int32)))), .unset, .unset] [(.int (own_isx p1))])) _
    refine XS.iloadN X110.here hx rfl (hb hby at_115) rfl ?_
    refine st111 _ ?_
    refine XS.icmpNo X111.here hx rfl (hb hby at_119) rfl (teq (rfl : (own_isx p1) = (own_isx p1))).2 ?_
    refine XS.iconst X111.here hx rfl (hb hby at_122) ?_
    show Steps p.tables e below (T111.setTop (mkF m 123 #[.val (.int p1), .val (.int p2), .val (.int p3), .val (.ref b57), .val (.int (vE109 + ((p3 &&& (3 : Int32)) - (1 : Int32)))), .unset, .unset] [(.int (1 : Int32))])) _
    refine XS.goto X111.here hx rfl (pc0 := 123) (pc' := 127) rfl (hb hby at_123) (by decide) (by decide) ?_
    refine XS.istore X111.here hx rfl (hb hby at_127) rfl (l' := #[.val (.int p1), .val (.int p2), .val (.int p3), .val (.ref b57), .val (.int (vE109 + ((p3 &&& (3 : Int32)) - (1 : Int32)))), .val (.int (1 : Int32)), .unset]) rfl ?_
    refine XS.iload X111.here hx rfl (hb hby at_129) rfl ?_
    refine st112 _ ?_
    show Steps p.tables e below (T112.setTop (mkF m 134 #[.val (.int p1), .val (.int p2), .val (.int p3), .val (.ref b57), .val (.int (vE109 + ((p3 &&& (3 : Int32)) - (1 : Int32)))), .val (.int (1 : Int32)), .unset] [(.int (own_isx (vE109 + ((p3 &&& (3 : Int32)) - (1 : Int32)))))])) _
    refine XS.iload X112.here hx rfl (hb hby at_134) rfl ?_
    refine st113 _ ?_
    refine XS.icmpNo X113.here hx rfl (hb hby at_139) rfl (teq (rfl : (own_isx (vE109 + ((p3 &&& (3 : Int32)) - (1 : Int32)))) = (own_isx (vE109 + ((p3 &&& (3 : Int32)) - (1 : Int32)))))).2 ?_
    refine XS.iconst X113.here hx rfl (hb hby at_142) ?_
    show Steps p.tables e below (T113.setTop (mkF m 143 #[.val (.int p1), .val (.int p2), .val (.int p3), .val (.ref b57), .val (.int (vE109 + ((p3 &&& (3 : Int32)) - (1 : Int32)))), .val (.int (1 : Int32)), .unset] [(.int (1 : Int32))])) _
    refine XS.goto X113.here hx rfl (pc0 := 143) (pc' := 147) rfl (hb hby at_143) (by decide) (by decide) ?_
    refine XS.istore X113.here hx rfl (hb hby at_147) rfl (l' := #[.val (.int p1), .val (.int p2), .val (.int p3), .val (.ref b57), .val (.int (vE109 + ((p3 &&& (3 : Int32)) - (1 : Int32)))), .val (.int (1 : Int32)), .val (.int (1 : Int32))]) rfl ?_
    refine XS.iload X113.here hx rfl (hb hby at_149) rfl ?_
    refine XS.ifNo X113.here hx rfl (hb hby at_151) rfl ((if0 _ _).trans (feq (by decide)).1) ?_
    show Steps p.tables e below (T113.setTop (mkF m 154 #[.val (.int p1), .val (.int p2), .val (.int p3), .val (.ref b57), .val (.int (vE109 + ((p3 &&& (3 : Int32)) - (1 : Int32)))), .val (.int (1 : Int32)), .val (.int (1 : Int32))] [])) _
    refine XS.iload X113.here hx rfl (hb hby at_154) rfl ?_
    refine XS.ifNo X113.here hx rfl (hb hby at_156) rfl ((if0 _ _).trans (feq (by decide)).1) ?_
    refine XS.iconst X113.here hx rfl (hb hby at_159) ?_
    refine XS.goto X113.here hx rfl (pc0 := 160) (pc' := 164) rfl (hb hby at_160) (by decide) (by decide) ?_
    show Steps p.tables e below (T113.setTop (mkF m 164 #[.val (.int p1), .val (.int p2), .val (.int p3), .val (.ref b57), .val (.int (vE109 + ((p3 &&& (3 : Int32)) - (1 : Int32)))), .val (.int (1 : Int32)), .val (.int (1 : Int32))] [(.int (1 : Int32))])) _
    exact retN X113 hx (t := .boolean) Bd.returns (by simp) (hb hby at_164) hr
  · show Q_rm0 Z p1 p2 p3 h0 n0 _ T113.heap _
    rw [e113]
    exact ⟨rfl, N113, trivial⟩
set_option maxRecDepth 65536 in
set_option maxHeartbeats 40000000 in
theorem comes_1 {Post : Tables → Env → Array Value → State → Outcome → State → Prop} (hpost : ∀ tb e args s v u, (limb_1_1.after args s (.returned v) u = true ∧ limb_1_2.after args s (.returned v) u = true ∧ True) → FrameEnd s (.returned v) u (Jvm.fieldLocs frame_1_writes args s ++ Jvm.arrayLocs frame_1_arrays args s ++ Jvm.staticLocs frame_1_statics s) 16 128 → Post tb e args s (.returned v) u) :
    ArmFor flags0 classFile x code maxLocals ret World_1 tables_1 room_1 Calls_1 rest_1 Pre_1 Post := by
  intro l hfl _ _ p e ha hc hk s m args below hf hA hF happ hP
  obtain ⟨hcalls, hrest, hpre⟩ := hP
  obtain ⟨-, -, -, hnamed, -, -, -, hat⟩ := (Spec.applies_iff hf).mp happ
  obtain ⟨hg, hn⟩ := and_e (Cond.before_iff.mp (show (Jvm.Cond.and given_1 narrow_1).before args s = true from hpre))
  obtain ⟨g114, g115⟩ := and_e hg
  obtain ⟨g116, g117⟩ := and_e g115
  obtain ⟨g118, g119⟩ := and_e g117
  obtain ⟨w0, w1, w2, rfl⟩ : ∃ w0 w1 w2 : Value, args = #[w0, w1, w2] := by
    have hs : args.size = 3 := by simpa [Cond.value, given_1] using g114
    obtain ⟨L⟩ := args
    match L, hs with
    | [w0, w1, w2], _ => exact ⟨w0, w1, w2, rfl⟩
  have hw := fun d (hd : d ∈ tables_1) => atoms_spec (ws := Jvm.Cond.code x code maxLocals ret :: tables_1) hat d (List.mem_cons_of_mem _ hd)
  have hfit : Fit s := fun {y c} hc i hi => by
    obtain ⟨ha, rfl⟩ := Array.getElem?_eq_some_iff.mp hc
    have q := List.all_eq_true.mp ((Array.all_eq_true_iff_forall_mem.mp hF) _ (Array.getElem_mem ha)) i (List.mem_range.mpr hi)
    simpa [Array.getElem?_eq_getElem hi] using q
  obtain ⟨i0, ei0⟩ := is_v g116
  obtain rfl : w0 = (.int i0) := Option.some.inj ei0
  obtain ⟨i1, ei1⟩ := is_v g118
  obtain rfl : w1 = (.int i1) := Option.some.inj ei1
  obtain ⟨i2, ei2⟩ := is_v g119
  obtain rfl : w2 = (.int i2) := Option.some.inj ei2
  obtain ⟨n, o, h1, h2, h3, _, L, rfl, ⟨rfl, N, -⟩, hq⟩ := rm0 l s _ hw tables_1 i0 i1 i2 s.heap s.heap.size (Nat.le_refl _) p e ha hc hk s m _ below hf ((Spec.applies_iff_loose hf).mp happ).1 ⟨rfl, State.Warmed39.refl s, rfl⟩ trivial
  refine ⟨n, _, h1, h2, h3, hpost _ _ _ _ _ _ ⟨Cond.after_iff.mpr rfl, Cond.after_iff.mpr (eq_i res_at (Term.int_eval (1)) rfl), trivial⟩ ⟨hq.1, hq.2.1, (hq.2.2.sift fun y hy => Or.inr (N y hy)).mono (by decide) (by decide)⟩⟩
theorem main_1_1 : Claimed_1_1 := comes_1 fun _ _ _ _ _ _ h hF => ⟨h.1, hF⟩
theorem main_1_2 : Claimed_1_2 := comes_1 fun _ _ _ _ _ _ h hF => ⟨h.2.1, hF⟩
end Jvm.Pilot.@@N@@
namespace Jvm.Pilot.@@N@@
open Jvm Jvm.ClassFile Sem Op Lib Jvm.Free Jvm.Stand Jvm.Pilot.@@N@@.Jvm.D
/-! MADE BY PROGRAM (witnessworld.py) out of the Statement's table words and the real class files: 9 classes; the members and pool entries that the words name. The judged class is class 1, her method 2. -/
namespace start1
open Jvm.ClassFile
def u (s : String) : CpInfo := .utf8 (stringToUtf16 s)
/-- a pool by its gaps: so many unusable entries, then the entry; so many at the end -/
def gap : Nat → List CpInfo → List CpInfo
  | 0, r => r
  | n + 1, r => .unusable :: gap n r
def poolList (es : List (Nat × CpInfo)) (last : Nat) : List CpInfo := es.foldr (fun e r => gap e.1 (e.2 :: r)) (gap last [])
def pool (es : List (Nat × CpInfo)) (last : Nat) : Array CpInfo := ⟨poolList es last⟩
def fileOf (pool : Array CpInfo) (this : Nat) (attrs : Array Attribute := #[]) (ms : Array MethodInfo := #[]) (fl : Nat := 33) (sup : Nat := 0) (ifs : Array Nat := #[]) (fds : Array FieldInfo := #[]) : ClassFile where
  minorVersion := 0
  majorVersion := 65
  constantPool := pool
  accessFlags := fl
  thisClass := this
  superClass := sup
  interfaces := ifs
  fields := fds
  methods := ms
  attributes := attrs
def plain (name : String) (sup : Option ClassId) : Class where
  name := name
  kind := .ordinary
  loader := none
  accessFlags := 33
  super := sup
  interfaces := #[]
  cf := none
  fields := #[]
  methods := #[]
  instanceTypes := #[]
  staticTypes := #[]
  resolved := #[]
  callSites := []
  init := .initialized
  statics := none
  mirror := none

def pool0 : Array CpInfo := pool [(5, u "<init>"), (0, u "()V"), (1, .class_ 10), (1, u "java/lang/Object")] 113

def k0m0 : Method := { name := "<init>", desc := "()V", sig := { parameters := [], returnType := none }, accessFlags := 1, code := none }
/-- java/lang/Object -/
def k0 : Class := { plain "java/lang/Object" none with
  accessFlags := 33
  interfaces := #[]
  cf := some (fileOf pool0 8 #[] #[{ accessFlags := 1, nameIndex := 5, descriptorIndex := 6, attributes := #[] }] 33 0 #[] #[])
  fields := #[]
  methods := #[k0m0]
  instanceTypes := #[]
  staticTypes := #[]
  resolved := Array.replicate 124 none
  statics := none }

def pool1 : Array CpInfo := pool [(2, .class_ 4), (1, u "java/lang/Object"), (0, u "<init>"), (0, u "()V"), (0, .integer 55295), (0, .integer 57344), (0, .integer 65533), (0, .integer 65536), (0, .integer 1114111), (0, .integer 55296), (0, .integer 57343), (0, .integer 65535), (0, .integer 1114112), (2, .integer 2147483648), (0, .integer 2147483647), (0, .methodref 21 22), (0, .class_ 23), (0, .nameAndType 24 25), (0, u "com/example/octavo/octavo/model/XmlNames"), (0, u "isXmlChar"), (0, u "(I)Z"), (0, .methodref 27 28), (0, .class_ 29), (0, .nameAndType 30 25), (0, u "com/example/octavo/octavo/model/XmlNamesIsXmlCharPinLaw"), (0, u "ref"), (3, u "law"), (0, u "(III)Z")] 4

def k1m0 : Method := { name := "<init>", desc := "()V", sig := { parameters := [], returnType := none }, accessFlags := 2, code := none }
def k1c1 : Code := { maxStack := 2, maxLocals := 1, code := method_2_code, exceptionTable := #[], attributes := #[] }
def k1m1 : Method := { name := "ref", desc := "(I)Z", sig := { parameters := [.int], returnType := some .boolean }, accessFlags := 10, code := some k1c1 }
def k1c2 : Code := { maxStack := 4, maxLocals := 7, code := code, exceptionTable := #[], attributes := #[] }
def k1m2 : Method := { name := "law", desc := "(III)Z", sig := { parameters := [.int, .int, .int], returnType := some .boolean }, accessFlags := 9, code := some k1c2 }
/-- com/example/octavo/octavo/model/XmlNamesIsXmlCharPinLaw -/
def k1 : Class := { plain "com/example/octavo/octavo/model/XmlNamesIsXmlCharPinLaw" (some 0) with
  accessFlags := 49
  interfaces := #[]
  cf := some (fileOf pool1 27 #[] #[{ accessFlags := 2, nameIndex := 5, descriptorIndex := 6, attributes := #[] }, { accessFlags := 10, nameIndex := 30, descriptorIndex := 25, attributes := #[] }, { accessFlags := 9, nameIndex := 34, descriptorIndex := 35, attributes := #[] }] 49 2 #[] #[])
  fields := #[]
  methods := #[k1m0, k1m1, k1m2]
  instanceTypes := #[]
  staticTypes := #[]
  resolved := Array.replicate 40 none
  statics := none }

def pool2 : Array CpInfo := pool [(2, .class_ 4), (1, u "java/lang/Object"), (0, u "<init>"), (0, u "()V"), (7, .class_ 16), (1, u "com/example/octavo/octavo/model/XmlNames"), (15, u "(I)Z"), (16, .integer 55296), (0, .integer 57344), (0, .integer 65533), (0, .integer 65536), (0, .integer 1114111), (33, u "isXmlChar")] 4

def k2m0 : Method := { name := "<init>", desc := "()V", sig := { parameters := [], returnType := none }, accessFlags := 2, code := none }
def k2c1 : Code := { maxStack := 2, maxLocals := 2, code := prog_61_method_6_code, exceptionTable := #[], attributes := #[] }
def k2m1 : Method := { name := "isXmlChar", desc := "(I)Z", sig := { parameters := [.int], returnType := some .boolean }, accessFlags := 9, code := some k2c1 }
/-- com/example/octavo/octavo/model/XmlNames -/
def k2 : Class := { plain "com/example/octavo/octavo/model/XmlNames" (some 0) with
  accessFlags := 49
  interfaces := #[]
  cf := some (fileOf pool2 14 #[] #[{ accessFlags := 2, nameIndex := 5, descriptorIndex := 6, attributes := #[] }, { accessFlags := 9, nameIndex := 87, descriptorIndex := 32, attributes := #[] }] 49 2 #[] #[])
  fields := #[]
  methods := #[k2m0, k2m1]
  instanceTypes := #[]
  staticTypes := #[]
  resolved := Array.replicate 92 none
  statics := none }

def pool3 : Array CpInfo := pool [(1, u "java/lang/Cloneable"), (0, .class_ 1), (0, u "java/lang/Object"), (0, .class_ 3)] 3

/-- java/lang/Cloneable -/
def k3 : Class := { plain "java/lang/Cloneable" (some 0) with
  accessFlags := 1537
  interfaces := #[]
  cf := some (fileOf pool3 2 #[] #[] 1537 4 #[] #[])
  fields := #[]
  methods := #[]
  instanceTypes := #[]
  staticTypes := #[]
  resolved := Array.replicate 8 none
  statics := none }

def pool4 : Array CpInfo := pool [(1, u "java/io/Serializable"), (0, .class_ 1), (0, u "java/lang/Object"), (0, .class_ 3)] 3

/-- java/io/Serializable -/
def k4 : Class := { plain "java/io/Serializable" (some 0) with
  accessFlags := 1537
  interfaces := #[]
  cf := some (fileOf pool4 2 #[] #[] 1537 4 #[] #[])
  fields := #[]
  methods := #[]
  instanceTypes := #[]
  staticTypes := #[]
  resolved := Array.replicate 8 none
  statics := none }

/-- the primitive byte -/
def k5 : Class := { plain "byte" none with kind := .primitive 'B', accessFlags := 0x411 }
/-- [B -/
def k6 : Class := { plain "[B" (some 0) with kind := .array 5 .byte, interfaces := #[3, 4], accessFlags := 1041 }

/-- the primitive int -/
def k7 : Class := { plain "int" none with kind := .primitive 'I', accessFlags := 0x411 }
/-- [I -/
def k8 : Class := { plain "[I" (some 0) with kind := .array 7 .int, interfaces := #[3, 4], accessFlags := 1041 }

def heap : Heap := #[]
def classes : Array Class := #[k0, k1, k2, k3, k4, k5, k6, k7, k8]
def interned : List (Array UInt16 × Addr) := []
def slotsUsed : Nat := 0
def theMethod : MethodId := ⟨1, 2⟩
def args0 : Array Value := #[.int 5, .int 5, .int 5]
def aboutOver (below : List Frame) : State where
  vm := { classes := classes, interned := interned.toArray }
  heap := heap
  slotsUsed := slotsUsed
  threads := #[{ frames := .invoking theMethod args0 :: below }]
def below0 : List Frame := [.native { method := ⟨0, 0⟩, args := #[] }]
def about1 : State := aboutOver below0
def p0 : Program := .bare "" "" ""
def e0 : Env := launch0.env 0 0 0
theorem w_frames : about1.frames = Frame.invoking theMethod args0 :: below0 := rfl
set_option maxRecDepth 65536 in
theorem w_args : argsFit about1.vm theMethod args0 = true := by decide +kernel
set_option maxRecDepth 65536 in
theorem w_heap : heapFits about1 = true := by decide +kernel
set_option maxRecDepth 65536 in
theorem w_runnable : about1.curStatus? = some .runnable := by decide +kernel
set_option maxRecDepth 65536 in
theorem w_alone : about1.alone = true := by decide +kernel
set_option maxRecDepth 65536 in
theorem w_named : about1.methodNamed? x = some theMethod := by decide +kernel
set_option maxRecDepth 65536 in
theorem w_hears : about1.hears theMethod below0 = true := by decide +kernel
set_option maxRecDepth 65536 in
theorem w_ripe : about1.ripe theMethod args0 below0 = true := by decide +kernel
theorem w_running : about1.status = .running := rfl
set_option maxRecDepth 65536 in
theorem w_room : about1.hasRoom e0.platform room_1 = true :=
  launch0.hasRoom_least _ room_1 (by decide +kernel) (by decide +kernel) (by decide +kernel) (by decide +kernel) (by decide +kernel) (by decide +kernel)
theorem allAtoms_all (ts : List Jvm.Cond) (a : Array Jvm.Value) (st : Jvm.State) : (allAtoms ts).before a st = ts.all (fun c => c.before a st) := by
  induction ts with
  | nil => rfl
  | cons c t ih =>
    show (Jvm.Cond.and c (allAtoms t)).before a st = _
    rw [Jvm.Cond.before_and, ih, List.all_cons]
def words1 : List Jvm.Cond := Jvm.Cond.code x code maxLocals ret :: tables_1
/-- a 'code' word, met by the world's own term for the bytes: nothing is compared byte by byte -/
theorem code_word {y : MethodName} {bytes : ByteArray} {mx : Nat} {rt : Option FieldType} {a : Array Value} {s : State} {m : MethodId} {meth : Method} {c : Code} (h1 : s.methodNamed? y = some m) (h2 : s.vm.method? m = some meth) (h3 : meth.code = some c) (h4 : c.code = bytes)
    (h5 : (c.maxLocals == mx && c.exceptionTable.isEmpty && decide (c.maxStack ≤ mostOperands) && decide (meth.sig.returnType = rt) && !meth.locks && decide (parseMethodDescriptor y.desc = some meth.sig)) = true) : (Jvm.Cond.code y bytes mx rt).before a s = true := by
  simp only [Bool.and_eq_true, beq_iff_eq, Bool.not_eq_true', decide_eq_true_eq] at h5
  obtain ⟨⟨⟨⟨⟨g1, g2⟩, g3⟩, g4⟩, g5⟩, g6⟩ := h5
  simp [Cond.before, Cond.holds, Cond.value, h1, h2, h3, h4, g1, g2, g3, g4, g5, g6]
def isCode : Jvm.Cond → Bool
  | .code _ _ _ _ => true
  | _ => false
theorem all_split {L : List Jvm.Cond} {P : Jvm.Cond → Bool} (h1 : L.all (fun c => isCode c || P c) = true) (h2 : ∀ c ∈ L.filter isCode, P c = true) : L.all P = true := by
  refine List.all_eq_true.mpr fun c hc => ?_
  have h := List.all_eq_true.mp h1 c hc
  rcases Bool.eq_false_or_eq_true (isCode c) with hi | hi
  · exact h2 c (List.mem_filter.mpr ⟨hc, hi⟩)
  · simpa [hi] using h
set_option maxRecDepth 65536 in
theorem w_c0 : (Jvm.Cond.code x code maxLocals ret).before args0 about1 = true := code_word (m := ⟨1, 2⟩) (meth := k1m2) (c := k1c2) (by decide +kernel) rfl rfl rfl (by decide +kernel)
set_option maxRecDepth 65536 in
theorem w_c1 : (Jvm.Cond.code ({ cls := "com/example/octavo/octavo/model/XmlNames", name := "isXmlChar", desc := "(I)Z" } : Jvm.MethodName) prog_61_method_6_code (2 : Nat) (Option.some Jvm.ClassFile.FieldType.boolean)).before args0 about1 = true := code_word (m := ⟨2, 1⟩) (meth := k2m1) (c := k2c1) (by decide +kernel) rfl rfl rfl (by decide +kernel)
set_option maxRecDepth 65536 in
theorem w_c2 : (Jvm.Cond.code ({ cls := "com/example/octavo/octavo/model/XmlNamesIsXmlCharPinLaw", name := "ref", desc := "(I)Z" } : Jvm.MethodName) method_2_code (1 : Nat) (Option.some Jvm.ClassFile.FieldType.boolean)).before args0 about1 = true := code_word (m := ⟨1, 1⟩) (meth := k1m1) (c := k1c1) (by decide +kernel) rfl rfl rfl (by decide +kernel)
def codes1 : List Jvm.Cond := [Jvm.Cond.code x code maxLocals ret, Jvm.Cond.code ({ cls := "com/example/octavo/octavo/model/XmlNames", name := "isXmlChar", desc := "(I)Z" } : Jvm.MethodName) prog_61_method_6_code (2 : Nat) (Option.some Jvm.ClassFile.FieldType.boolean), Jvm.Cond.code ({ cls := "com/example/octavo/octavo/model/XmlNamesIsXmlCharPinLaw", name := "ref", desc := "(I)Z" } : Jvm.MethodName) method_2_code (1 : Nat) (Option.some Jvm.ClassFile.FieldType.boolean)]
set_option maxRecDepth 65536 in
theorem codes_eq : words1.filter isCode = codes1 := rfl
theorem w_codes : ∀ c ∈ words1.filter isCode, c.before args0 about1 = true := by
  rw [codes_eq]
  intro c hc
  simp only [codes1, List.mem_cons, List.not_mem_nil, or_false] at hc
  rcases hc with rfl | rfl | rfl
  · exact w_c0
  · exact w_c1
  · exact w_c2
set_option maxRecDepth 65536 in
theorem w_t1 : (words1.take 24).all (fun c => isCode c || c.before args0 about1) = true := by decide +kernel
set_option maxRecDepth 65536 in
theorem w_t2 : (words1.drop 24).all (fun c => isCode c || c.before args0 about1) = true := by decide +kernel
theorem w_tables : (allAtoms (Jvm.Cond.code x code maxLocals ret :: tables_1)).before args0 about1 = true := by
  rw [allAtoms_all]
  show words1.all (fun c => c.before args0 about1) = true
  refine all_split ?_ w_codes
  rw [← List.take_append_drop 24 words1, List.all_append, w_t1, w_t2]
  rfl
set_option maxRecDepth 65536 in
theorem w_case : (Jvm.Cond.and given_1 narrow_1).before args0 about1 = true := by decide +kernel
theorem w_applies : (headSpec (Jvm.Cond.code x code maxLocals ret :: tables_1) room_1).applies x e0.platform about1 = true :=
  (Spec.applies_iff w_frames).mpr ⟨w_running, w_runnable, w_alone, w_named, w_hears, w_ripe, w_room, w_tables⟩
theorem atStart : AtStart classFile x code maxLocals ret World_1 tables_1 room_1 Calls_1 rest_1 Pre_1 launch0 p0 e0 about1 theMethod args0 below0 :=
  ⟨lists_1, trivial, launch0.admits_env _ _ _, launch0.least_env, fairChoices_fair.cas, fairChoices_fair.clock, w_frames, w_args, w_heap, w_applies, trivial, trivial, w_case⟩
end start1
theorem witness_1 : WitnessClaimed_1 := ⟨start1.p0, start1.e0, start1.about1, start1.theMethod, start1.args0, start1.below0, start1.atStart⟩
end Jvm.Pilot.@@N@@
