import JvmDerived
import JvmDerived.Pilot.@@N@@Statement
import JvmDerived.Pilot.@@N@@Code
set_option linter.unusedVariables false
set_option linter.unusedSimpArgs false
namespace Jvm.RoadKit
open Sem ClassFile Op Lib Jvm.Stand Jvm.Free Jvm.LawKit
section New
variable {p : Program} {l : Launch} {e : Env} {R : Room} {s : State} {m : MethodId} {args : Array Value} {below : List Frame} {meth : Method} {c : Code} {T : State} {locs : List Loc} {cells slots : Nat}
theorem retI (X : Stand p l e R s m args below meth c T locs cells slots) (hx : p.tables.exec = Jvm.exec) {pc : Nat} {Ls : Array Slot} {z : Int32} {rest : List Value} (hret : meth.sig.returnType = some .int) (hd : decode c.code pc = .ok (.ireturn, 1)) {fs : List Frame}
    (hl : ∀ (f : JFrame) (acts : List Action), f.method = m → f.locked = none → f.entered = [] → (doReturn e (T.setTop f) acts (some (.int z))).1 = T.setFrames fs) : Steps p.tables e below (T.setTop (mkF m pc Ls (.int z :: rest))) (T.setFrames fs) := by
  have hm' : T.vm.method? m = some meth := X.method'
  have hn : narrow .int (.int z) = .int z := rfl
  show Steps p.tables e below (T.setTop { method := m, pc := pc, locals := Ls, stack := _ :: rest, locked := none }) _
  jvm_step X.here [X.here.top, hx, hd, hm', hret, hn]
  first | (intro acts; rw [hl _ acts rfl rfl rfl]) | rw [hl _ _ rfl rfl rfl]
  exact Steps.refl _
end New
end Jvm.RoadKit
namespace Jvm.Pilot.@@N@@
open Jvm Jvm.ClassFile Sem Op Lib Jvm.Free Jvm.Stand Jvm.LawKit Jvm.RoadKit Bundle Jvm.Pilot.@@N@@.Jvm.D
theorem own_lt {x y : Int32} {a b : Int} (h : x < y) (hx : x.toInt = a) (hy : y.toInt = b) : a < b := by rw [← hx, ← hy]; exact Int32.lt_iff_toInt_lt.mp h
theorem own_nlt {x y : Int32} {a b : Int} (h : ¬ x < y) (hx : x.toInt = a) (hy : y.toInt = b) : b ≤ a := by rw [← hx, ← hy]; exact Int.not_lt.mp fun q => h (Int32.lt_iff_toInt_lt.mpr q)
theorem own_eq {x y : Int32} {a b : Int} (h : x = y) (hx : x.toInt = a) (hy : y.toInt = b) : a = b := by rw [← hx, ← hy, h]
theorem own_ne {x y : Int32} {a b : Int} (h : ¬ x = y) (hx : x.toInt = a) (hy : y.toInt = b) : a ≠ b := by rw [← hx, ← hy]; exact fun q => h (Int32.toInt_inj.mp q)
def own_P (c : Int) : Prop := (1 ≤ c ∧ c ≤ 31 ∧ c ≠ 9 ∧ c ≠ 10 ∧ c ≠ 13) ∨ (127 ≤ c ∧ c ≤ 159 ∧ c ≠ 133)
instance (c : Int) : Decidable (own_P c) := by unfold own_P; infer_instance
def own_rc (c : Int32) : Int32 := if own_P c.toInt then 1 else 0
theorem own_rc1 {c : Int32} (h : own_P c.toInt) : some (Value.int (1 : Int32)) = some (Value.int (own_rc c)) := by unfold own_rc; rw [if_pos h]
theorem own_rc0 {c : Int32} (h : ¬ own_P c.toInt) : some (Value.int (0 : Int32)) = some (Value.int (own_rc c)) := by unfold own_rc; rw [if_neg h]
theorem own_rcn {c : Int32} (h : ¬ own_rc c = 0) : own_rc c = 1 := by
  by_cases q : own_P c.toInt
  · unfold own_rc; rw [if_pos q]
  · exact absurd (by unfold own_rc; rw [if_neg q]) h
theorem own_fv {s : State} {args : Array Value} {t : Term} {x : Addr} {C n d : String} {k : Int32} (ht : t.eval args s none [] s = some (.ref x)) (h : (Cond.eq (.field t C n d) (.int k)).value args s none s [] = some true) : Fld s s.heap x C n d (.int k) := by
  have e := Cond.eq_int (Cond.before_iff.mpr h) rfl
  rw [fld_at ht] at e
  exact Fld.start e
theorem d1_0 : decode prog_31_method_7_code 0 = .ok (.iconst 0, 1) := by decide +kernel
theorem d1_1 : decode prog_31_method_7_code 1 = .ok (.istore_n 2, 1) := by decide +kernel
theorem d1_2 : decode prog_31_method_7_code 2 = .ok (.aload_n 0, 1) := by decide +kernel
theorem d1_3 : decode prog_31_method_7_code 3 = .ok (.getstatic 7, 3) := by decide +kernel
theorem wd_8 {a0 : Array Value} {Z : State} (hw : ∀ d ∈ tables_1, d.before a0 Z = true) : (Jvm.Cond.fieldLink "com/example/octavo/octavo/XmlVersion" (7 : Nat) "com/example/octavo/octavo/XmlVersion" "XML_1_1" "Lcom/example/octavo/octavo/XmlVersion;").before a0 Z = true := hw _ (List.mem_of_getElem? (i := 8) rfl)
theorem d1_6 : decode prog_31_method_7_code 6 = .ok (.if_acmp .ne 58, 3) := by decide +kernel
theorem d1_9 : decode prog_31_method_7_code 9 = .ok (.iload_n 1, 1) := by decide +kernel
theorem d1_10 : decode prog_31_method_7_code 10 = .ok (.iconst 1, 1) := by decide +kernel
theorem d1_11 : decode prog_31_method_7_code 11 = .ok (.if_icmp .lt 27, 3) := by decide +kernel
theorem d1_38 : decode prog_31_method_7_code 38 = .ok (.iload_n 1, 1) := by decide +kernel
theorem d1_39 : decode prog_31_method_7_code 39 = .ok (.bipush 127, 2) := by decide +kernel
theorem d1_41 : decode prog_31_method_7_code 41 = .ok (.if_icmp .lt 21, 3) := by decide +kernel
theorem d1_62 : decode prog_31_method_7_code 62 = .ok (.iconst 0, 1) := by decide +kernel
theorem d1_63 : decode prog_31_method_7_code 63 = .ok (.istore_n 2, 1) := by decide +kernel
theorem d1_64 : decode prog_31_method_7_code 64 = .ok (.iload_n 2, 1) := by decide +kernel
theorem d1_65 : decode prog_31_method_7_code 65 = .ok (.ireturn, 1) := by decide +kernel
theorem d1_44 : decode prog_31_method_7_code 44 = .ok (.iload_n 1, 1) := by decide +kernel
theorem d1_45 : decode prog_31_method_7_code 45 = .ok (.sipush 159, 3) := by decide +kernel
theorem d1_48 : decode prog_31_method_7_code 48 = .ok (.if_icmp .gt 14, 3) := by decide +kernel
theorem d1_51 : decode prog_31_method_7_code 51 = .ok (.iload_n 1, 1) := by decide +kernel
theorem d1_52 : decode prog_31_method_7_code 52 = .ok (.sipush 133, 3) := by decide +kernel
theorem d1_55 : decode prog_31_method_7_code 55 = .ok (.if_icmp .eq 7, 3) := by decide +kernel
theorem d1_58 : decode prog_31_method_7_code 58 = .ok (.iconst 1, 1) := by decide +kernel
theorem d1_59 : decode prog_31_method_7_code 59 = .ok (.goto 4, 3) := by decide +kernel
theorem d1_14 : decode prog_31_method_7_code 14 = .ok (.iload_n 1, 1) := by decide +kernel
theorem d1_15 : decode prog_31_method_7_code 15 = .ok (.bipush 31, 2) := by decide +kernel
theorem d1_17 : decode prog_31_method_7_code 17 = .ok (.if_icmp .gt 21, 3) := by decide +kernel
theorem d1_20 : decode prog_31_method_7_code 20 = .ok (.iload_n 1, 1) := by decide +kernel
theorem d1_21 : decode prog_31_method_7_code 21 = .ok (.bipush 9, 2) := by decide +kernel
theorem d1_23 : decode prog_31_method_7_code 23 = .ok (.if_icmp .eq 15, 3) := by decide +kernel
theorem d1_26 : decode prog_31_method_7_code 26 = .ok (.iload_n 1, 1) := by decide +kernel
theorem d1_27 : decode prog_31_method_7_code 27 = .ok (.bipush 10, 2) := by decide +kernel
theorem d1_29 : decode prog_31_method_7_code 29 = .ok (.if_icmp .eq 9, 3) := by decide +kernel
theorem d1_32 : decode prog_31_method_7_code 32 = .ok (.iload_n 1, 1) := by decide +kernel
theorem d1_33 : decode prog_31_method_7_code 33 = .ok (.bipush 13, 2) := by decide +kernel
theorem d1_35 : decode prog_31_method_7_code 35 = .ok (.if_icmp .ne 23, 3) := by decide +kernel
theorem ef_1 (m : MethodId) (x0 : Addr) (x1 : Int32) : entryFrame m #[(.ref x0), (.int x1)] 3 = mkF m 0 #[.val (.ref x0), .val (.int x1), .unset] [] := by first | (simp [entryFrame, mkF, argsToLocals, Value.category]; done) | rfl
theorem pn_com_example_octavo_octavo_XmlVersion : plainName "com/example/octavo/octavo/XmlVersion" = true := by first | (simp [plainName, overriddenIn]; done) | decide +kernel
def Q_rmr1 (Z : State) (a1 : Addr) (p2 : Int32) (h0 : Heap) (n0 : Nat) (v : Option Value) (h : Heap) (L : List Loc) : Prop := v = some (.int (own_rc p2)) ∧ Fr n0 L ∧ h = h0
set_option maxRecDepth 65536 in
set_option maxHeartbeats 40000000 in
theorem rmr1 (l : Launch) (Z : State) (a0 : Array Value) (hw : ∀ d ∈ tables_1, d.before a0 Z = true) (ws : List Jvm.Cond) (a1 : Addr) (p2 : Int32) (h0 : Heap) (n0 : Nat) (Z0 : n0 ≤ h0.size) (S_XML_1_1 : Sta Z h0 "com/example/octavo/octavo/XmlVersion" "XML_1_1" "Lcom/example/octavo/octavo/XmlVersion;" (.ref a1)) :
    MetFree l (⟨"com/example/octavo/octavo/XmlVersion", "restricts", "(I)Z"⟩ : MethodName) (head1 (Jvm.Cond.code (⟨"com/example/octavo/octavo/XmlVersion", "restricts", "(I)Z"⟩ : MethodName) prog_31_method_7_code 3 (some .boolean) :: ws) ({ frames := 0, cells := 0, slots := 0, locals := 0 } : Room)) (fun a U => a = #[(.ref a1), (.int p2)] ∧ Z.Warmed39 U.vm ∧ U.heap = h0) (fun _ _ _ _ _ => True) (fun _ U o U' => ∃ v L, o = .returned v ∧ Q_rmr1 Z a1 p2 h0 n0 v U'.heap L ∧ FrameEnd U o U' L ({ frames := 0, cells := 0, slots := 0, locals := 0 } : Room).cells ({ frames := 0, cells := 0, slots := 0, locals := 0 } : Room).slots) := by
  refine MetFree.of_bodySF (plainFor_of_name pn_com_example_octavo_octavo_XmlVersion) hisR ?_
  intro p e s m args below meth c s₁ Bd hml0 hP hK
  obtain ⟨rfl, hZ, hh⟩ := hP
  have hx := Bd.exec
  have hby := Bd.bytes
  have hml : c.maxLocals = 3 := hml0
  have hown : s.vm.findClass "com/example/octavo/octavo/XmlVersion" = some m.cls := findClass_of_methodNamed Bd.named
  have hnm := (name_of_methodNamed Bd.named Bd.method).1
  have X0 : Stand p l e ({ frames := 0, cells := 0, slots := 0, locals := 0 } : Room) s m #[(.ref a1), (.int p2)] below meth c s₁ [] 0 0 := Stand.of_body Bd
  have e0 : s₁.heap = h0 := by rw [← hh, Bd.state]; rfl
  have N0 := Fr.nil n0
  have pre0 : ∀ t, Steps p.tables e below (s₁.setTop (mkF m 0 #[.val (.ref a1), .val (.int p2), .unset] [])) t → Steps p.tables e below (s₁.setTop (entryFrame m #[(.ref a1), (.int p2)] 3)) t := fun t k => castTop (ef_1 m a1 p2) k
  obtain ⟨T1, X1, e1, st1⟩ := getS2 X0 hx hZ hown (host := "") (Or.inl (wd_8 hw)) Via.refl e0 S_XML_1_1 (g := (mkF m 3 #[.val (.ref a1), .val (.int p2), .val (.int (0 : Int32))] [(.ref a1)])) rfl (hb hby d1_3)
  have pre3 : ∀ t, Steps p.tables e below (T1.setTop (mkF m 11 #[.val (.ref a1), .val (.int p2), .val (.int (0 : Int32))] [(.int (1 : Int32)), (.int p2)])) t → Steps p.tables e below (s₁.setTop (entryFrame m #[(.ref a1), (.int p2)] 3)) t := by
    intro t kt
    refine pre0 _ ?_
    show Steps p.tables e below (s₁.setTop (mkF m 0 #[.val (.ref a1), .val (.int p2), .unset] [])) _
    refine XS.iconst X0.here hx rfl (hb hby d1_0) ?_
    refine XS.istoreN X0.here hx rfl (hb hby d1_1) rfl (l' := #[.val (.ref a1), .val (.int p2), .val (.int (0 : Int32))]) rfl ?_
    refine XS.aloadN X0.here hx rfl (hb hby d1_2) rfl rfl ?_
    refine st1 _ ?_
    show Steps p.tables e below (T1.setTop (mkF m 6 #[.val (.ref a1), .val (.int p2), .val (.int (0 : Int32))] [(.ref a1), (.ref a1)])) _
    refine Jvm.RoadKit.acmp (g := (mkF m 6 #[.val (.ref a1), .val (.int p2), .val (.int (0 : Int32))] [(.ref a1), (.ref a1)])) X1 hx rfl rfl rfl (pc0 := 6) (pc' := 9) (same := true) rfl (hb hby d1_6) rfl (decide_eq_true rfl) (by decide) (by decide) ?_
    refine XS.iloadN X1.here hx rfl (hb hby d1_9) rfl ?_
    refine XS.iconst X1.here hx rfl (hb hby d1_10) ?_
    exact kt
  by_cases hc11_2 : p2 < (1 : Int32)
  · have pre5 : ∀ t, Steps p.tables e below (T1.setTop (mkF m 41 #[.val (.ref a1), .val (.int p2), .val (.int (0 : Int32))] [(.int (127 : Int32)), (.int p2)])) t → Steps p.tables e below (s₁.setTop (entryFrame m #[(.ref a1), (.int p2)] 3)) t := by
      intro t kt
      refine pre3 _ ?_
      show Steps p.tables e below (T1.setTop (mkF m 11 #[.val (.ref a1), .val (.int p2), .val (.int (0 : Int32))] [(.int (1 : Int32)), (.int p2)])) _
      refine XS.icmpYes X1.here hx rfl (pc0 := 11) (pc' := 38) rfl (hb hby d1_11) rfl (tlt hc11_2).1 (by decide) (by decide) ?_
      show Steps p.tables e below (T1.setTop (mkF m 38 #[.val (.ref a1), .val (.int p2), .val (.int (0 : Int32))] [])) _
      refine XS.iloadN X1.here hx rfl (hb hby d1_38) rfl ?_
      refine XS.bipush X1.here hx rfl (hb hby d1_39) ?_
      exact kt
    by_cases hc41_4 : p2 < (127 : Int32)
    · obtain ⟨fs, hr, hrun, hended, hW, hsame⟩ := X1.leave (v := some (.int (0 : Int32))) (fun h => by rw [Bd.returns] at h; cases h)
      refine ⟨_, _, pre5 _ ?_, hrun, hended, _, _, rfl, ?_, ⟨_, rfl⟩, hW, hsame.mono (by decide) (by decide)⟩
      · show Steps p.tables e below (T1.setTop (mkF m 41 #[.val (.ref a1), .val (.int p2), .val (.int (0 : Int32))] [(.int (127 : Int32)), (.int p2)])) _
        refine XS.icmpYes X1.here hx rfl (pc0 := 41) (pc' := 62) rfl (hb hby d1_41) rfl (tlt hc41_4).1 (by decide) (by decide) ?_
        refine XS.iconst X1.here hx rfl (hb hby d1_62) ?_
        show Steps p.tables e below (T1.setTop (mkF m 63 #[.val (.ref a1), .val (.int p2), .val (.int (0 : Int32))] [(.int (0 : Int32))])) _
        refine XS.istoreN X1.here hx rfl (hb hby d1_63) rfl (l' := #[.val (.ref a1), .val (.int p2), .val (.int (0 : Int32))]) rfl ?_
        refine XS.iloadN X1.here hx rfl (hb hby d1_64) rfl ?_
        exact retN X1 hx (t := .boolean) Bd.returns (by simp) (hb hby d1_65) hr
      · show Q_rmr1 Z a1 p2 h0 n0 _ T1.heap _
        rw [e1]
        exact ⟨(own_rc0 (by (unfold own_P; have := own_lt (a := (p2).toInt) (b := 1) hc11_2 rfl rfl; have := own_lt (a := (p2).toInt) (b := 127) hc41_4 rfl rfl; omega))), N0, rfl⟩
    · have pre7 : ∀ t, Steps p.tables e below (T1.setTop (mkF m 48 #[.val (.ref a1), .val (.int p2), .val (.int (0 : Int32))] [(.int (159 : Int32)), (.int p2)])) t → Steps p.tables e below (s₁.setTop (entryFrame m #[(.ref a1), (.int p2)] 3)) t := by
        intro t kt
        refine pre5 _ ?_
        show Steps p.tables e below (T1.setTop (mkF m 41 #[.val (.ref a1), .val (.int p2), .val (.int (0 : Int32))] [(.int (127 : Int32)), (.int p2)])) _
        refine XS.icmpNo X1.here hx rfl (hb hby d1_41) rfl (flt hc41_4).1 ?_
        refine XS.iloadN X1.here hx rfl (hb hby d1_44) rfl ?_
        show Steps p.tables e below (T1.setTop (mkF m 45 #[.val (.ref a1), .val (.int p2), .val (.int (0 : Int32))] [(.int p2)])) _
        refine XS.sipush X1.here hx rfl (hb hby d1_45) ?_
        exact kt
      by_cases hc48_6 : (159 : Int32) < p2
      · obtain ⟨fs, hr, hrun, hended, hW, hsame⟩ := X1.leave (v := some (.int (0 : Int32))) (fun h => by rw [Bd.returns] at h; cases h)
        refine ⟨_, _, pre7 _ ?_, hrun, hended, _, _, rfl, ?_, ⟨_, rfl⟩, hW, hsame.mono (by decide) (by decide)⟩
        · show Steps p.tables e below (T1.setTop (mkF m 48 #[.val (.ref a1), .val (.int p2), .val (.int (0 : Int32))] [(.int (159 : Int32)), (.int p2)])) _
          refine XS.icmpYes X1.here hx rfl (pc0 := 48) (pc' := 62) rfl (hb hby d1_48) rfl (tlt hc48_6).2.2.1 (by decide) (by decide) ?_
          refine XS.iconst X1.here hx rfl (hb hby d1_62) ?_
          refine XS.istoreN X1.here hx rfl (hb hby d1_63) rfl (l' := #[.val (.ref a1), .val (.int p2), .val (.int (0 : Int32))]) rfl ?_
          show Steps p.tables e below (T1.setTop (mkF m 64 #[.val (.ref a1), .val (.int p2), .val (.int (0 : Int32))] [])) _
          refine XS.iloadN X1.here hx rfl (hb hby d1_64) rfl ?_
          exact retN X1 hx (t := .boolean) Bd.returns (by simp) (hb hby d1_65) hr
        · show Q_rmr1 Z a1 p2 h0 n0 _ T1.heap _
          rw [e1]
          exact ⟨(own_rc0 (by (unfold own_P; have := own_lt (a := (p2).toInt) (b := 1) hc11_2 rfl rfl; have := own_nlt (a := (p2).toInt) (b := 127) hc41_4 rfl rfl; have := own_lt (a := 159) (b := (p2).toInt) hc48_6 rfl rfl; omega))), N0, rfl⟩
      · have pre9 : ∀ t, Steps p.tables e below (T1.setTop (mkF m 55 #[.val (.ref a1), .val (.int p2), .val (.int (0 : Int32))] [(.int (133 : Int32)), (.int p2)])) t → Steps p.tables e below (s₁.setTop (entryFrame m #[(.ref a1), (.int p2)] 3)) t := by
          intro t kt
          refine pre7 _ ?_
          show Steps p.tables e below (T1.setTop (mkF m 48 #[.val (.ref a1), .val (.int p2), .val (.int (0 : Int32))] [(.int (159 : Int32)), (.int p2)])) _
          refine XS.icmpNo X1.here hx rfl (hb hby d1_48) rfl (flt hc48_6).2.2.1 ?_
          refine XS.iloadN X1.here hx rfl (hb hby d1_51) rfl ?_
          refine XS.sipush X1.here hx rfl (hb hby d1_52) ?_
          show Steps p.tables e below (T1.setTop (mkF m 55 #[.val (.ref a1), .val (.int p2), .val (.int (0 : Int32))] [(.int (133 : Int32)), (.int p2)])) _
          exact kt
        by_cases hc55_8 : p2 = (133 : Int32)
        · obtain ⟨fs, hr, hrun, hended, hW, hsame⟩ := X1.leave (v := some (.int (0 : Int32))) (fun h => by rw [Bd.returns] at h; cases h)
          refine ⟨_, _, pre9 _ ?_, hrun, hended, _, _, rfl, ?_, ⟨_, rfl⟩, hW, hsame.mono (by decide) (by decide)⟩
          · show Steps p.tables e below (T1.setTop (mkF m 55 #[.val (.ref a1), .val (.int p2), .val (.int (0 : Int32))] [(.int (133 : Int32)), (.int p2)])) _
            refine XS.icmpYes X1.here hx rfl (pc0 := 55) (pc' := 62) rfl (hb hby d1_55) rfl (teq hc55_8).1 (by decide) (by decide) ?_
            refine XS.iconst X1.here hx rfl (hb hby d1_62) ?_
            refine XS.istoreN X1.here hx rfl (hb hby d1_63) rfl (l' := #[.val (.ref a1), .val (.int p2), .val (.int (0 : Int32))]) rfl ?_
            refine XS.iloadN X1.here hx rfl (hb hby d1_64) rfl ?_
            show Steps p.tables e below (T1.setTop (mkF m 65 #[.val (.ref a1), .val (.int p2), .val (.int (0 : Int32))] [(.int (0 : Int32))])) _
            exact retN X1 hx (t := .boolean) Bd.returns (by simp) (hb hby d1_65) hr
          · show Q_rmr1 Z a1 p2 h0 n0 _ T1.heap _
            rw [e1]
            exact ⟨(own_rc0 (by (unfold own_P; have := own_lt (a := (p2).toInt) (b := 1) hc11_2 rfl rfl; have := own_nlt (a := (p2).toInt) (b := 127) hc41_4 rfl rfl; have := own_nlt (a := 159) (b := (p2).toInt) hc48_6 rfl rfl; have := own_eq (a := (p2).toInt) (b := 133) hc55_8 rfl rfl; omega))), N0, rfl⟩
        · obtain ⟨fs, hr, hrun, hended, hW, hsame⟩ := X1.leave (v := some (.int (1 : Int32))) (fun h => by rw [Bd.returns] at h; cases h)
          refine ⟨_, _, pre9 _ ?_, hrun, hended, _, _, rfl, ?_, ⟨_, rfl⟩, hW, hsame.mono (by decide) (by decide)⟩
          · show Steps p.tables e below (T1.setTop (mkF m 55 #[.val (.ref a1), .val (.int p2), .val (.int (0 : Int32))] [(.int (133 : Int32)), (.int p2)])) _
            refine XS.icmpNo X1.here hx rfl (hb hby d1_55) rfl (feq hc55_8).1 ?_
            refine XS.iconst X1.here hx rfl (hb hby d1_58) ?_
            refine XS.goto X1.here hx rfl (pc0 := 59) (pc' := 63) rfl (hb hby d1_59) (by decide) (by decide) ?_
            refine XS.istoreN X1.here hx rfl (hb hby d1_63) rfl (l' := #[.val (.ref a1), .val (.int p2), .val (.int (1 : Int32))]) rfl ?_
            show Steps p.tables e below (T1.setTop (mkF m 64 #[.val (.ref a1), .val (.int p2), .val (.int (1 : Int32))] [])) _
            refine XS.iloadN X1.here hx rfl (hb hby d1_64) rfl ?_
            exact retN X1 hx (t := .boolean) Bd.returns (by simp) (hb hby d1_65) hr
          · show Q_rmr1 Z a1 p2 h0 n0 _ T1.heap _
            rw [e1]
            exact ⟨(own_rc1 (by (unfold own_P; have := own_lt (a := (p2).toInt) (b := 1) hc11_2 rfl rfl; have := own_nlt (a := (p2).toInt) (b := 127) hc41_4 rfl rfl; have := own_nlt (a := 159) (b := (p2).toInt) hc48_6 rfl rfl; have := own_ne (a := (p2).toInt) (b := 133) hc55_8 rfl rfl; omega))), N0, rfl⟩
  · have pre11 : ∀ t, Steps p.tables e below (T1.setTop (mkF m 17 #[.val (.ref a1), .val (.int p2), .val (.int (0 : Int32))] [(.int (31 : Int32)), (.int p2)])) t → Steps p.tables e below (s₁.setTop (entryFrame m #[(.ref a1), (.int p2)] 3)) t := by
      intro t kt
      refine pre3 _ ?_
      show Steps p.tables e below (T1.setTop (mkF m 11 #[.val (.ref a1), .val (.int p2), .val (.int (0 : Int32))] [(.int (1 : Int32)), (.int p2)])) _
      refine XS.icmpNo X1.here hx rfl (hb hby d1_11) rfl (flt hc11_2).1 ?_
      show Steps p.tables e below (T1.setTop (mkF m 14 #[.val (.ref a1), .val (.int p2), .val (.int (0 : Int32))] [])) _
      refine XS.iloadN X1.here hx rfl (hb hby d1_14) rfl ?_
      refine XS.bipush X1.here hx rfl (hb hby d1_15) ?_
      exact kt
    by_cases hc17_10 : (31 : Int32) < p2
    · have pre13 : ∀ t, Steps p.tables e below (T1.setTop (mkF m 41 #[.val (.ref a1), .val (.int p2), .val (.int (0 : Int32))] [(.int (127 : Int32)), (.int p2)])) t → Steps p.tables e below (s₁.setTop (entryFrame m #[(.ref a1), (.int p2)] 3)) t := by
        intro t kt
        refine pre11 _ ?_
        show Steps p.tables e below (T1.setTop (mkF m 17 #[.val (.ref a1), .val (.int p2), .val (.int (0 : Int32))] [(.int (31 : Int32)), (.int p2)])) _
        refine XS.icmpYes X1.here hx rfl (pc0 := 17) (pc' := 38) rfl (hb hby d1_17) rfl (tlt hc17_10).2.2.1 (by decide) (by decide) ?_
        refine XS.iloadN X1.here hx rfl (hb hby d1_38) rfl ?_
        show Steps p.tables e below (T1.setTop (mkF m 39 #[.val (.ref a1), .val (.int p2), .val (.int (0 : Int32))] [(.int p2)])) _
        refine XS.bipush X1.here hx rfl (hb hby d1_39) ?_
        exact kt
      by_cases hc41_12 : p2 < (127 : Int32)
      · obtain ⟨fs, hr, hrun, hended, hW, hsame⟩ := X1.leave (v := some (.int (0 : Int32))) (fun h => by rw [Bd.returns] at h; cases h)
        refine ⟨_, _, pre13 _ ?_, hrun, hended, _, _, rfl, ?_, ⟨_, rfl⟩, hW, hsame.mono (by decide) (by decide)⟩
        · show Steps p.tables e below (T1.setTop (mkF m 41 #[.val (.ref a1), .val (.int p2), .val (.int (0 : Int32))] [(.int (127 : Int32)), (.int p2)])) _
          refine XS.icmpYes X1.here hx rfl (pc0 := 41) (pc' := 62) rfl (hb hby d1_41) rfl (tlt hc41_12).1 (by decide) (by decide) ?_
          refine XS.iconst X1.here hx rfl (hb hby d1_62) ?_
          refine XS.istoreN X1.here hx rfl (hb hby d1_63) rfl (l' := #[.val (.ref a1), .val (.int p2), .val (.int (0 : Int32))]) rfl ?_
          show Steps p.tables e below (T1.setTop (mkF m 64 #[.val (.ref a1), .val (.int p2), .val (.int (0 : Int32))] [])) _
          refine XS.iloadN X1.here hx rfl (hb hby d1_64) rfl ?_
          exact retN X1 hx (t := .boolean) Bd.returns (by simp) (hb hby d1_65) hr
        · show Q_rmr1 Z a1 p2 h0 n0 _ T1.heap _
          rw [e1]
          exact ⟨(own_rc0 (by (unfold own_P; have := own_nlt (a := (p2).toInt) (b := 1) hc11_2 rfl rfl; have := own_lt (a := 31) (b := (p2).toInt) hc17_10 rfl rfl; have := own_lt (a := (p2).toInt) (b := 127) hc41_12 rfl rfl; omega))), N0, rfl⟩
      · have pre15 : ∀ t, Steps p.tables e below (T1.setTop (mkF m 48 #[.val (.ref a1), .val (.int p2), .val (.int (0 : Int32))] [(.int (159 : Int32)), (.int p2)])) t → Steps p.tables e below (s₁.setTop (entryFrame m #[(.ref a1), (.int p2)] 3)) t := by
          intro t kt
          refine pre13 _ ?_
          show Steps p.tables e below (T1.setTop (mkF m 41 #[.val (.ref a1), .val (.int p2), .val (.int (0 : Int32))] [(.int (127 : Int32)), (.int p2)])) _
          refine XS.icmpNo X1.here hx rfl (hb hby d1_41) rfl (flt hc41_12).1 ?_
          refine XS.iloadN X1.here hx rfl (hb hby d1_44) rfl ?_
          refine XS.sipush X1.here hx rfl (hb hby d1_45) ?_
          show Steps p.tables e below (T1.setTop (mkF m 48 #[.val (.ref a1), .val (.int p2), .val (.int (0 : Int32))] [(.int (159 : Int32)), (.int p2)])) _
          exact kt
        by_cases hc48_14 : (159 : Int32) < p2
        · obtain ⟨fs, hr, hrun, hended, hW, hsame⟩ := X1.leave (v := some (.int (0 : Int32))) (fun h => by rw [Bd.returns] at h; cases h)
          refine ⟨_, _, pre15 _ ?_, hrun, hended, _, _, rfl, ?_, ⟨_, rfl⟩, hW, hsame.mono (by decide) (by decide)⟩
          · show Steps p.tables e below (T1.setTop (mkF m 48 #[.val (.ref a1), .val (.int p2), .val (.int (0 : Int32))] [(.int (159 : Int32)), (.int p2)])) _
            refine XS.icmpYes X1.here hx rfl (pc0 := 48) (pc' := 62) rfl (hb hby d1_48) rfl (tlt hc48_14).2.2.1 (by decide) (by decide) ?_
            refine XS.iconst X1.here hx rfl (hb hby d1_62) ?_
            refine XS.istoreN X1.here hx rfl (hb hby d1_63) rfl (l' := #[.val (.ref a1), .val (.int p2), .val (.int (0 : Int32))]) rfl ?_
            refine XS.iloadN X1.here hx rfl (hb hby d1_64) rfl ?_
            show Steps p.tables e below (T1.setTop (mkF m 65 #[.val (.ref a1), .val (.int p2), .val (.int (0 : Int32))] [(.int (0 : Int32))])) _
            exact retN X1 hx (t := .boolean) Bd.returns (by simp) (hb hby d1_65) hr
          · show Q_rmr1 Z a1 p2 h0 n0 _ T1.heap _
            rw [e1]
            exact ⟨(own_rc0 (by (unfold own_P; have := own_nlt (a := (p2).toInt) (b := 1) hc11_2 rfl rfl; have := own_lt (a := 31) (b := (p2).toInt) hc17_10 rfl rfl; have := own_nlt (a := (p2).toInt) (b := 127) hc41_12 rfl rfl; have := own_lt (a := 159) (b := (p2).toInt) hc48_14 rfl rfl; omega))), N0, rfl⟩
        · have pre17 : ∀ t, Steps p.tables e below (T1.setTop (mkF m 55 #[.val (.ref a1), .val (.int p2), .val (.int (0 : Int32))] [(.int (133 : Int32)), (.int p2)])) t → Steps p.tables e below (s₁.setTop (entryFrame m #[(.ref a1), (.int p2)] 3)) t := by
            intro t kt
            refine pre15 _ ?_
            show Steps p.tables e below (T1.setTop (mkF m 48 #[.val (.ref a1), .val (.int p2), .val (.int (0 : Int32))] [(.int (159 : Int32)), (.int p2)])) _
            refine XS.icmpNo X1.here hx rfl (hb hby d1_48) rfl (flt hc48_14).2.2.1 ?_
            refine XS.iloadN X1.here hx rfl (hb hby d1_51) rfl ?_
            refine XS.sipush X1.here hx rfl (hb hby d1_52) ?_
            exact kt
          by_cases hc55_16 : p2 = (133 : Int32)
          · obtain ⟨fs, hr, hrun, hended, hW, hsame⟩ := X1.leave (v := some (.int (0 : Int32))) (fun h => by rw [Bd.returns] at h; cases h)
            refine ⟨_, _, pre17 _ ?_, hrun, hended, _, _, rfl, ?_, ⟨_, rfl⟩, hW, hsame.mono (by decide) (by decide)⟩
            · show Steps p.tables e below (T1.setTop (mkF m 55 #[.val (.ref a1), .val (.int p2), .val (.int (0 : Int32))] [(.int (133 : Int32)), (.int p2)])) _
              refine XS.icmpYes X1.here hx rfl (pc0 := 55) (pc' := 62) rfl (hb hby d1_55) rfl (teq hc55_16).1 (by decide) (by decide) ?_
              show Steps p.tables e below (T1.setTop (mkF m 62 #[.val (.ref a1), .val (.int p2), .val (.int (0 : Int32))] [])) _
              refine XS.iconst X1.here hx rfl (hb hby d1_62) ?_
              refine XS.istoreN X1.here hx rfl (hb hby d1_63) rfl (l' := #[.val (.ref a1), .val (.int p2), .val (.int (0 : Int32))]) rfl ?_
              refine XS.iloadN X1.here hx rfl (hb hby d1_64) rfl ?_
              exact retN X1 hx (t := .boolean) Bd.returns (by simp) (hb hby d1_65) hr
            · show Q_rmr1 Z a1 p2 h0 n0 _ T1.heap _
              rw [e1]
              exact ⟨(own_rc0 (by (unfold own_P; have := own_nlt (a := (p2).toInt) (b := 1) hc11_2 rfl rfl; have := own_lt (a := 31) (b := (p2).toInt) hc17_10 rfl rfl; have := own_nlt (a := (p2).toInt) (b := 127) hc41_12 rfl rfl; have := own_nlt (a := 159) (b := (p2).toInt) hc48_14 rfl rfl; have := own_eq (a := (p2).toInt) (b := 133) hc55_16 rfl rfl; omega))), N0, rfl⟩
          · obtain ⟨fs, hr, hrun, hended, hW, hsame⟩ := X1.leave (v := some (.int (1 : Int32))) (fun h => by rw [Bd.returns] at h; cases h)
            refine ⟨_, _, pre17 _ ?_, hrun, hended, _, _, rfl, ?_, ⟨_, rfl⟩, hW, hsame.mono (by decide) (by decide)⟩
            · show Steps p.tables e below (T1.setTop (mkF m 55 #[.val (.ref a1), .val (.int p2), .val (.int (0 : Int32))] [(.int (133 : Int32)), (.int p2)])) _
              refine XS.icmpNo X1.here hx rfl (hb hby d1_55) rfl (feq hc55_16).1 ?_
              show Steps p.tables e below (T1.setTop (mkF m 58 #[.val (.ref a1), .val (.int p2), .val (.int (0 : Int32))] [])) _
              refine XS.iconst X1.here hx rfl (hb hby d1_58) ?_
              refine XS.goto X1.here hx rfl (pc0 := 59) (pc' := 63) rfl (hb hby d1_59) (by decide) (by decide) ?_
              refine XS.istoreN X1.here hx rfl (hb hby d1_63) rfl (l' := #[.val (.ref a1), .val (.int p2), .val (.int (1 : Int32))]) rfl ?_
              refine XS.iloadN X1.here hx rfl (hb hby d1_64) rfl ?_
              show Steps p.tables e below (T1.setTop (mkF m 65 #[.val (.ref a1), .val (.int p2), .val (.int (1 : Int32))] [(.int (1 : Int32))])) _
              exact retN X1 hx (t := .boolean) Bd.returns (by simp) (hb hby d1_65) hr
            · show Q_rmr1 Z a1 p2 h0 n0 _ T1.heap _
              rw [e1]
              exact ⟨(own_rc1 (by (unfold own_P; have := own_nlt (a := (p2).toInt) (b := 1) hc11_2 rfl rfl; have := own_lt (a := 31) (b := (p2).toInt) hc17_10 rfl rfl; have := own_nlt (a := (p2).toInt) (b := 127) hc41_12 rfl rfl; have := own_nlt (a := 159) (b := (p2).toInt) hc48_14 rfl rfl; have := own_ne (a := (p2).toInt) (b := 133) hc55_16 rfl rfl; omega))), N0, rfl⟩
    · have pre19 : ∀ t, Steps p.tables e below (T1.setTop (mkF m 23 #[.val (.ref a1), .val (.int p2), .val (.int (0 : Int32))] [(.int (9 : Int32)), (.int p2)])) t → Steps p.tables e below (s₁.setTop (entryFrame m #[(.ref a1), (.int p2)] 3)) t := by
        intro t kt
        refine pre11 _ ?_
        show Steps p.tables e below (T1.setTop (mkF m 17 #[.val (.ref a1), .val (.int p2), .val (.int (0 : Int32))] [(.int (31 : Int32)), (.int p2)])) _
        refine XS.icmpNo X1.here hx rfl (hb hby d1_17) rfl (flt hc17_10).2.2.1 ?_
        refine XS.iloadN X1.here hx rfl (hb hby d1_20) rfl ?_
        show Steps p.tables e below (T1.setTop (mkF m 21 #[.val (.ref a1), .val (.int p2), .val (.int (0 : Int32))] [(.int p2)])) _
        refine XS.bipush X1.here hx rfl (hb hby d1_21) ?_
        exact kt
      by_cases hc23_18 : p2 = (9 : Int32)
      · have pre21 : ∀ t, Steps p.tables e below (T1.setTop (mkF m 41 #[.val (.ref a1), .val (.int p2), .val (.int (0 : Int32))] [(.int (127 : Int32)), (.int p2)])) t → Steps p.tables e below (s₁.setTop (entryFrame m #[(.ref a1), (.int p2)] 3)) t := by
          intro t kt
          refine pre19 _ ?_
          show Steps p.tables e below (T1.setTop (mkF m 23 #[.val (.ref a1), .val (.int p2), .val (.int (0 : Int32))] [(.int (9 : Int32)), (.int p2)])) _
          refine XS.icmpYes X1.here hx rfl (pc0 := 23) (pc' := 38) rfl (hb hby d1_23) rfl (teq hc23_18).1 (by decide) (by decide) ?_
          refine XS.iloadN X1.here hx rfl (hb hby d1_38) rfl ?_
          refine XS.bipush X1.here hx rfl (hb hby d1_39) ?_
          show Steps p.tables e below (T1.setTop (mkF m 41 #[.val (.ref a1), .val (.int p2), .val (.int (0 : Int32))] [(.int (127 : Int32)), (.int p2)])) _
          exact kt
        by_cases hc41_20 : p2 < (127 : Int32)
        · obtain ⟨fs, hr, hrun, hended, hW, hsame⟩ := X1.leave (v := some (.int (0 : Int32))) (fun h => by rw [Bd.returns] at h; cases h)
          refine ⟨_, _, pre21 _ ?_, hrun, hended, _, _, rfl, ?_, ⟨_, rfl⟩, hW, hsame.mono (by decide) (by decide)⟩
          · show Steps p.tables e below (T1.setTop (mkF m 41 #[.val (.ref a1), .val (.int p2), .val (.int (0 : Int32))] [(.int (127 : Int32)), (.int p2)])) _
            refine XS.icmpYes X1.here hx rfl (pc0 := 41) (pc' := 62) rfl (hb hby d1_41) rfl (tlt hc41_20).1 (by decide) (by decide) ?_
            refine XS.iconst X1.here hx rfl (hb hby d1_62) ?_
            refine XS.istoreN X1.here hx rfl (hb hby d1_63) rfl (l' := #[.val (.ref a1), .val (.int p2), .val (.int (0 : Int32))]) rfl ?_
            refine XS.iloadN X1.here hx rfl (hb hby d1_64) rfl ?_
            show Steps p.tables e below (T1.setTop (mkF m 65 #[.val (.ref a1), .val (.int p2), .val (.int (0 : Int32))] [(.int (0 : Int32))])) _
            exact retN X1 hx (t := .boolean) Bd.returns (by simp) (hb hby d1_65) hr
          · show Q_rmr1 Z a1 p2 h0 n0 _ T1.heap _
            rw [e1]
            exact ⟨(own_rc0 (by (unfold own_P; have := own_nlt (a := (p2).toInt) (b := 1) hc11_2 rfl rfl; have := own_nlt (a := 31) (b := (p2).toInt) hc17_10 rfl rfl; have := own_eq (a := (p2).toInt) (b := 9) hc23_18 rfl rfl; have := own_lt (a := (p2).toInt) (b := 127) hc41_20 rfl rfl; omega))), N0, rfl⟩
        · have pre23 : ∀ t, Steps p.tables e below (T1.setTop (mkF m 48 #[.val (.ref a1), .val (.int p2), .val (.int (0 : Int32))] [(.int (159 : Int32)), (.int p2)])) t → Steps p.tables e below (s₁.setTop (entryFrame m #[(.ref a1), (.int p2)] 3)) t := by
            intro t kt
            refine pre21 _ ?_
            show Steps p.tables e below (T1.setTop (mkF m 41 #[.val (.ref a1), .val (.int p2), .val (.int (0 : Int32))] [(.int (127 : Int32)), (.int p2)])) _
            refine XS.icmpNo X1.here hx rfl (hb hby d1_41) rfl (flt hc41_20).1 ?_
            refine XS.iloadN X1.here hx rfl (hb hby d1_44) rfl ?_
            refine XS.sipush X1.here hx rfl (hb hby d1_45) ?_
            exact kt
          by_cases hc48_22 : (159 : Int32) < p2
          · obtain ⟨fs, hr, hrun, hended, hW, hsame⟩ := X1.leave (v := some (.int (0 : Int32))) (fun h => by rw [Bd.returns] at h; cases h)
            refine ⟨_, _, pre23 _ ?_, hrun, hended, _, _, rfl, ?_, ⟨_, rfl⟩, hW, hsame.mono (by decide) (by decide)⟩
            · show Steps p.tables e below (T1.setTop (mkF m 48 #[.val (.ref a1), .val (.int p2), .val (.int (0 : Int32))] [(.int (159 : Int32)), (.int p2)])) _
              refine XS.icmpYes X1.here hx rfl (pc0 := 48) (pc' := 62) rfl (hb hby d1_48) rfl (tlt hc48_22).2.2.1 (by decide) (by decide) ?_
              show Steps p.tables e below (T1.setTop (mkF m 62 #[.val (.ref a1), .val (.int p2), .val (.int (0 : Int32))] [])) _
              refine XS.iconst X1.here hx rfl (hb hby d1_62) ?_
              refine XS.istoreN X1.here hx rfl (hb hby d1_63) rfl (l' := #[.val (.ref a1), .val (.int p2), .val (.int (0 : Int32))]) rfl ?_
              refine XS.iloadN X1.here hx rfl (hb hby d1_64) rfl ?_
              exact retN X1 hx (t := .boolean) Bd.returns (by simp) (hb hby d1_65) hr
            · show Q_rmr1 Z a1 p2 h0 n0 _ T1.heap _
              rw [e1]
              exact ⟨(own_rc0 (by (unfold own_P; have := own_nlt (a := (p2).toInt) (b := 1) hc11_2 rfl rfl; have := own_nlt (a := 31) (b := (p2).toInt) hc17_10 rfl rfl; have := own_eq (a := (p2).toInt) (b := 9) hc23_18 rfl rfl; have := own_nlt (a := (p2).toInt) (b := 127) hc41_20 rfl rfl; have := own_lt (a := 159) (b := (p2).toInt) hc48_22 rfl rfl; omega))), N0, rfl⟩
          · have pre25 : ∀ t, Steps p.tables e below (T1.setTop (mkF m 55 #[.val (.ref a1), .val (.int p2), .val (.int (0 : Int32))] [(.int (133 : Int32)), (.int p2)])) t → Steps p.tables e below (s₁.setTop (entryFrame m #[(.ref a1), (.int p2)] 3)) t := by
              intro t kt
              refine pre23 _ ?_
              show Steps p.tables e below (T1.setTop (mkF m 48 #[.val (.ref a1), .val (.int p2), .val (.int (0 : Int32))] [(.int (159 : Int32)), (.int p2)])) _
              refine XS.icmpNo X1.here hx rfl (hb hby d1_48) rfl (flt hc48_22).2.2.1 ?_
              show Steps p.tables e below (T1.setTop (mkF m 51 #[.val (.ref a1), .val (.int p2), .val (.int (0 : Int32))] [])) _
              refine XS.iloadN X1.here hx rfl (hb hby d1_51) rfl ?_
              refine XS.sipush X1.here hx rfl (hb hby d1_52) ?_
              exact kt
            by_cases hc55_24 : p2 = (133 : Int32)
            · obtain ⟨fs, hr, hrun, hended, hW, hsame⟩ := X1.leave (v := some (.int (0 : Int32))) (fun h => by rw [Bd.returns] at h; cases h)
              refine ⟨_, _, pre25 _ ?_, hrun, hended, _, _, rfl, ?_, ⟨_, rfl⟩, hW, hsame.mono (by decide) (by decide)⟩
              · show Steps p.tables e below (T1.setTop (mkF m 55 #[.val (.ref a1), .val (.int p2), .val (.int (0 : Int32))] [(.int (133 : Int32)), (.int p2)])) _
                refine XS.icmpYes X1.here hx rfl (pc0 := 55) (pc' := 62) rfl (hb hby d1_55) rfl (teq hc55_24).1 (by decide) (by decide) ?_
                refine XS.iconst X1.here hx rfl (hb hby d1_62) ?_
                show Steps p.tables e below (T1.setTop (mkF m 63 #[.val (.ref a1), .val (.int p2), .val (.int (0 : Int32))] [(.int (0 : Int32))])) _
                refine XS.istoreN X1.here hx rfl (hb hby d1_63) rfl (l' := #[.val (.ref a1), .val (.int p2), .val (.int (0 : Int32))]) rfl ?_
                refine XS.iloadN X1.here hx rfl (hb hby d1_64) rfl ?_
                exact retN X1 hx (t := .boolean) Bd.returns (by simp) (hb hby d1_65) hr
              · show Q_rmr1 Z a1 p2 h0 n0 _ T1.heap _
                rw [e1]
                exact ⟨(own_rc0 (by (unfold own_P; have := own_nlt (a := (p2).toInt) (b := 1) hc11_2 rfl rfl; have := own_nlt (a := 31) (b := (p2).toInt) hc17_10 rfl rfl; have := own_eq (a := (p2).toInt) (b := 9) hc23_18 rfl rfl; have := own_nlt (a := (p2).toInt) (b := 127) hc41_20 rfl rfl; have := own_nlt (a := 159) (b := (p2).toInt) hc48_22 rfl rfl; have := own_eq (a := (p2).toInt) (b := 133) hc55_24 rfl rfl; omega))), N0, rfl⟩
            · obtain ⟨fs, hr, hrun, hended, hW, hsame⟩ := X1.leave (v := some (.int (1 : Int32))) (fun h => by rw [Bd.returns] at h; cases h)
              refine ⟨_, _, pre25 _ ?_, hrun, hended, _, _, rfl, ?_, ⟨_, rfl⟩, hW, hsame.mono (by decide) (by decide)⟩
              · show Steps p.tables e below (T1.setTop (mkF m 55 #[.val (.ref a1), .val (.int p2), .val (.int (0 : Int32))] [(.int (133 : Int32)), (.int p2)])) _
                refine XS.icmpNo X1.here hx rfl (hb hby d1_55) rfl (feq hc55_24).1 ?_
                refine XS.iconst X1.here hx rfl (hb hby d1_58) ?_
                show Steps p.tables e below (T1.setTop (mkF m 59 #[.val (.ref a1), .val (.int p2), .val (.int (0 : Int32))] [(.int (1 : Int32))])) _
                refine XS.goto X1.here hx rfl (pc0 := 59) (pc' := 63) rfl (hb hby d1_59) (by decide) (by decide) ?_
                refine XS.istoreN X1.here hx rfl (hb hby d1_63) rfl (l' := #[.val (.ref a1), .val (.int p2), .val (.int (1 : Int32))]) rfl ?_
                refine XS.iloadN X1.here hx rfl (hb hby d1_64) rfl ?_
                exact retN X1 hx (t := .boolean) Bd.returns (by simp) (hb hby d1_65) hr
              · show Q_rmr1 Z a1 p2 h0 n0 _ T1.heap _
                rw [e1]
                exact ⟨(own_rc1 (by (unfold own_P; have := own_nlt (a := (p2).toInt) (b := 1) hc11_2 rfl rfl; have := own_nlt (a := 31) (b := (p2).toInt) hc17_10 rfl rfl; have := own_eq (a := (p2).toInt) (b := 9) hc23_18 rfl rfl; have := own_nlt (a := (p2).toInt) (b := 127) hc41_20 rfl rfl; have := own_nlt (a := 159) (b := (p2).toInt) hc48_22 rfl rfl; have := own_ne (a := (p2).toInt) (b := 133) hc55_24 rfl rfl; omega))), N0, rfl⟩
      · have pre27 : ∀ t, Steps p.tables e below (T1.setTop (mkF m 29 #[.val (.ref a1), .val (.int p2), .val (.int (0 : Int32))] [(.int (10 : Int32)), (.int p2)])) t → Steps p.tables e below (s₁.setTop (entryFrame m #[(.ref a1), (.int p2)] 3)) t := by
          intro t kt
          refine pre19 _ ?_
          show Steps p.tables e below (T1.setTop (mkF m 23 #[.val (.ref a1), .val (.int p2), .val (.int (0 : Int32))] [(.int (9 : Int32)), (.int p2)])) _
          refine XS.icmpNo X1.here hx rfl (hb hby d1_23) rfl (feq hc23_18).1 ?_
          refine XS.iloadN X1.here hx rfl (hb hby d1_26) rfl ?_
          refine XS.bipush X1.here hx rfl (hb hby d1_27) ?_
          show Steps p.tables e below (T1.setTop (mkF m 29 #[.val (.ref a1), .val (.int p2), .val (.int (0 : Int32))] [(.int (10 : Int32)), (.int p2)])) _
          exact kt
        by_cases hc29_26 : p2 = (10 : Int32)
        · have pre29 : ∀ t, Steps p.tables e below (T1.setTop (mkF m 41 #[.val (.ref a1), .val (.int p2), .val (.int (0 : Int32))] [(.int (127 : Int32)), (.int p2)])) t → Steps p.tables e below (s₁.setTop (entryFrame m #[(.ref a1), (.int p2)] 3)) t := by
            intro t kt
            refine pre27 _ ?_
            show Steps p.tables e below (T1.setTop (mkF m 29 #[.val (.ref a1), .val (.int p2), .val (.int (0 : Int32))] [(.int (10 : Int32)), (.int p2)])) _
            refine XS.icmpYes X1.here hx rfl (pc0 := 29) (pc' := 38) rfl (hb hby d1_29) rfl (teq hc29_26).1 (by decide) (by decide) ?_
            refine XS.iloadN X1.here hx rfl (hb hby d1_38) rfl ?_
            refine XS.bipush X1.here hx rfl (hb hby d1_39) ?_
            exact kt
          by_cases hc41_28 : p2 < (127 : Int32)
          · obtain ⟨fs, hr, hrun, hended, hW, hsame⟩ := X1.leave (v := some (.int (0 : Int32))) (fun h => by rw [Bd.returns] at h; cases h)
            refine ⟨_, _, pre29 _ ?_, hrun, hended, _, _, rfl, ?_, ⟨_, rfl⟩, hW, hsame.mono (by decide) (by decide)⟩
            · show Steps p.tables e below (T1.setTop (mkF m 41 #[.val (.ref a1), .val (.int p2), .val (.int (0 : Int32))] [(.int (127 : Int32)), (.int p2)])) _
              refine XS.icmpYes X1.here hx rfl (pc0 := 41) (pc' := 62) rfl (hb hby d1_41) rfl (tlt hc41_28).1 (by decide) (by decide) ?_
              show Steps p.tables e below (T1.setTop (mkF m 62 #[.val (.ref a1), .val (.int p2), .val (.int (0 : Int32))] [])) _
              refine XS.iconst X1.here hx rfl (hb hby d1_62) ?_
              refine XS.istoreN X1.here hx rfl (hb hby d1_63) rfl (l' := #[.val (.ref a1), .val (.int p2), .val (.int (0 : Int32))]) rfl ?_
              refine XS.iloadN X1.here hx rfl (hb hby d1_64) rfl ?_
              exact retN X1 hx (t := .boolean) Bd.returns (by simp) (hb hby d1_65) hr
            · show Q_rmr1 Z a1 p2 h0 n0 _ T1.heap _
              rw [e1]
              exact ⟨(own_rc0 (by (unfold own_P; have := own_nlt (a := (p2).toInt) (b := 1) hc11_2 rfl rfl; have := own_nlt (a := 31) (b := (p2).toInt) hc17_10 rfl rfl; have := own_ne (a := (p2).toInt) (b := 9) hc23_18 rfl rfl; have := own_eq (a := (p2).toInt) (b := 10) hc29_26 rfl rfl; have := own_lt (a := (p2).toInt) (b := 127) hc41_28 rfl rfl; omega))), N0, rfl⟩
          · have pre31 : ∀ t, Steps p.tables e below (T1.setTop (mkF m 48 #[.val (.ref a1), .val (.int p2), .val (.int (0 : Int32))] [(.int (159 : Int32)), (.int p2)])) t → Steps p.tables e below (s₁.setTop (entryFrame m #[(.ref a1), (.int p2)] 3)) t := by
              intro t kt
              refine pre29 _ ?_
              show Steps p.tables e below (T1.setTop (mkF m 41 #[.val (.ref a1), .val (.int p2), .val (.int (0 : Int32))] [(.int (127 : Int32)), (.int p2)])) _
              refine XS.icmpNo X1.here hx rfl (hb hby d1_41) rfl (flt hc41_28).1 ?_
              show Steps p.tables e below (T1.setTop (mkF m 44 #[.val (.ref a1), .val (.int p2), .val (.int (0 : Int32))] [])) _
              refine XS.iloadN X1.here hx rfl (hb hby d1_44) rfl ?_
              refine XS.sipush X1.here hx rfl (hb hby d1_45) ?_
              exact kt
            by_cases hc48_30 : (159 : Int32) < p2
            · obtain ⟨fs, hr, hrun, hended, hW, hsame⟩ := X1.leave (v := some (.int (0 : Int32))) (fun h => by rw [Bd.returns] at h; cases h)
              refine ⟨_, _, pre31 _ ?_, hrun, hended, _, _, rfl, ?_, ⟨_, rfl⟩, hW, hsame.mono (by decide) (by decide)⟩
              · show Steps p.tables e below (T1.setTop (mkF m 48 #[.val (.ref a1), .val (.int p2), .val (.int (0 : Int32))] [(.int (159 : Int32)), (.int p2)])) _
                refine XS.icmpYes X1.here hx rfl (pc0 := 48) (pc' := 62) rfl (hb hby d1_48) rfl (tlt hc48_30).2.2.1 (by decide) (by decide) ?_
                refine XS.iconst X1.here hx rfl (hb hby d1_62) ?_
                show Steps p.tables e below (T1.setTop (mkF m 63 #[.val (.ref a1), .val (.int p2), .val (.int (0 : Int32))] [(.int (0 : Int32))])) _
                refine XS.istoreN X1.here hx rfl (hb hby d1_63) rfl (l' := #[.val (.ref a1), .val (.int p2), .val (.int (0 : Int32))]) rfl ?_
                refine XS.iloadN X1.here hx rfl (hb hby d1_64) rfl ?_
                exact retN X1 hx (t := .boolean) Bd.returns (by simp) (hb hby d1_65) hr
              · show Q_rmr1 Z a1 p2 h0 n0 _ T1.heap _
                rw [e1]
                exact ⟨(own_rc0 (by (unfold own_P; have := own_nlt (a := (p2).toInt) (b := 1) hc11_2 rfl rfl; have := own_nlt (a := 31) (b := (p2).toInt) hc17_10 rfl rfl; have := own_ne (a := (p2).toInt) (b := 9) hc23_18 rfl rfl; have := own_eq (a := (p2).toInt) (b := 10) hc29_26 rfl rfl; have := own_nlt (a := (p2).toInt) (b := 127) hc41_28 rfl rfl; have := own_lt (a := 159) (b := (p2).toInt) hc48_30 rfl rfl; omega))), N0, rfl⟩
            · have pre33 : ∀ t, Steps p.tables e below (T1.setTop (mkF m 55 #[.val (.ref a1), .val (.int p2), .val (.int (0 : Int32))] [(.int (133 : Int32)), (.int p2)])) t → Steps p.tables e below (s₁.setTop (entryFrame m #[(.ref a1), (.int p2)] 3)) t := by
                intro t kt
                refine pre31 _ ?_
                show Steps p.tables e below (T1.setTop (mkF m 48 #[.val (.ref a1), .val (.int p2), .val (.int (0 : Int32))] [(.int (159 : Int32)), (.int p2)])) _
                refine XS.icmpNo X1.here hx rfl (hb hby d1_48) rfl (flt hc48_30).2.2.1 ?_
                refine XS.iloadN X1.here hx rfl (hb hby d1_51) rfl ?_
                show Steps p.tables e below (T1.setTop (mkF m 52 #[.val (.ref a1), .val (.int p2), .val (.int (0 : Int32))] [(.int p2)])) _
                refine XS.sipush X1.here hx rfl (hb hby d1_52) ?_
                exact kt
              by_cases hc55_32 : p2 = (133 : Int32)
              · obtain ⟨fs, hr, hrun, hended, hW, hsame⟩ := X1.leave (v := some (.int (0 : Int32))) (fun h => by rw [Bd.returns] at h; cases h)
                refine ⟨_, _, pre33 _ ?_, hrun, hended, _, _, rfl, ?_, ⟨_, rfl⟩, hW, hsame.mono (by decide) (by decide)⟩
                · show Steps p.tables e below (T1.setTop (mkF m 55 #[.val (.ref a1), .val (.int p2), .val (.int (0 : Int32))] [(.int (133 : Int32)), (.int p2)])) _
                  refine XS.icmpYes X1.here hx rfl (pc0 := 55) (pc' := 62) rfl (hb hby d1_55) rfl (teq hc55_32).1 (by decide) (by decide) ?_
                  refine XS.iconst X1.here hx rfl (hb hby d1_62) ?_
                  refine XS.istoreN X1.here hx rfl (hb hby d1_63) rfl (l' := #[.val (.ref a1), .val (.int p2), .val (.int (0 : Int32))]) rfl ?_
                  show Steps p.tables e below (T1.setTop (mkF m 64 #[.val (.ref a1), .val (.int p2), .val (.int (0 : Int32))] [])) _
                  refine XS.iloadN X1.here hx rfl (hb hby d1_64) rfl ?_
                  exact retN X1 hx (t := .boolean) Bd.returns (by simp) (hb hby d1_65) hr
                · show Q_rmr1 Z a1 p2 h0 n0 _ T1.heap _
                  rw [e1]
                  exact ⟨(own_rc0 (by (unfold own_P; have := own_nlt (a := (p2).toInt) (b := 1) hc11_2 rfl rfl; have := own_nlt (a := 31) (b := (p2).toInt) hc17_10 rfl rfl; have := own_ne (a := (p2).toInt) (b := 9) hc23_18 rfl rfl; have := own_eq (a := (p2).toInt) (b := 10) hc29_26 rfl rfl; have := own_nlt (a := (p2).toInt) (b := 127) hc41_28 rfl rfl; have := own_nlt (a := 159) (b := (p2).toInt) hc48_30 rfl rfl; have := own_eq (a := (p2).toInt) (b := 133) hc55_32 rfl rfl; omega))), N0, rfl⟩
              · obtain ⟨fs, hr, hrun, hended, hW, hsame⟩ := X1.leave (v := some (.int (1 : Int32))) (fun h => by rw [Bd.returns] at h; cases h)
                refine ⟨_, _, pre33 _ ?_, hrun, hended, _, _, rfl, ?_, ⟨_, rfl⟩, hW, hsame.mono (by decide) (by decide)⟩
                · show Steps p.tables e below (T1.setTop (mkF m 55 #[.val (.ref a1), .val (.int p2), .val (.int (0 : Int32))] [(.int (133 : Int32)), (.int p2)])) _
                  refine XS.icmpNo X1.here hx rfl (hb hby d1_55) rfl (feq hc55_32).1 ?_
                  refine XS.iconst X1.here hx rfl (hb hby d1_58) ?_
                  refine XS.goto X1.here hx rfl (pc0 := 59) (pc' := 63) rfl (hb hby d1_59) (by decide) (by decide) ?_
                  show Steps p.tables e below (T1.setTop (mkF m 63 #[.val (.ref a1), .val (.int p2), .val (.int (0 : Int32))] [(.int (1 : Int32))])) _
                  refine XS.istoreN X1.here hx rfl (hb hby d1_63) rfl (l' := #[.val (.ref a1), .val (.int p2), .val (.int (1 : Int32))]) rfl ?_
                  refine XS.iloadN X1.here hx rfl (hb hby d1_64) rfl ?_
                  exact retN X1 hx (t := .boolean) Bd.returns (by simp) (hb hby d1_65) hr
                · show Q_rmr1 Z a1 p2 h0 n0 _ T1.heap _
                  rw [e1]
                  exact ⟨(own_rc1 (by (unfold own_P; have := own_nlt (a := (p2).toInt) (b := 1) hc11_2 rfl rfl; have := own_nlt (a := 31) (b := (p2).toInt) hc17_10 rfl rfl; have := own_ne (a := (p2).toInt) (b := 9) hc23_18 rfl rfl; have := own_eq (a := (p2).toInt) (b := 10) hc29_26 rfl rfl; have := own_nlt (a := (p2).toInt) (b := 127) hc41_28 rfl rfl; have := own_nlt (a := 159) (b := (p2).toInt) hc48_30 rfl rfl; have := own_ne (a := (p2).toInt) (b := 133) hc55_32 rfl rfl; omega))), N0, rfl⟩
        · have pre35 : ∀ t, Steps p.tables e below (T1.setTop (mkF m 35 #[.val (.ref a1), .val (.int p2), .val (.int (0 : Int32))] [(.int (13 : Int32)), (.int p2)])) t → Steps p.tables e below (s₁.setTop (entryFrame m #[(.ref a1), (.int p2)] 3)) t := by
            intro t kt
            refine pre27 _ ?_
            show Steps p.tables e below (T1.setTop (mkF m 29 #[.val (.ref a1), .val (.int p2), .val (.int (0 : Int32))] [(.int (10 : Int32)), (.int p2)])) _
            refine XS.icmpNo X1.here hx rfl (hb hby d1_29) rfl (feq hc29_26).1 ?_
            refine XS.iloadN X1.here hx rfl (hb hby d1_32) rfl ?_
            refine XS.bipush X1.here hx rfl (hb hby d1_33) ?_
            exact kt
          by_cases hc35_34 : p2 = (13 : Int32)
          · have pre37 : ∀ t, Steps p.tables e below (T1.setTop (mkF m 41 #[.val (.ref a1), .val (.int p2), .val (.int (0 : Int32))] [(.int (127 : Int32)), (.int p2)])) t → Steps p.tables e below (s₁.setTop (entryFrame m #[(.ref a1), (.int p2)] 3)) t := by
              intro t kt
              refine pre35 _ ?_
              show Steps p.tables e below (T1.setTop (mkF m 35 #[.val (.ref a1), .val (.int p2), .val (.int (0 : Int32))] [(.int (13 : Int32)), (.int p2)])) _
              refine XS.icmpNo X1.here hx rfl (hb hby d1_35) rfl (teq hc35_34).2 ?_
              show Steps p.tables e below (T1.setTop (mkF m 38 #[.val (.ref a1), .val (.int p2), .val (.int (0 : Int32))] [])) _
              refine XS.iloadN X1.here hx rfl (hb hby d1_38) rfl ?_
              refine XS.bipush X1.here hx rfl (hb hby d1_39) ?_
              exact kt
            by_cases hc41_36 : p2 < (127 : Int32)
            · obtain ⟨fs, hr, hrun, hended, hW, hsame⟩ := X1.leave (v := some (.int (0 : Int32))) (fun h => by rw [Bd.returns] at h; cases h)
              refine ⟨_, _, pre37 _ ?_, hrun, hended, _, _, rfl, ?_, ⟨_, rfl⟩, hW, hsame.mono (by decide) (by decide)⟩
              · show Steps p.tables e below (T1.setTop (mkF m 41 #[.val (.ref a1), .val (.int p2), .val (.int (0 : Int32))] [(.int (127 : Int32)), (.int p2)])) _
                refine XS.icmpYes X1.here hx rfl (pc0 := 41) (pc' := 62) rfl (hb hby d1_41) rfl (tlt hc41_36).1 (by decide) (by decide) ?_
                refine XS.iconst X1.here hx rfl (hb hby d1_62) ?_
                show Steps p.tables e below (T1.setTop (mkF m 63 #[.val (.ref a1), .val (.int p2), .val (.int (0 : Int32))] [(.int (0 : Int32))])) _
                refine XS.istoreN X1.here hx rfl (hb hby d1_63) rfl (l' := #[.val (.ref a1), .val (.int p2), .val (.int (0 : Int32))]) rfl ?_
                refine XS.iloadN X1.here hx rfl (hb hby d1_64) rfl ?_
                exact retN X1 hx (t := .boolean) Bd.returns (by simp) (hb hby d1_65) hr
              · show Q_rmr1 Z a1 p2 h0 n0 _ T1.heap _
                rw [e1]
                exact ⟨(own_rc0 (by (unfold own_P; have := own_nlt (a := (p2).toInt) (b := 1) hc11_2 rfl rfl; have := own_nlt (a := 31) (b := (p2).toInt) hc17_10 rfl rfl; have := own_ne (a := (p2).toInt) (b := 9) hc23_18 rfl rfl; have := own_ne (a := (p2).toInt) (b := 10) hc29_26 rfl rfl; have := own_eq (a := (p2).toInt) (b := 13) hc35_34 rfl rfl; have := own_lt (a := (p2).toInt) (b := 127) hc41_36 rfl rfl; omega))), N0, rfl⟩
            · have pre39 : ∀ t, Steps p.tables e below (T1.setTop (mkF m 48 #[.val (.ref a1), .val (.int p2), .val (.int (0 : Int32))] [(.int (159 : Int32)), (.int p2)])) t → Steps p.tables e below (s₁.setTop (entryFrame m #[(.ref a1), (.int p2)] 3)) t := by
                intro t kt
                refine pre37 _ ?_
                show Steps p.tables e below (T1.setTop (mkF m 41 #[.val (.ref a1), .val (.int p2), .val (.int (0 : Int32))] [(.int (127 : Int32)), (.int p2)])) _
                refine XS.icmpNo X1.here hx rfl (hb hby d1_41) rfl (flt hc41_36).1 ?_
                refine XS.iloadN X1.here hx rfl (hb hby d1_44) rfl ?_
                show Steps p.tables e below (T1.setTop (mkF m 45 #[.val (.ref a1), .val (.int p2), .val (.int (0 : Int32))] [(.int p2)])) _
                refine XS.sipush X1.here hx rfl (hb hby d1_45) ?_
                exact kt
              by_cases hc48_38 : (159 : Int32) < p2
              · obtain ⟨fs, hr, hrun, hended, hW, hsame⟩ := X1.leave (v := some (.int (0 : Int32))) (fun h => by rw [Bd.returns] at h; cases h)
                refine ⟨_, _, pre39 _ ?_, hrun, hended, _, _, rfl, ?_, ⟨_, rfl⟩, hW, hsame.mono (by decide) (by decide)⟩
                · show Steps p.tables e below (T1.setTop (mkF m 48 #[.val (.ref a1), .val (.int p2), .val (.int (0 : Int32))] [(.int (159 : Int32)), (.int p2)])) _
                  refine XS.icmpYes X1.here hx rfl (pc0 := 48) (pc' := 62) rfl (hb hby d1_48) rfl (tlt hc48_38).2.2.1 (by decide) (by decide) ?_
                  refine XS.iconst X1.here hx rfl (hb hby d1_62) ?_
                  refine XS.istoreN X1.here hx rfl (hb hby d1_63) rfl (l' := #[.val (.ref a1), .val (.int p2), .val (.int (0 : Int32))]) rfl ?_
                  show Steps p.tables e below (T1.setTop (mkF m 64 #[.val (.ref a1), .val (.int p2), .val (.int (0 : Int32))] [])) _
                  refine XS.iloadN X1.here hx rfl (hb hby d1_64) rfl ?_
                  exact retN X1 hx (t := .boolean) Bd.returns (by simp) (hb hby d1_65) hr
                · show Q_rmr1 Z a1 p2 h0 n0 _ T1.heap _
                  rw [e1]
                  exact ⟨(own_rc0 (by (unfold own_P; have := own_nlt (a := (p2).toInt) (b := 1) hc11_2 rfl rfl; have := own_nlt (a := 31) (b := (p2).toInt) hc17_10 rfl rfl; have := own_ne (a := (p2).toInt) (b := 9) hc23_18 rfl rfl; have := own_ne (a := (p2).toInt) (b := 10) hc29_26 rfl rfl; have := own_eq (a := (p2).toInt) (b := 13) hc35_34 rfl rfl; have := own_nlt (a := (p2).toInt) (b := 127) hc41_36 rfl rfl; have := own_lt (a := 159) (b := (p2).toInt) hc48_38 rfl rfl; omega))), N0, rfl⟩
              · have pre41 : ∀ t, Steps p.tables e below (T1.setTop (mkF m 55 #[.val (.ref a1), .val (.int p2), .val (.int (0 : Int32))] [(.int (133 : Int32)), (.int p2)])) t → Steps p.tables e below (s₁.setTop (entryFrame m #[(.ref a1), (.int p2)] 3)) t := by
                  intro t kt
                  refine pre39 _ ?_
                  show Steps p.tables e below (T1.setTop (mkF m 48 #[.val (.ref a1), .val (.int p2), .val (.int (0 : Int32))] [(.int (159 : Int32)), (.int p2)])) _
                  refine XS.icmpNo X1.here hx rfl (hb hby d1_48) rfl (flt hc48_38).2.2.1 ?_
                  refine XS.iloadN X1.here hx rfl (hb hby d1_51) rfl ?_
                  refine XS.sipush X1.here hx rfl (hb hby d1_52) ?_
                  show Steps p.tables e below (T1.setTop (mkF m 55 #[.val (.ref a1), .val (.int p2), .val (.int (0 : Int32))] [(.int (133 : Int32)), (.int p2)])) _
                  exact kt
                by_cases hc55_40 : p2 = (133 : Int32)
                · obtain ⟨fs, hr, hrun, hended, hW, hsame⟩ := X1.leave (v := some (.int (0 : Int32))) (fun h => by rw [Bd.returns] at h; cases h)
                  refine ⟨_, _, pre41 _ ?_, hrun, hended, _, _, rfl, ?_, ⟨_, rfl⟩, hW, hsame.mono (by decide) (by decide)⟩
                  · show Steps p.tables e below (T1.setTop (mkF m 55 #[.val (.ref a1), .val (.int p2), .val (.int (0 : Int32))] [(.int (133 : Int32)), (.int p2)])) _
                    refine XS.icmpYes X1.here hx rfl (pc0 := 55) (pc' := 62) rfl (hb hby d1_55) rfl (teq hc55_40).1 (by decide) (by decide) ?_
                    refine XS.iconst X1.here hx rfl (hb hby d1_62) ?_
                    refine XS.istoreN X1.here hx rfl (hb hby d1_63) rfl (l' := #[.val (.ref a1), .val (.int p2), .val (.int (0 : Int32))]) rfl ?_
                    refine XS.iloadN X1.here hx rfl (hb hby d1_64) rfl ?_
                    show Steps p.tables e below (T1.setTop (mkF m 65 #[.val (.ref a1), .val (.int p2), .val (.int (0 : Int32))] [(.int (0 : Int32))])) _
                    exact retN X1 hx (t := .boolean) Bd.returns (by simp) (hb hby d1_65) hr
                  · show Q_rmr1 Z a1 p2 h0 n0 _ T1.heap _
                    rw [e1]
                    exact ⟨(own_rc0 (by (unfold own_P; have := own_nlt (a := (p2).toInt) (b := 1) hc11_2 rfl rfl; have := own_nlt (a := 31) (b := (p2).toInt) hc17_10 rfl rfl; have := own_ne (a := (p2).toInt) (b := 9) hc23_18 rfl rfl; have := own_ne (a := (p2).toInt) (b := 10) hc29_26 rfl rfl; have := own_eq (a := (p2).toInt) (b := 13) hc35_34 rfl rfl; have := own_nlt (a := (p2).toInt) (b := 127) hc41_36 rfl rfl; have := own_nlt (a := 159) (b := (p2).toInt) hc48_38 rfl rfl; have := own_eq (a := (p2).toInt) (b := 133) hc55_40 rfl rfl; omega))), N0, rfl⟩
                · obtain ⟨fs, hr, hrun, hended, hW, hsame⟩ := X1.leave (v := some (.int (1 : Int32))) (fun h => by rw [Bd.returns] at h; cases h)
                  refine ⟨_, _, pre41 _ ?_, hrun, hended, _, _, rfl, ?_, ⟨_, rfl⟩, hW, hsame.mono (by decide) (by decide)⟩
                  · show Steps p.tables e below (T1.setTop (mkF m 55 #[.val (.ref a1), .val (.int p2), .val (.int (0 : Int32))] [(.int (133 : Int32)), (.int p2)])) _
                    refine XS.icmpNo X1.here hx rfl (hb hby d1_55) rfl (feq hc55_40).1 ?_
                    refine XS.iconst X1.here hx rfl (hb hby d1_58) ?_
                    refine XS.goto X1.here hx rfl (pc0 := 59) (pc' := 63) rfl (hb hby d1_59) (by decide) (by decide) ?_
                    refine XS.istoreN X1.here hx rfl (hb hby d1_63) rfl (l' := #[.val (.ref a1), .val (.int p2), .val (.int (1 : Int32))]) rfl ?_
                    show Steps p.tables e below (T1.setTop (mkF m 64 #[.val (.ref a1), .val (.int p2), .val (.int (1 : Int32))] [])) _
                    refine XS.iloadN X1.here hx rfl (hb hby d1_64) rfl ?_
                    exact retN X1 hx (t := .boolean) Bd.returns (by simp) (hb hby d1_65) hr
                  · show Q_rmr1 Z a1 p2 h0 n0 _ T1.heap _
                    rw [e1]
                    exact ⟨(own_rc1 (by (unfold own_P; have := own_nlt (a := (p2).toInt) (b := 1) hc11_2 rfl rfl; have := own_nlt (a := 31) (b := (p2).toInt) hc17_10 rfl rfl; have := own_ne (a := (p2).toInt) (b := 9) hc23_18 rfl rfl; have := own_ne (a := (p2).toInt) (b := 10) hc29_26 rfl rfl; have := own_eq (a := (p2).toInt) (b := 13) hc35_34 rfl rfl; have := own_nlt (a := (p2).toInt) (b := 127) hc41_36 rfl rfl; have := own_nlt (a := 159) (b := (p2).toInt) hc48_38 rfl rfl; have := own_ne (a := (p2).toInt) (b := 133) hc55_40 rfl rfl; omega))), N0, rfl⟩
          · obtain ⟨fs, hr, hrun, hended, hW, hsame⟩ := X1.leave (v := some (.int (1 : Int32))) (fun h => by rw [Bd.returns] at h; cases h)
            refine ⟨_, _, pre35 _ ?_, hrun, hended, _, _, rfl, ?_, ⟨_, rfl⟩, hW, hsame.mono (by decide) (by decide)⟩
            · show Steps p.tables e below (T1.setTop (mkF m 35 #[.val (.ref a1), .val (.int p2), .val (.int (0 : Int32))] [(.int (13 : Int32)), (.int p2)])) _
              refine XS.icmpYes X1.here hx rfl (pc0 := 35) (pc' := 58) rfl (hb hby d1_35) rfl (feq hc35_34).2 (by decide) (by decide) ?_
              show Steps p.tables e below (T1.setTop (mkF m 58 #[.val (.ref a1), .val (.int p2), .val (.int (0 : Int32))] [])) _
              refine XS.iconst X1.here hx rfl (hb hby d1_58) ?_
              refine XS.goto X1.here hx rfl (pc0 := 59) (pc' := 63) rfl (hb hby d1_59) (by decide) (by decide) ?_
              refine XS.istoreN X1.here hx rfl (hb hby d1_63) rfl (l' := #[.val (.ref a1), .val (.int p2), .val (.int (1 : Int32))]) rfl ?_
              refine XS.iloadN X1.here hx rfl (hb hby d1_64) rfl ?_
              show Steps p.tables e below (T1.setTop (mkF m 65 #[.val (.ref a1), .val (.int p2), .val (.int (1 : Int32))] [(.int (1 : Int32))])) _
              exact retN X1 hx (t := .boolean) Bd.returns (by simp) (hb hby d1_65) hr
            · show Q_rmr1 Z a1 p2 h0 n0 _ T1.heap _
              rw [e1]
              exact ⟨(own_rc1 (by (unfold own_P; have := own_nlt (a := (p2).toInt) (b := 1) hc11_2 rfl rfl; have := own_nlt (a := 31) (b := (p2).toInt) hc17_10 rfl rfl; have := own_ne (a := (p2).toInt) (b := 9) hc23_18 rfl rfl; have := own_ne (a := (p2).toInt) (b := 10) hc29_26 rfl rfl; have := own_ne (a := (p2).toInt) (b := 13) hc35_34 rfl rfl; omega))), N0, rfl⟩
def Q_rmr0 (Z : State) (a1 : Addr) (p2 : Int32) (w1 : Addr) (h0 : Heap) (n0 : Nat) (v : Option Value) (h : Heap) (L : List Loc) : Prop := v = some (.int (0 : Int32)) ∧ Fr n0 L ∧ h = h0
set_option maxRecDepth 65536 in
set_option maxHeartbeats 40000000 in
theorem rmr0 (l : Launch) (Z : State) (a0 : Array Value) (hw : ∀ d ∈ tables_1, d.before a0 Z = true) (ws : List Jvm.Cond) (a1 : Addr) (p2 : Int32) (w1 : Addr) (h0 : Heap) (n0 : Nat) (Z0 : n0 ≤ h0.size) (S_XML_1_1 : Sta Z h0 "com/example/octavo/octavo/XmlVersion" "XML_1_1" "Lcom/example/octavo/octavo/XmlVersion;" (.ref w1)) (hne : ¬ (a1 = w1)) :
    MetFree l (⟨"com/example/octavo/octavo/XmlVersion", "restricts", "(I)Z"⟩ : MethodName) (head1 (Jvm.Cond.code (⟨"com/example/octavo/octavo/XmlVersion", "restricts", "(I)Z"⟩ : MethodName) prog_31_method_7_code 3 (some .boolean) :: ws) ({ frames := 0, cells := 0, slots := 0, locals := 0 } : Room)) (fun a U => a = #[(.ref a1), (.int p2)] ∧ Z.Warmed39 U.vm ∧ U.heap = h0) (fun _ _ _ _ _ => True) (fun _ U o U' => ∃ v L, o = .returned v ∧ Q_rmr0 Z a1 p2 w1 h0 n0 v U'.heap L ∧ FrameEnd U o U' L ({ frames := 0, cells := 0, slots := 0, locals := 0 } : Room).cells ({ frames := 0, cells := 0, slots := 0, locals := 0 } : Room).slots) := by
  refine MetFree.of_bodySF (plainFor_of_name pn_com_example_octavo_octavo_XmlVersion) hisR ?_
  intro p e s m args below meth c s₁ Bd hml0 hP hK
  obtain ⟨rfl, hZ, hh⟩ := hP
  have hx := Bd.exec
  have hby := Bd.bytes
  have hml : c.maxLocals = 3 := hml0
  have hown : s.vm.findClass "com/example/octavo/octavo/XmlVersion" = some m.cls := findClass_of_methodNamed Bd.named
  have hnm := (name_of_methodNamed Bd.named Bd.method).1
  have X0 : Stand p l e ({ frames := 0, cells := 0, slots := 0, locals := 0 } : Room) s m #[(.ref a1), (.int p2)] below meth c s₁ [] 0 0 := Stand.of_body Bd
  have e0 : s₁.heap = h0 := by rw [← hh, Bd.state]; rfl
  have N0 := Fr.nil n0
  have pre0 : ∀ t, Steps p.tables e below (s₁.setTop (mkF m 0 #[.val (.ref a1), .val (.int p2), .unset] [])) t → Steps p.tables e below (s₁.setTop (entryFrame m #[(.ref a1), (.int p2)] 3)) t := fun t k => castTop (ef_1 m a1 p2) k
  obtain ⟨T42, X42, e42, st42⟩ := getS2 X0 hx hZ hown (host := "") (Or.inl (wd_8 hw)) Via.refl e0 S_XML_1_1 (g := (mkF m 3 #[.val (.ref a1), .val (.int p2), .val (.int (0 : Int32))] [(.ref a1)])) rfl (hb hby d1_3)
  obtain ⟨fs, hr, hrun, hended, hW, hsame⟩ := X42.leave (v := some (.int (0 : Int32))) (fun h => by rw [Bd.returns] at h; cases h)
  refine ⟨_, _, pre0 _ ?_, hrun, hended, _, _, rfl, ?_, ⟨_, rfl⟩, hW, hsame.mono (by decide) (by decide)⟩
  · show Steps p.tables e below (s₁.setTop (mkF m 0 #[.val (.ref a1), .val (.int p2), .unset] [])) _
    refine XS.iconst X0.here hx rfl (hb hby d1_0) ?_
    refine XS.istoreN X0.here hx rfl (hb hby d1_1) rfl (l' := #[.val (.ref a1), .val (.int p2), .val (.int (0 : Int32))]) rfl ?_
    refine XS.aloadN X0.here hx rfl (hb hby d1_2) rfl rfl ?_
    refine st42 _ ?_
    show Steps p.tables e below (T42.setTop (mkF m 6 #[.val (.ref a1), .val (.int p2), .val (.int (0 : Int32))] [(.ref w1), (.ref a1)])) _
    refine Jvm.RoadKit.acmp (g := (mkF m 6 #[.val (.ref a1), .val (.int p2), .val (.int (0 : Int32))] [(.ref w1), (.ref a1)])) X42 hx rfl rfl rfl (pc0 := 6) (pc' := 64) (same := false) rfl (hb hby d1_6) rfl (decide_eq_false fun q => hne (Value.ref.inj q)) (by decide) (by decide) ?_
    refine XS.iloadN X42.here hx rfl (hb hby d1_64) rfl ?_
    exact retN X42 hx (t := .boolean) Bd.returns (by simp) (hb hby d1_65) hr
  · show Q_rmr0 Z a1 p2 w1 h0 n0 _ T42.heap _
    rw [e42]
    exact ⟨rfl, N0, rfl⟩
theorem d2_0 : decode method_2_code 0 = .ok (.iload_n 0, 1) := by decide +kernel
theorem d2_1 : decode method_2_code 1 = .ok (.iconst 1, 1) := by decide +kernel
theorem d2_2 : decode method_2_code 2 = .ok (.if_icmp .lt 11, 3) := by decide +kernel
theorem d2_13 : decode method_2_code 13 = .ok (.iload_n 0, 1) := by decide +kernel
theorem d2_14 : decode method_2_code 14 = .ok (.bipush 11, 2) := by decide +kernel
theorem d2_16 : decode method_2_code 16 = .ok (.if_icmp .lt 11, 3) := by decide +kernel
theorem d2_27 : decode method_2_code 27 = .ok (.iload_n 0, 1) := by decide +kernel
theorem d2_28 : decode method_2_code 28 = .ok (.bipush 14, 2) := by decide +kernel
theorem d2_30 : decode method_2_code 30 = .ok (.if_icmp .lt 11, 3) := by decide +kernel
theorem d2_41 : decode method_2_code 41 = .ok (.iload_n 0, 1) := by decide +kernel
theorem d2_42 : decode method_2_code 42 = .ok (.bipush 127, 2) := by decide +kernel
theorem d2_44 : decode method_2_code 44 = .ok (.if_icmp .lt 12, 3) := by decide +kernel
theorem d2_56 : decode method_2_code 56 = .ok (.iload_n 0, 1) := by decide +kernel
theorem d2_57 : decode method_2_code 57 = .ok (.sipush 134, 3) := by decide +kernel
theorem d2_60 : decode method_2_code 60 = .ok (.if_icmp .lt 12, 3) := by decide +kernel
theorem d2_72 : decode method_2_code 72 = .ok (.iconst 0, 1) := by decide +kernel
theorem d2_73 : decode method_2_code 73 = .ok (.ireturn, 1) := by decide +kernel
theorem d2_63 : decode method_2_code 63 = .ok (.iload_n 0, 1) := by decide +kernel
theorem d2_64 : decode method_2_code 64 = .ok (.sipush 159, 3) := by decide +kernel
theorem d2_67 : decode method_2_code 67 = .ok (.if_icmp .gt 5, 3) := by decide +kernel
theorem d2_70 : decode method_2_code 70 = .ok (.iconst 1, 1) := by decide +kernel
theorem d2_71 : decode method_2_code 71 = .ok (.ireturn, 1) := by decide +kernel
theorem d2_47 : decode method_2_code 47 = .ok (.iload_n 0, 1) := by decide +kernel
theorem d2_48 : decode method_2_code 48 = .ok (.sipush 132, 3) := by decide +kernel
theorem d2_51 : decode method_2_code 51 = .ok (.if_icmp .gt 5, 3) := by decide +kernel
theorem d2_54 : decode method_2_code 54 = .ok (.iconst 1, 1) := by decide +kernel
theorem d2_55 : decode method_2_code 55 = .ok (.ireturn, 1) := by decide +kernel
theorem d2_33 : decode method_2_code 33 = .ok (.iload_n 0, 1) := by decide +kernel
theorem d2_34 : decode method_2_code 34 = .ok (.bipush 31, 2) := by decide +kernel
theorem d2_36 : decode method_2_code 36 = .ok (.if_icmp .gt 5, 3) := by decide +kernel
theorem d2_39 : decode method_2_code 39 = .ok (.iconst 1, 1) := by decide +kernel
theorem d2_40 : decode method_2_code 40 = .ok (.ireturn, 1) := by decide +kernel
theorem d2_19 : decode method_2_code 19 = .ok (.iload_n 0, 1) := by decide +kernel
theorem d2_20 : decode method_2_code 20 = .ok (.bipush 12, 2) := by decide +kernel
theorem d2_22 : decode method_2_code 22 = .ok (.if_icmp .gt 5, 3) := by decide +kernel
theorem d2_25 : decode method_2_code 25 = .ok (.iconst 1, 1) := by decide +kernel
theorem d2_26 : decode method_2_code 26 = .ok (.ireturn, 1) := by decide +kernel
theorem d2_5 : decode method_2_code 5 = .ok (.iload_n 0, 1) := by decide +kernel
theorem d2_6 : decode method_2_code 6 = .ok (.bipush 8, 2) := by decide +kernel
theorem d2_8 : decode method_2_code 8 = .ok (.if_icmp .gt 5, 3) := by decide +kernel
theorem d2_11 : decode method_2_code 11 = .ok (.iconst 1, 1) := by decide +kernel
theorem d2_12 : decode method_2_code 12 = .ok (.ireturn, 1) := by decide +kernel
theorem ef_2 (m : MethodId) (x0 : Int32) : entryFrame m #[(.int x0)] 1 = mkF m 0 #[.val (.int x0)] [] := by first | (simp [entryFrame, mkF, argsToLocals, Value.category]; done) | rfl
theorem pn_com_example_octavo_octavo_XmlVersionRestrictsPinLaw : plainName "com/example/octavo/octavo/XmlVersionRestrictsPinLaw" = true := by first | (simp [plainName, overriddenIn]; done) | decide +kernel
def Q_rm2 (Z : State) (p1 : Int32) (h0 : Heap) (n0 : Nat) (v : Option Value) (h : Heap) (L : List Loc) : Prop := v = some (.int (own_rc p1)) ∧ Fr n0 L ∧ h = h0
set_option maxRecDepth 65536 in
set_option maxHeartbeats 40000000 in
theorem rm2 (l : Launch) (Z : State) (a0 : Array Value) (hw : ∀ d ∈ tables_1, d.before a0 Z = true) (ws : List Jvm.Cond) (p1 : Int32) (h0 : Heap) (n0 : Nat) (Z0 : n0 ≤ h0.size) :
    MetFree l (⟨"com/example/octavo/octavo/XmlVersionRestrictsPinLaw", "restrictedChar", "(I)Z"⟩ : MethodName) (head1 (Jvm.Cond.code (⟨"com/example/octavo/octavo/XmlVersionRestrictsPinLaw", "restrictedChar", "(I)Z"⟩ : MethodName) method_2_code 1 (some .boolean) :: ws) ({ frames := 0, cells := 0, slots := 0, locals := 0 } : Room)) (fun a U => a = #[(.int p1)] ∧ Z.Warmed39 U.vm ∧ U.heap = h0) (fun _ _ _ _ _ => True) (fun _ U o U' => ∃ v L, o = .returned v ∧ Q_rm2 Z p1 h0 n0 v U'.heap L ∧ FrameEnd U o U' L ({ frames := 0, cells := 0, slots := 0, locals := 0 } : Room).cells ({ frames := 0, cells := 0, slots := 0, locals := 0 } : Room).slots) := by
  refine MetFree.of_bodySF (plainFor_of_name pn_com_example_octavo_octavo_XmlVersionRestrictsPinLaw) hisR ?_
  intro p e s m args below meth c s₁ Bd hml0 hP hK
  obtain ⟨rfl, hZ, hh⟩ := hP
  have hx := Bd.exec
  have hby := Bd.bytes
  have hml : c.maxLocals = 1 := hml0
  have hown : s.vm.findClass "com/example/octavo/octavo/XmlVersionRestrictsPinLaw" = some m.cls := findClass_of_methodNamed Bd.named
  have hnm := (name_of_methodNamed Bd.named Bd.method).1
  have X0 : Stand p l e ({ frames := 0, cells := 0, slots := 0, locals := 0 } : Room) s m #[(.int p1)] below meth c s₁ [] 0 0 := Stand.of_body Bd
  have e0 : s₁.heap = h0 := by rw [← hh, Bd.state]; rfl
  have N0 := Fr.nil n0
  have pre0 : ∀ t, Steps p.tables e below (s₁.setTop (mkF m 0 #[.val (.int p1)] [])) t → Steps p.tables e below (s₁.setTop (entryFrame m #[(.int p1)] 1)) t := fun t k => castTop (ef_2 m p1) k
  have pre44 : ∀ t, Steps p.tables e below (s₁.setTop (mkF m 2 #[.val (.int p1)] [(.int (1 : Int32)), (.int p1)])) t → Steps p.tables e below (s₁.setTop (entryFrame m #[(.int p1)] 1)) t := by
    intro t kt
    refine pre0 _ ?_
    show Steps p.tables e below (s₁.setTop (mkF m 0 #[.val (.int p1)] [])) _
    refine XS.iloadN X0.here hx rfl (hb hby d2_0) rfl ?_
    refine XS.iconst X0.here hx rfl (hb hby d2_1) ?_
    exact kt
  by_cases hc2_43 : p1 < (1 : Int32)
  · have pre46 : ∀ t, Steps p.tables e below (s₁.setTop (mkF m 16 #[.val (.int p1)] [(.int (11 : Int32)), (.int p1)])) t → Steps p.tables e below (s₁.setTop (entryFrame m #[(.int p1)] 1)) t := by
      intro t kt
      refine pre44 _ ?_
      show Steps p.tables e below (s₁.setTop (mkF m 2 #[.val (.int p1)] [(.int (1 : Int32)), (.int p1)])) _
      refine XS.icmpYes X0.here hx rfl (pc0 := 2) (pc' := 13) rfl (hb hby d2_2) rfl (tlt hc2_43).1 (by decide) (by decide) ?_
      refine XS.iloadN X0.here hx rfl (hb hby d2_13) rfl ?_
      show Steps p.tables e below (s₁.setTop (mkF m 14 #[.val (.int p1)] [(.int p1)])) _
      refine XS.bipush X0.here hx rfl (hb hby d2_14) ?_
      exact kt
    by_cases hc16_45 : p1 < (11 : Int32)
    · have pre48 : ∀ t, Steps p.tables e below (s₁.setTop (mkF m 30 #[.val (.int p1)] [(.int (14 : Int32)), (.int p1)])) t → Steps p.tables e below (s₁.setTop (entryFrame m #[(.int p1)] 1)) t := by
        intro t kt
        refine pre46 _ ?_
        show Steps p.tables e below (s₁.setTop (mkF m 16 #[.val (.int p1)] [(.int (11 : Int32)), (.int p1)])) _
        refine XS.icmpYes X0.here hx rfl (pc0 := 16) (pc' := 27) rfl (hb hby d2_16) rfl (tlt hc16_45).1 (by decide) (by decide) ?_
        refine XS.iloadN X0.here hx rfl (hb hby d2_27) rfl ?_
        refine XS.bipush X0.here hx rfl (hb hby d2_28) ?_
        show Steps p.tables e below (s₁.setTop (mkF m 30 #[.val (.int p1)] [(.int (14 : Int32)), (.int p1)])) _
        exact kt
      by_cases hc30_47 : p1 < (14 : Int32)
      · have pre50 : ∀ t, Steps p.tables e below (s₁.setTop (mkF m 44 #[.val (.int p1)] [(.int (127 : Int32)), (.int p1)])) t → Steps p.tables e below (s₁.setTop (entryFrame m #[(.int p1)] 1)) t := by
          intro t kt
          refine pre48 _ ?_
          show Steps p.tables e below (s₁.setTop (mkF m 30 #[.val (.int p1)] [(.int (14 : Int32)), (.int p1)])) _
          refine XS.icmpYes X0.here hx rfl (pc0 := 30) (pc' := 41) rfl (hb hby d2_30) rfl (tlt hc30_47).1 (by decide) (by decide) ?_
          refine XS.iloadN X0.here hx rfl (hb hby d2_41) rfl ?_
          refine XS.bipush X0.here hx rfl (hb hby d2_42) ?_
          exact kt
        by_cases hc44_49 : p1 < (127 : Int32)
        · have pre52 : ∀ t, Steps p.tables e below (s₁.setTop (mkF m 60 #[.val (.int p1)] [(.int (134 : Int32)), (.int p1)])) t → Steps p.tables e below (s₁.setTop (entryFrame m #[(.int p1)] 1)) t := by
            intro t kt
            refine pre50 _ ?_
            show Steps p.tables e below (s₁.setTop (mkF m 44 #[.val (.int p1)] [(.int (127 : Int32)), (.int p1)])) _
            refine XS.icmpYes X0.here hx rfl (pc0 := 44) (pc' := 56) rfl (hb hby d2_44) rfl (tlt hc44_49).1 (by decide) (by decide) ?_
            show Steps p.tables e below (s₁.setTop (mkF m 56 #[.val (.int p1)] [])) _
            refine XS.iloadN X0.here hx rfl (hb hby d2_56) rfl ?_
            refine XS.sipush X0.here hx rfl (hb hby d2_57) ?_
            exact kt
          by_cases hc60_51 : p1 < (134 : Int32)
          · obtain ⟨fs, hr, hrun, hended, hW, hsame⟩ := X0.leave (v := some (.int (0 : Int32))) (fun h => by rw [Bd.returns] at h; cases h)
            refine ⟨_, _, pre52 _ ?_, hrun, hended, _, _, rfl, ?_, ⟨_, rfl⟩, hW, hsame.mono (by decide) (by decide)⟩
            · show Steps p.tables e below (s₁.setTop (mkF m 60 #[.val (.int p1)] [(.int (134 : Int32)), (.int p1)])) _
              refine XS.icmpYes X0.here hx rfl (pc0 := 60) (pc' := 72) rfl (hb hby d2_60) rfl (tlt hc60_51).1 (by decide) (by decide) ?_
              refine XS.iconst X0.here hx rfl (hb hby d2_72) ?_
              show Steps p.tables e below (s₁.setTop (mkF m 73 #[.val (.int p1)] [(.int (0 : Int32))])) _
              exact retN X0 hx (t := .boolean) Bd.returns (by simp) (hb hby d2_73) hr
            · show Q_rm2 Z p1 h0 n0 _ s₁.heap _
              rw [e0]
              exact ⟨(own_rc0 (by (unfold own_P; have := own_lt (a := (p1).toInt) (b := 1) hc2_43 rfl rfl; have := own_lt (a := (p1).toInt) (b := 11) hc16_45 rfl rfl; have := own_lt (a := (p1).toInt) (b := 14) hc30_47 rfl rfl; have := own_lt (a := (p1).toInt) (b := 127) hc44_49 rfl rfl; have := own_lt (a := (p1).toInt) (b := 134) hc60_51 rfl rfl; omega))), N0, rfl⟩
          · have pre54 : ∀ t, Steps p.tables e below (s₁.setTop (mkF m 67 #[.val (.int p1)] [(.int (159 : Int32)), (.int p1)])) t → Steps p.tables e below (s₁.setTop (entryFrame m #[(.int p1)] 1)) t := by
              intro t kt
              refine pre52 _ ?_
              show Steps p.tables e below (s₁.setTop (mkF m 60 #[.val (.int p1)] [(.int (134 : Int32)), (.int p1)])) _
              refine XS.icmpNo X0.here hx rfl (hb hby d2_60) rfl (flt hc60_51).1 ?_
              refine XS.iloadN X0.here hx rfl (hb hby d2_63) rfl ?_
              show Steps p.tables e below (s₁.setTop (mkF m 64 #[.val (.int p1)] [(.int p1)])) _
              refine XS.sipush X0.here hx rfl (hb hby d2_64) ?_
              exact kt
            by_cases hc67_53 : (159 : Int32) < p1
            · obtain ⟨fs, hr, hrun, hended, hW, hsame⟩ := X0.leave (v := some (.int (0 : Int32))) (fun h => by rw [Bd.returns] at h; cases h)
              refine ⟨_, _, pre54 _ ?_, hrun, hended, _, _, rfl, ?_, ⟨_, rfl⟩, hW, hsame.mono (by decide) (by decide)⟩
              · show Steps p.tables e below (s₁.setTop (mkF m 67 #[.val (.int p1)] [(.int (159 : Int32)), (.int p1)])) _
                refine XS.icmpYes X0.here hx rfl (pc0 := 67) (pc' := 72) rfl (hb hby d2_67) rfl (tlt hc67_53).2.2.1 (by decide) (by decide) ?_
                refine XS.iconst X0.here hx rfl (hb hby d2_72) ?_
                exact retN X0 hx (t := .boolean) Bd.returns (by simp) (hb hby d2_73) hr
              · show Q_rm2 Z p1 h0 n0 _ s₁.heap _
                rw [e0]
                exact ⟨(own_rc0 (by (unfold own_P; have := own_lt (a := (p1).toInt) (b := 1) hc2_43 rfl rfl; have := own_lt (a := (p1).toInt) (b := 11) hc16_45 rfl rfl; have := own_lt (a := (p1).toInt) (b := 14) hc30_47 rfl rfl; have := own_lt (a := (p1).toInt) (b := 127) hc44_49 rfl rfl; have := own_nlt (a := (p1).toInt) (b := 134) hc60_51 rfl rfl; have := own_lt (a := 159) (b := (p1).toInt) hc67_53 rfl rfl; omega))), N0, rfl⟩
            · obtain ⟨fs, hr, hrun, hended, hW, hsame⟩ := X0.leave (v := some (.int (1 : Int32))) (fun h => by rw [Bd.returns] at h; cases h)
              refine ⟨_, _, pre54 _ ?_, hrun, hended, _, _, rfl, ?_, ⟨_, rfl⟩, hW, hsame.mono (by decide) (by decide)⟩
              · show Steps p.tables e below (s₁.setTop (mkF m 67 #[.val (.int p1)] [(.int (159 : Int32)), (.int p1)])) _
                refine XS.icmpNo X0.here hx rfl (hb hby d2_67) rfl (flt hc67_53).2.2.1 ?_
                refine XS.iconst X0.here hx rfl (hb hby d2_70) ?_
                exact retN X0 hx (t := .boolean) Bd.returns (by simp) (hb hby d2_71) hr
              · show Q_rm2 Z p1 h0 n0 _ s₁.heap _
                rw [e0]
                exact ⟨(own_rc1 (by (unfold own_P; have := own_lt (a := (p1).toInt) (b := 1) hc2_43 rfl rfl; have := own_lt (a := (p1).toInt) (b := 11) hc16_45 rfl rfl; have := own_lt (a := (p1).toInt) (b := 14) hc30_47 rfl rfl; have := own_lt (a := (p1).toInt) (b := 127) hc44_49 rfl rfl; have := own_nlt (a := (p1).toInt) (b := 134) hc60_51 rfl rfl; have := own_nlt (a := 159) (b := (p1).toInt) hc67_53 rfl rfl; omega))), N0, rfl⟩
        · have pre56 : ∀ t, Steps p.tables e below (s₁.setTop (mkF m 51 #[.val (.int p1)] [(.int (132 : Int32)), (.int p1)])) t → Steps p.tables e below (s₁.setTop (entryFrame m #[(.int p1)] 1)) t := by
            intro t kt
            refine pre50 _ ?_
            show Steps p.tables e below (s₁.setTop (mkF m 44 #[.val (.int p1)] [(.int (127 : Int32)), (.int p1)])) _
            refine XS.icmpNo X0.here hx rfl (hb hby d2_44) rfl (flt hc44_49).1 ?_
            show Steps p.tables e below (s₁.setTop (mkF m 47 #[.val (.int p1)] [])) _
            refine XS.iloadN X0.here hx rfl (hb hby d2_47) rfl ?_
            refine XS.sipush X0.here hx rfl (hb hby d2_48) ?_
            exact kt
          by_cases hc51_55 : (132 : Int32) < p1
          · have pre58 : ∀ t, Steps p.tables e below (s₁.setTop (mkF m 60 #[.val (.int p1)] [(.int (134 : Int32)), (.int p1)])) t → Steps p.tables e below (s₁.setTop (entryFrame m #[(.int p1)] 1)) t := by
              intro t kt
              refine pre56 _ ?_
              show Steps p.tables e below (s₁.setTop (mkF m 51 #[.val (.int p1)] [(.int (132 : Int32)), (.int p1)])) _
              refine XS.icmpYes X0.here hx rfl (pc0 := 51) (pc' := 56) rfl (hb hby d2_51) rfl (tlt hc51_55).2.2.1 (by decide) (by decide) ?_
              refine XS.iloadN X0.here hx rfl (hb hby d2_56) rfl ?_
              show Steps p.tables e below (s₁.setTop (mkF m 57 #[.val (.int p1)] [(.int p1)])) _
              refine XS.sipush X0.here hx rfl (hb hby d2_57) ?_
              exact kt
            by_cases hc60_57 : p1 < (134 : Int32)
            · obtain ⟨fs, hr, hrun, hended, hW, hsame⟩ := X0.leave (v := some (.int (0 : Int32))) (fun h => by rw [Bd.returns] at h; cases h)
              refine ⟨_, _, pre58 _ ?_, hrun, hended, _, _, rfl, ?_, ⟨_, rfl⟩, hW, hsame.mono (by decide) (by decide)⟩
              · show Steps p.tables e below (s₁.setTop (mkF m 60 #[.val (.int p1)] [(.int (134 : Int32)), (.int p1)])) _
                refine XS.icmpYes X0.here hx rfl (pc0 := 60) (pc' := 72) rfl (hb hby d2_60) rfl (tlt hc60_57).1 (by decide) (by decide) ?_
                refine XS.iconst X0.here hx rfl (hb hby d2_72) ?_
                exact retN X0 hx (t := .boolean) Bd.returns (by simp) (hb hby d2_73) hr
              · show Q_rm2 Z p1 h0 n0 _ s₁.heap _
                rw [e0]
                exact ⟨(own_rc0 (by (unfold own_P; have := own_lt (a := (p1).toInt) (b := 1) hc2_43 rfl rfl; have := own_lt (a := (p1).toInt) (b := 11) hc16_45 rfl rfl; have := own_lt (a := (p1).toInt) (b := 14) hc30_47 rfl rfl; have := own_nlt (a := (p1).toInt) (b := 127) hc44_49 rfl rfl; have := own_lt (a := 132) (b := (p1).toInt) hc51_55 rfl rfl; have := own_lt (a := (p1).toInt) (b := 134) hc60_57 rfl rfl; omega))), N0, rfl⟩
            · have pre60 : ∀ t, Steps p.tables e below (s₁.setTop (mkF m 67 #[.val (.int p1)] [(.int (159 : Int32)), (.int p1)])) t → Steps p.tables e below (s₁.setTop (entryFrame m #[(.int p1)] 1)) t := by
                intro t kt
                refine pre58 _ ?_
                show Steps p.tables e below (s₁.setTop (mkF m 60 #[.val (.int p1)] [(.int (134 : Int32)), (.int p1)])) _
                refine XS.icmpNo X0.here hx rfl (hb hby d2_60) rfl (flt hc60_57).1 ?_
                refine XS.iloadN X0.here hx rfl (hb hby d2_63) rfl ?_
                refine XS.sipush X0.here hx rfl (hb hby d2_64) ?_
                show Steps p.tables e below (s₁.setTop (mkF m 67 #[.val (.int p1)] [(.int (159 : Int32)), (.int p1)])) _
                exact kt
              by_cases hc67_59 : (159 : Int32) < p1
              · obtain ⟨fs, hr, hrun, hended, hW, hsame⟩ := X0.leave (v := some (.int (0 : Int32))) (fun h => by rw [Bd.returns] at h; cases h)
                refine ⟨_, _, pre60 _ ?_, hrun, hended, _, _, rfl, ?_, ⟨_, rfl⟩, hW, hsame.mono (by decide) (by decide)⟩
                · show Steps p.tables e below (s₁.setTop (mkF m 67 #[.val (.int p1)] [(.int (159 : Int32)), (.int p1)])) _
                  refine XS.icmpYes X0.here hx rfl (pc0 := 67) (pc' := 72) rfl (hb hby d2_67) rfl (tlt hc67_59).2.2.1 (by decide) (by decide) ?_
                  refine XS.iconst X0.here hx rfl (hb hby d2_72) ?_
                  exact retN X0 hx (t := .boolean) Bd.returns (by simp) (hb hby d2_73) hr
                · show Q_rm2 Z p1 h0 n0 _ s₁.heap _
                  rw [e0]
                  exact ⟨(own_rc0 (by (unfold own_P; have := own_lt (a := (p1).toInt) (b := 1) hc2_43 rfl rfl; have := own_lt (a := (p1).toInt) (b := 11) hc16_45 rfl rfl; have := own_lt (a := (p1).toInt) (b := 14) hc30_47 rfl rfl; have := own_nlt (a := (p1).toInt) (b := 127) hc44_49 rfl rfl; have := own_lt (a := 132) (b := (p1).toInt) hc51_55 rfl rfl; have := own_nlt (a := (p1).toInt) (b := 134) hc60_57 rfl rfl; have := own_lt (a := 159) (b := (p1).toInt) hc67_59 rfl rfl; omega))), N0, rfl⟩
              · obtain ⟨fs, hr, hrun, hended, hW, hsame⟩ := X0.leave (v := some (.int (1 : Int32))) (fun h => by rw [Bd.returns] at h; cases h)
                refine ⟨_, _, pre60 _ ?_, hrun, hended, _, _, rfl, ?_, ⟨_, rfl⟩, hW, hsame.mono (by decide) (by decide)⟩
                · show Steps p.tables e below (s₁.setTop (mkF m 67 #[.val (.int p1)] [(.int (159 : Int32)), (.int p1)])) _
                  refine XS.icmpNo X0.here hx rfl (hb hby d2_67) rfl (flt hc67_59).2.2.1 ?_
                  refine XS.iconst X0.here hx rfl (hb hby d2_70) ?_
                  exact retN X0 hx (t := .boolean) Bd.returns (by simp) (hb hby d2_71) hr
                · show Q_rm2 Z p1 h0 n0 _ s₁.heap _
                  rw [e0]
                  exact ⟨(own_rc1 (by (unfold own_P; have := own_lt (a := (p1).toInt) (b := 1) hc2_43 rfl rfl; have := own_lt (a := (p1).toInt) (b := 11) hc16_45 rfl rfl; have := own_lt (a := (p1).toInt) (b := 14) hc30_47 rfl rfl; have := own_nlt (a := (p1).toInt) (b := 127) hc44_49 rfl rfl; have := own_lt (a := 132) (b := (p1).toInt) hc51_55 rfl rfl; have := own_nlt (a := (p1).toInt) (b := 134) hc60_57 rfl rfl; have := own_nlt (a := 159) (b := (p1).toInt) hc67_59 rfl rfl; omega))), N0, rfl⟩
          · obtain ⟨fs, hr, hrun, hended, hW, hsame⟩ := X0.leave (v := some (.int (1 : Int32))) (fun h => by rw [Bd.returns] at h; cases h)
            refine ⟨_, _, pre56 _ ?_, hrun, hended, _, _, rfl, ?_, ⟨_, rfl⟩, hW, hsame.mono (by decide) (by decide)⟩
            · show Steps p.tables e below (s₁.setTop (mkF m 51 #[.val (.int p1)] [(.int (132 : Int32)), (.int p1)])) _
              refine XS.icmpNo X0.here hx rfl (hb hby d2_51) rfl (flt hc51_55).2.2.1 ?_
              refine XS.iconst X0.here hx rfl (hb hby d2_54) ?_
              show Steps p.tables e below (s₁.setTop (mkF m 55 #[.val (.int p1)] [(.int (1 : Int32))])) _
              exact retN X0 hx (t := .boolean) Bd.returns (by simp) (hb hby d2_55) hr
            · show Q_rm2 Z p1 h0 n0 _ s₁.heap _
              rw [e0]
              exact ⟨(own_rc1 (by (unfold own_P; have := own_lt (a := (p1).toInt) (b := 1) hc2_43 rfl rfl; have := own_lt (a := (p1).toInt) (b := 11) hc16_45 rfl rfl; have := own_lt (a := (p1).toInt) (b := 14) hc30_47 rfl rfl; have := own_nlt (a := (p1).toInt) (b := 127) hc44_49 rfl rfl; have := own_nlt (a := 132) (b := (p1).toInt) hc51_55 rfl rfl; omega))), N0, rfl⟩
      · have pre62 : ∀ t, Steps p.tables e below (s₁.setTop (mkF m 36 #[.val (.int p1)] [(.int (31 : Int32)), (.int p1)])) t → Steps p.tables e below (s₁.setTop (entryFrame m #[(.int p1)] 1)) t := by
          intro t kt
          refine pre48 _ ?_
          show Steps p.tables e below (s₁.setTop (mkF m 30 #[.val (.int p1)] [(.int (14 : Int32)), (.int p1)])) _
          refine XS.icmpNo X0.here hx rfl (hb hby d2_30) rfl (flt hc30_47).1 ?_
          refine XS.iloadN X0.here hx rfl (hb hby d2_33) rfl ?_
          refine XS.bipush X0.here hx rfl (hb hby d2_34) ?_
          exact kt
        by_cases hc36_61 : (31 : Int32) < p1
        · have pre64 : ∀ t, Steps p.tables e below (s₁.setTop (mkF m 44 #[.val (.int p1)] [(.int (127 : Int32)), (.int p1)])) t → Steps p.tables e below (s₁.setTop (entryFrame m #[(.int p1)] 1)) t := by
            intro t kt
            refine pre62 _ ?_
            show Steps p.tables e below (s₁.setTop (mkF m 36 #[.val (.int p1)] [(.int (31 : Int32)), (.int p1)])) _
            refine XS.icmpYes X0.here hx rfl (pc0 := 36) (pc' := 41) rfl (hb hby d2_36) rfl (tlt hc36_61).2.2.1 (by decide) (by decide) ?_
            show Steps p.tables e below (s₁.setTop (mkF m 41 #[.val (.int p1)] [])) _
            refine XS.iloadN X0.here hx rfl (hb hby d2_41) rfl ?_
            refine XS.bipush X0.here hx rfl (hb hby d2_42) ?_
            exact kt
          by_cases hc44_63 : p1 < (127 : Int32)
          · have pre66 : ∀ t, Steps p.tables e below (s₁.setTop (mkF m 60 #[.val (.int p1)] [(.int (134 : Int32)), (.int p1)])) t → Steps p.tables e below (s₁.setTop (entryFrame m #[(.int p1)] 1)) t := by
              intro t kt
              refine pre64 _ ?_
              show Steps p.tables e below (s₁.setTop (mkF m 44 #[.val (.int p1)] [(.int (127 : Int32)), (.int p1)])) _
              refine XS.icmpYes X0.here hx rfl (pc0 := 44) (pc' := 56) rfl (hb hby d2_44) rfl (tlt hc44_63).1 (by decide) (by decide) ?_
              refine XS.iloadN X0.here hx rfl (hb hby d2_56) rfl ?_
              show Steps p.tables e below (s₁.setTop (mkF m 57 #[.val (.int p1)] [(.int p1)])) _
              refine XS.sipush X0.here hx rfl (hb hby d2_57) ?_
              exact kt
            by_cases hc60_65 : p1 < (134 : Int32)
            · obtain ⟨fs, hr, hrun, hended, hW, hsame⟩ := X0.leave (v := some (.int (0 : Int32))) (fun h => by rw [Bd.returns] at h; cases h)
              refine ⟨_, _, pre66 _ ?_, hrun, hended, _, _, rfl, ?_, ⟨_, rfl⟩, hW, hsame.mono (by decide) (by decide)⟩
              · show Steps p.tables e below (s₁.setTop (mkF m 60 #[.val (.int p1)] [(.int (134 : Int32)), (.int p1)])) _
                refine XS.icmpYes X0.here hx rfl (pc0 := 60) (pc' := 72) rfl (hb hby d2_60) rfl (tlt hc60_65).1 (by decide) (by decide) ?_
                refine XS.iconst X0.here hx rfl (hb hby d2_72) ?_
                exact retN X0 hx (t := .boolean) Bd.returns (by simp) (hb hby d2_73) hr
              · show Q_rm2 Z p1 h0 n0 _ s₁.heap _
                rw [e0]
                exact ⟨(own_rc0 (by (unfold own_P; have := own_lt (a := (p1).toInt) (b := 1) hc2_43 rfl rfl; have := own_lt (a := (p1).toInt) (b := 11) hc16_45 rfl rfl; have := own_nlt (a := (p1).toInt) (b := 14) hc30_47 rfl rfl; have := own_lt (a := 31) (b := (p1).toInt) hc36_61 rfl rfl; have := own_lt (a := (p1).toInt) (b := 127) hc44_63 rfl rfl; have := own_lt (a := (p1).toInt) (b := 134) hc60_65 rfl rfl; omega))), N0, rfl⟩
            · have pre68 : ∀ t, Steps p.tables e below (s₁.setTop (mkF m 67 #[.val (.int p1)] [(.int (159 : Int32)), (.int p1)])) t → Steps p.tables e below (s₁.setTop (entryFrame m #[(.int p1)] 1)) t := by
                intro t kt
                refine pre66 _ ?_
                show Steps p.tables e below (s₁.setTop (mkF m 60 #[.val (.int p1)] [(.int (134 : Int32)), (.int p1)])) _
                refine XS.icmpNo X0.here hx rfl (hb hby d2_60) rfl (flt hc60_65).1 ?_
                refine XS.iloadN X0.here hx rfl (hb hby d2_63) rfl ?_
                refine XS.sipush X0.here hx rfl (hb hby d2_64) ?_
                show Steps p.tables e below (s₁.setTop (mkF m 67 #[.val (.int p1)] [(.int (159 : Int32)), (.int p1)])) _
                exact kt
              by_cases hc67_67 : (159 : Int32) < p1
              · obtain ⟨fs, hr, hrun, hended, hW, hsame⟩ := X0.leave (v := some (.int (0 : Int32))) (fun h => by rw [Bd.returns] at h; cases h)
                refine ⟨_, _, pre68 _ ?_, hrun, hended, _, _, rfl, ?_, ⟨_, rfl⟩, hW, hsame.mono (by decide) (by decide)⟩
                · show Steps p.tables e below (s₁.setTop (mkF m 67 #[.val (.int p1)] [(.int (159 : Int32)), (.int p1)])) _
                  refine XS.icmpYes X0.here hx rfl (pc0 := 67) (pc' := 72) rfl (hb hby d2_67) rfl (tlt hc67_67).2.2.1 (by decide) (by decide) ?_
                  refine XS.iconst X0.here hx rfl (hb hby d2_72) ?_
                  exact retN X0 hx (t := .boolean) Bd.returns (by simp) (hb hby d2_73) hr
                · show Q_rm2 Z p1 h0 n0 _ s₁.heap _
                  rw [e0]
                  exact ⟨(own_rc0 (by (unfold own_P; have := own_lt (a := (p1).toInt) (b := 1) hc2_43 rfl rfl; have := own_lt (a := (p1).toInt) (b := 11) hc16_45 rfl rfl; have := own_nlt (a := (p1).toInt) (b := 14) hc30_47 rfl rfl; have := own_lt (a := 31) (b := (p1).toInt) hc36_61 rfl rfl; have := own_lt (a := (p1).toInt) (b := 127) hc44_63 rfl rfl; have := own_nlt (a := (p1).toInt) (b := 134) hc60_65 rfl rfl; have := own_lt (a := 159) (b := (p1).toInt) hc67_67 rfl rfl; omega))), N0, rfl⟩
              · obtain ⟨fs, hr, hrun, hended, hW, hsame⟩ := X0.leave (v := some (.int (1 : Int32))) (fun h => by rw [Bd.returns] at h; cases h)
                refine ⟨_, _, pre68 _ ?_, hrun, hended, _, _, rfl, ?_, ⟨_, rfl⟩, hW, hsame.mono (by decide) (by decide)⟩
                · show Steps p.tables e below (s₁.setTop (mkF m 67 #[.val (.int p1)] [(.int (159 : Int32)), (.int p1)])) _
                  refine XS.icmpNo X0.here hx rfl (hb hby d2_67) rfl (flt hc67_67).2.2.1 ?_
                  refine XS.iconst X0.here hx rfl (hb hby d2_70) ?_
                  exact retN X0 hx (t := .boolean) Bd.returns (by simp) (hb hby d2_71) hr
                · show Q_rm2 Z p1 h0 n0 _ s₁.heap _
                  rw [e0]
                  exact ⟨(own_rc1 (by (unfold own_P; have := own_lt (a := (p1).toInt) (b := 1) hc2_43 rfl rfl; have := own_lt (a := (p1).toInt) (b := 11) hc16_45 rfl rfl; have := own_nlt (a := (p1).toInt) (b := 14) hc30_47 rfl rfl; have := own_lt (a := 31) (b := (p1).toInt) hc36_61 rfl rfl; have := own_lt (a := (p1).toInt) (b := 127) hc44_63 rfl rfl; have := own_nlt (a := (p1).toInt) (b := 134) hc60_65 rfl rfl; have := own_nlt (a := 159) (b := (p1).toInt) hc67_67 rfl rfl; omega))), N0, rfl⟩
          · have pre70 : ∀ t, Steps p.tables e below (s₁.setTop (mkF m 51 #[.val (.int p1)] [(.int (132 : Int32)), (.int p1)])) t → Steps p.tables e below (s₁.setTop (entryFrame m #[(.int p1)] 1)) t := by
              intro t kt
              refine pre64 _ ?_
              show Steps p.tables e below (s₁.setTop (mkF m 44 #[.val (.int p1)] [(.int (127 : Int32)), (.int p1)])) _
              refine XS.icmpNo X0.here hx rfl (hb hby d2_44) rfl (flt hc44_63).1 ?_
              refine XS.iloadN X0.here hx rfl (hb hby d2_47) rfl ?_
              show Steps p.tables e below (s₁.setTop (mkF m 48 #[.val (.int p1)] [(.int p1)])) _
              refine XS.sipush X0.here hx rfl (hb hby d2_48) ?_
              exact kt
            by_cases hc51_69 : (132 : Int32) < p1
            · have pre72 : ∀ t, Steps p.tables e below (s₁.setTop (mkF m 60 #[.val (.int p1)] [(.int (134 : Int32)), (.int p1)])) t → Steps p.tables e below (s₁.setTop (entryFrame m #[(.int p1)] 1)) t := by
                intro t kt
                refine pre70 _ ?_
                show Steps p.tables e below (s₁.setTop (mkF m 51 #[.val (.int p1)] [(.int (132 : Int32)), (.int p1)])) _
                refine XS.icmpYes X0.here hx rfl (pc0 := 51) (pc' := 56) rfl (hb hby d2_51) rfl (tlt hc51_69).2.2.1 (by decide) (by decide) ?_
                refine XS.iloadN X0.here hx rfl (hb hby d2_56) rfl ?_
                refine XS.sipush X0.here hx rfl (hb hby d2_57) ?_
                show Steps p.tables e below (s₁.setTop (mkF m 60 #[.val (.int p1)] [(.int (134 : Int32)), (.int p1)])) _
                exact kt
              by_cases hc60_71 : p1 < (134 : Int32)
              · obtain ⟨fs, hr, hrun, hended, hW, hsame⟩ := X0.leave (v := some (.int (0 : Int32))) (fun h => by rw [Bd.returns] at h; cases h)
                refine ⟨_, _, pre72 _ ?_, hrun, hended, _, _, rfl, ?_, ⟨_, rfl⟩, hW, hsame.mono (by decide) (by decide)⟩
                · show Steps p.tables e below (s₁.setTop (mkF m 60 #[.val (.int p1)] [(.int (134 : Int32)), (.int p1)])) _
                  refine XS.icmpYes X0.here hx rfl (pc0 := 60) (pc' := 72) rfl (hb hby d2_60) rfl (tlt hc60_71).1 (by decide) (by decide) ?_
                  refine XS.iconst X0.here hx rfl (hb hby d2_72) ?_
                  exact retN X0 hx (t := .boolean) Bd.returns (by simp) (hb hby d2_73) hr
                · show Q_rm2 Z p1 h0 n0 _ s₁.heap _
                  rw [e0]
                  exact ⟨(own_rc0 (by (unfold own_P; have := own_lt (a := (p1).toInt) (b := 1) hc2_43 rfl rfl; have := own_lt (a := (p1).toInt) (b := 11) hc16_45 rfl rfl; have := own_nlt (a := (p1).toInt) (b := 14) hc30_47 rfl rfl; have := own_lt (a := 31) (b := (p1).toInt) hc36_61 rfl rfl; have := own_nlt (a := (p1).toInt) (b := 127) hc44_63 rfl rfl; have := own_lt (a := 132) (b := (p1).toInt) hc51_69 rfl rfl; have := own_lt (a := (p1).toInt) (b := 134) hc60_71 rfl rfl; omega))), N0, rfl⟩
              · have pre74 : ∀ t, Steps p.tables e below (s₁.setTop (mkF m 67 #[.val (.int p1)] [(.int (159 : Int32)), (.int p1)])) t → Steps p.tables e below (s₁.setTop (entryFrame m #[(.int p1)] 1)) t := by
                  intro t kt
                  refine pre72 _ ?_
                  show Steps p.tables e below (s₁.setTop (mkF m 60 #[.val (.int p1)] [(.int (134 : Int32)), (.int p1)])) _
                  refine XS.icmpNo X0.here hx rfl (hb hby d2_60) rfl (flt hc60_71).1 ?_
                  refine XS.iloadN X0.here hx rfl (hb hby d2_63) rfl ?_
                  refine XS.sipush X0.here hx rfl (hb hby d2_64) ?_
                  exact kt
                by_cases hc67_73 : (159 : Int32) < p1
                · obtain ⟨fs, hr, hrun, hended, hW, hsame⟩ := X0.leave (v := some (.int (0 : Int32))) (fun h => by rw [Bd.returns] at h; cases h)
                  refine ⟨_, _, pre74 _ ?_, hrun, hended, _, _, rfl, ?_, ⟨_, rfl⟩, hW, hsame.mono (by decide) (by decide)⟩
                  · show Steps p.tables e below (s₁.setTop (mkF m 67 #[.val (.int p1)] [(.int (159 : Int32)), (.int p1)])) _
                    refine XS.icmpYes X0.here hx rfl (pc0 := 67) (pc' := 72) rfl (hb hby d2_67) rfl (tlt hc67_73).2.2.1 (by decide) (by decide) ?_
                    show Steps p.tables e below (s₁.setTop (mkF m 72 #[.val (.int p1)] [])) _
                    refine XS.iconst X0.here hx rfl (hb hby d2_72) ?_
                    exact retN X0 hx (t := .boolean) Bd.returns (by simp) (hb hby d2_73) hr
                  · show Q_rm2 Z p1 h0 n0 _ s₁.heap _
                    rw [e0]
                    exact ⟨(own_rc0 (by (unfold own_P; have := own_lt (a := (p1).toInt) (b := 1) hc2_43 rfl rfl; have := own_lt (a := (p1).toInt) (b := 11) hc16_45 rfl rfl; have := own_nlt (a := (p1).toInt) (b := 14) hc30_47 rfl rfl; have := own_lt (a := 31) (b := (p1).toInt) hc36_61 rfl rfl; have := own_nlt (a := (p1).toInt) (b := 127) hc44_63 rfl rfl; have := own_lt (a := 132) (b := (p1).toInt) hc51_69 rfl rfl; have := own_nlt (a := (p1).toInt) (b := 134) hc60_71 rfl rfl; have := own_lt (a := 159) (b := (p1).toInt) hc67_73 rfl rfl; omega))), N0, rfl⟩
                · obtain ⟨fs, hr, hrun, hended, hW, hsame⟩ := X0.leave (v := some (.int (1 : Int32))) (fun h => by rw [Bd.returns] at h; cases h)
                  refine ⟨_, _, pre74 _ ?_, hrun, hended, _, _, rfl, ?_, ⟨_, rfl⟩, hW, hsame.mono (by decide) (by decide)⟩
                  · show Steps p.tables e below (s₁.setTop (mkF m 67 #[.val (.int p1)] [(.int (159 : Int32)), (.int p1)])) _
                    refine XS.icmpNo X0.here hx rfl (hb hby d2_67) rfl (flt hc67_73).2.2.1 ?_
                    show Steps p.tables e below (s₁.setTop (mkF m 70 #[.val (.int p1)] [])) _
                    refine XS.iconst X0.here hx rfl (hb hby d2_70) ?_
                    exact retN X0 hx (t := .boolean) Bd.returns (by simp) (hb hby d2_71) hr
                  · show Q_rm2 Z p1 h0 n0 _ s₁.heap _
                    rw [e0]
                    exact ⟨(own_rc1 (by (unfold own_P; have := own_lt (a := (p1).toInt) (b := 1) hc2_43 rfl rfl; have := own_lt (a := (p1).toInt) (b := 11) hc16_45 rfl rfl; have := own_nlt (a := (p1).toInt) (b := 14) hc30_47 rfl rfl; have := own_lt (a := 31) (b := (p1).toInt) hc36_61 rfl rfl; have := own_nlt (a := (p1).toInt) (b := 127) hc44_63 rfl rfl; have := own_lt (a := 132) (b := (p1).toInt) hc51_69 rfl rfl; have := own_nlt (a := (p1).toInt) (b := 134) hc60_71 rfl rfl; have := own_nlt (a := 159) (b := (p1).toInt) hc67_73 rfl rfl; omega))), N0, rfl⟩
            · obtain ⟨fs, hr, hrun, hended, hW, hsame⟩ := X0.leave (v := some (.int (1 : Int32))) (fun h => by rw [Bd.returns] at h; cases h)
              refine ⟨_, _, pre70 _ ?_, hrun, hended, _, _, rfl, ?_, ⟨_, rfl⟩, hW, hsame.mono (by decide) (by decide)⟩
              · show Steps p.tables e below (s₁.setTop (mkF m 51 #[.val (.int p1)] [(.int (132 : Int32)), (.int p1)])) _
                refine XS.icmpNo X0.here hx rfl (hb hby d2_51) rfl (flt hc51_69).2.2.1 ?_
                refine XS.iconst X0.here hx rfl (hb hby d2_54) ?_
                exact retN X0 hx (t := .boolean) Bd.returns (by simp) (hb hby d2_55) hr
              · show Q_rm2 Z p1 h0 n0 _ s₁.heap _
                rw [e0]
                exact ⟨(own_rc1 (by (unfold own_P; have := own_lt (a := (p1).toInt) (b := 1) hc2_43 rfl rfl; have := own_lt (a := (p1).toInt) (b := 11) hc16_45 rfl rfl; have := own_nlt (a := (p1).toInt) (b := 14) hc30_47 rfl rfl; have := own_lt (a := 31) (b := (p1).toInt) hc36_61 rfl rfl; have := own_nlt (a := (p1).toInt) (b := 127) hc44_63 rfl rfl; have := own_nlt (a := 132) (b := (p1).toInt) hc51_69 rfl rfl; omega))), N0, rfl⟩
        · obtain ⟨fs, hr, hrun, hended, hW, hsame⟩ := X0.leave (v := some (.int (1 : Int32))) (fun h => by rw [Bd.returns] at h; cases h)
          refine ⟨_, _, pre62 _ ?_, hrun, hended, _, _, rfl, ?_, ⟨_, rfl⟩, hW, hsame.mono (by decide) (by decide)⟩
          · show Steps p.tables e below (s₁.setTop (mkF m 36 #[.val (.int p1)] [(.int (31 : Int32)), (.int p1)])) _
            refine XS.icmpNo X0.here hx rfl (hb hby d2_36) rfl (flt hc36_61).2.2.1 ?_
            show Steps p.tables e below (s₁.setTop (mkF m 39 #[.val (.int p1)] [])) _
            refine XS.iconst X0.here hx rfl (hb hby d2_39) ?_
            exact retN X0 hx (t := .boolean) Bd.returns (by simp) (hb hby d2_40) hr
          · show Q_rm2 Z p1 h0 n0 _ s₁.heap _
            rw [e0]
            exact ⟨(own_rc1 (by (unfold own_P; have := own_lt (a := (p1).toInt) (b := 1) hc2_43 rfl rfl; have := own_lt (a := (p1).toInt) (b := 11) hc16_45 rfl rfl; have := own_nlt (a := (p1).toInt) (b := 14) hc30_47 rfl rfl; have := own_nlt (a := 31) (b := (p1).toInt) hc36_61 rfl rfl; omega))), N0, rfl⟩
    · have pre76 : ∀ t, Steps p.tables e below (s₁.setTop (mkF m 22 #[.val (.int p1)] [(.int (12 : Int32)), (.int p1)])) t → Steps p.tables e below (s₁.setTop (entryFrame m #[(.int p1)] 1)) t := by
        intro t kt
        refine pre46 _ ?_
        show Steps p.tables e below (s₁.setTop (mkF m 16 #[.val (.int p1)] [(.int (11 : Int32)), (.int p1)])) _
        refine XS.icmpNo X0.here hx rfl (hb hby d2_16) rfl (flt hc16_45).1 ?_
        refine XS.iloadN X0.here hx rfl (hb hby d2_19) rfl ?_
        refine XS.bipush X0.here hx rfl (hb hby d2_20) ?_
        show Steps p.tables e below (s₁.setTop (mkF m 22 #[.val (.int p1)] [(.int (12 : Int32)), (.int p1)])) _
        exact kt
      by_cases hc22_75 : (12 : Int32) < p1
      · have pre78 : ∀ t, Steps p.tables e below (s₁.setTop (mkF m 30 #[.val (.int p1)] [(.int (14 : Int32)), (.int p1)])) t → Steps p.tables e below (s₁.setTop (entryFrame m #[(.int p1)] 1)) t := by
          intro t kt
          refine pre76 _ ?_
          show Steps p.tables e below (s₁.setTop (mkF m 22 #[.val (.int p1)] [(.int (12 : Int32)), (.int p1)])) _
          refine XS.icmpYes X0.here hx rfl (pc0 := 22) (pc' := 27) rfl (hb hby d2_22) rfl (tlt hc22_75).2.2.1 (by decide) (by decide) ?_
          refine XS.iloadN X0.here hx rfl (hb hby d2_27) rfl ?_
          refine XS.bipush X0.here hx rfl (hb hby d2_28) ?_
          exact kt
        by_cases hc30_77 : p1 < (14 : Int32)
        · have pre80 : ∀ t, Steps p.tables e below (s₁.setTop (mkF m 44 #[.val (.int p1)] [(.int (127 : Int32)), (.int p1)])) t → Steps p.tables e below (s₁.setTop (entryFrame m #[(.int p1)] 1)) t := by
            intro t kt
            refine pre78 _ ?_
            show Steps p.tables e below (s₁.setTop (mkF m 30 #[.val (.int p1)] [(.int (14 : Int32)), (.int p1)])) _
            refine XS.icmpYes X0.here hx rfl (pc0 := 30) (pc' := 41) rfl (hb hby d2_30) rfl (tlt hc30_77).1 (by decide) (by decide) ?_
            show Steps p.tables e below (s₁.setTop (mkF m 41 #[.val (.int p1)] [])) _
            refine XS.iloadN X0.here hx rfl (hb hby d2_41) rfl ?_
            refine XS.bipush X0.here hx rfl (hb hby d2_42) ?_
            exact kt
          by_cases hc44_79 : p1 < (127 : Int32)
          · have pre82 : ∀ t, Steps p.tables e below (s₁.setTop (mkF m 60 #[.val (.int p1)] [(.int (134 : Int32)), (.int p1)])) t → Steps p.tables e below (s₁.setTop (entryFrame m #[(.int p1)] 1)) t := by
              intro t kt
              refine pre80 _ ?_
              show Steps p.tables e below (s₁.setTop (mkF m 44 #[.val (.int p1)] [(.int (127 : Int32)), (.int p1)])) _
              refine XS.icmpYes X0.here hx rfl (pc0 := 44) (pc' := 56) rfl (hb hby d2_44) rfl (tlt hc44_79).1 (by decide) (by decide) ?_
              refine XS.iloadN X0.here hx rfl (hb hby d2_56) rfl ?_
              show Steps p.tables e below (s₁.setTop (mkF m 57 #[.val (.int p1)] [(.int p1)])) _
              refine XS.sipush X0.here hx rfl (hb hby d2_57) ?_
              exact kt
            by_cases hc60_81 : p1 < (134 : Int32)
            · obtain ⟨fs, hr, hrun, hended, hW, hsame⟩ := X0.leave (v := some (.int (0 : Int32))) (fun h => by rw [Bd.returns] at h; cases h)
              refine ⟨_, _, pre82 _ ?_, hrun, hended, _, _, rfl, ?_, ⟨_, rfl⟩, hW, hsame.mono (by decide) (by decide)⟩
              · show Steps p.tables e below (s₁.setTop (mkF m 60 #[.val (.int p1)] [(.int (134 : Int32)), (.int p1)])) _
                refine XS.icmpYes X0.here hx rfl (pc0 := 60) (pc' := 72) rfl (hb hby d2_60) rfl (tlt hc60_81).1 (by decide) (by decide) ?_
                refine XS.iconst X0.here hx rfl (hb hby d2_72) ?_
                exact retN X0 hx (t := .boolean) Bd.returns (by simp) (hb hby d2_73) hr
              · show Q_rm2 Z p1 h0 n0 _ s₁.heap _
                rw [e0]
                exact ⟨(own_rc0 (by (unfold own_P; have := own_lt (a := (p1).toInt) (b := 1) hc2_43 rfl rfl; have := own_nlt (a := (p1).toInt) (b := 11) hc16_45 rfl rfl; have := own_lt (a := 12) (b := (p1).toInt) hc22_75 rfl rfl; have := own_lt (a := (p1).toInt) (b := 14) hc30_77 rfl rfl; have := own_lt (a := (p1).toInt) (b := 127) hc44_79 rfl rfl; have := own_lt (a := (p1).toInt) (b := 134) hc60_81 rfl rfl; omega))), N0, rfl⟩
            · have pre84 : ∀ t, Steps p.tables e below (s₁.setTop (mkF m 67 #[.val (.int p1)] [(.int (159 : Int32)), (.int p1)])) t → Steps p.tables e below (s₁.setTop (entryFrame m #[(.int p1)] 1)) t := by
                intro t kt
                refine pre82 _ ?_
                show Steps p.tables e below (s₁.setTop (mkF m 60 #[.val (.int p1)] [(.int (134 : Int32)), (.int p1)])) _
                refine XS.icmpNo X0.here hx rfl (hb hby d2_60) rfl (flt hc60_81).1 ?_
                refine XS.iloadN X0.here hx rfl (hb hby d2_63) rfl ?_
                refine XS.sipush X0.here hx rfl (hb hby d2_64) ?_
                show Steps p.tables e below (s₁.setTop (mkF m 67 #[.val (.int p1)] [(.int (159 : Int32)), (.int p1)])) _
                exact kt
              by_cases hc67_83 : (159 : Int32) < p1
              · obtain ⟨fs, hr, hrun, hended, hW, hsame⟩ := X0.leave (v := some (.int (0 : Int32))) (fun h => by rw [Bd.returns] at h; cases h)
                refine ⟨_, _, pre84 _ ?_, hrun, hended, _, _, rfl, ?_, ⟨_, rfl⟩, hW, hsame.mono (by decide) (by decide)⟩
                · show Steps p.tables e below (s₁.setTop (mkF m 67 #[.val (.int p1)] [(.int (159 : Int32)), (.int p1)])) _
                  refine XS.icmpYes X0.here hx rfl (pc0 := 67) (pc' := 72) rfl (hb hby d2_67) rfl (tlt hc67_83).2.2.1 (by decide) (by decide) ?_
                  refine XS.iconst X0.here hx rfl (hb hby d2_72) ?_
                  exact retN X0 hx (t := .boolean) Bd.returns (by simp) (hb hby d2_73) hr
                · show Q_rm2 Z p1 h0 n0 _ s₁.heap _
                  rw [e0]
                  exact ⟨(own_rc0 (by (unfold own_P; have := own_lt (a := (p1).toInt) (b := 1) hc2_43 rfl rfl; have := own_nlt (a := (p1).toInt) (b := 11) hc16_45 rfl rfl; have := own_lt (a := 12) (b := (p1).toInt) hc22_75 rfl rfl; have := own_lt (a := (p1).toInt) (b := 14) hc30_77 rfl rfl; have := own_lt (a := (p1).toInt) (b := 127) hc44_79 rfl rfl; have := own_nlt (a := (p1).toInt) (b := 134) hc60_81 rfl rfl; have := own_lt (a := 159) (b := (p1).toInt) hc67_83 rfl rfl; omega))), N0, rfl⟩
              · obtain ⟨fs, hr, hrun, hended, hW, hsame⟩ := X0.leave (v := some (.int (1 : Int32))) (fun h => by rw [Bd.returns] at h; cases h)
                refine ⟨_, _, pre84 _ ?_, hrun, hended, _, _, rfl, ?_, ⟨_, rfl⟩, hW, hsame.mono (by decide) (by decide)⟩
                · show Steps p.tables e below (s₁.setTop (mkF m 67 #[.val (.int p1)] [(.int (159 : Int32)), (.int p1)])) _
                  refine XS.icmpNo X0.here hx rfl (hb hby d2_67) rfl (flt hc67_83).2.2.1 ?_
                  refine XS.iconst X0.here hx rfl (hb hby d2_70) ?_
                  exact retN X0 hx (t := .boolean) Bd.returns (by simp) (hb hby d2_71) hr
                · show Q_rm2 Z p1 h0 n0 _ s₁.heap _
                  rw [e0]
                  exact ⟨(own_rc1 (by (unfold own_P; have := own_lt (a := (p1).toInt) (b := 1) hc2_43 rfl rfl; have := own_nlt (a := (p1).toInt) (b := 11) hc16_45 rfl rfl; have := own_lt (a := 12) (b := (p1).toInt) hc22_75 rfl rfl; have := own_lt (a := (p1).toInt) (b := 14) hc30_77 rfl rfl; have := own_lt (a := (p1).toInt) (b := 127) hc44_79 rfl rfl; have := own_nlt (a := (p1).toInt) (b := 134) hc60_81 rfl rfl; have := own_nlt (a := 159) (b := (p1).toInt) hc67_83 rfl rfl; omega))), N0, rfl⟩
          · have pre86 : ∀ t, Steps p.tables e below (s₁.setTop (mkF m 51 #[.val (.int p1)] [(.int (132 : Int32)), (.int p1)])) t → Steps p.tables e below (s₁.setTop (entryFrame m #[(.int p1)] 1)) t := by
              intro t kt
              refine pre80 _ ?_
              show Steps p.tables e below (s₁.setTop (mkF m 44 #[.val (.int p1)] [(.int (127 : Int32)), (.int p1)])) _
              refine XS.icmpNo X0.here hx rfl (hb hby d2_44) rfl (flt hc44_79).1 ?_
              refine XS.iloadN X0.here hx rfl (hb hby d2_47) rfl ?_
              show Steps p.tables e below (s₁.setTop (mkF m 48 #[.val (.int p1)] [(.int p1)])) _
              refine XS.sipush X0.here hx rfl (hb hby d2_48) ?_
              exact kt
            by_cases hc51_85 : (132 : Int32) < p1
            · have pre88 : ∀ t, Steps p.tables e below (s₁.setTop (mkF m 60 #[.val (.int p1)] [(.int (134 : Int32)), (.int p1)])) t → Steps p.tables e below (s₁.setTop (entryFrame m #[(.int p1)] 1)) t := by
                intro t kt
                refine pre86 _ ?_
                show Steps p.tables e below (s₁.setTop (mkF m 51 #[.val (.int p1)] [(.int (132 : Int32)), (.int p1)])) _
                refine XS.icmpYes X0.here hx rfl (pc0 := 51) (pc' := 56) rfl (hb hby d2_51) rfl (tlt hc51_85).2.2.1 (by decide) (by decide) ?_
                refine XS.iloadN X0.here hx rfl (hb hby d2_56) rfl ?_
                refine XS.sipush X0.here hx rfl (hb hby d2_57) ?_
                show Steps p.tables e below (s₁.setTop (mkF m 60 #[.val (.int p1)] [(.int (134 : Int32)), (.int p1)])) _
                exact kt
              by_cases hc60_87 : p1 < (134 : Int32)
              · obtain ⟨fs, hr, hrun, hended, hW, hsame⟩ := X0.leave (v := some (.int (0 : Int32))) (fun h => by rw [Bd.returns] at h; cases h)
                refine ⟨_, _, pre88 _ ?_, hrun, hended, _, _, rfl, ?_, ⟨_, rfl⟩, hW, hsame.mono (by decide) (by decide)⟩
                · show Steps p.tables e below (s₁.setTop (mkF m 60 #[.val (.int p1)] [(.int (134 : Int32)), (.int p1)])) _
                  refine XS.icmpYes X0.here hx rfl (pc0 := 60) (pc' := 72) rfl (hb hby d2_60) rfl (tlt hc60_87).1 (by decide) (by decide) ?_
                  refine XS.iconst X0.here hx rfl (hb hby d2_72) ?_
                  exact retN X0 hx (t := .boolean) Bd.returns (by simp) (hb hby d2_73) hr
                · show Q_rm2 Z p1 h0 n0 _ s₁.heap _
                  rw [e0]
                  exact ⟨(own_rc0 (by (unfold own_P; have := own_lt (a := (p1).toInt) (b := 1) hc2_43 rfl rfl; have := own_nlt (a := (p1).toInt) (b := 11) hc16_45 rfl rfl; have := own_lt (a := 12) (b := (p1).toInt) hc22_75 rfl rfl; have := own_lt (a := (p1).toInt) (b := 14) hc30_77 rfl rfl; have := own_nlt (a := (p1).toInt) (b := 127) hc44_79 rfl rfl; have := own_lt (a := 132) (b := (p1).toInt) hc51_85 rfl rfl; have := own_lt (a := (p1).toInt) (b := 134) hc60_87 rfl rfl; omega))), N0, rfl⟩
              · have pre90 : ∀ t, Steps p.tables e below (s₁.setTop (mkF m 67 #[.val (.int p1)] [(.int (159 : Int32)), (.int p1)])) t → Steps p.tables e below (s₁.setTop (entryFrame m #[(.int p1)] 1)) t := by
                  intro t kt
                  refine pre88 _ ?_
                  show Steps p.tables e below (s₁.setTop (mkF m 60 #[.val (.int p1)] [(.int (134 : Int32)), (.int p1)])) _
                  refine XS.icmpNo X0.here hx rfl (hb hby d2_60) rfl (flt hc60_87).1 ?_
                  refine XS.iloadN X0.here hx rfl (hb hby d2_63) rfl ?_
                  refine XS.sipush X0.here hx rfl (hb hby d2_64) ?_
                  exact kt
                by_cases hc67_89 : (159 : Int32) < p1
                · obtain ⟨fs, hr, hrun, hended, hW, hsame⟩ := X0.leave (v := some (.int (0 : Int32))) (fun h => by rw [Bd.returns] at h; cases h)
                  refine ⟨_, _, pre90 _ ?_, hrun, hended, _, _, rfl, ?_, ⟨_, rfl⟩, hW, hsame.mono (by decide) (by decide)⟩
                  · show Steps p.tables e below (s₁.setTop (mkF m 67 #[.val (.int p1)] [(.int (159 : Int32)), (.int p1)])) _
                    refine XS.icmpYes X0.here hx rfl (pc0 := 67) (pc' := 72) rfl (hb hby d2_67) rfl (tlt hc67_89).2.2.1 (by decide) (by decide) ?_
                    show Steps p.tables e below (s₁.setTop (mkF m 72 #[.val (.int p1)] [])) _
                    refine XS.iconst X0.here hx rfl (hb hby d2_72) ?_
                    exact retN X0 hx (t := .boolean) Bd.returns (by simp) (hb hby d2_73) hr
                  · show Q_rm2 Z p1 h0 n0 _ s₁.heap _
                    rw [e0]
                    exact ⟨(own_rc0 (by (unfold own_P; have := own_lt (a := (p1).toInt) (b := 1) hc2_43 rfl rfl; have := own_nlt (a := (p1).toInt) (b := 11) hc16_45 rfl rfl; have := own_lt (a := 12) (b := (p1).toInt) hc22_75 rfl rfl; have := own_lt (a := (p1).toInt) (b := 14) hc30_77 rfl rfl; have := own_nlt (a := (p1).toInt) (b := 127) hc44_79 rfl rfl; have := own_lt (a := 132) (b := (p1).toInt) hc51_85 rfl rfl; have := own_nlt (a := (p1).toInt) (b := 134) hc60_87 rfl rfl; have := own_lt (a := 159) (b := (p1).toInt) hc67_89 rfl rfl; omega))), N0, rfl⟩
                · obtain ⟨fs, hr, hrun, hended, hW, hsame⟩ := X0.leave (v := some (.int (1 : Int32))) (fun h => by rw [Bd.returns] at h; cases h)
                  refine ⟨_, _, pre90 _ ?_, hrun, hended, _, _, rfl, ?_, ⟨_, rfl⟩, hW, hsame.mono (by decide) (by decide)⟩
                  · show Steps p.tables e below (s₁.setTop (mkF m 67 #[.val (.int p1)] [(.int (159 : Int32)), (.int p1)])) _
                    refine XS.icmpNo X0.here hx rfl (hb hby d2_67) rfl (flt hc67_89).2.2.1 ?_
                    show Steps p.tables e below (s₁.setTop (mkF m 70 #[.val (.int p1)] [])) _
                    refine XS.iconst X0.here hx rfl (hb hby d2_70) ?_
                    exact retN X0 hx (t := .boolean) Bd.returns (by simp) (hb hby d2_71) hr
                  · show Q_rm2 Z p1 h0 n0 _ s₁.heap _
                    rw [e0]
                    exact ⟨(own_rc1 (by (unfold own_P; have := own_lt (a := (p1).toInt) (b := 1) hc2_43 rfl rfl; have := own_nlt (a := (p1).toInt) (b := 11) hc16_45 rfl rfl; have := own_lt (a := 12) (b := (p1).toInt) hc22_75 rfl rfl; have := own_lt (a := (p1).toInt) (b := 14) hc30_77 rfl rfl; have := own_nlt (a := (p1).toInt) (b := 127) hc44_79 rfl rfl; have := own_lt (a := 132) (b := (p1).toInt) hc51_85 rfl rfl; have := own_nlt (a := (p1).toInt) (b := 134) hc60_87 rfl rfl; have := own_nlt (a := 159) (b := (p1).toInt) hc67_89 rfl rfl; omega))), N0, rfl⟩
            · obtain ⟨fs, hr, hrun, hended, hW, hsame⟩ := X0.leave (v := some (.int (1 : Int32))) (fun h => by rw [Bd.returns] at h; cases h)
              refine ⟨_, _, pre86 _ ?_, hrun, hended, _, _, rfl, ?_, ⟨_, rfl⟩, hW, hsame.mono (by decide) (by decide)⟩
              · show Steps p.tables e below (s₁.setTop (mkF m 51 #[.val (.int p1)] [(.int (132 : Int32)), (.int p1)])) _
                refine XS.icmpNo X0.here hx rfl (hb hby d2_51) rfl (flt hc51_85).2.2.1 ?_
                refine XS.iconst X0.here hx rfl (hb hby d2_54) ?_
                exact retN X0 hx (t := .boolean) Bd.returns (by simp) (hb hby d2_55) hr
              · show Q_rm2 Z p1 h0 n0 _ s₁.heap _
                rw [e0]
                exact ⟨(own_rc1 (by (unfold own_P; have := own_lt (a := (p1).toInt) (b := 1) hc2_43 rfl rfl; have := own_nlt (a := (p1).toInt) (b := 11) hc16_45 rfl rfl; have := own_lt (a := 12) (b := (p1).toInt) hc22_75 rfl rfl; have := own_lt (a := (p1).toInt) (b := 14) hc30_77 rfl rfl; have := own_nlt (a := (p1).toInt) (b := 127) hc44_79 rfl rfl; have := own_nlt (a := 132) (b := (p1).toInt) hc51_85 rfl rfl; omega))), N0, rfl⟩
        · have pre92 : ∀ t, Steps p.tables e below (s₁.setTop (mkF m 36 #[.val (.int p1)] [(.int (31 : Int32)), (.int p1)])) t → Steps p.tables e below (s₁.setTop (entryFrame m #[(.int p1)] 1)) t := by
            intro t kt
            refine pre78 _ ?_
            show Steps p.tables e below (s₁.setTop (mkF m 30 #[.val (.int p1)] [(.int (14 : Int32)), (.int p1)])) _
            refine XS.icmpNo X0.here hx rfl (hb hby d2_30) rfl (flt hc30_77).1 ?_
            show Steps p.tables e below (s₁.setTop (mkF m 33 #[.val (.int p1)] [])) _
            refine XS.iloadN X0.here hx rfl (hb hby d2_33) rfl ?_
            refine XS.bipush X0.here hx rfl (hb hby d2_34) ?_
            exact kt
          by_cases hc36_91 : (31 : Int32) < p1
          · have pre94 : ∀ t, Steps p.tables e below (s₁.setTop (mkF m 44 #[.val (.int p1)] [(.int (127 : Int32)), (.int p1)])) t → Steps p.tables e below (s₁.setTop (entryFrame m #[(.int p1)] 1)) t := by
              intro t kt
              refine pre92 _ ?_
              show Steps p.tables e below (s₁.setTop (mkF m 36 #[.val (.int p1)] [(.int (31 : Int32)), (.int p1)])) _
              refine XS.icmpYes X0.here hx rfl (pc0 := 36) (pc' := 41) rfl (hb hby d2_36) rfl (tlt hc36_91).2.2.1 (by decide) (by decide) ?_
              refine XS.iloadN X0.here hx rfl (hb hby d2_41) rfl ?_
              show Steps p.tables e below (s₁.setTop (mkF m 42 #[.val (.int p1)] [(.int p1)])) _
              refine XS.bipush X0.here hx rfl (hb hby d2_42) ?_
              exact kt
            by_cases hc44_93 : p1 < (127 : Int32)
            · have pre96 : ∀ t, Steps p.tables e below (s₁.setTop (mkF m 60 #[.val (.int p1)] [(.int (134 : Int32)), (.int p1)])) t → Steps p.tables e below (s₁.setTop (entryFrame m #[(.int p1)] 1)) t := by
                intro t kt
                refine pre94 _ ?_
                show Steps p.tables e below (s₁.setTop (mkF m 44 #[.val (.int p1)] [(.int (127 : Int32)), (.int p1)])) _
                refine XS.icmpYes X0.here hx rfl (pc0 := 44) (pc' := 56) rfl (hb hby d2_44) rfl (tlt hc44_93).1 (by decide) (by decide) ?_
                refine XS.iloadN X0.here hx rfl (hb hby d2_56) rfl ?_
                refine XS.sipush X0.here hx rfl (hb hby d2_57) ?_
                show Steps p.tables e below (s₁.setTop (mkF m 60 #[.val (.int p1)] [(.int (134 : Int32)), (.int p1)])) _
                exact kt
              by_cases hc60_95 : p1 < (134 : Int32)
              · obtain ⟨fs, hr, hrun, hended, hW, hsame⟩ := X0.leave (v := some (.int (0 : Int32))) (fun h => by rw [Bd.returns] at h; cases h)
                refine ⟨_, _, pre96 _ ?_, hrun, hended, _, _, rfl, ?_, ⟨_, rfl⟩, hW, hsame.mono (by decide) (by decide)⟩
                · show Steps p.tables e below (s₁.setTop (mkF m 60 #[.val (.int p1)] [(.int (134 : Int32)), (.int p1)])) _
                  refine XS.icmpYes X0.here hx rfl (pc0 := 60) (pc' := 72) rfl (hb hby d2_60) rfl (tlt hc60_95).1 (by decide) (by decide) ?_
                  refine XS.iconst X0.here hx rfl (hb hby d2_72) ?_
                  exact retN X0 hx (t := .boolean) Bd.returns (by simp) (hb hby d2_73) hr
                · show Q_rm2 Z p1 h0 n0 _ s₁.heap _
                  rw [e0]
                  exact ⟨(own_rc0 (by (unfold own_P; have := own_lt (a := (p1).toInt) (b := 1) hc2_43 rfl rfl; have := own_nlt (a := (p1).toInt) (b := 11) hc16_45 rfl rfl; have := own_lt (a := 12) (b := (p1).toInt) hc22_75 rfl rfl; have := own_nlt (a := (p1).toInt) (b := 14) hc30_77 rfl rfl; have := own_lt (a := 31) (b := (p1).toInt) hc36_91 rfl rfl; have := own_lt (a := (p1).toInt) (b := 127) hc44_93 rfl rfl; have := own_lt (a := (p1).toInt) (b := 134) hc60_95 rfl rfl; omega))), N0, rfl⟩
              · have pre98 : ∀ t, Steps p.tables e below (s₁.setTop (mkF m 67 #[.val (.int p1)] [(.int (159 : Int32)), (.int p1)])) t → Steps p.tables e below (s₁.setTop (entryFrame m #[(.int p1)] 1)) t := by
                  intro t kt
                  refine pre96 _ ?_
                  show Steps p.tables e below (s₁.setTop (mkF m 60 #[.val (.int p1)] [(.int (134 : Int32)), (.int p1)])) _
                  refine XS.icmpNo X0.here hx rfl (hb hby d2_60) rfl (flt hc60_95).1 ?_
                  refine XS.iloadN X0.here hx rfl (hb hby d2_63) rfl ?_
                  refine XS.sipush X0.here hx rfl (hb hby d2_64) ?_
                  exact kt
                by_cases hc67_97 : (159 : Int32) < p1
                · obtain ⟨fs, hr, hrun, hended, hW, hsame⟩ := X0.leave (v := some (.int (0 : Int32))) (fun h => by rw [Bd.returns] at h; cases h)
                  refine ⟨_, _, pre98 _ ?_, hrun, hended, _, _, rfl, ?_, ⟨_, rfl⟩, hW, hsame.mono (by decide) (by decide)⟩
                  · show Steps p.tables e below (s₁.setTop (mkF m 67 #[.val (.int p1)] [(.int (159 : Int32)), (.int p1)])) _
                    refine XS.icmpYes X0.here hx rfl (pc0 := 67) (pc' := 72) rfl (hb hby d2_67) rfl (tlt hc67_97).2.2.1 (by decide) (by decide) ?_
                    show Steps p.tables e below (s₁.setTop (mkF m 72 #[.val (.int p1)] [])) _
                    refine XS.iconst X0.here hx rfl (hb hby d2_72) ?_
                    exact retN X0 hx (t := .boolean) Bd.returns (by simp) (hb hby d2_73) hr
                  · show Q_rm2 Z p1 h0 n0 _ s₁.heap _
                    rw [e0]
                    exact ⟨(own_rc0 (by (unfold own_P; have := own_lt (a := (p1).toInt) (b := 1) hc2_43 rfl rfl; have := own_nlt (a := (p1).toInt) (b := 11) hc16_45 rfl rfl; have := own_lt (a := 12) (b := (p1).toInt) hc22_75 rfl rfl; have := own_nlt (a := (p1).toInt) (b := 14) hc30_77 rfl rfl; have := own_lt (a := 31) (b := (p1).toInt) hc36_91 rfl rfl; have := own_lt (a := (p1).toInt) (b := 127) hc44_93 rfl rfl; have := own_nlt (a := (p1).toInt) (b := 134) hc60_95 rfl rfl; have := own_lt (a := 159) (b := (p1).toInt) hc67_97 rfl rfl; omega))), N0, rfl⟩
                · obtain ⟨fs, hr, hrun, hended, hW, hsame⟩ := X0.leave (v := some (.int (1 : Int32))) (fun h => by rw [Bd.returns] at h; cases h)
                  refine ⟨_, _, pre98 _ ?_, hrun, hended, _, _, rfl, ?_, ⟨_, rfl⟩, hW, hsame.mono (by decide) (by decide)⟩
                  · show Steps p.tables e below (s₁.setTop (mkF m 67 #[.val (.int p1)] [(.int (159 : Int32)), (.int p1)])) _
                    refine XS.icmpNo X0.here hx rfl (hb hby d2_67) rfl (flt hc67_97).2.2.1 ?_
                    show Steps p.tables e below (s₁.setTop (mkF m 70 #[.val (.int p1)] [])) _
                    refine XS.iconst X0.here hx rfl (hb hby d2_70) ?_
                    exact retN X0 hx (t := .boolean) Bd.returns (by simp) (hb hby d2_71) hr
                  · show Q_rm2 Z p1 h0 n0 _ s₁.heap _
                    rw [e0]
                    exact ⟨(own_rc1 (by (unfold own_P; have := own_lt (a := (p1).toInt) (b := 1) hc2_43 rfl rfl; have := own_nlt (a := (p1).toInt) (b := 11) hc16_45 rfl rfl; have := own_lt (a := 12) (b := (p1).toInt) hc22_75 rfl rfl; have := own_nlt (a := (p1).toInt) (b := 14) hc30_77 rfl rfl; have := own_lt (a := 31) (b := (p1).toInt) hc36_91 rfl rfl; have := own_lt (a := (p1).toInt) (b := 127) hc44_93 rfl rfl; have := own_nlt (a := (p1).toInt) (b := 134) hc60_95 rfl rfl; have := own_nlt (a := 159) (b := (p1).toInt) hc67_97 rfl rfl; omega))), N0, rfl⟩
            · have pre100 : ∀ t, Steps p.tables e below (s₁.setTop (mkF m 51 #[.val (.int p1)] [(.int (132 : Int32)), (.int p1)])) t → Steps p.tables e below (s₁.setTop (entryFrame m #[(.int p1)] 1)) t := by
                intro t kt
                refine pre94 _ ?_
                show Steps p.tables e below (s₁.setTop (mkF m 44 #[.val (.int p1)] [(.int (127 : Int32)), (.int p1)])) _
                refine XS.icmpNo X0.here hx rfl (hb hby d2_44) rfl (flt hc44_93).1 ?_
                refine XS.iloadN X0.here hx rfl (hb hby d2_47) rfl ?_
                refine XS.sipush X0.here hx rfl (hb hby d2_48) ?_
                show Steps p.tables e below (s₁.setTop (mkF m 51 #[.val (.int p1)] [(.int (132 : Int32)), (.int p1)])) _
                exact kt
              by_cases hc51_99 : (132 : Int32) < p1
              · have pre102 : ∀ t, Steps p.tables e below (s₁.setTop (mkF m 60 #[.val (.int p1)] [(.int (134 : Int32)), (.int p1)])) t → Steps p.tables e below (s₁.setTop (entryFrame m #[(.int p1)] 1)) t := by
                  intro t kt
                  refine pre100 _ ?_
                  show Steps p.tables e below (s₁.setTop (mkF m 51 #[.val (.int p1)] [(.int (132 : Int32)), (.int p1)])) _
                  refine XS.icmpYes X0.here hx rfl (pc0 := 51) (pc' := 56) rfl (hb hby d2_51) rfl (tlt hc51_99).2.2.1 (by decide) (by decide) ?_
                  refine XS.iloadN X0.here hx rfl (hb hby d2_56) rfl ?_
                  refine XS.sipush X0.here hx rfl (hb hby d2_57) ?_
                  exact kt
                by_cases hc60_101 : p1 < (134 : Int32)
                · obtain ⟨fs, hr, hrun, hended, hW, hsame⟩ := X0.leave (v := some (.int (0 : Int32))) (fun h => by rw [Bd.returns] at h; cases h)
                  refine ⟨_, _, pre102 _ ?_, hrun, hended, _, _, rfl, ?_, ⟨_, rfl⟩, hW, hsame.mono (by decide) (by decide)⟩
                  · show Steps p.tables e below (s₁.setTop (mkF m 60 #[.val (.int p1)] [(.int (134 : Int32)), (.int p1)])) _
                    refine XS.icmpYes X0.here hx rfl (pc0 := 60) (pc' := 72) rfl (hb hby d2_60) rfl (tlt hc60_101).1 (by decide) (by decide) ?_
                    show Steps p.tables e below (s₁.setTop (mkF m 72 #[.val (.int p1)] [])) _
                    refine XS.iconst X0.here hx rfl (hb hby d2_72) ?_
                    exact retN X0 hx (t := .boolean) Bd.returns (by simp) (hb hby d2_73) hr
                  · show Q_rm2 Z p1 h0 n0 _ s₁.heap _
                    rw [e0]
                    exact ⟨(own_rc0 (by (unfold own_P; have := own_lt (a := (p1).toInt) (b := 1) hc2_43 rfl rfl; have := own_nlt (a := (p1).toInt) (b := 11) hc16_45 rfl rfl; have := own_lt (a := 12) (b := (p1).toInt) hc22_75 rfl rfl; have := own_nlt (a := (p1).toInt) (b := 14) hc30_77 rfl rfl; have := own_lt (a := 31) (b := (p1).toInt) hc36_91 rfl rfl; have := own_nlt (a := (p1).toInt) (b := 127) hc44_93 rfl rfl; have := own_lt (a := 132) (b := (p1).toInt) hc51_99 rfl rfl; have := own_lt (a := (p1).toInt) (b := 134) hc60_101 rfl rfl; omega))), N0, rfl⟩
                · have pre104 : ∀ t, Steps p.tables e below (s₁.setTop (mkF m 67 #[.val (.int p1)] [(.int (159 : Int32)), (.int p1)])) t → Steps p.tables e below (s₁.setTop (entryFrame m #[(.int p1)] 1)) t := by
                    intro t kt
                    refine pre102 _ ?_
                    show Steps p.tables e below (s₁.setTop (mkF m 60 #[.val (.int p1)] [(.int (134 : Int32)), (.int p1)])) _
                    refine XS.icmpNo X0.here hx rfl (hb hby d2_60) rfl (flt hc60_101).1 ?_
                    show Steps p.tables e below (s₁.setTop (mkF m 63 #[.val (.int p1)] [])) _
                    refine XS.iloadN X0.here hx rfl (hb hby d2_63) rfl ?_
                    refine XS.sipush X0.here hx rfl (hb hby d2_64) ?_
                    exact kt
                  by_cases hc67_103 : (159 : Int32) < p1
                  · obtain ⟨fs, hr, hrun, hended, hW, hsame⟩ := X0.leave (v := some (.int (0 : Int32))) (fun h => by rw [Bd.returns] at h; cases h)
                    refine ⟨_, _, pre104 _ ?_, hrun, hended, _, _, rfl, ?_, ⟨_, rfl⟩, hW, hsame.mono (by decide) (by decide)⟩
                    · show Steps p.tables e below (s₁.setTop (mkF m 67 #[.val (.int p1)] [(.int (159 : Int32)), (.int p1)])) _
                      refine XS.icmpYes X0.here hx rfl (pc0 := 67) (pc' := 72) rfl (hb hby d2_67) rfl (tlt hc67_103).2.2.1 (by decide) (by decide) ?_
                      refine XS.iconst X0.here hx rfl (hb hby d2_72) ?_
                      show Steps p.tables e below (s₁.setTop (mkF m 73 #[.val (.int p1)] [(.int (0 : Int32))])) _
                      exact retN X0 hx (t := .boolean) Bd.returns (by simp) (hb hby d2_73) hr
                    · show Q_rm2 Z p1 h0 n0 _ s₁.heap _
                      rw [e0]
                      exact ⟨(own_rc0 (by (unfold own_P; have := own_lt (a := (p1).toInt) (b := 1) hc2_43 rfl rfl; have := own_nlt (a := (p1).toInt) (b := 11) hc16_45 rfl rfl; have := own_lt (a := 12) (b := (p1).toInt) hc22_75 rfl rfl; have := own_nlt (a := (p1).toInt) (b := 14) hc30_77 rfl rfl; have := own_lt (a := 31) (b := (p1).toInt) hc36_91 rfl rfl; have := own_nlt (a := (p1).toInt) (b := 127) hc44_93 rfl rfl; have := own_lt (a := 132) (b := (p1).toInt) hc51_99 rfl rfl; have := own_nlt (a := (p1).toInt) (b := 134) hc60_101 rfl rfl; have := own_lt (a := 159) (b := (p1).toInt) hc67_103 rfl rfl; omega))), N0, rfl⟩
                  · obtain ⟨fs, hr, hrun, hended, hW, hsame⟩ := X0.leave (v := some (.int (1 : Int32))) (fun h => by rw [Bd.returns] at h; cases h)
                    refine ⟨_, _, pre104 _ ?_, hrun, hended, _, _, rfl, ?_, ⟨_, rfl⟩, hW, hsame.mono (by decide) (by decide)⟩
                    · show Steps p.tables e below (s₁.setTop (mkF m 67 #[.val (.int p1)] [(.int (159 : Int32)), (.int p1)])) _
                      refine XS.icmpNo X0.here hx rfl (hb hby d2_67) rfl (flt hc67_103).2.2.1 ?_
                      refine XS.iconst X0.here hx rfl (hb hby d2_70) ?_
                      show Steps p.tables e below (s₁.setTop (mkF m 71 #[.val (.int p1)] [(.int (1 : Int32))])) _
                      exact retN X0 hx (t := .boolean) Bd.returns (by simp) (hb hby d2_71) hr
                    · show Q_rm2 Z p1 h0 n0 _ s₁.heap _
                      rw [e0]
                      exact ⟨(own_rc1 (by (unfold own_P; have := own_lt (a := (p1).toInt) (b := 1) hc2_43 rfl rfl; have := own_nlt (a := (p1).toInt) (b := 11) hc16_45 rfl rfl; have := own_lt (a := 12) (b := (p1).toInt) hc22_75 rfl rfl; have := own_nlt (a := (p1).toInt) (b := 14) hc30_77 rfl rfl; have := own_lt (a := 31) (b := (p1).toInt) hc36_91 rfl rfl; have := own_nlt (a := (p1).toInt) (b := 127) hc44_93 rfl rfl; have := own_lt (a := 132) (b := (p1).toInt) hc51_99 rfl rfl; have := own_nlt (a := (p1).toInt) (b := 134) hc60_101 rfl rfl; have := own_nlt (a := 159) (b := (p1).toInt) hc67_103 rfl rfl; omega))), N0, rfl⟩
              · obtain ⟨fs, hr, hrun, hended, hW, hsame⟩ := X0.leave (v := some (.int (1 : Int32))) (fun h => by rw [Bd.returns] at h; cases h)
                refine ⟨_, _, pre100 _ ?_, hrun, hended, _, _, rfl, ?_, ⟨_, rfl⟩, hW, hsame.mono (by decide) (by decide)⟩
                · show Steps p.tables e below (s₁.setTop (mkF m 51 #[.val (.int p1)] [(.int (132 : Int32)), (.int p1)])) _
                  refine XS.icmpNo X0.here hx rfl (hb hby d2_51) rfl (flt hc51_99).2.2.1 ?_
                  refine XS.iconst X0.here hx rfl (hb hby d2_54) ?_
                  exact retN X0 hx (t := .boolean) Bd.returns (by simp) (hb hby d2_55) hr
                · show Q_rm2 Z p1 h0 n0 _ s₁.heap _
                  rw [e0]
                  exact ⟨(own_rc1 (by (unfold own_P; have := own_lt (a := (p1).toInt) (b := 1) hc2_43 rfl rfl; have := own_nlt (a := (p1).toInt) (b := 11) hc16_45 rfl rfl; have := own_lt (a := 12) (b := (p1).toInt) hc22_75 rfl rfl; have := own_nlt (a := (p1).toInt) (b := 14) hc30_77 rfl rfl; have := own_lt (a := 31) (b := (p1).toInt) hc36_91 rfl rfl; have := own_nlt (a := (p1).toInt) (b := 127) hc44_93 rfl rfl; have := own_nlt (a := 132) (b := (p1).toInt) hc51_99 rfl rfl; omega))), N0, rfl⟩
          · obtain ⟨fs, hr, hrun, hended, hW, hsame⟩ := X0.leave (v := some (.int (1 : Int32))) (fun h => by rw [Bd.returns] at h; cases h)
            refine ⟨_, _, pre92 _ ?_, hrun, hended, _, _, rfl, ?_, ⟨_, rfl⟩, hW, hsame.mono (by decide) (by decide)⟩
            · show Steps p.tables e below (s₁.setTop (mkF m 36 #[.val (.int p1)] [(.int (31 : Int32)), (.int p1)])) _
              refine XS.icmpNo X0.here hx rfl (hb hby d2_36) rfl (flt hc36_91).2.2.1 ?_
              refine XS.iconst X0.here hx rfl (hb hby d2_39) ?_
              show Steps p.tables e below (s₁.setTop (mkF m 40 #[.val (.int p1)] [(.int (1 : Int32))])) _
              exact retN X0 hx (t := .boolean) Bd.returns (by simp) (hb hby d2_40) hr
            · show Q_rm2 Z p1 h0 n0 _ s₁.heap _
              rw [e0]
              exact ⟨(own_rc1 (by (unfold own_P; have := own_lt (a := (p1).toInt) (b := 1) hc2_43 rfl rfl; have := own_nlt (a := (p1).toInt) (b := 11) hc16_45 rfl rfl; have := own_lt (a := 12) (b := (p1).toInt) hc22_75 rfl rfl; have := own_nlt (a := (p1).toInt) (b := 14) hc30_77 rfl rfl; have := own_nlt (a := 31) (b := (p1).toInt) hc36_91 rfl rfl; omega))), N0, rfl⟩
      · obtain ⟨fs, hr, hrun, hended, hW, hsame⟩ := X0.leave (v := some (.int (1 : Int32))) (fun h => by rw [Bd.returns] at h; cases h)
        refine ⟨_, _, pre76 _ ?_, hrun, hended, _, _, rfl, ?_, ⟨_, rfl⟩, hW, hsame.mono (by decide) (by decide)⟩
        · show Steps p.tables e below (s₁.setTop (mkF m 22 #[.val (.int p1)] [(.int (12 : Int32)), (.int p1)])) _
          refine XS.icmpNo X0.here hx rfl (hb hby d2_22) rfl (flt hc22_75).2.2.1 ?_
          refine XS.iconst X0.here hx rfl (hb hby d2_25) ?_
          exact retN X0 hx (t := .boolean) Bd.returns (by simp) (hb hby d2_26) hr
        · show Q_rm2 Z p1 h0 n0 _ s₁.heap _
          rw [e0]
          exact ⟨(own_rc1 (by (unfold own_P; have := own_lt (a := (p1).toInt) (b := 1) hc2_43 rfl rfl; have := own_nlt (a := (p1).toInt) (b := 11) hc16_45 rfl rfl; have := own_nlt (a := 12) (b := (p1).toInt) hc22_75 rfl rfl; omega))), N0, rfl⟩
  · have pre106 : ∀ t, Steps p.tables e below (s₁.setTop (mkF m 8 #[.val (.int p1)] [(.int (8 : Int32)), (.int p1)])) t → Steps p.tables e below (s₁.setTop (entryFrame m #[(.int p1)] 1)) t := by
      intro t kt
      refine pre44 _ ?_
      show Steps p.tables e below (s₁.setTop (mkF m 2 #[.val (.int p1)] [(.int (1 : Int32)), (.int p1)])) _
      refine XS.icmpNo X0.here hx rfl (hb hby d2_2) rfl (flt hc2_43).1 ?_
      refine XS.iloadN X0.here hx rfl (hb hby d2_5) rfl ?_
      show Steps p.tables e below (s₁.setTop (mkF m 6 #[.val (.int p1)] [(.int p1)])) _
      refine XS.bipush X0.here hx rfl (hb hby d2_6) ?_
      exact kt
    by_cases hc8_105 : (8 : Int32) < p1
    · have pre108 : ∀ t, Steps p.tables e below (s₁.setTop (mkF m 16 #[.val (.int p1)] [(.int (11 : Int32)), (.int p1)])) t → Steps p.tables e below (s₁.setTop (entryFrame m #[(.int p1)] 1)) t := by
        intro t kt
        refine pre106 _ ?_
        show Steps p.tables e below (s₁.setTop (mkF m 8 #[.val (.int p1)] [(.int (8 : Int32)), (.int p1)])) _
        refine XS.icmpYes X0.here hx rfl (pc0 := 8) (pc' := 13) rfl (hb hby d2_8) rfl (tlt hc8_105).2.2.1 (by decide) (by decide) ?_
        refine XS.iloadN X0.here hx rfl (hb hby d2_13) rfl ?_
        refine XS.bipush X0.here hx rfl (hb hby d2_14) ?_
        show Steps p.tables e below (s₁.setTop (mkF m 16 #[.val (.int p1)] [(.int (11 : Int32)), (.int p1)])) _
        exact kt
      by_cases hc16_107 : p1 < (11 : Int32)
      · have pre110 : ∀ t, Steps p.tables e below (s₁.setTop (mkF m 30 #[.val (.int p1)] [(.int (14 : Int32)), (.int p1)])) t → Steps p.tables e below (s₁.setTop (entryFrame m #[(.int p1)] 1)) t := by
          intro t kt
          refine pre108 _ ?_
          show Steps p.tables e below (s₁.setTop (mkF m 16 #[.val (.int p1)] [(.int (11 : Int32)), (.int p1)])) _
          refine XS.icmpYes X0.here hx rfl (pc0 := 16) (pc' := 27) rfl (hb hby d2_16) rfl (tlt hc16_107).1 (by decide) (by decide) ?_
          refine XS.iloadN X0.here hx rfl (hb hby d2_27) rfl ?_
          refine XS.bipush X0.here hx rfl (hb hby d2_28) ?_
          exact kt
        by_cases hc30_109 : p1 < (14 : Int32)
        · have pre112 : ∀ t, Steps p.tables e below (s₁.setTop (mkF m 44 #[.val (.int p1)] [(.int (127 : Int32)), (.int p1)])) t → Steps p.tables e below (s₁.setTop (entryFrame m #[(.int p1)] 1)) t := by
            intro t kt
            refine pre110 _ ?_
            show Steps p.tables e below (s₁.setTop (mkF m 30 #[.val (.int p1)] [(.int (14 : Int32)), (.int p1)])) _
            refine XS.icmpYes X0.here hx rfl (pc0 := 30) (pc' := 41) rfl (hb hby d2_30) rfl (tlt hc30_109).1 (by decide) (by decide) ?_
            show Steps p.tables e below (s₁.setTop (mkF m 41 #[.val (.int p1)] [])) _
            refine XS.iloadN X0.here hx rfl (hb hby d2_41) rfl ?_
            refine XS.bipush X0.here hx rfl (hb hby d2_42) ?_
            exact kt
          by_cases hc44_111 : p1 < (127 : Int32)
          · have pre114 : ∀ t, Steps p.tables e below (s₁.setTop (mkF m 60 #[.val (.int p1)] [(.int (134 : Int32)), (.int p1)])) t → Steps p.tables e below (s₁.setTop (entryFrame m #[(.int p1)] 1)) t := by
              intro t kt
              refine pre112 _ ?_
              show Steps p.tables e below (s₁.setTop (mkF m 44 #[.val (.int p1)] [(.int (127 : Int32)), (.int p1)])) _
              refine XS.icmpYes X0.here hx rfl (pc0 := 44) (pc' := 56) rfl (hb hby d2_44) rfl (tlt hc44_111).1 (by decide) (by decide) ?_
              refine XS.iloadN X0.here hx rfl (hb hby d2_56) rfl ?_
              show Steps p.tables e below (s₁.setTop (mkF m 57 #[.val (.int p1)] [(.int p1)])) _
              refine XS.sipush X0.here hx rfl (hb hby d2_57) ?_
              exact kt
            by_cases hc60_113 : p1 < (134 : Int32)
            · obtain ⟨fs, hr, hrun, hended, hW, hsame⟩ := X0.leave (v := some (.int (0 : Int32))) (fun h => by rw [Bd.returns] at h; cases h)
              refine ⟨_, _, pre114 _ ?_, hrun, hended, _, _, rfl, ?_, ⟨_, rfl⟩, hW, hsame.mono (by decide) (by decide)⟩
              · show Steps p.tables e below (s₁.setTop (mkF m 60 #[.val (.int p1)] [(.int (134 : Int32)), (.int p1)])) _
                refine XS.icmpYes X0.here hx rfl (pc0 := 60) (pc' := 72) rfl (hb hby d2_60) rfl (tlt hc60_113).1 (by decide) (by decide) ?_
                refine XS.iconst X0.here hx rfl (hb hby d2_72) ?_
                exact retN X0 hx (t := .boolean) Bd.returns (by simp) (hb hby d2_73) hr
              · show Q_rm2 Z p1 h0 n0 _ s₁.heap _
                rw [e0]
                exact ⟨(own_rc0 (by (unfold own_P; have := own_nlt (a := (p1).toInt) (b := 1) hc2_43 rfl rfl; have := own_lt (a := 8) (b := (p1).toInt) hc8_105 rfl rfl; have := own_lt (a := (p1).toInt) (b := 11) hc16_107 rfl rfl; have := own_lt (a := (p1).toInt) (b := 14) hc30_109 rfl rfl; have := own_lt (a := (p1).toInt) (b := 127) hc44_111 rfl rfl; have := own_lt (a := (p1).toInt) (b := 134) hc60_113 rfl rfl; omega))), N0, rfl⟩
            · have pre116 : ∀ t, Steps p.tables e below (s₁.setTop (mkF m 67 #[.val (.int p1)] [(.int (159 : Int32)), (.int p1)])) t → Steps p.tables e below (s₁.setTop (entryFrame m #[(.int p1)] 1)) t := by
                intro t kt
                refine pre114 _ ?_
                show Steps p.tables e below (s₁.setTop (mkF m 60 #[.val (.int p1)] [(.int (134 : Int32)), (.int p1)])) _
                refine XS.icmpNo X0.here hx rfl (hb hby d2_60) rfl (flt hc60_113).1 ?_
                refine XS.iloadN X0.here hx rfl (hb hby d2_63) rfl ?_
                refine XS.sipush X0.here hx rfl (hb hby d2_64) ?_
                show Steps p.tables e below (s₁.setTop (mkF m 67 #[.val (.int p1)] [(.int (159 : Int32)), (.int p1)])) _
                exact kt
              by_cases hc67_115 : (159 : Int32) < p1
              · obtain ⟨fs, hr, hrun, hended, hW, hsame⟩ := X0.leave (v := some (.int (0 : Int32))) (fun h => by rw [Bd.returns] at h; cases h)
                refine ⟨_, _, pre116 _ ?_, hrun, hended, _, _, rfl, ?_, ⟨_, rfl⟩, hW, hsame.mono (by decide) (by decide)⟩
                · show Steps p.tables e below (s₁.setTop (mkF m 67 #[.val (.int p1)] [(.int (159 : Int32)), (.int p1)])) _
                  refine XS.icmpYes X0.here hx rfl (pc0 := 67) (pc' := 72) rfl (hb hby d2_67) rfl (tlt hc67_115).2.2.1 (by decide) (by decide) ?_
                  refine XS.iconst X0.here hx rfl (hb hby d2_72) ?_
                  exact retN X0 hx (t := .boolean) Bd.returns (by simp) (hb hby d2_73) hr
                · show Q_rm2 Z p1 h0 n0 _ s₁.heap _
                  rw [e0]
                  exact ⟨(own_rc0 (by (unfold own_P; have := own_nlt (a := (p1).toInt) (b := 1) hc2_43 rfl rfl; have := own_lt (a := 8) (b := (p1).toInt) hc8_105 rfl rfl; have := own_lt (a := (p1).toInt) (b := 11) hc16_107 rfl rfl; have := own_lt (a := (p1).toInt) (b := 14) hc30_109 rfl rfl; have := own_lt (a := (p1).toInt) (b := 127) hc44_111 rfl rfl; have := own_nlt (a := (p1).toInt) (b := 134) hc60_113 rfl rfl; have := own_lt (a := 159) (b := (p1).toInt) hc67_115 rfl rfl; omega))), N0, rfl⟩
              · obtain ⟨fs, hr, hrun, hended, hW, hsame⟩ := X0.leave (v := some (.int (1 : Int32))) (fun h => by rw [Bd.returns] at h; cases h)
                refine ⟨_, _, pre116 _ ?_, hrun, hended, _, _, rfl, ?_, ⟨_, rfl⟩, hW, hsame.mono (by decide) (by decide)⟩
                · show Steps p.tables e below (s₁.setTop (mkF m 67 #[.val (.int p1)] [(.int (159 : Int32)), (.int p1)])) _
                  refine XS.icmpNo X0.here hx rfl (hb hby d2_67) rfl (flt hc67_115).2.2.1 ?_
                  refine XS.iconst X0.here hx rfl (hb hby d2_70) ?_
                  exact retN X0 hx (t := .boolean) Bd.returns (by simp) (hb hby d2_71) hr
                · show Q_rm2 Z p1 h0 n0 _ s₁.heap _
                  rw [e0]
                  exact ⟨(own_rc1 (by (unfold own_P; have := own_nlt (a := (p1).toInt) (b := 1) hc2_43 rfl rfl; have := own_lt (a := 8) (b := (p1).toInt) hc8_105 rfl rfl; have := own_lt (a := (p1).toInt) (b := 11) hc16_107 rfl rfl; have := own_lt (a := (p1).toInt) (b := 14) hc30_109 rfl rfl; have := own_lt (a := (p1).toInt) (b := 127) hc44_111 rfl rfl; have := own_nlt (a := (p1).toInt) (b := 134) hc60_113 rfl rfl; have := own_nlt (a := 159) (b := (p1).toInt) hc67_115 rfl rfl; omega))), N0, rfl⟩
          · have pre118 : ∀ t, Steps p.tables e below (s₁.setTop (mkF m 51 #[.val (.int p1)] [(.int (132 : Int32)), (.int p1)])) t → Steps p.tables e below (s₁.setTop (entryFrame m #[(.int p1)] 1)) t := by
              intro t kt
              refine pre112 _ ?_
              show Steps p.tables e below (s₁.setTop (mkF m 44 #[.val (.int p1)] [(.int (127 : Int32)), (.int p1)])) _
              refine XS.icmpNo X0.here hx rfl (hb hby d2_44) rfl (flt hc44_111).1 ?_
              refine XS.iloadN X0.here hx rfl (hb hby d2_47) rfl ?_
              show Steps p.tables e below (s₁.setTop (mkF m 48 #[.val (.int p1)] [(.int p1)])) _
              refine XS.sipush X0.here hx rfl (hb hby d2_48) ?_
              exact kt
            by_cases hc51_117 : (132 : Int32) < p1
            · have pre120 : ∀ t, Steps p.tables e below (s₁.setTop (mkF m 60 #[.val (.int p1)] [(.int (134 : Int32)), (.int p1)])) t → Steps p.tables e below (s₁.setTop (entryFrame m #[(.int p1)] 1)) t := by
                intro t kt
                refine pre118 _ ?_
                show Steps p.tables e below (s₁.setTop (mkF m 51 #[.val (.int p1)] [(.int (132 : Int32)), (.int p1)])) _
                refine XS.icmpYes X0.here hx rfl (pc0 := 51) (pc' := 56) rfl (hb hby d2_51) rfl (tlt hc51_117).2.2.1 (by decide) (by decide) ?_
                refine XS.iloadN X0.here hx rfl (hb hby d2_56) rfl ?_
                refine XS.sipush X0.here hx rfl (hb hby d2_57) ?_
                show Steps p.tables e below (s₁.setTop (mkF m 60 #[.val (.int p1)] [(.int (134 : Int32)), (.int p1)])) _
                exact kt
              by_cases hc60_119 : p1 < (134 : Int32)
              · obtain ⟨fs, hr, hrun, hended, hW, hsame⟩ := X0.leave (v := some (.int (0 : Int32))) (fun h => by rw [Bd.returns] at h; cases h)
                refine ⟨_, _, pre120 _ ?_, hrun, hended, _, _, rfl, ?_, ⟨_, rfl⟩, hW, hsame.mono (by decide) (by decide)⟩
                · show Steps p.tables e below (s₁.setTop (mkF m 60 #[.val (.int p1)] [(.int (134 : Int32)), (.int p1)])) _
                  refine XS.icmpYes X0.here hx rfl (pc0 := 60) (pc' := 72) rfl (hb hby d2_60) rfl (tlt hc60_119).1 (by decide) (by decide) ?_
                  refine XS.iconst X0.here hx rfl (hb hby d2_72) ?_
                  exact retN X0 hx (t := .boolean) Bd.returns (by simp) (hb hby d2_73) hr
                · show Q_rm2 Z p1 h0 n0 _ s₁.heap _
                  rw [e0]
                  exact ⟨(own_rc0 (by (unfold own_P; have := own_nlt (a := (p1).toInt) (b := 1) hc2_43 rfl rfl; have := own_lt (a := 8) (b := (p1).toInt) hc8_105 rfl rfl; have := own_lt (a := (p1).toInt) (b := 11) hc16_107 rfl rfl; have := own_lt (a := (p1).toInt) (b := 14) hc30_109 rfl rfl; have := own_nlt (a := (p1).toInt) (b := 127) hc44_111 rfl rfl; have := own_lt (a := 132) (b := (p1).toInt) hc51_117 rfl rfl; have := own_lt (a := (p1).toInt) (b := 134) hc60_119 rfl rfl; omega))), N0, rfl⟩
              · have pre122 : ∀ t, Steps p.tables e below (s₁.setTop (mkF m 67 #[.val (.int p1)] [(.int (159 : Int32)), (.int p1)])) t → Steps p.tables e below (s₁.setTop (entryFrame m #[(.int p1)] 1)) t := by
                  intro t kt
                  refine pre120 _ ?_
                  show Steps p.tables e below (s₁.setTop (mkF m 60 #[.val (.int p1)] [(.int (134 : Int32)), (.int p1)])) _
                  refine XS.icmpNo X0.here hx rfl (hb hby d2_60) rfl (flt hc60_119).1 ?_
                  refine XS.iloadN X0.here hx rfl (hb hby d2_63) rfl ?_
                  refine XS.sipush X0.here hx rfl (hb hby d2_64) ?_
                  exact kt
                by_cases hc67_121 : (159 : Int32) < p1
                · obtain ⟨fs, hr, hrun, hended, hW, hsame⟩ := X0.leave (v := some (.int (0 : Int32))) (fun h => by rw [Bd.returns] at h; cases h)
                  refine ⟨_, _, pre122 _ ?_, hrun, hended, _, _, rfl, ?_, ⟨_, rfl⟩, hW, hsame.mono (by decide) (by decide)⟩
                  · show Steps p.tables e below (s₁.setTop (mkF m 67 #[.val (.int p1)] [(.int (159 : Int32)), (.int p1)])) _
                    refine XS.icmpYes X0.here hx rfl (pc0 := 67) (pc' := 72) rfl (hb hby d2_67) rfl (tlt hc67_121).2.2.1 (by decide) (by decide) ?_
                    show Steps p.tables e below (s₁.setTop (mkF m 72 #[.val (.int p1)] [])) _
                    refine XS.iconst X0.here hx rfl (hb hby d2_72) ?_
                    exact retN X0 hx (t := .boolean) Bd.returns (by simp) (hb hby d2_73) hr
                  · show Q_rm2 Z p1 h0 n0 _ s₁.heap _
                    rw [e0]
                    exact ⟨(own_rc0 (by (unfold own_P; have := own_nlt (a := (p1).toInt) (b := 1) hc2_43 rfl rfl; have := own_lt (a := 8) (b := (p1).toInt) hc8_105 rfl rfl; have := own_lt (a := (p1).toInt) (b := 11) hc16_107 rfl rfl; have := own_lt (a := (p1).toInt) (b := 14) hc30_109 rfl rfl; have := own_nlt (a := (p1).toInt) (b := 127) hc44_111 rfl rfl; have := own_lt (a := 132) (b := (p1).toInt) hc51_117 rfl rfl; have := own_nlt (a := (p1).toInt) (b := 134) hc60_119 rfl rfl; have := own_lt (a := 159) (b := (p1).toInt) hc67_121 rfl rfl; omega))), N0, rfl⟩
                · obtain ⟨fs, hr, hrun, hended, hW, hsame⟩ := X0.leave (v := some (.int (1 : Int32))) (fun h => by rw [Bd.returns] at h; cases h)
                  refine ⟨_, _, pre122 _ ?_, hrun, hended, _, _, rfl, ?_, ⟨_, rfl⟩, hW, hsame.mono (by decide) (by decide)⟩
                  · show Steps p.tables e below (s₁.setTop (mkF m 67 #[.val (.int p1)] [(.int (159 : Int32)), (.int p1)])) _
                    refine XS.icmpNo X0.here hx rfl (hb hby d2_67) rfl (flt hc67_121).2.2.1 ?_
                    show Steps p.tables e below (s₁.setTop (mkF m 70 #[.val (.int p1)] [])) _
                    refine XS.iconst X0.here hx rfl (hb hby d2_70) ?_
                    exact retN X0 hx (t := .boolean) Bd.returns (by simp) (hb hby d2_71) hr
                  · show Q_rm2 Z p1 h0 n0 _ s₁.heap _
                    rw [e0]
                    exact ⟨(own_rc1 (by (unfold own_P; have := own_nlt (a := (p1).toInt) (b := 1) hc2_43 rfl rfl; have := own_lt (a := 8) (b := (p1).toInt) hc8_105 rfl rfl; have := own_lt (a := (p1).toInt) (b := 11) hc16_107 rfl rfl; have := own_lt (a := (p1).toInt) (b := 14) hc30_109 rfl rfl; have := own_nlt (a := (p1).toInt) (b := 127) hc44_111 rfl rfl; have := own_lt (a := 132) (b := (p1).toInt) hc51_117 rfl rfl; have := own_nlt (a := (p1).toInt) (b := 134) hc60_119 rfl rfl; have := own_nlt (a := 159) (b := (p1).toInt) hc67_121 rfl rfl; omega))), N0, rfl⟩
            · obtain ⟨fs, hr, hrun, hended, hW, hsame⟩ := X0.leave (v := some (.int (1 : Int32))) (fun h => by rw [Bd.returns] at h; cases h)
              refine ⟨_, _, pre118 _ ?_, hrun, hended, _, _, rfl, ?_, ⟨_, rfl⟩, hW, hsame.mono (by decide) (by decide)⟩
              · show Steps p.tables e below (s₁.setTop (mkF m 51 #[.val (.int p1)] [(.int (132 : Int32)), (.int p1)])) _
                refine XS.icmpNo X0.here hx rfl (hb hby d2_51) rfl (flt hc51_117).2.2.1 ?_
                refine XS.iconst X0.here hx rfl (hb hby d2_54) ?_
                exact retN X0 hx (t := .boolean) Bd.returns (by simp) (hb hby d2_55) hr
              · show Q_rm2 Z p1 h0 n0 _ s₁.heap _
                rw [e0]
                exact ⟨(own_rc1 (by (unfold own_P; have := own_nlt (a := (p1).toInt) (b := 1) hc2_43 rfl rfl; have := own_lt (a := 8) (b := (p1).toInt) hc8_105 rfl rfl; have := own_lt (a := (p1).toInt) (b := 11) hc16_107 rfl rfl; have := own_lt (a := (p1).toInt) (b := 14) hc30_109 rfl rfl; have := own_nlt (a := (p1).toInt) (b := 127) hc44_111 rfl rfl; have := own_nlt (a := 132) (b := (p1).toInt) hc51_117 rfl rfl; omega))), N0, rfl⟩
        · have pre124 : ∀ t, Steps p.tables e below (s₁.setTop (mkF m 36 #[.val (.int p1)] [(.int (31 : Int32)), (.int p1)])) t → Steps p.tables e below (s₁.setTop (entryFrame m #[(.int p1)] 1)) t := by
            intro t kt
            refine pre110 _ ?_
            show Steps p.tables e below (s₁.setTop (mkF m 30 #[.val (.int p1)] [(.int (14 : Int32)), (.int p1)])) _
            refine XS.icmpNo X0.here hx rfl (hb hby d2_30) rfl (flt hc30_109).1 ?_
            show Steps p.tables e below (s₁.setTop (mkF m 33 #[.val (.int p1)] [])) _
            refine XS.iloadN X0.here hx rfl (hb hby d2_33) rfl ?_
            refine XS.bipush X0.here hx rfl (hb hby d2_34) ?_
            exact kt
          by_cases hc36_123 : (31 : Int32) < p1
          · have pre126 : ∀ t, Steps p.tables e below (s₁.setTop (mkF m 44 #[.val (.int p1)] [(.int (127 : Int32)), (.int p1)])) t → Steps p.tables e below (s₁.setTop (entryFrame m #[(.int p1)] 1)) t := by
              intro t kt
              refine pre124 _ ?_
              show Steps p.tables e below (s₁.setTop (mkF m 36 #[.val (.int p1)] [(.int (31 : Int32)), (.int p1)])) _
              refine XS.icmpYes X0.here hx rfl (pc0 := 36) (pc' := 41) rfl (hb hby d2_36) rfl (tlt hc36_123).2.2.1 (by decide) (by decide) ?_
              refine XS.iloadN X0.here hx rfl (hb hby d2_41) rfl ?_
              show Steps p.tables e below (s₁.setTop (mkF m 42 #[.val (.int p1)] [(.int p1)])) _
              refine XS.bipush X0.here hx rfl (hb hby d2_42) ?_
              exact kt
            by_cases hc44_125 : p1 < (127 : Int32)
            · have pre128 : ∀ t, Steps p.tables e below (s₁.setTop (mkF m 60 #[.val (.int p1)] [(.int (134 : Int32)), (.int p1)])) t → Steps p.tables e below (s₁.setTop (entryFrame m #[(.int p1)] 1)) t := by
                intro t kt
                refine pre126 _ ?_
                show Steps p.tables e below (s₁.setTop (mkF m 44 #[.val (.int p1)] [(.int (127 : Int32)), (.int p1)])) _
                refine XS.icmpYes X0.here hx rfl (pc0 := 44) (pc' := 56) rfl (hb hby d2_44) rfl (tlt hc44_125).1 (by decide) (by decide) ?_
                refine XS.iloadN X0.here hx rfl (hb hby d2_56) rfl ?_
                refine XS.sipush X0.here hx rfl (hb hby d2_57) ?_
                show Steps p.tables e below (s₁.setTop (mkF m 60 #[.val (.int p1)] [(.int (134 : Int32)), (.int p1)])) _
                exact kt
              by_cases hc60_127 : p1 < (134 : Int32)
              · obtain ⟨fs, hr, hrun, hended, hW, hsame⟩ := X0.leave (v := some (.int (0 : Int32))) (fun h => by rw [Bd.returns] at h; cases h)
                refine ⟨_, _, pre128 _ ?_, hrun, hended, _, _, rfl, ?_, ⟨_, rfl⟩, hW, hsame.mono (by decide) (by decide)⟩
                · show Steps p.tables e below (s₁.setTop (mkF m 60 #[.val (.int p1)] [(.int (134 : Int32)), (.int p1)])) _
                  refine XS.icmpYes X0.here hx rfl (pc0 := 60) (pc' := 72) rfl (hb hby d2_60) rfl (tlt hc60_127).1 (by decide) (by decide) ?_
                  refine XS.iconst X0.here hx rfl (hb hby d2_72) ?_
                  exact retN X0 hx (t := .boolean) Bd.returns (by simp) (hb hby d2_73) hr
                · show Q_rm2 Z p1 h0 n0 _ s₁.heap _
                  rw [e0]
                  exact ⟨(own_rc0 (by (unfold own_P; have := own_nlt (a := (p1).toInt) (b := 1) hc2_43 rfl rfl; have := own_lt (a := 8) (b := (p1).toInt) hc8_105 rfl rfl; have := own_lt (a := (p1).toInt) (b := 11) hc16_107 rfl rfl; have := own_nlt (a := (p1).toInt) (b := 14) hc30_109 rfl rfl; have := own_lt (a := 31) (b := (p1).toInt) hc36_123 rfl rfl; have := own_lt (a := (p1).toInt) (b := 127) hc44_125 rfl rfl; have := own_lt (a := (p1).toInt) (b := 134) hc60_127 rfl rfl; omega))), N0, rfl⟩
              · have pre130 : ∀ t, Steps p.tables e below (s₁.setTop (mkF m 67 #[.val (.int p1)] [(.int (159 : Int32)), (.int p1)])) t → Steps p.tables e below (s₁.setTop (entryFrame m #[(.int p1)] 1)) t := by
                  intro t kt
                  refine pre128 _ ?_
                  show Steps p.tables e below (s₁.setTop (mkF m 60 #[.val (.int p1)] [(.int (134 : Int32)), (.int p1)])) _
                  refine XS.icmpNo X0.here hx rfl (hb hby d2_60) rfl (flt hc60_127).1 ?_
                  refine XS.iloadN X0.here hx rfl (hb hby d2_63) rfl ?_
                  refine XS.sipush X0.here hx rfl (hb hby d2_64) ?_
                  exact kt
                by_cases hc67_129 : (159 : Int32) < p1
                · obtain ⟨fs, hr, hrun, hended, hW, hsame⟩ := X0.leave (v := some (.int (0 : Int32))) (fun h => by rw [Bd.returns] at h; cases h)
                  refine ⟨_, _, pre130 _ ?_, hrun, hended, _, _, rfl, ?_, ⟨_, rfl⟩, hW, hsame.mono (by decide) (by decide)⟩
                  · show Steps p.tables e below (s₁.setTop (mkF m 67 #[.val (.int p1)] [(.int (159 : Int32)), (.int p1)])) _
                    refine XS.icmpYes X0.here hx rfl (pc0 := 67) (pc' := 72) rfl (hb hby d2_67) rfl (tlt hc67_129).2.2.1 (by decide) (by decide) ?_
                    show Steps p.tables e below (s₁.setTop (mkF m 72 #[.val (.int p1)] [])) _
                    refine XS.iconst X0.here hx rfl (hb hby d2_72) ?_
                    exact retN X0 hx (t := .boolean) Bd.returns (by simp) (hb hby d2_73) hr
                  · show Q_rm2 Z p1 h0 n0 _ s₁.heap _
                    rw [e0]
                    exact ⟨(own_rc0 (by (unfold own_P; have := own_nlt (a := (p1).toInt) (b := 1) hc2_43 rfl rfl; have := own_lt (a := 8) (b := (p1).toInt) hc8_105 rfl rfl; have := own_lt (a := (p1).toInt) (b := 11) hc16_107 rfl rfl; have := own_nlt (a := (p1).toInt) (b := 14) hc30_109 rfl rfl; have := own_lt (a := 31) (b := (p1).toInt) hc36_123 rfl rfl; have := own_lt (a := (p1).toInt) (b := 127) hc44_125 rfl rfl; have := own_nlt (a := (p1).toInt) (b := 134) hc60_127 rfl rfl; have := own_lt (a := 159) (b := (p1).toInt) hc67_129 rfl rfl; omega))), N0, rfl⟩
                · obtain ⟨fs, hr, hrun, hended, hW, hsame⟩ := X0.leave (v := some (.int (1 : Int32))) (fun h => by rw [Bd.returns] at h; cases h)
                  refine ⟨_, _, pre130 _ ?_, hrun, hended, _, _, rfl, ?_, ⟨_, rfl⟩, hW, hsame.mono (by decide) (by decide)⟩
                  · show Steps p.tables e below (s₁.setTop (mkF m 67 #[.val (.int p1)] [(.int (159 : Int32)), (.int p1)])) _
                    refine XS.icmpNo X0.here hx rfl (hb hby d2_67) rfl (flt hc67_129).2.2.1 ?_
                    show Steps p.tables e below (s₁.setTop (mkF m 70 #[.val (.int p1)] [])) _
                    refine XS.iconst X0.here hx rfl (hb hby d2_70) ?_
                    exact retN X0 hx (t := .boolean) Bd.returns (by simp) (hb hby d2_71) hr
                  · show Q_rm2 Z p1 h0 n0 _ s₁.heap _
                    rw [e0]
                    exact ⟨(own_rc1 (by (unfold own_P; have := own_nlt (a := (p1).toInt) (b := 1) hc2_43 rfl rfl; have := own_lt (a := 8) (b := (p1).toInt) hc8_105 rfl rfl; have := own_lt (a := (p1).toInt) (b := 11) hc16_107 rfl rfl; have := own_nlt (a := (p1).toInt) (b := 14) hc30_109 rfl rfl; have := own_lt (a := 31) (b := (p1).toInt) hc36_123 rfl rfl; have := own_lt (a := (p1).toInt) (b := 127) hc44_125 rfl rfl; have := own_nlt (a := (p1).toInt) (b := 134) hc60_127 rfl rfl; have := own_nlt (a := 159) (b := (p1).toInt) hc67_129 rfl rfl; omega))), N0, rfl⟩
            · have pre132 : ∀ t, Steps p.tables e below (s₁.setTop (mkF m 51 #[.val (.int p1)] [(.int (132 : Int32)), (.int p1)])) t → Steps p.tables e below (s₁.setTop (entryFrame m #[(.int p1)] 1)) t := by
                intro t kt
                refine pre126 _ ?_
                show Steps p.tables e below (s₁.setTop (mkF m 44 #[.val (.int p1)] [(.int (127 : Int32)), (.int p1)])) _
                refine XS.icmpNo X0.here hx rfl (hb hby d2_44) rfl (flt hc44_125).1 ?_
                refine XS.iloadN X0.here hx rfl (hb hby d2_47) rfl ?_
                refine XS.sipush X0.here hx rfl (hb hby d2_48) ?_
                show Steps p.tables e below (s₁.setTop (mkF m 51 #[.val (.int p1)] [(.int (132 : Int32)), (.int p1)])) _
                exact kt
              by_cases hc51_131 : (132 : Int32) < p1
              · have pre134 : ∀ t, Steps p.tables e below (s₁.setTop (mkF m 60 #[.val (.int p1)] [(.int (134 : Int32)), (.int p1)])) t → Steps p.tables e below (s₁.setTop (entryFrame m #[(.int p1)] 1)) t := by
                  intro t kt
                  refine pre132 _ ?_
                  show Steps p.tables e below (s₁.setTop (mkF m 51 #[.val (.int p1)] [(.int (132 : Int32)), (.int p1)])) _
                  refine XS.icmpYes X0.here hx rfl (pc0 := 51) (pc' := 56) rfl (hb hby d2_51) rfl (tlt hc51_131).2.2.1 (by decide) (by decide) ?_
                  refine XS.iloadN X0.here hx rfl (hb hby d2_56) rfl ?_
                  refine XS.sipush X0.here hx rfl (hb hby d2_57) ?_
                  exact kt
                by_cases hc60_133 : p1 < (134 : Int32)
                · obtain ⟨fs, hr, hrun, hended, hW, hsame⟩ := X0.leave (v := some (.int (0 : Int32))) (fun h => by rw [Bd.returns] at h; cases h)
                  refine ⟨_, _, pre134 _ ?_, hrun, hended, _, _, rfl, ?_, ⟨_, rfl⟩, hW, hsame.mono (by decide) (by decide)⟩
                  · show Steps p.tables e below (s₁.setTop (mkF m 60 #[.val (.int p1)] [(.int (134 : Int32)), (.int p1)])) _
                    refine XS.icmpYes X0.here hx rfl (pc0 := 60) (pc' := 72) rfl (hb hby d2_60) rfl (tlt hc60_133).1 (by decide) (by decide) ?_
                    show Steps p.tables e below (s₁.setTop (mkF m 72 #[.val (.int p1)] [])) _
                    refine XS.iconst X0.here hx rfl (hb hby d2_72) ?_
                    exact retN X0 hx (t := .boolean) Bd.returns (by simp) (hb hby d2_73) hr
                  · show Q_rm2 Z p1 h0 n0 _ s₁.heap _
                    rw [e0]
                    exact ⟨(own_rc0 (by (unfold own_P; have := own_nlt (a := (p1).toInt) (b := 1) hc2_43 rfl rfl; have := own_lt (a := 8) (b := (p1).toInt) hc8_105 rfl rfl; have := own_lt (a := (p1).toInt) (b := 11) hc16_107 rfl rfl; have := own_nlt (a := (p1).toInt) (b := 14) hc30_109 rfl rfl; have := own_lt (a := 31) (b := (p1).toInt) hc36_123 rfl rfl; have := own_nlt (a := (p1).toInt) (b := 127) hc44_125 rfl rfl; have := own_lt (a := 132) (b := (p1).toInt) hc51_131 rfl rfl; have := own_lt (a := (p1).toInt) (b := 134) hc60_133 rfl rfl; omega))), N0, rfl⟩
                · have pre136 : ∀ t, Steps p.tables e below (s₁.setTop (mkF m 67 #[.val (.int p1)] [(.int (159 : Int32)), (.int p1)])) t → Steps p.tables e below (s₁.setTop (entryFrame m #[(.int p1)] 1)) t := by
                    intro t kt
                    refine pre134 _ ?_
                    show Steps p.tables e below (s₁.setTop (mkF m 60 #[.val (.int p1)] [(.int (134 : Int32)), (.int p1)])) _
                    refine XS.icmpNo X0.here hx rfl (hb hby d2_60) rfl (flt hc60_133).1 ?_
                    show Steps p.tables e below (s₁.setTop (mkF m 63 #[.val (.int p1)] [])) _
                    refine XS.iloadN X0.here hx rfl (hb hby d2_63) rfl ?_
                    refine XS.sipush X0.here hx rfl (hb hby d2_64) ?_
                    exact kt
                  by_cases hc67_135 : (159 : Int32) < p1
                  · obtain ⟨fs, hr, hrun, hended, hW, hsame⟩ := X0.leave (v := some (.int (0 : Int32))) (fun h => by rw [Bd.returns] at h; cases h)
                    refine ⟨_, _, pre136 _ ?_, hrun, hended, _, _, rfl, ?_, ⟨_, rfl⟩, hW, hsame.mono (by decide) (by decide)⟩
                    · show Steps p.tables e below (s₁.setTop (mkF m 67 #[.val (.int p1)] [(.int (159 : Int32)), (.int p1)])) _
                      refine XS.icmpYes X0.here hx rfl (pc0 := 67) (pc' := 72) rfl (hb hby d2_67) rfl (tlt hc67_135).2.2.1 (by decide) (by decide) ?_
                      refine XS.iconst X0.here hx rfl (hb hby d2_72) ?_
                      show Steps p.tables e below (s₁.setTop (mkF m 73 #[.val (.int p1)] [(.int (0 : Int32))])) _
                      exact retN X0 hx (t := .boolean) Bd.returns (by simp) (hb hby d2_73) hr
                    · show Q_rm2 Z p1 h0 n0 _ s₁.heap _
                      rw [e0]
                      exact ⟨(own_rc0 (by (unfold own_P; have := own_nlt (a := (p1).toInt) (b := 1) hc2_43 rfl rfl; have := own_lt (a := 8) (b := (p1).toInt) hc8_105 rfl rfl; have := own_lt (a := (p1).toInt) (b := 11) hc16_107 rfl rfl; have := own_nlt (a := (p1).toInt) (b := 14) hc30_109 rfl rfl; have := own_lt (a := 31) (b := (p1).toInt) hc36_123 rfl rfl; have := own_nlt (a := (p1).toInt) (b := 127) hc44_125 rfl rfl; have := own_lt (a := 132) (b := (p1).toInt) hc51_131 rfl rfl; have := own_nlt (a := (p1).toInt) (b := 134) hc60_133 rfl rfl; have := own_lt (a := 159) (b := (p1).toInt) hc67_135 rfl rfl; omega))), N0, rfl⟩
                  · obtain ⟨fs, hr, hrun, hended, hW, hsame⟩ := X0.leave (v := some (.int (1 : Int32))) (fun h => by rw [Bd.returns] at h; cases h)
                    refine ⟨_, _, pre136 _ ?_, hrun, hended, _, _, rfl, ?_, ⟨_, rfl⟩, hW, hsame.mono (by decide) (by decide)⟩
                    · show Steps p.tables e below (s₁.setTop (mkF m 67 #[.val (.int p1)] [(.int (159 : Int32)), (.int p1)])) _
                      refine XS.icmpNo X0.here hx rfl (hb hby d2_67) rfl (flt hc67_135).2.2.1 ?_
                      refine XS.iconst X0.here hx rfl (hb hby d2_70) ?_
                      show Steps p.tables e below (s₁.setTop (mkF m 71 #[.val (.int p1)] [(.int (1 : Int32))])) _
                      exact retN X0 hx (t := .boolean) Bd.returns (by simp) (hb hby d2_71) hr
                    · show Q_rm2 Z p1 h0 n0 _ s₁.heap _
                      rw [e0]
                      exact ⟨(own_rc1 (by (unfold own_P; have := own_nlt (a := (p1).toInt) (b := 1) hc2_43 rfl rfl; have := own_lt (a := 8) (b := (p1).toInt) hc8_105 rfl rfl; have := own_lt (a := (p1).toInt) (b := 11) hc16_107 rfl rfl; have := own_nlt (a := (p1).toInt) (b := 14) hc30_109 rfl rfl; have := own_lt (a := 31) (b := (p1).toInt) hc36_123 rfl rfl; have := own_nlt (a := (p1).toInt) (b := 127) hc44_125 rfl rfl; have := own_lt (a := 132) (b := (p1).toInt) hc51_131 rfl rfl; have := own_nlt (a := (p1).toInt) (b := 134) hc60_133 rfl rfl; have := own_nlt (a := 159) (b := (p1).toInt) hc67_135 rfl rfl; omega))), N0, rfl⟩
              · obtain ⟨fs, hr, hrun, hended, hW, hsame⟩ := X0.leave (v := some (.int (1 : Int32))) (fun h => by rw [Bd.returns] at h; cases h)
                refine ⟨_, _, pre132 _ ?_, hrun, hended, _, _, rfl, ?_, ⟨_, rfl⟩, hW, hsame.mono (by decide) (by decide)⟩
                · show Steps p.tables e below (s₁.setTop (mkF m 51 #[.val (.int p1)] [(.int (132 : Int32)), (.int p1)])) _
                  refine XS.icmpNo X0.here hx rfl (hb hby d2_51) rfl (flt hc51_131).2.2.1 ?_
                  refine XS.iconst X0.here hx rfl (hb hby d2_54) ?_
                  exact retN X0 hx (t := .boolean) Bd.returns (by simp) (hb hby d2_55) hr
                · show Q_rm2 Z p1 h0 n0 _ s₁.heap _
                  rw [e0]
                  exact ⟨(own_rc1 (by (unfold own_P; have := own_nlt (a := (p1).toInt) (b := 1) hc2_43 rfl rfl; have := own_lt (a := 8) (b := (p1).toInt) hc8_105 rfl rfl; have := own_lt (a := (p1).toInt) (b := 11) hc16_107 rfl rfl; have := own_nlt (a := (p1).toInt) (b := 14) hc30_109 rfl rfl; have := own_lt (a := 31) (b := (p1).toInt) hc36_123 rfl rfl; have := own_nlt (a := (p1).toInt) (b := 127) hc44_125 rfl rfl; have := own_nlt (a := 132) (b := (p1).toInt) hc51_131 rfl rfl; omega))), N0, rfl⟩
          · obtain ⟨fs, hr, hrun, hended, hW, hsame⟩ := X0.leave (v := some (.int (1 : Int32))) (fun h => by rw [Bd.returns] at h; cases h)
            refine ⟨_, _, pre124 _ ?_, hrun, hended, _, _, rfl, ?_, ⟨_, rfl⟩, hW, hsame.mono (by decide) (by decide)⟩
            · show Steps p.tables e below (s₁.setTop (mkF m 36 #[.val (.int p1)] [(.int (31 : Int32)), (.int p1)])) _
              refine XS.icmpNo X0.here hx rfl (hb hby d2_36) rfl (flt hc36_123).2.2.1 ?_
              refine XS.iconst X0.here hx rfl (hb hby d2_39) ?_
              show Steps p.tables e below (s₁.setTop (mkF m 40 #[.val (.int p1)] [(.int (1 : Int32))])) _
              exact retN X0 hx (t := .boolean) Bd.returns (by simp) (hb hby d2_40) hr
            · show Q_rm2 Z p1 h0 n0 _ s₁.heap _
              rw [e0]
              exact ⟨(own_rc1 (by (unfold own_P; have := own_nlt (a := (p1).toInt) (b := 1) hc2_43 rfl rfl; have := own_lt (a := 8) (b := (p1).toInt) hc8_105 rfl rfl; have := own_lt (a := (p1).toInt) (b := 11) hc16_107 rfl rfl; have := own_nlt (a := (p1).toInt) (b := 14) hc30_109 rfl rfl; have := own_nlt (a := 31) (b := (p1).toInt) hc36_123 rfl rfl; omega))), N0, rfl⟩
      · have pre138 : ∀ t, Steps p.tables e below (s₁.setTop (mkF m 22 #[.val (.int p1)] [(.int (12 : Int32)), (.int p1)])) t → Steps p.tables e below (s₁.setTop (entryFrame m #[(.int p1)] 1)) t := by
          intro t kt
          refine pre108 _ ?_
          show Steps p.tables e below (s₁.setTop (mkF m 16 #[.val (.int p1)] [(.int (11 : Int32)), (.int p1)])) _
          refine XS.icmpNo X0.here hx rfl (hb hby d2_16) rfl (flt hc16_107).1 ?_
          refine XS.iloadN X0.here hx rfl (hb hby d2_19) rfl ?_
          refine XS.bipush X0.here hx rfl (hb hby d2_20) ?_
          exact kt
        by_cases hc22_137 : (12 : Int32) < p1
        · have pre140 : ∀ t, Steps p.tables e below (s₁.setTop (mkF m 30 #[.val (.int p1)] [(.int (14 : Int32)), (.int p1)])) t → Steps p.tables e below (s₁.setTop (entryFrame m #[(.int p1)] 1)) t := by
            intro t kt
            refine pre138 _ ?_
            show Steps p.tables e below (s₁.setTop (mkF m 22 #[.val (.int p1)] [(.int (12 : Int32)), (.int p1)])) _
            refine XS.icmpYes X0.here hx rfl (pc0 := 22) (pc' := 27) rfl (hb hby d2_22) rfl (tlt hc22_137).2.2.1 (by decide) (by decide) ?_
            show Steps p.tables e below (s₁.setTop (mkF m 27 #[.val (.int p1)] [])) _
            refine XS.iloadN X0.here hx rfl (hb hby d2_27) rfl ?_
            refine XS.bipush X0.here hx rfl (hb hby d2_28) ?_
            exact kt
          by_cases hc30_139 : p1 < (14 : Int32)
          · have pre142 : ∀ t, Steps p.tables e below (s₁.setTop (mkF m 44 #[.val (.int p1)] [(.int (127 : Int32)), (.int p1)])) t → Steps p.tables e below (s₁.setTop (entryFrame m #[(.int p1)] 1)) t := by
              intro t kt
              refine pre140 _ ?_
              show Steps p.tables e below (s₁.setTop (mkF m 30 #[.val (.int p1)] [(.int (14 : Int32)), (.int p1)])) _
              refine XS.icmpYes X0.here hx rfl (pc0 := 30) (pc' := 41) rfl (hb hby d2_30) rfl (tlt hc30_139).1 (by decide) (by decide) ?_
              refine XS.iloadN X0.here hx rfl (hb hby d2_41) rfl ?_
              show Steps p.tables e below (s₁.setTop (mkF m 42 #[.val (.int p1)] [(.int p1)])) _
              refine XS.bipush X0.here hx rfl (hb hby d2_42) ?_
              exact kt
            by_cases hc44_141 : p1 < (127 : Int32)
            · have pre144 : ∀ t, Steps p.tables e below (s₁.setTop (mkF m 60 #[.val (.int p1)] [(.int (134 : Int32)), (.int p1)])) t → Steps p.tables e below (s₁.setTop (entryFrame m #[(.int p1)] 1)) t := by
                intro t kt
                refine pre142 _ ?_
                show Steps p.tables e below (s₁.setTop (mkF m 44 #[.val (.int p1)] [(.int (127 : Int32)), (.int p1)])) _
                refine XS.icmpYes X0.here hx rfl (pc0 := 44) (pc' := 56) rfl (hb hby d2_44) rfl (tlt hc44_141).1 (by decide) (by decide) ?_
                refine XS.iloadN X0.here hx rfl (hb hby d2_56) rfl ?_
                refine XS.sipush X0.here hx rfl (hb hby d2_57) ?_
                show Steps p.tables e below (s₁.setTop (mkF m 60 #[.val (.int p1)] [(.int (134 : Int32)), (.int p1)])) _
                exact kt
              by_cases hc60_143 : p1 < (134 : Int32)
              · obtain ⟨fs, hr, hrun, hended, hW, hsame⟩ := X0.leave (v := some (.int (0 : Int32))) (fun h => by rw [Bd.returns] at h; cases h)
                refine ⟨_, _, pre144 _ ?_, hrun, hended, _, _, rfl, ?_, ⟨_, rfl⟩, hW, hsame.mono (by decide) (by decide)⟩
                · show Steps p.tables e below (s₁.setTop (mkF m 60 #[.val (.int p1)] [(.int (134 : Int32)), (.int p1)])) _
                  refine XS.icmpYes X0.here hx rfl (pc0 := 60) (pc' := 72) rfl (hb hby d2_60) rfl (tlt hc60_143).1 (by decide) (by decide) ?_
                  refine XS.iconst X0.here hx rfl (hb hby d2_72) ?_
                  exact retN X0 hx (t := .boolean) Bd.returns (by simp) (hb hby d2_73) hr
                · show Q_rm2 Z p1 h0 n0 _ s₁.heap _
                  rw [e0]
                  exact ⟨(own_rc0 (by (unfold own_P; have := own_nlt (a := (p1).toInt) (b := 1) hc2_43 rfl rfl; have := own_lt (a := 8) (b := (p1).toInt) hc8_105 rfl rfl; have := own_nlt (a := (p1).toInt) (b := 11) hc16_107 rfl rfl; have := own_lt (a := 12) (b := (p1).toInt) hc22_137 rfl rfl; have := own_lt (a := (p1).toInt) (b := 14) hc30_139 rfl rfl; have := own_lt (a := (p1).toInt) (b := 127) hc44_141 rfl rfl; have := own_lt (a := (p1).toInt) (b := 134) hc60_143 rfl rfl; omega))), N0, rfl⟩
              · have pre146 : ∀ t, Steps p.tables e below (s₁.setTop (mkF m 67 #[.val (.int p1)] [(.int (159 : Int32)), (.int p1)])) t → Steps p.tables e below (s₁.setTop (entryFrame m #[(.int p1)] 1)) t := by
                  intro t kt
                  refine pre144 _ ?_
                  show Steps p.tables e below (s₁.setTop (mkF m 60 #[.val (.int p1)] [(.int (134 : Int32)), (.int p1)])) _
                  refine XS.icmpNo X0.here hx rfl (hb hby d2_60) rfl (flt hc60_143).1 ?_
                  refine XS.iloadN X0.here hx rfl (hb hby d2_63) rfl ?_
                  refine XS.sipush X0.here hx rfl (hb hby d2_64) ?_
                  exact kt
                by_cases hc67_145 : (159 : Int32) < p1
                · obtain ⟨fs, hr, hrun, hended, hW, hsame⟩ := X0.leave (v := some (.int (0 : Int32))) (fun h => by rw [Bd.returns] at h; cases h)
                  refine ⟨_, _, pre146 _ ?_, hrun, hended, _, _, rfl, ?_, ⟨_, rfl⟩, hW, hsame.mono (by decide) (by decide)⟩
                  · show Steps p.tables e below (s₁.setTop (mkF m 67 #[.val (.int p1)] [(.int (159 : Int32)), (.int p1)])) _
                    refine XS.icmpYes X0.here hx rfl (pc0 := 67) (pc' := 72) rfl (hb hby d2_67) rfl (tlt hc67_145).2.2.1 (by decide) (by decide) ?_
                    show Steps p.tables e below (s₁.setTop (mkF m 72 #[.val (.int p1)] [])) _
                    refine XS.iconst X0.here hx rfl (hb hby d2_72) ?_
                    exact retN X0 hx (t := .boolean) Bd.returns (by simp) (hb hby d2_73) hr
                  · show Q_rm2 Z p1 h0 n0 _ s₁.heap _
                    rw [e0]
                    exact ⟨(own_rc0 (by (unfold own_P; have := own_nlt (a := (p1).toInt) (b := 1) hc2_43 rfl rfl; have := own_lt (a := 8) (b := (p1).toInt) hc8_105 rfl rfl; have := own_nlt (a := (p1).toInt) (b := 11) hc16_107 rfl rfl; have := own_lt (a := 12) (b := (p1).toInt) hc22_137 rfl rfl; have := own_lt (a := (p1).toInt) (b := 14) hc30_139 rfl rfl; have := own_lt (a := (p1).toInt) (b := 127) hc44_141 rfl rfl; have := own_nlt (a := (p1).toInt) (b := 134) hc60_143 rfl rfl; have := own_lt (a := 159) (b := (p1).toInt) hc67_145 rfl rfl; omega))), N0, rfl⟩
                · obtain ⟨fs, hr, hrun, hended, hW, hsame⟩ := X0.leave (v := some (.int (1 : Int32))) (fun h => by rw [Bd.returns] at h; cases h)
                  refine ⟨_, _, pre146 _ ?_, hrun, hended, _, _, rfl, ?_, ⟨_, rfl⟩, hW, hsame.mono (by decide) (by decide)⟩
                  · show Steps p.tables e below (s₁.setTop (mkF m 67 #[.val (.int p1)] [(.int (159 : Int32)), (.int p1)])) _
                    refine XS.icmpNo X0.here hx rfl (hb hby d2_67) rfl (flt hc67_145).2.2.1 ?_
                    show Steps p.tables e below (s₁.setTop (mkF m 70 #[.val (.int p1)] [])) _
                    refine XS.iconst X0.here hx rfl (hb hby d2_70) ?_
                    exact retN X0 hx (t := .boolean) Bd.returns (by simp) (hb hby d2_71) hr
                  · show Q_rm2 Z p1 h0 n0 _ s₁.heap _
                    rw [e0]
                    exact ⟨(own_rc1 (by (unfold own_P; have := own_nlt (a := (p1).toInt) (b := 1) hc2_43 rfl rfl; have := own_lt (a := 8) (b := (p1).toInt) hc8_105 rfl rfl; have := own_nlt (a := (p1).toInt) (b := 11) hc16_107 rfl rfl; have := own_lt (a := 12) (b := (p1).toInt) hc22_137 rfl rfl; have := own_lt (a := (p1).toInt) (b := 14) hc30_139 rfl rfl; have := own_lt (a := (p1).toInt) (b := 127) hc44_141 rfl rfl; have := own_nlt (a := (p1).toInt) (b := 134) hc60_143 rfl rfl; have := own_nlt (a := 159) (b := (p1).toInt) hc67_145 rfl rfl; omega))), N0, rfl⟩
            · have pre148 : ∀ t, Steps p.tables e below (s₁.setTop (mkF m 51 #[.val (.int p1)] [(.int (132 : Int32)), (.int p1)])) t → Steps p.tables e below (s₁.setTop (entryFrame m #[(.int p1)] 1)) t := by
                intro t kt
                refine pre142 _ ?_
                show Steps p.tables e below (s₁.setTop (mkF m 44 #[.val (.int p1)] [(.int (127 : Int32)), (.int p1)])) _
                refine XS.icmpNo X0.here hx rfl (hb hby d2_44) rfl (flt hc44_141).1 ?_
                refine XS.iloadN X0.here hx rfl (hb hby d2_47) rfl ?_
                refine XS.sipush X0.here hx rfl (hb hby d2_48) ?_
                show Steps p.tables e below (s₁.setTop (mkF m 51 #[.val (.int p1)] [(.int (132 : Int32)), (.int p1)])) _
                exact kt
              by_cases hc51_147 : (132 : Int32) < p1
              · have pre150 : ∀ t, Steps p.tables e below (s₁.setTop (mkF m 60 #[.val (.int p1)] [(.int (134 : Int32)), (.int p1)])) t → Steps p.tables e below (s₁.setTop (entryFrame m #[(.int p1)] 1)) t := by
                  intro t kt
                  refine pre148 _ ?_
                  show Steps p.tables e below (s₁.setTop (mkF m 51 #[.val (.int p1)] [(.int (132 : Int32)), (.int p1)])) _
                  refine XS.icmpYes X0.here hx rfl (pc0 := 51) (pc' := 56) rfl (hb hby d2_51) rfl (tlt hc51_147).2.2.1 (by decide) (by decide) ?_
                  refine XS.iloadN X0.here hx rfl (hb hby d2_56) rfl ?_
                  refine XS.sipush X0.here hx rfl (hb hby d2_57) ?_
                  exact kt
                by_cases hc60_149 : p1 < (134 : Int32)
                · obtain ⟨fs, hr, hrun, hended, hW, hsame⟩ := X0.leave (v := some (.int (0 : Int32))) (fun h => by rw [Bd.returns] at h; cases h)
                  refine ⟨_, _, pre150 _ ?_, hrun, hended, _, _, rfl, ?_, ⟨_, rfl⟩, hW, hsame.mono (by decide) (by decide)⟩
                  · show Steps p.tables e below (s₁.setTop (mkF m 60 #[.val (.int p1)] [(.int (134 : Int32)), (.int p1)])) _
                    refine XS.icmpYes X0.here hx rfl (pc0 := 60) (pc' := 72) rfl (hb hby d2_60) rfl (tlt hc60_149).1 (by decide) (by decide) ?_
                    show Steps p.tables e below (s₁.setTop (mkF m 72 #[.val (.int p1)] [])) _
                    refine XS.iconst X0.here hx rfl (hb hby d2_72) ?_
                    exact retN X0 hx (t := .boolean) Bd.returns (by simp) (hb hby d2_73) hr
                  · show Q_rm2 Z p1 h0 n0 _ s₁.heap _
                    rw [e0]
                    exact ⟨(own_rc0 (by (unfold own_P; have := own_nlt (a := (p1).toInt) (b := 1) hc2_43 rfl rfl; have := own_lt (a := 8) (b := (p1).toInt) hc8_105 rfl rfl; have := own_nlt (a := (p1).toInt) (b := 11) hc16_107 rfl rfl; have := own_lt (a := 12) (b := (p1).toInt) hc22_137 rfl rfl; have := own_lt (a := (p1).toInt) (b := 14) hc30_139 rfl rfl; have := own_nlt (a := (p1).toInt) (b := 127) hc44_141 rfl rfl; have := own_lt (a := 132) (b := (p1).toInt) hc51_147 rfl rfl; have := own_lt (a := (p1).toInt) (b := 134) hc60_149 rfl rfl; omega))), N0, rfl⟩
                · have pre152 : ∀ t, Steps p.tables e below (s₁.setTop (mkF m 67 #[.val (.int p1)] [(.int (159 : Int32)), (.int p1)])) t → Steps p.tables e below (s₁.setTop (entryFrame m #[(.int p1)] 1)) t := by
                    intro t kt
                    refine pre150 _ ?_
                    show Steps p.tables e below (s₁.setTop (mkF m 60 #[.val (.int p1)] [(.int (134 : Int32)), (.int p1)])) _
                    refine XS.icmpNo X0.here hx rfl (hb hby d2_60) rfl (flt hc60_149).1 ?_
                    show Steps p.tables e below (s₁.setTop (mkF m 63 #[.val (.int p1)] [])) _
                    refine XS.iloadN X0.here hx rfl (hb hby d2_63) rfl ?_
                    refine XS.sipush X0.here hx rfl (hb hby d2_64) ?_
                    exact kt
                  by_cases hc67_151 : (159 : Int32) < p1
                  · obtain ⟨fs, hr, hrun, hended, hW, hsame⟩ := X0.leave (v := some (.int (0 : Int32))) (fun h => by rw [Bd.returns] at h; cases h)
                    refine ⟨_, _, pre152 _ ?_, hrun, hended, _, _, rfl, ?_, ⟨_, rfl⟩, hW, hsame.mono (by decide) (by decide)⟩
                    · show Steps p.tables e below (s₁.setTop (mkF m 67 #[.val (.int p1)] [(.int (159 : Int32)), (.int p1)])) _
                      refine XS.icmpYes X0.here hx rfl (pc0 := 67) (pc' := 72) rfl (hb hby d2_67) rfl (tlt hc67_151).2.2.1 (by decide) (by decide) ?_
                      refine XS.iconst X0.here hx rfl (hb hby d2_72) ?_
                      show Steps p.tables e below (s₁.setTop (mkF m 73 #[.val (.int p1)] [(.int (0 : Int32))])) _
                      exact retN X0 hx (t := .boolean) Bd.returns (by simp) (hb hby d2_73) hr
                    · show Q_rm2 Z p1 h0 n0 _ s₁.heap _
                      rw [e0]
                      exact ⟨(own_rc0 (by (unfold own_P; have := own_nlt (a := (p1).toInt) (b := 1) hc2_43 rfl rfl; have := own_lt (a := 8) (b := (p1).toInt) hc8_105 rfl rfl; have := own_nlt (a := (p1).toInt) (b := 11) hc16_107 rfl rfl; have := own_lt (a := 12) (b := (p1).toInt) hc22_137 rfl rfl; have := own_lt (a := (p1).toInt) (b := 14) hc30_139 rfl rfl; have := own_nlt (a := (p1).toInt) (b := 127) hc44_141 rfl rfl; have := own_lt (a := 132) (b := (p1).toInt) hc51_147 rfl rfl; have := own_nlt (a := (p1).toInt) (b := 134) hc60_149 rfl rfl; have := own_lt (a := 159) (b := (p1).toInt) hc67_151 rfl rfl; omega))), N0, rfl⟩
                  · obtain ⟨fs, hr, hrun, hended, hW, hsame⟩ := X0.leave (v := some (.int (1 : Int32))) (fun h => by rw [Bd.returns] at h; cases h)
                    refine ⟨_, _, pre152 _ ?_, hrun, hended, _, _, rfl, ?_, ⟨_, rfl⟩, hW, hsame.mono (by decide) (by decide)⟩
                    · show Steps p.tables e below (s₁.setTop (mkF m 67 #[.val (.int p1)] [(.int (159 : Int32)), (.int p1)])) _
                      refine XS.icmpNo X0.here hx rfl (hb hby d2_67) rfl (flt hc67_151).2.2.1 ?_
                      refine XS.iconst X0.here hx rfl (hb hby d2_70) ?_
                      show Steps p.tables e below (s₁.setTop (mkF m 71 #[.val (.int p1)] [(.int (1 : Int32))])) _
                      exact retN X0 hx (t := .boolean) Bd.returns (by simp) (hb hby d2_71) hr
                    · show Q_rm2 Z p1 h0 n0 _ s₁.heap _
                      rw [e0]
                      exact ⟨(own_rc1 (by (unfold own_P; have := own_nlt (a := (p1).toInt) (b := 1) hc2_43 rfl rfl; have := own_lt (a := 8) (b := (p1).toInt) hc8_105 rfl rfl; have := own_nlt (a := (p1).toInt) (b := 11) hc16_107 rfl rfl; have := own_lt (a := 12) (b := (p1).toInt) hc22_137 rfl rfl; have := own_lt (a := (p1).toInt) (b := 14) hc30_139 rfl rfl; have := own_nlt (a := (p1).toInt) (b := 127) hc44_141 rfl rfl; have := own_lt (a := 132) (b := (p1).toInt) hc51_147 rfl rfl; have := own_nlt (a := (p1).toInt) (b := 134) hc60_149 rfl rfl; have := own_nlt (a := 159) (b := (p1).toInt) hc67_151 rfl rfl; omega))), N0, rfl⟩
              · obtain ⟨fs, hr, hrun, hended, hW, hsame⟩ := X0.leave (v := some (.int (1 : Int32))) (fun h => by rw [Bd.returns] at h; cases h)
                refine ⟨_, _, pre148 _ ?_, hrun, hended, _, _, rfl, ?_, ⟨_, rfl⟩, hW, hsame.mono (by decide) (by decide)⟩
                · show Steps p.tables e below (s₁.setTop (mkF m 51 #[.val (.int p1)] [(.int (132 : Int32)), (.int p1)])) _
                  refine XS.icmpNo X0.here hx rfl (hb hby d2_51) rfl (flt hc51_147).2.2.1 ?_
                  refine XS.iconst X0.here hx rfl (hb hby d2_54) ?_
                  exact retN X0 hx (t := .boolean) Bd.returns (by simp) (hb hby d2_55) hr
                · show Q_rm2 Z p1 h0 n0 _ s₁.heap _
                  rw [e0]
                  exact ⟨(own_rc1 (by (unfold own_P; have := own_nlt (a := (p1).toInt) (b := 1) hc2_43 rfl rfl; have := own_lt (a := 8) (b := (p1).toInt) hc8_105 rfl rfl; have := own_nlt (a := (p1).toInt) (b := 11) hc16_107 rfl rfl; have := own_lt (a := 12) (b := (p1).toInt) hc22_137 rfl rfl; have := own_lt (a := (p1).toInt) (b := 14) hc30_139 rfl rfl; have := own_nlt (a := (p1).toInt) (b := 127) hc44_141 rfl rfl; have := own_nlt (a := 132) (b := (p1).toInt) hc51_147 rfl rfl; omega))), N0, rfl⟩
          · have pre154 : ∀ t, Steps p.tables e below (s₁.setTop (mkF m 36 #[.val (.int p1)] [(.int (31 : Int32)), (.int p1)])) t → Steps p.tables e below (s₁.setTop (entryFrame m #[(.int p1)] 1)) t := by
              intro t kt
              refine pre140 _ ?_
              show Steps p.tables e below (s₁.setTop (mkF m 30 #[.val (.int p1)] [(.int (14 : Int32)), (.int p1)])) _
              refine XS.icmpNo X0.here hx rfl (hb hby d2_30) rfl (flt hc30_139).1 ?_
              refine XS.iloadN X0.here hx rfl (hb hby d2_33) rfl ?_
              show Steps p.tables e below (s₁.setTop (mkF m 34 #[.val (.int p1)] [(.int p1)])) _
              refine XS.bipush X0.here hx rfl (hb hby d2_34) ?_
              exact kt
            by_cases hc36_153 : (31 : Int32) < p1
            · have pre156 : ∀ t, Steps p.tables e below (s₁.setTop (mkF m 44 #[.val (.int p1)] [(.int (127 : Int32)), (.int p1)])) t → Steps p.tables e below (s₁.setTop (entryFrame m #[(.int p1)] 1)) t := by
                intro t kt
                refine pre154 _ ?_
                show Steps p.tables e below (s₁.setTop (mkF m 36 #[.val (.int p1)] [(.int (31 : Int32)), (.int p1)])) _
                refine XS.icmpYes X0.here hx rfl (pc0 := 36) (pc' := 41) rfl (hb hby d2_36) rfl (tlt hc36_153).2.2.1 (by decide) (by decide) ?_
                refine XS.iloadN X0.here hx rfl (hb hby d2_41) rfl ?_
                refine XS.bipush X0.here hx rfl (hb hby d2_42) ?_
                show Steps p.tables e below (s₁.setTop (mkF m 44 #[.val (.int p1)] [(.int (127 : Int32)), (.int p1)])) _
                exact kt
              by_cases hc44_155 : p1 < (127 : Int32)
              · have pre158 : ∀ t, Steps p.tables e below (s₁.setTop (mkF m 60 #[.val (.int p1)] [(.int (134 : Int32)), (.int p1)])) t → Steps p.tables e below (s₁.setTop (entryFrame m #[(.int p1)] 1)) t := by
                  intro t kt
                  refine pre156 _ ?_
                  show Steps p.tables e below (s₁.setTop (mkF m 44 #[.val (.int p1)] [(.int (127 : Int32)), (.int p1)])) _
                  refine XS.icmpYes X0.here hx rfl (pc0 := 44) (pc' := 56) rfl (hb hby d2_44) rfl (tlt hc44_155).1 (by decide) (by decide) ?_
                  refine XS.iloadN X0.here hx rfl (hb hby d2_56) rfl ?_
                  refine XS.sipush X0.here hx rfl (hb hby d2_57) ?_
                  exact kt
                by_cases hc60_157 : p1 < (134 : Int32)
                · obtain ⟨fs, hr, hrun, hended, hW, hsame⟩ := X0.leave (v := some (.int (0 : Int32))) (fun h => by rw [Bd.returns] at h; cases h)
                  refine ⟨_, _, pre158 _ ?_, hrun, hended, _, _, rfl, ?_, ⟨_, rfl⟩, hW, hsame.mono (by decide) (by decide)⟩
                  · show Steps p.tables e below (s₁.setTop (mkF m 60 #[.val (.int p1)] [(.int (134 : Int32)), (.int p1)])) _
                    refine XS.icmpYes X0.here hx rfl (pc0 := 60) (pc' := 72) rfl (hb hby d2_60) rfl (tlt hc60_157).1 (by decide) (by decide) ?_
                    show Steps p.tables e below (s₁.setTop (mkF m 72 #[.val (.int p1)] [])) _
                    refine XS.iconst X0.here hx rfl (hb hby d2_72) ?_
                    exact retN X0 hx (t := .boolean) Bd.returns (by simp) (hb hby d2_73) hr
                  · show Q_rm2 Z p1 h0 n0 _ s₁.heap _
                    rw [e0]
                    exact ⟨(own_rc0 (by (unfold own_P; have := own_nlt (a := (p1).toInt) (b := 1) hc2_43 rfl rfl; have := own_lt (a := 8) (b := (p1).toInt) hc8_105 rfl rfl; have := own_nlt (a := (p1).toInt) (b := 11) hc16_107 rfl rfl; have := own_lt (a := 12) (b := (p1).toInt) hc22_137 rfl rfl; have := own_nlt (a := (p1).toInt) (b := 14) hc30_139 rfl rfl; have := own_lt (a := 31) (b := (p1).toInt) hc36_153 rfl rfl; have := own_lt (a := (p1).toInt) (b := 127) hc44_155 rfl rfl; have := own_lt (a := (p1).toInt) (b := 134) hc60_157 rfl rfl; omega))), N0, rfl⟩
                · have pre160 : ∀ t, Steps p.tables e below (s₁.setTop (mkF m 67 #[.val (.int p1)] [(.int (159 : Int32)), (.int p1)])) t → Steps p.tables e below (s₁.setTop (entryFrame m #[(.int p1)] 1)) t := by
                    intro t kt
                    refine pre158 _ ?_
                    show Steps p.tables e below (s₁.setTop (mkF m 60 #[.val (.int p1)] [(.int (134 : Int32)), (.int p1)])) _
                    refine XS.icmpNo X0.here hx rfl (hb hby d2_60) rfl (flt hc60_157).1 ?_
                    show Steps p.tables e below (s₁.setTop (mkF m 63 #[.val (.int p1)] [])) _
                    refine XS.iloadN X0.here hx rfl (hb hby d2_63) rfl ?_
                    refine XS.sipush X0.here hx rfl (hb hby d2_64) ?_
                    exact kt
                  by_cases hc67_159 : (159 : Int32) < p1
                  · obtain ⟨fs, hr, hrun, hended, hW, hsame⟩ := X0.leave (v := some (.int (0 : Int32))) (fun h => by rw [Bd.returns] at h; cases h)
                    refine ⟨_, _, pre160 _ ?_, hrun, hended, _, _, rfl, ?_, ⟨_, rfl⟩, hW, hsame.mono (by decide) (by decide)⟩
                    · show Steps p.tables e below (s₁.setTop (mkF m 67 #[.val (.int p1)] [(.int (159 : Int32)), (.int p1)])) _
                      refine XS.icmpYes X0.here hx rfl (pc0 := 67) (pc' := 72) rfl (hb hby d2_67) rfl (tlt hc67_159).2.2.1 (by decide) (by decide) ?_
                      refine XS.iconst X0.here hx rfl (hb hby d2_72) ?_
                      show Steps p.tables e below (s₁.setTop (mkF m 73 #[.val (.int p1)] [(.int (0 : Int32))])) _
                      exact retN X0 hx (t := .boolean) Bd.returns (by simp) (hb hby d2_73) hr
                    · show Q_rm2 Z p1 h0 n0 _ s₁.heap _
                      rw [e0]
                      exact ⟨(own_rc0 (by (unfold own_P; have := own_nlt (a := (p1).toInt) (b := 1) hc2_43 rfl rfl; have := own_lt (a := 8) (b := (p1).toInt) hc8_105 rfl rfl; have := own_nlt (a := (p1).toInt) (b := 11) hc16_107 rfl rfl; have := own_lt (a := 12) (b := (p1).toInt) hc22_137 rfl rfl; have := own_nlt (a := (p1).toInt) (b := 14) hc30_139 rfl rfl; have := own_lt (a := 31) (b := (p1).toInt) hc36_153 rfl rfl; have := own_lt (a := (p1).toInt) (b := 127) hc44_155 rfl rfl; have := own_nlt (a := (p1).toInt) (b := 134) hc60_157 rfl rfl; have := own_lt (a := 159) (b := (p1).toInt) hc67_159 rfl rfl; omega))), N0, rfl⟩
                  · obtain ⟨fs, hr, hrun, hended, hW, hsame⟩ := X0.leave (v := some (.int (1 : Int32))) (fun h => by rw [Bd.returns] at h; cases h)
                    refine ⟨_, _, pre160 _ ?_, hrun, hended, _, _, rfl, ?_, ⟨_, rfl⟩, hW, hsame.mono (by decide) (by decide)⟩
                    · show Steps p.tables e below (s₁.setTop (mkF m 67 #[.val (.int p1)] [(.int (159 : Int32)), (.int p1)])) _
                      refine XS.icmpNo X0.here hx rfl (hb hby d2_67) rfl (flt hc67_159).2.2.1 ?_
                      refine XS.iconst X0.here hx rfl (hb hby d2_70) ?_
                      show Steps p.tables e below (s₁.setTop (mkF m 71 #[.val (.int p1)] [(.int (1 : Int32))])) _
                      exact retN X0 hx (t := .boolean) Bd.returns (by simp) (hb hby d2_71) hr
                    · show Q_rm2 Z p1 h0 n0 _ s₁.heap _
                      rw [e0]
                      exact ⟨(own_rc1 (by (unfold own_P; have := own_nlt (a := (p1).toInt) (b := 1) hc2_43 rfl rfl; have := own_lt (a := 8) (b := (p1).toInt) hc8_105 rfl rfl; have := own_nlt (a := (p1).toInt) (b := 11) hc16_107 rfl rfl; have := own_lt (a := 12) (b := (p1).toInt) hc22_137 rfl rfl; have := own_nlt (a := (p1).toInt) (b := 14) hc30_139 rfl rfl; have := own_lt (a := 31) (b := (p1).toInt) hc36_153 rfl rfl; have := own_lt (a := (p1).toInt) (b := 127) hc44_155 rfl rfl; have := own_nlt (a := (p1).toInt) (b := 134) hc60_157 rfl rfl; have := own_nlt (a := 159) (b := (p1).toInt) hc67_159 rfl rfl; omega))), N0, rfl⟩
              · have pre162 : ∀ t, Steps p.tables e below (s₁.setTop (mkF m 51 #[.val (.int p1)] [(.int (132 : Int32)), (.int p1)])) t → Steps p.tables e below (s₁.setTop (entryFrame m #[(.int p1)] 1)) t := by
                  intro t kt
                  refine pre156 _ ?_
                  show Steps p.tables e below (s₁.setTop (mkF m 44 #[.val (.int p1)] [(.int (127 : Int32)), (.int p1)])) _
                  refine XS.icmpNo X0.here hx rfl (hb hby d2_44) rfl (flt hc44_155).1 ?_
                  refine XS.iloadN X0.here hx rfl (hb hby d2_47) rfl ?_
                  refine XS.sipush X0.here hx rfl (hb hby d2_48) ?_
                  exact kt
                by_cases hc51_161 : (132 : Int32) < p1
                · have pre164 : ∀ t, Steps p.tables e below (s₁.setTop (mkF m 60 #[.val (.int p1)] [(.int (134 : Int32)), (.int p1)])) t → Steps p.tables e below (s₁.setTop (entryFrame m #[(.int p1)] 1)) t := by
                    intro t kt
                    refine pre162 _ ?_
                    show Steps p.tables e below (s₁.setTop (mkF m 51 #[.val (.int p1)] [(.int (132 : Int32)), (.int p1)])) _
                    refine XS.icmpYes X0.here hx rfl (pc0 := 51) (pc' := 56) rfl (hb hby d2_51) rfl (tlt hc51_161).2.2.1 (by decide) (by decide) ?_
                    show Steps p.tables e below (s₁.setTop (mkF m 56 #[.val (.int p1)] [])) _
                    refine XS.iloadN X0.here hx rfl (hb hby d2_56) rfl ?_
                    refine XS.sipush X0.here hx rfl (hb hby d2_57) ?_
                    exact kt
                  by_cases hc60_163 : p1 < (134 : Int32)
                  · obtain ⟨fs, hr, hrun, hended, hW, hsame⟩ := X0.leave (v := some (.int (0 : Int32))) (fun h => by rw [Bd.returns] at h; cases h)
                    refine ⟨_, _, pre164 _ ?_, hrun, hended, _, _, rfl, ?_, ⟨_, rfl⟩, hW, hsame.mono (by decide) (by decide)⟩
                    · show Steps p.tables e below (s₁.setTop (mkF m 60 #[.val (.int p1)] [(.int (134 : Int32)), (.int p1)])) _
                      refine XS.icmpYes X0.here hx rfl (pc0 := 60) (pc' := 72) rfl (hb hby d2_60) rfl (tlt hc60_163).1 (by decide) (by decide) ?_
                      refine XS.iconst X0.here hx rfl (hb hby d2_72) ?_
                      show Steps p.tables e below (s₁.setTop (mkF m 73 #[.val (.int p1)] [(.int (0 : Int32))])) _
                      exact retN X0 hx (t := .boolean) Bd.returns (by simp) (hb hby d2_73) hr
                    · show Q_rm2 Z p1 h0 n0 _ s₁.heap _
                      rw [e0]
                      exact ⟨(own_rc0 (by (unfold own_P; have := own_nlt (a := (p1).toInt) (b := 1) hc2_43 rfl rfl; have := own_lt (a := 8) (b := (p1).toInt) hc8_105 rfl rfl; have := own_nlt (a := (p1).toInt) (b := 11) hc16_107 rfl rfl; have := own_lt (a := 12) (b := (p1).toInt) hc22_137 rfl rfl; have := own_nlt (a := (p1).toInt) (b := 14) hc30_139 rfl rfl; have := own_lt (a := 31) (b := (p1).toInt) hc36_153 rfl rfl; have := own_nlt (a := (p1).toInt) (b := 127) hc44_155 rfl rfl; have := own_lt (a := 132) (b := (p1).toInt) hc51_161 rfl rfl; have := own_lt (a := (p1).toInt) (b := 134) hc60_163 rfl rfl; omega))), N0, rfl⟩
                  · have pre166 : ∀ t, Steps p.tables e below (s₁.setTop (mkF m 67 #[.val (.int p1)] [(.int (159 : Int32)), (.int p1)])) t → Steps p.tables e below (s₁.setTop (entryFrame m #[(.int p1)] 1)) t := by
                      intro t kt
                      refine pre164 _ ?_
                      show Steps p.tables e below (s₁.setTop (mkF m 60 #[.val (.int p1)] [(.int (134 : Int32)), (.int p1)])) _
                      refine XS.icmpNo X0.here hx rfl (hb hby d2_60) rfl (flt hc60_163).1 ?_
                      refine XS.iloadN X0.here hx rfl (hb hby d2_63) rfl ?_
                      show Steps p.tables e below (s₁.setTop (mkF m 64 #[.val (.int p1)] [(.int p1)])) _
                      refine XS.sipush X0.here hx rfl (hb hby d2_64) ?_
                      exact kt
                    by_cases hc67_165 : (159 : Int32) < p1
                    · obtain ⟨fs, hr, hrun, hended, hW, hsame⟩ := X0.leave (v := some (.int (0 : Int32))) (fun h => by rw [Bd.returns] at h; cases h)
                      refine ⟨_, _, pre166 _ ?_, hrun, hended, _, _, rfl, ?_, ⟨_, rfl⟩, hW, hsame.mono (by decide) (by decide)⟩
                      · show Steps p.tables e below (s₁.setTop (mkF m 67 #[.val (.int p1)] [(.int (159 : Int32)), (.int p1)])) _
                        refine XS.icmpYes X0.here hx rfl (pc0 := 67) (pc' := 72) rfl (hb hby d2_67) rfl (tlt hc67_165).2.2.1 (by decide) (by decide) ?_
                        refine XS.iconst X0.here hx rfl (hb hby d2_72) ?_
                        exact retN X0 hx (t := .boolean) Bd.returns (by simp) (hb hby d2_73) hr
                      · show Q_rm2 Z p1 h0 n0 _ s₁.heap _
                        rw [e0]
                        exact ⟨(own_rc0 (by (unfold own_P; have := own_nlt (a := (p1).toInt) (b := 1) hc2_43 rfl rfl; have := own_lt (a := 8) (b := (p1).toInt) hc8_105 rfl rfl; have := own_nlt (a := (p1).toInt) (b := 11) hc16_107 rfl rfl; have := own_lt (a := 12) (b := (p1).toInt) hc22_137 rfl rfl; have := own_nlt (a := (p1).toInt) (b := 14) hc30_139 rfl rfl; have := own_lt (a := 31) (b := (p1).toInt) hc36_153 rfl rfl; have := own_nlt (a := (p1).toInt) (b := 127) hc44_155 rfl rfl; have := own_lt (a := 132) (b := (p1).toInt) hc51_161 rfl rfl; have := own_nlt (a := (p1).toInt) (b := 134) hc60_163 rfl rfl; have := own_lt (a := 159) (b := (p1).toInt) hc67_165 rfl rfl; omega))), N0, rfl⟩
                    · obtain ⟨fs, hr, hrun, hended, hW, hsame⟩ := X0.leave (v := some (.int (1 : Int32))) (fun h => by rw [Bd.returns] at h; cases h)
                      refine ⟨_, _, pre166 _ ?_, hrun, hended, _, _, rfl, ?_, ⟨_, rfl⟩, hW, hsame.mono (by decide) (by decide)⟩
                      · show Steps p.tables e below (s₁.setTop (mkF m 67 #[.val (.int p1)] [(.int (159 : Int32)), (.int p1)])) _
                        refine XS.icmpNo X0.here hx rfl (hb hby d2_67) rfl (flt hc67_165).2.2.1 ?_
                        refine XS.iconst X0.here hx rfl (hb hby d2_70) ?_
                        exact retN X0 hx (t := .boolean) Bd.returns (by simp) (hb hby d2_71) hr
                      · show Q_rm2 Z p1 h0 n0 _ s₁.heap _
                        rw [e0]
                        exact ⟨(own_rc1 (by (unfold own_P; have := own_nlt (a := (p1).toInt) (b := 1) hc2_43 rfl rfl; have := own_lt (a := 8) (b := (p1).toInt) hc8_105 rfl rfl; have := own_nlt (a := (p1).toInt) (b := 11) hc16_107 rfl rfl; have := own_lt (a := 12) (b := (p1).toInt) hc22_137 rfl rfl; have := own_nlt (a := (p1).toInt) (b := 14) hc30_139 rfl rfl; have := own_lt (a := 31) (b := (p1).toInt) hc36_153 rfl rfl; have := own_nlt (a := (p1).toInt) (b := 127) hc44_155 rfl rfl; have := own_lt (a := 132) (b := (p1).toInt) hc51_161 rfl rfl; have := own_nlt (a := (p1).toInt) (b := 134) hc60_163 rfl rfl; have := own_nlt (a := 159) (b := (p1).toInt) hc67_165 rfl rfl; omega))), N0, rfl⟩
                · obtain ⟨fs, hr, hrun, hended, hW, hsame⟩ := X0.leave (v := some (.int (1 : Int32))) (fun h => by rw [Bd.returns] at h; cases h)
                  refine ⟨_, _, pre162 _ ?_, hrun, hended, _, _, rfl, ?_, ⟨_, rfl⟩, hW, hsame.mono (by decide) (by decide)⟩
                  · show Steps p.tables e below (s₁.setTop (mkF m 51 #[.val (.int p1)] [(.int (132 : Int32)), (.int p1)])) _
                    refine XS.icmpNo X0.here hx rfl (hb hby d2_51) rfl (flt hc51_161).2.2.1 ?_
                    show Steps p.tables e below (s₁.setTop (mkF m 54 #[.val (.int p1)] [])) _
                    refine XS.iconst X0.here hx rfl (hb hby d2_54) ?_
                    exact retN X0 hx (t := .boolean) Bd.returns (by simp) (hb hby d2_55) hr
                  · show Q_rm2 Z p1 h0 n0 _ s₁.heap _
                    rw [e0]
                    exact ⟨(own_rc1 (by (unfold own_P; have := own_nlt (a := (p1).toInt) (b := 1) hc2_43 rfl rfl; have := own_lt (a := 8) (b := (p1).toInt) hc8_105 rfl rfl; have := own_nlt (a := (p1).toInt) (b := 11) hc16_107 rfl rfl; have := own_lt (a := 12) (b := (p1).toInt) hc22_137 rfl rfl; have := own_nlt (a := (p1).toInt) (b := 14) hc30_139 rfl rfl; have := own_lt (a := 31) (b := (p1).toInt) hc36_153 rfl rfl; have := own_nlt (a := (p1).toInt) (b := 127) hc44_155 rfl rfl; have := own_nlt (a := 132) (b := (p1).toInt) hc51_161 rfl rfl; omega))), N0, rfl⟩
            · obtain ⟨fs, hr, hrun, hended, hW, hsame⟩ := X0.leave (v := some (.int (1 : Int32))) (fun h => by rw [Bd.returns] at h; cases h)
              refine ⟨_, _, pre154 _ ?_, hrun, hended, _, _, rfl, ?_, ⟨_, rfl⟩, hW, hsame.mono (by decide) (by decide)⟩
              · show Steps p.tables e below (s₁.setTop (mkF m 36 #[.val (.int p1)] [(.int (31 : Int32)), (.int p1)])) _
                refine XS.icmpNo X0.here hx rfl (hb hby d2_36) rfl (flt hc36_153).2.2.1 ?_
                refine XS.iconst X0.here hx rfl (hb hby d2_39) ?_
                exact retN X0 hx (t := .boolean) Bd.returns (by simp) (hb hby d2_40) hr
              · show Q_rm2 Z p1 h0 n0 _ s₁.heap _
                rw [e0]
                exact ⟨(own_rc1 (by (unfold own_P; have := own_nlt (a := (p1).toInt) (b := 1) hc2_43 rfl rfl; have := own_lt (a := 8) (b := (p1).toInt) hc8_105 rfl rfl; have := own_nlt (a := (p1).toInt) (b := 11) hc16_107 rfl rfl; have := own_lt (a := 12) (b := (p1).toInt) hc22_137 rfl rfl; have := own_nlt (a := (p1).toInt) (b := 14) hc30_139 rfl rfl; have := own_nlt (a := 31) (b := (p1).toInt) hc36_153 rfl rfl; omega))), N0, rfl⟩
        · obtain ⟨fs, hr, hrun, hended, hW, hsame⟩ := X0.leave (v := some (.int (1 : Int32))) (fun h => by rw [Bd.returns] at h; cases h)
          refine ⟨_, _, pre138 _ ?_, hrun, hended, _, _, rfl, ?_, ⟨_, rfl⟩, hW, hsame.mono (by decide) (by decide)⟩
          · show Steps p.tables e below (s₁.setTop (mkF m 22 #[.val (.int p1)] [(.int (12 : Int32)), (.int p1)])) _
            refine XS.icmpNo X0.here hx rfl (hb hby d2_22) rfl (flt hc22_137).2.2.1 ?_
            show Steps p.tables e below (s₁.setTop (mkF m 25 #[.val (.int p1)] [])) _
            refine XS.iconst X0.here hx rfl (hb hby d2_25) ?_
            exact retN X0 hx (t := .boolean) Bd.returns (by simp) (hb hby d2_26) hr
          · show Q_rm2 Z p1 h0 n0 _ s₁.heap _
            rw [e0]
            exact ⟨(own_rc1 (by (unfold own_P; have := own_nlt (a := (p1).toInt) (b := 1) hc2_43 rfl rfl; have := own_lt (a := 8) (b := (p1).toInt) hc8_105 rfl rfl; have := own_nlt (a := (p1).toInt) (b := 11) hc16_107 rfl rfl; have := own_nlt (a := 12) (b := (p1).toInt) hc22_137 rfl rfl; omega))), N0, rfl⟩
    · obtain ⟨fs, hr, hrun, hended, hW, hsame⟩ := X0.leave (v := some (.int (1 : Int32))) (fun h => by rw [Bd.returns] at h; cases h)
      refine ⟨_, _, pre106 _ ?_, hrun, hended, _, _, rfl, ?_, ⟨_, rfl⟩, hW, hsame.mono (by decide) (by decide)⟩
      · show Steps p.tables e below (s₁.setTop (mkF m 8 #[.val (.int p1)] [(.int (8 : Int32)), (.int p1)])) _
        refine XS.icmpNo X0.here hx rfl (hb hby d2_8) rfl (flt hc8_105).2.2.1 ?_
        refine XS.iconst X0.here hx rfl (hb hby d2_11) ?_
        exact retN X0 hx (t := .boolean) Bd.returns (by simp) (hb hby d2_12) hr
      · show Q_rm2 Z p1 h0 n0 _ s₁.heap _
        rw [e0]
        exact ⟨(own_rc1 (by (unfold own_P; have := own_nlt (a := (p1).toInt) (b := 1) hc2_43 rfl rfl; have := own_nlt (a := 8) (b := (p1).toInt) hc8_105 rfl rfl; omega))), N0, rfl⟩
theorem wd_0 {a0 : Array Value} {Z : State} (hw : ∀ d ∈ tables_1, d.before a0 Z = true) : (Jvm.Cond.fieldLink "com/example/octavo/octavo/XmlVersionRestrictsPinLaw" (13 : Nat) "com/example/octavo/octavo/XmlVersion" "XML_1_0" "Lcom/example/octavo/octavo/XmlVersion;").before a0 Z = true := hw _ (List.mem_of_getElem? (i := 0) rfl)
theorem wd_3 {a0 : Array Value} {Z : State} (hw : ∀ d ∈ tables_1, d.before a0 Z = true) : (Jvm.Cond.methodLink "com/example/octavo/octavo/XmlVersionRestrictsPinLaw" (22 : Nat) ({ cls := "com/example/octavo/octavo/XmlVersion", name := "restricts", desc := "(I)Z" } : Jvm.MethodName)).before a0 Z = true := hw _ (List.mem_of_getElem? (i := 3) rfl)
theorem wd_7 {a0 : Array Value} {Z : State} (hw : ∀ d ∈ tables_1, d.before a0 Z = true) : (Jvm.Cond.code ({ cls := "com/example/octavo/octavo/XmlVersion", name := "restricts", desc := "(I)Z" } : Jvm.MethodName) prog_31_method_7_code (3 : Nat) (Option.some Jvm.ClassFile.FieldType.boolean)).before a0 Z = true := hw _ (List.mem_of_getElem? (i := 7) rfl)
theorem wd_1 {a0 : Array Value} {Z : State} (hw : ∀ d ∈ tables_1, d.before a0 Z = true) : (Jvm.Cond.initialized "com/example/octavo/octavo/XmlVersion").before a0 Z = true := hw _ (List.mem_of_getElem? (i := 1) rfl)
theorem pd__I_Z : parseMethodDescriptor "(I)Z" = some ⟨[.int], some .boolean⟩ := by decide +kernel
theorem wd_6 {a0 : Array Value} {Z : State} (hw : ∀ d ∈ tables_1, d.before a0 Z = true) : (Jvm.Cond.selects "com/example/octavo/octavo/XmlVersion" ({ cls := "com/example/octavo/octavo/XmlVersion", name := "restricts", desc := "(I)Z" } : Jvm.MethodName) ({ cls := "com/example/octavo/octavo/XmlVersion", name := "restricts", desc := "(I)Z" } : Jvm.MethodName)).before a0 Z = true := hw _ (List.mem_of_getElem? (i := 6) rfl)
theorem wd_4 {a0 : Array Value} {Z : State} (hw : ∀ d ∈ tables_1, d.before a0 Z = true) : (Jvm.Cond.declares ({ cls := "com/example/octavo/octavo/XmlVersion", name := "restricts", desc := "(I)Z" } : Jvm.MethodName)).before a0 Z = true := hw _ (List.mem_of_getElem? (i := 4) rfl)
theorem wd_5 {a0 : Array Value} {Z : State} (hw : ∀ d ∈ tables_1, d.before a0 Z = true) : (Jvm.Cond.instanceMethod ({ cls := "com/example/octavo/octavo/XmlVersion", name := "restricts", desc := "(I)Z" } : Jvm.MethodName)).before a0 Z = true := hw _ (List.mem_of_getElem? (i := 5) rfl)
theorem wd_10 {a0 : Array Value} {Z : State} (hw : ∀ d ∈ tables_1, d.before a0 Z = true) : (Jvm.Cond.fieldLink "com/example/octavo/octavo/XmlVersionRestrictsPinLaw" (7 : Nat) "com/example/octavo/octavo/XmlVersion" "XML_1_1" "Lcom/example/octavo/octavo/XmlVersion;").before a0 Z = true := hw _ (List.mem_of_getElem? (i := 10) rfl)
theorem wd_11 {a0 : Array Value} {Z : State} (hw : ∀ d ∈ tables_1, d.before a0 Z = true) : (Jvm.Cond.methodLink "com/example/octavo/octavo/XmlVersionRestrictsPinLaw" (16 : Nat) ({ cls := "com/example/octavo/octavo/XmlVersionRestrictsPinLaw", name := "restrictedChar", desc := "(I)Z" } : Jvm.MethodName)).before a0 Z = true := hw _ (List.mem_of_getElem? (i := 11) rfl)
theorem wd_14 {a0 : Array Value} {Z : State} (hw : ∀ d ∈ tables_1, d.before a0 Z = true) : (Jvm.Cond.code ({ cls := "com/example/octavo/octavo/XmlVersionRestrictsPinLaw", name := "restrictedChar", desc := "(I)Z" } : Jvm.MethodName) method_2_code (1 : Nat) (Option.some Jvm.ClassFile.FieldType.boolean)).before a0 Z = true := hw _ (List.mem_of_getElem? (i := 14) rfl)
theorem wd_13 {a0 : Array Value} {Z : State} (hw : ∀ d ∈ tables_1, d.before a0 Z = true) : (Jvm.Cond.initialized "com/example/octavo/octavo/XmlVersionRestrictsPinLaw").before a0 Z = true := hw _ (List.mem_of_getElem? (i := 13) rfl)
theorem wd_12 {a0 : Array Value} {Z : State} (hw : ∀ d ∈ tables_1, d.before a0 Z = true) : (Jvm.Cond.static ({ cls := "com/example/octavo/octavo/XmlVersionRestrictsPinLaw", name := "restrictedChar", desc := "(I)Z" } : Jvm.MethodName)).before a0 Z = true := hw _ (List.mem_of_getElem? (i := 12) rfl)
theorem ef_0 (m : MethodId) (x0 : Int32) (x1 : Int32) : entryFrame m #[(.int x0), (.int x1)] maxLocals = mkF m 0 #[.val (.int x0), .val (.int x1), .unset, .unset, .unset, .unset, .unset] [] := by first | (simp [entryFrame, mkF, argsToLocals, Value.category, maxLocals]; done) | rfl
def Q_rm0 (Z : State) (p1 : Int32) (p2 : Int32) (w0 : Addr) (w1 : Addr) (h0 : Heap) (n0 : Nat) (v : Option Value) (h : Heap) (L : List Loc) : Prop := v = some (.int (1 : Int32)) ∧ Fr n0 L ∧ True
set_option maxRecDepth 65536 in
set_option maxHeartbeats 40000000 in
theorem rm0 (l : Launch) (Z : State) (a0 : Array Value) (hw : ∀ d ∈ tables_1, d.before a0 Z = true) (ws : List Jvm.Cond) (p1 : Int32) (p2 : Int32) (w0 : Addr) (w1 : Addr) (h0 : Heap) (n0 : Nat) (Z0 : n0 ≤ h0.size) (S_XML_1_0 : Sta Z h0 "com/example/octavo/octavo/XmlVersion" "XML_1_0" "Lcom/example/octavo/octavo/XmlVersion;" (.ref w0)) (S_XML_1_1 : Sta Z h0 "com/example/octavo/octavo/XmlVersion" "XML_1_1" "Lcom/example/octavo/octavo/XmlVersion;" (.ref w1)) (E_w0 : Exa Z h0 w0 "com/example/octavo/octavo/XmlVersion") (E_w1 : Exa Z h0 w1 "com/example/octavo/octavo/XmlVersion") (hne : ¬ (w0 = w1)) :
    MetFree l x (head1 (Jvm.Cond.code x code maxLocals ret :: ws) room_1) (fun a U => a = #[(.int p1), (.int p2)] ∧ Z.Warmed39 U.vm ∧ U.heap = h0) (fun _ _ _ _ _ => True) (fun _ U o U' => ∃ v L, o = .returned v ∧ Q_rm0 Z p1 p2 w0 w1 h0 n0 v U'.heap L ∧ FrameEnd U o U' L room_1.cells room_1.slots) := by
  refine MetFree.of_bodySF (plainFor_of_name pn_com_example_octavo_octavo_XmlVersionRestrictsPinLaw) hisR ?_
  intro p e s m args below meth c s₁ Bd hml0 hP hK
  obtain ⟨rfl, hZ, hh⟩ := hP
  have hx := Bd.exec
  have hby := Bd.bytes
  have hml : c.maxLocals = 7 := hml0
  have hown : s.vm.findClass "com/example/octavo/octavo/XmlVersionRestrictsPinLaw" = some m.cls := findClass_of_methodNamed Bd.named
  have hnm := (name_of_methodNamed Bd.named Bd.method).1
  have X0 : Stand p l e room_1 s m #[(.int p1), (.int p2)] below meth c s₁ [] 0 0 := Stand.of_body Bd
  have e0 : s₁.heap = h0 := by rw [← hh, Bd.state]; rfl
  have N0 := Fr.nil n0
  have pre0 : ∀ t, Steps p.tables e below (s₁.setTop (mkF m 0 #[.val (.int p1), .val (.int p2), .unset, .unset, .unset, .unset, .unset] [])) t → Steps p.tables e below (s₁.setTop (entryFrame m #[(.int p1), (.int p2)] maxLocals)) t := fun t k => castTop (ef_0 m p1 p2) k
  have pre168 : ∀ t, Steps p.tables e below (s₁.setTop (mkF m 3 #[.val (.int p1), .val (.int p2), .unset, .unset, .unset, .unset, .unset] [(.int (p1 &&& (1 : Int32)))])) t → Steps p.tables e below (s₁.setTop (entryFrame m #[(.int p1), (.int p2)] maxLocals)) t := by
    intro t kt
    refine pre0 _ ?_
    show Steps p.tables e below (s₁.setTop (mkF m 0 #[.val (.int p1), .val (.int p2), .unset, .unset, .unset, .unset, .unset] [])) _
    refine XS.iloadN X0.here hx rfl (hb hby at_0) rfl ?_
    refine XS.iconst X0.here hx rfl (hb hby at_1) ?_
    refine XS.iand X0.here hx rfl (hb hby at_2) rfl ?_
    exact kt
  by_cases hc3_167 : (p1 &&& (1 : Int32)) = (0 : Int32)
  · have pre170 : ∀ t, Steps p.tables e below (s₁.setTop (mkF m 15 #[.val (.int p1), .val (.int p2), .val (.int (0 : Int32)), .unset, .unset, .unset, .unset] [(.int (p1 &&& (2 : Int32)))])) t → Steps p.tables e below (s₁.setTop (entryFrame m #[(.int p1), (.int p2)] maxLocals)) t := by
      intro t kt
      refine pre168 _ ?_
      show Steps p.tables e below (s₁.setTop (mkF m 3 #[.val (.int p1), .val (.int p2), .unset, .unset, .unset, .unset, .unset] [(.int (p1 &&& (1 : Int32)))])) _
      refine XS.ifYes X0.here hx rfl (pc0 := 3) (pc' := 10) rfl (hb hby at_3) rfl ((if0 _ _).trans (teq hc3_167).1) (by decide) (by decide) ?_
      show Steps p.tables e below (s₁.setTop (mkF m 10 #[.val (.int p1), .val (.int p2), .unset, .unset, .unset, .unset, .unset] [])) _
      refine XS.iconst X0.here hx rfl (hb hby at_10) ?_
      refine XS.istoreN X0.here hx rfl (hb hby at_11) rfl (l' := #[.val (.int p1), .val (.int p2), .val (.int (0 : Int32)), .unset, .unset, .unset, .unset]) rfl ?_
      refine XS.iloadN X0.here hx rfl (hb hby at_12) rfl ?_
      refine XS.iconst X0.here hx rfl (hb hby at_13) ?_
      show Steps p.tables e below (s₁.setTop (mkF m 14 #[.val (.int p1), .val (.int p2), .val (.int (0 : Int32)), .unset, .unset, .unset, .unset] [(.int (2 : Int32)), (.int p1)])) _
      refine XS.iand X0.here hx rfl (hb hby at_14) rfl ?_
      exact kt
    by_cases hc15_169 : (p1 &&& (2 : Int32)) = (0 : Int32)
    · obtain ⟨T171, X171, e171, st171⟩ := getS2 X0 hx hZ hown (host := "") (Or.inl (wd_0 hw)) Via.refl e0 S_XML_1_0 (g := (mkF m 51 #[.val (.int p1), .val (.int p2), .val (.int (0 : Int32)), .val (.int (0 : Int32)), .val (.int ((p2 &&& (255 : Int32)) - (1 : Int32))), .unset, .unset] [])) rfl (hb hby at_51)
      obtain ⟨cq172, kq172, q172a, q172b, q172c⟩ := isOf hZ e171 (E_w0)
      obtain ⟨_, _, ⟨T172, L172, k172, n172⟩, -, X172, ⟨Lc172, hQ172, l172, y172, z172⟩, st172⟩ := X171.virtualBack hx (y := (⟨"com/example/octavo/octavo/XmlVersion", "restricts", "(I)Z"⟩ : MethodName)) (z := (⟨"com/example/octavo/octavo/XmlVersion", "restricts", "(I)Z"⟩ : MethodName)) hown (mvT hZ (wd_3 hw)) (mvT hZ (wd_4 hw)) (notFace_of_selects (args := #[]) (mvT hZ (wd_6 hw))) (mvT hZ (wd_6 hw)) (mvT hZ (wd_5 hw)) (by decide) (backOf (W := 0) (rmr0 l Z a0 hw [] w0 ((p2 &&& (255 : Int32)) - (1 : Int32)) w1 h0 n0 Z0 S_XML_1_1 hne) hZ (wd_7 hw) (wd_1 hw) (by decide) (by decide)) q172a q172c (g := (mkF m 79 #[.val (.int p1), .val (.int p2), .val (.int (0 : Int32)), .val (.int (0 : Int32)), .val (.int ((p2 &&& (255 : Int32)) - (1 : Int32))), .val (.ref w0), .val (.int (0 : Int32))] [(.int ((p2 &&& (255 : Int32)) - (1 : Int32))), (.ref w0)])) rfl (by rw [hml]; rfl) (Steps.refl _) (argsL := [(.int ((p2 &&& (255 : Int32)) - (1 : Int32)))]) (rest := []) (lenOf pd__I_Z rfl) rfl (by show 2 * 0 + _ ≤ _; exact Nat.le_of_eq rfl) (hb hby at_79) (fun _ _ => ⟨rfl, e171, (by decide : 0 + 0 ≤ _), (by decide : 0 + 0 ≤ _)⟩)
      dsimp only [Pt.U, Pt.locs, Pt.cells, Pt.slots] at X172 l172 y172 z172 st172 hQ172
      subst l172 y172 z172
      obtain ⟨rfl, N172q, e172⟩ := hQ172
      have N172 := Fr.app N0 N172q
      obtain ⟨fs, hr, hrun, hended, hW, hsame⟩ := X172.leave (v := some (.int (1 : Int32))) (fun h => by rw [Bd.returns] at h; cases h)
      refine ⟨_, _, pre170 _ ?_, hrun, hended, _, _, rfl, ?_, ⟨_, rfl⟩, hW, hsame.mono (by decide) (by decide)⟩
      · show Steps p.tables e below (s₁.setTop (mkF m 15 #[.val (.int p1), .val (.int p2), .val (.int (0 : Int32)), .unset, .unset, .unset, .unset] [(.int (p1 &&& (2 : Int32)))])) _
        refine XS.ifYes X0.here hx rfl (pc0 := 15) (pc' := 22) rfl (hb hby at_15) rfl ((if0 _ _).trans (teq hc15_169).1) (by decide) (by decide) ?_
        refine XS.iconst X0.here hx rfl (hb hby at_22) ?_
        refine XS.istoreN X0.here hx rfl (hb hby at_23) rfl (l' := #[.val (.int p1), .val (.int p2), .val (.int (0 : Int32)), .val (.int (0 : Int32)), .unset, .unset, .unset]) rfl ?_
        show Steps p.tables e below (s₁.setTop (mkF m 24 #[.val (.int p1), .val (.int p2), .val (.int (0 : Int32)), .val (.int (0 : Int32)), .unset, .unset, .unset] [])) _
        refine XS.iloadN X0.here hx rfl (hb hby at_24) rfl ?_
        refine XS.ifYes X0.here hx rfl (pc0 := 25) (pc' := 32) rfl (hb hby at_25) rfl ((if0 _ _).trans (teq (rfl : (0 : Int32) = (0 : Int32))).1) (by decide) (by decide) ?_
        refine XS.iloadN X0.here hx rfl (hb hby at_32) rfl ?_
        refine XS.sipush X0.here hx rfl (hb hby at_33) ?_
        show Steps p.tables e below (s₁.setTop (mkF m 36 #[.val (.int p1), .val (.int p2), .val (.int (0 : Int32)), .val (.int (0 : Int32)), .unset, .unset, .unset] [(.int (255 : Int32)), (.int p2)])) _
        refine XS.iand X0.here hx rfl (hb hby at_36) rfl ?_
        refine XS.iconst X0.here hx rfl (hb hby at_37) ?_
        refine XS.isub X0.here hx rfl (hb hby at_38) rfl ?_
        refine XS.istore X0.here hx rfl (hb hby at_39) rfl (l' := #[.val (.int p1), .val (.int p2), .val (.int (0 : Int32)), .val (.int (0 : Int32)), .val (.int ((p2 &&& (255 : Int32)) - (1 : Int32))), .unset, .unset]) rfl ?_
        show Steps p.tables e below (s₁.setTop (mkF m 41 #[.val (.int p1), .val (.int p2), .val (.int (0 : Int32)), .val (.int (0 : Int32)), .val (.int ((p2 &&& (255 : Int32)) - (1 : Int32))), .unset, .unset] [])) _
        refine XS.iloadN X0.here hx rfl (hb hby at_41) rfl ?_
        refine XS.ifYes X0.here hx rfl (pc0 := 42) (pc' := 51) rfl (hb hby at_42) rfl ((if0 _ _).trans (teq (rfl : (0 : Int32) = (0 : Int32))).1) (by decide) (by decide) ?_
        refine st171 _ ?_
        refine XS.astore X171.here hx rfl (hb hby at_54) rfl rfl (l' := #[.val (.int p1), .val (.int p2), .val (.int (0 : Int32)), .val (.int (0 : Int32)), .val (.int ((p2 &&& (255 : Int32)) - (1 : Int32))), .val (.ref w0), .unset]) rfl ?_
        show Steps p.tables e below (T171.setTop (mkF m 56 #[.val (.int p1), .val (.int p2), .val (.int (0 : Int32)), .val (.int (0 : Int32)), .val (.int ((p2 &&& (255 : Int32)) - (1 : Int32))), .val (.ref w0), .unset] [])) _
        refine XS.iloadN X171.here hx rfl (hb hby at_56) rfl ?_
        refine XS.ifYes X171.here hx rfl (pc0 := 57) (pc' := 72) rfl (hb hby at_57) rfl ((if0 _ _).trans (teq (rfl : (0 : Int32) = (0 : Int32))).1) (by decide) (by decide) ?_
        refine XS.iconst X171.here hx rfl (hb hby at_72) ?_
        refine XS.istore X171.here hx rfl (hb hby at_73) rfl (l' := #[.val (.int p1), .val (.int p2), .val (.int (0 : Int32)), .val (.int (0 : Int32)), .val (.int ((p2 &&& (255 : Int32)) - (1 : Int32))), .val (.ref w0), .val (.int (0 : Int32))]) rfl ?_
        show Steps p.tables e below (T171.setTop (mkF m 75 #[.val (.int p1), .val (.int p2), .val (.int (0 : Int32)), .val (.int (0 : Int32)), .val (.int ((p2 &&& (255 : Int32)) - (1 : Int32))), .val (.ref w0), .val (.int (0 : Int32))] [])) _
        refine XS.aload X171.here hx rfl (hb hby at_75) rfl rfl ?_
        refine XS.iload X171.here hx rfl (hb hby at_77) rfl ?_
        refine st172.trans ?_
        refine XS.iload X172.here hx rfl (hb hby at_82) rfl ?_
        show Steps p.tables e below (T172.setTop (mkF m 84 #[.val (.int p1), .val (.int p2), .val (.int (0 : Int32)), .val (.int (0 : Int32)), .val (.int ((p2 &&& (255 : Int32)) - (1 : Int32))), .val (.ref w0), .val (.int (0 : Int32))] [(.int (0 : Int32)), (.int (0 : Int32))])) _
        refine XS.icmpNo X172.here hx rfl (hb hby at_84) rfl (teq (rfl : (0 : Int32) = 0)).2 ?_
        refine XS.iconst X172.here hx rfl (hb hby at_87) ?_
        refine XS.goto X172.here hx rfl (pc0 := 88) (pc' := 92) rfl (hb hby at_88) (by decide) (by decide) ?_
        exact retN X172 hx (t := .boolean) Bd.returns (by simp) (hb hby at_92) hr
      · show Q_rm0 Z p1 p2 w0 w1 h0 n0 _ T172.heap _
        rw [e172]
        exact ⟨rfl, N172, trivial⟩
    · obtain ⟨T173, X173, e173, st173⟩ := getS2 X0 hx hZ hown (host := "") (Or.inl (wd_0 hw)) Via.refl e0 S_XML_1_0 (g := (mkF m 51 #[.val (.int p1), .val (.int p2), .val (.int (0 : Int32)), .val (.int (1 : Int32)), .val (.int p2), .unset, .unset] [])) rfl (hb hby at_51)
      obtain ⟨cq174, kq174, q174a, q174b, q174c⟩ := isOf hZ e173 (E_w0)
      obtain ⟨_, _, ⟨T174, L174, k174, n174⟩, -, X174, ⟨Lc174, hQ174, l174, y174, z174⟩, st174⟩ := X173.virtualBack hx (y := (⟨"com/example/octavo/octavo/XmlVersion", "restricts", "(I)Z"⟩ : MethodName)) (z := (⟨"com/example/octavo/octavo/XmlVersion", "restricts", "(I)Z"⟩ : MethodName)) hown (mvT hZ (wd_3 hw)) (mvT hZ (wd_4 hw)) (notFace_of_selects (args := #[]) (mvT hZ (wd_6 hw))) (mvT hZ (wd_6 hw)) (mvT hZ (wd_5 hw)) (by decide) (backOf (W := 0) (rmr0 l Z a0 hw [] w0 p2 w1 h0 n0 Z0 S_XML_1_1 hne) hZ (wd_7 hw) (wd_1 hw) (by decide) (by decide)) q174a q174c (g := (mkF m 79 #[.val (.int p1), .val (.int p2), .val (.int (0 : Int32)), .val (.int (1 : Int32)), .val (.int p2), .val (.ref w0), .val (.int (0 : Int32))] [(.int p2), (.ref w0)])) rfl (by rw [hml]; rfl) (Steps.refl _) (argsL := [(.int p2)]) (rest := []) (lenOf pd__I_Z rfl) rfl (by show 2 * 0 + _ ≤ _; exact Nat.le_of_eq rfl) (hb hby at_79) (fun _ _ => ⟨rfl, e173, (by decide : 0 + 0 ≤ _), (by decide : 0 + 0 ≤ _)⟩)
      dsimp only [Pt.U, Pt.locs, Pt.cells, Pt.slots] at X174 l174 y174 z174 st174 hQ174
      subst l174 y174 z174
      obtain ⟨rfl, N174q, e174⟩ := hQ174
      have N174 := Fr.app N0 N174q
      obtain ⟨fs, hr, hrun, hended, hW, hsame⟩ := X174.leave (v := some (.int (1 : Int32))) (fun h => by rw [Bd.returns] at h; cases h)
      refine ⟨_, _, pre170 _ ?_, hrun, hended, _, _, rfl, ?_, ⟨_, rfl⟩, hW, hsame.mono (by decide) (by decide)⟩
      · show Steps p.tables e below (s₁.setTop (mkF m 15 #[.val (.int p1), .val (.int p2), .val (.int (0 : Int32)), .unset, .unset, .unset, .unset] [(.int (p1 &&& (2 : Int32)))])) _
        refine XS.ifNo X0.here hx rfl (hb hby at_15) rfl ((if0 _ _).trans (feq hc15_169).1) ?_
        refine XS.iconst X0.here hx rfl (hb hby at_18) ?_
        refine XS.goto X0.here hx rfl (pc0 := 19) (pc' := 23) rfl (hb hby at_19) (by decide) (by decide) ?_
        show Steps p.tables e below (s₁.setTop (mkF m 23 #[.val (.int p1), .val (.int p2), .val (.int (0 : Int32)), .unset, .unset, .unset, .unset] [(.int (1 : Int32))])) _
        refine XS.istoreN X0.here hx rfl (hb hby at_23) rfl (l' := #[.val (.int p1), .val (.int p2), .val (.int (0 : Int32)), .val (.int (1 : Int32)), .unset, .unset, .unset]) rfl ?_
        refine XS.iloadN X0.here hx rfl (hb hby at_24) rfl ?_
        refine XS.ifNo X0.here hx rfl (hb hby at_25) rfl ((if0 _ _).trans (feq (by decide)).1) ?_
        refine XS.iloadN X0.here hx rfl (hb hby at_28) rfl ?_
        show Steps p.tables e below (s₁.setTop (mkF m 29 #[.val (.int p1), .val (.int p2), .val (.int (0 : Int32)), .val (.int (1 : Int32)), .unset, .unset, .unset] [(.int p2)])) _
        refine XS.goto X0.here hx rfl (pc0 := 29) (pc' := 39) rfl (hb hby at_29) (by decide) (by decide) ?_
        refine XS.istore X0.here hx rfl (hb hby at_39) rfl (l' := #[.val (.int p1), .val (.int p2), .val (.int (0 : Int32)), .val (.int (1 : Int32)), .val (.int p2), .unset, .unset]) rfl ?_
        refine XS.iloadN X0.here hx rfl (hb hby at_41) rfl ?_
        refine XS.ifYes X0.here hx rfl (pc0 := 42) (pc' := 51) rfl (hb hby at_42) rfl ((if0 _ _).trans (teq (rfl : (0 : Int32) = (0 : Int32))).1) (by decide) (by decide) ?_
        show Steps p.tables e below (s₁.setTop (mkF m 51 #[.val (.int p1), .val (.int p2), .val (.int (0 : Int32)), .val (.int (1 : Int32)), .val (.int p2), .unset, .unset] [])) _
        refine st173 _ ?_
        refine XS.astore X173.here hx rfl (hb hby at_54) rfl rfl (l' := #[.val (.int p1), .val (.int p2), .val (.int (0 : Int32)), .val (.int (1 : Int32)), .val (.int p2), .val (.ref w0), .unset]) rfl ?_
        refine XS.iloadN X173.here hx rfl (hb hby at_56) rfl ?_
        refine XS.ifYes X173.here hx rfl (pc0 := 57) (pc' := 72) rfl (hb hby at_57) rfl ((if0 _ _).trans (teq (rfl : (0 : Int32) = (0 : Int32))).1) (by decide) (by decide) ?_
        show Steps p.tables e below (T173.setTop (mkF m 72 #[.val (.int p1), .val (.int p2), .val (.int (0 : Int32)), .val (.int (1 : Int32)), .val (.int p2), .val (.ref w0), .unset] [])) _
        refine XS.iconst X173.here hx rfl (hb hby at_72) ?_
        refine XS.istore X173.here hx rfl (hb hby at_73) rfl (l' := #[.val (.int p1), .val (.int p2), .val (.int (0 : Int32)), .val (.int (1 : Int32)), .val (.int p2), .val (.ref w0), .val (.int (0 : Int32))]) rfl ?_
        refine XS.aload X173.here hx rfl (hb hby at_75) rfl rfl ?_
        refine XS.iload X173.here hx rfl (hb hby at_77) rfl ?_
        show Steps p.tables e below (T173.setTop (mkF m 79 #[.val (.int p1), .val (.int p2), .val (.int (0 : Int32)), .val (.int (1 : Int32)), .val (.int p2), .val (.ref w0), .val (.int (0 : Int32))] [(.int p2), (.ref w0)])) _
        refine st174.trans ?_
        refine XS.iload X174.here hx rfl (hb hby at_82) rfl ?_
        refine XS.icmpNo X174.here hx rfl (hb hby at_84) rfl (teq (rfl : (0 : Int32) = 0)).2 ?_
        refine XS.iconst X174.here hx rfl (hb hby at_87) ?_
        show Steps p.tables e below (T174.setTop (mkF m 88 #[.val (.int p1), .val (.int p2), .val (.int (0 : Int32)), .val (.int (1 : Int32)), .val (.int p2), .val (.ref w0), .val (.int (0 : Int32))] [(.int (1 : Int32))])) _
        refine XS.goto X174.here hx rfl (pc0 := 88) (pc' := 92) rfl (hb hby at_88) (by decide) (by decide) ?_
        exact retN X174 hx (t := .boolean) Bd.returns (by simp) (hb hby at_92) hr
      · show Q_rm0 Z p1 p2 w0 w1 h0 n0 _ T174.heap _
        rw [e174]
        exact ⟨rfl, N174, trivial⟩
  · have pre176 : ∀ t, Steps p.tables e below (s₁.setTop (mkF m 15 #[.val (.int p1), .val (.int p2), .val (.int (1 : Int32)), .unset, .unset, .unset, .unset] [(.int (p1 &&& (2 : Int32)))])) t → Steps p.tables e below (s₁.setTop (entryFrame m #[(.int p1), (.int p2)] maxLocals)) t := by
      intro t kt
      refine pre168 _ ?_
      show Steps p.tables e below (s₁.setTop (mkF m 3 #[.val (.int p1), .val (.int p2), .unset, .unset, .unset, .unset, .unset] [(.int (p1 &&& (1 : Int32)))])) _
      refine XS.ifNo X0.here hx rfl (hb hby at_3) rfl ((if0 _ _).trans (feq hc3_167).1) ?_
      show Steps p.tables e below (s₁.setTop (mkF m 6 #[.val (.int p1), .val (.int p2), .unset, .unset, .unset, .unset, .unset] [])) _
      refine XS.iconst X0.here hx rfl (hb hby at_6) ?_
      refine XS.goto X0.here hx rfl (pc0 := 7) (pc' := 11) rfl (hb hby at_7) (by decide) (by decide) ?_
      refine XS.istoreN X0.here hx rfl (hb hby at_11) rfl (l' := #[.val (.int p1), .val (.int p2), .val (.int (1 : Int32)), .unset, .unset, .unset, .unset]) rfl ?_
      refine XS.iloadN X0.here hx rfl (hb hby at_12) rfl ?_
      show Steps p.tables e below (s₁.setTop (mkF m 13 #[.val (.int p1), .val (.int p2), .val (.int (1 : Int32)), .unset, .unset, .unset, .unset] [(.int p1)])) _
      refine XS.iconst X0.here hx rfl (hb hby at_13) ?_
      refine XS.iand X0.here hx rfl (hb hby at_14) rfl ?_
      exact kt
    by_cases hc15_175 : (p1 &&& (2 : Int32)) = (0 : Int32)
    · obtain ⟨T177, X177, e177, st177⟩ := getS2 X0 hx hZ hown (host := "") (Or.inl (wd_10 hw)) Via.refl e0 S_XML_1_1 (g := (mkF m 45 #[.val (.int p1), .val (.int p2), .val (.int (1 : Int32)), .val (.int (0 : Int32)), .val (.int ((p2 &&& (255 : Int32)) - (1 : Int32))), .unset, .unset] [])) rfl (hb hby at_45)
      obtain ⟨_, _, ⟨T178, L178, k178, n178⟩, -, X178, ⟨Lc178, hQ178, l178, y178, z178⟩, st178⟩ := Jvm.LawKit.callS X177 hx (y := (⟨"com/example/octavo/octavo/XmlVersionRestrictsPinLaw", "restrictedChar", "(I)Z"⟩ : MethodName)) hown (mvT hZ (wd_11 hw)) (mvT hZ (wd_12 hw)) (mvT hZ (wd_13 hw)) (mvT hZ (wd_14 hw)) (by decide) (backOf (W := 0) (rm2 l Z a0 hw [] ((p2 &&& (255 : Int32)) - (1 : Int32)) h0 n0 Z0) hZ (wd_14 hw) (wd_13 hw) (by decide) (by decide)) (g := (mkF m 62 #[.val (.int p1), .val (.int p2), .val (.int (1 : Int32)), .val (.int (0 : Int32)), .val (.int ((p2 &&& (255 : Int32)) - (1 : Int32))), .val (.ref w1), .unset] [(.int ((p2 &&& (255 : Int32)) - (1 : Int32)))])) rfl (by rw [hml]; rfl) (argsL := [(.int ((p2 &&& (255 : Int32)) - (1 : Int32)))]) (rest := []) (lenOf pd__I_Z rfl) rfl (by show 2 * 0 + _ ≤ _; exact Nat.le_of_eq rfl) (hb hby at_62) (fun _ _ => ⟨rfl, e177, (by decide : 0 + 0 ≤ _), (by decide : 0 + 0 ≤ _)⟩)
      dsimp only [Pt.U, Pt.locs, Pt.cells, Pt.slots] at X178 l178 y178 z178 st178 hQ178
      subst l178 y178 z178
      obtain ⟨rfl, N178q, e178⟩ := hQ178
      have N178 := Fr.app N0 N178q
      have pre180 : ∀ t, Steps p.tables e below (T178.setTop (mkF m 65 #[.val (.int p1), .val (.int p2), .val (.int (1 : Int32)), .val (.int (0 : Int32)), .val (.int ((p2 &&& (255 : Int32)) - (1 : Int32))), .val (.ref w1), .unset] [(.int (own_rc ((p2 &&& (255 : Int32)) - (1 : Int32))))])) t → Steps p.tables e below (s₁.setTop (entryFrame m #[(.int p1), (.int p2)] maxLocals)) t := by
        intro t kt
        refine pre176 _ ?_
        show Steps p.tables e below (s₁.setTop (mkF m 15 #[.val (.int p1), .val (.int p2), .val (.int (1 : Int32)), .unset, .unset, .unset, .unset] [(.int (p1 &&& (2 : Int32)))])) _
        refine XS.ifYes X0.here hx rfl (pc0 := 15) (pc' := 22) rfl (hb hby at_15) rfl ((if0 _ _).trans (teq hc15_175).1) (by decide) (by decide) ?_
        refine XS.iconst X0.here hx rfl (hb hby at_22) ?_
        show Steps p.tables e below (s₁.setTop (mkF m 23 #[.val (.int p1), .val (.int p2), .val (.int (1 : Int32)), .unset, .unset, .unset, .unset] [(.int (0 : Int32))])) _
        refine XS.istoreN X0.here hx rfl (hb hby at_23) rfl (l' := #[.val (.int p1), .val (.int p2), .val (.int (1 : Int32)), .val (.int (0 : Int32)), .unset, .unset, .unset]) rfl ?_
        refine XS.iloadN X0.here hx rfl (hb hby at_24) rfl ?_
        refine XS.ifYes X0.here hx rfl (pc0 := 25) (pc' := 32) rfl (hb hby at_25) rfl ((if0 _ _).trans (teq (rfl : (0 : Int32) = (0 : Int32))).1) (by decide) (by decide) ?_
        refine XS.iloadN X0.here hx rfl (hb hby at_32) rfl ?_
        show Steps p.tables e below (s₁.setTop (mkF m 33 #[.val (.int p1), .val (.int p2), .val (.int (1 : Int32)), .val (.int (0 : Int32)), .unset, .unset, .unset] [(.int p2)])) _
        refine XS.sipush X0.here hx rfl (hb hby at_33) ?_
        refine XS.iand X0.here hx rfl (hb hby at_36) rfl ?_
        refine XS.iconst X0.here hx rfl (hb hby at_37) ?_
        refine XS.isub X0.here hx rfl (hb hby at_38) rfl ?_
        show Steps p.tables e below (s₁.setTop (mkF m 39 #[.val (.int p1), .val (.int p2), .val (.int (1 : Int32)), .val (.int (0 : Int32)), .unset, .unset, .unset] [(.int ((p2 &&& (255 : Int32)) - (1 : Int32)))])) _
        refine XS.istore X0.here hx rfl (hb hby at_39) rfl (l' := #[.val (.int p1), .val (.int p2), .val (.int (1 : Int32)), .val (.int (0 : Int32)), .val (.int ((p2 &&& (255 : Int32)) - (1 : Int32))), .unset, .unset]) rfl ?_
        refine XS.iloadN X0.here hx rfl (hb hby at_41) rfl ?_
        refine XS.ifNo X0.here hx rfl (hb hby at_42) rfl ((if0 _ _).trans (feq (by decide)).1) ?_
        refine st177 _ ?_
        show Steps p.tables e below (T177.setTop (mkF m 48 #[.val (.int p1), .val (.int p2), .val (.int (1 : Int32)), .val (.int (0 : Int32)), .val (.int ((p2 &&& (255 : Int32)) - (1 : Int32))), .unset, .unset] [(.ref w1)])) _
        refine XS.goto X177.here hx rfl (pc0 := 48) (pc' := 54) rfl (hb hby at_48) (by decide) (by decide) ?_
        refine XS.astore X177.here hx rfl (hb hby at_54) rfl rfl (l' := #[.val (.int p1), .val (.int p2), .val (.int (1 : Int32)), .val (.int (0 : Int32)), .val (.int ((p2 &&& (255 : Int32)) - (1 : Int32))), .val (.ref w1), .unset]) rfl ?_
        refine XS.iloadN X177.here hx rfl (hb hby at_56) rfl ?_
        refine XS.ifNo X177.here hx rfl (hb hby at_57) rfl ((if0 _ _).trans (feq (by decide)).1) ?_
        show Steps p.tables e below (T177.setTop (mkF m 60 #[.val (.int p1), .val (.int p2), .val (.int (1 : Int32)), .val (.int (0 : Int32)), .val (.int ((p2 &&& (255 : Int32)) - (1 : Int32))), .val (.ref w1), .unset] [])) _
        refine XS.iload X177.here hx rfl (hb hby at_60) rfl ?_
        refine st178 _ ?_
        exact kt
      by_cases hc65_179 : (own_rc ((p2 &&& (255 : Int32)) - (1 : Int32))) = (0 : Int32)
      · obtain ⟨cq181, kq181, q181a, q181b, q181c⟩ := isOf hZ e178 (E_w1)
        obtain ⟨_, _, ⟨T181, L181, k181, n181⟩, -, X181, ⟨Lc181, hQ181, l181, y181, z181⟩, st181⟩ := X178.virtualBack hx (y := (⟨"com/example/octavo/octavo/XmlVersion", "restricts", "(I)Z"⟩ : MethodName)) (z := (⟨"com/example/octavo/octavo/XmlVersion", "restricts", "(I)Z"⟩ : MethodName)) hown (mvT hZ (wd_3 hw)) (mvT hZ (wd_4 hw)) (notFace_of_selects (args := #[]) (mvT hZ (wd_6 hw))) (mvT hZ (wd_6 hw)) (mvT hZ (wd_5 hw)) (by decide) (backOf (W := 0) (rmr1 l Z a0 hw [] w1 ((p2 &&& (255 : Int32)) - (1 : Int32)) h0 n0 Z0 S_XML_1_1) hZ (wd_7 hw) (wd_1 hw) (by decide) (by decide)) q181a q181c (g := (mkF m 79 #[.val (.int p1), .val (.int p2), .val (.int (1 : Int32)), .val (.int (0 : Int32)), .val (.int ((p2 &&& (255 : Int32)) - (1 : Int32))), .val (.ref w1), .val (.int (0 : Int32))] [(.int ((p2 &&& (255 : Int32)) - (1 : Int32))), (.ref w1)])) rfl (by rw [hml]; rfl) (Steps.refl _) (argsL := [(.int ((p2 &&& (255 : Int32)) - (1 : Int32)))]) (rest := []) (lenOf pd__I_Z rfl) rfl (by show 2 * 0 + _ ≤ _; exact Nat.le_of_eq rfl) (hb hby at_79) (fun _ _ => ⟨rfl, e178, (by decide : 0 + 0 ≤ _), (by decide : 0 + 0 ≤ _)⟩)
        dsimp only [Pt.U, Pt.locs, Pt.cells, Pt.slots] at X181 l181 y181 z181 st181 hQ181
        subst l181 y181 z181
        obtain ⟨rfl, N181q, e181⟩ := hQ181
        have N181 := Fr.app N178 N181q
        obtain ⟨fs, hr, hrun, hended, hW, hsame⟩ := X181.leave (v := some (.int (1 : Int32))) (fun h => by rw [Bd.returns] at h; cases h)
        refine ⟨_, _, pre180 _ ?_, hrun, hended, _, _, rfl, ?_, ⟨_, rfl⟩, hW, hsame.mono (by decide) (by decide)⟩
        · show Steps p.tables e below (T178.setTop (mkF m 65 #[.val (.int p1), .val (.int p2), .val (.int (1 : Int32)), .val (.int (0 : Int32)), .val (.int ((p2 &&& (255 : Int32)) - (1 : Int32))), .val (.ref w1), .unset] [(.int (own_rc ((p2 &&& (255 : Int32)) - (1 : Int32))))])) _
          refine XS.ifYes X178.here hx rfl (pc0 := 65) (pc' := 72) rfl (hb hby at_65) rfl ((if0 _ _).trans (teq hc65_179).1) (by decide) (by decide) ?_
          refine XS.iconst X178.here hx rfl (hb hby at_72) ?_
          show Steps p.tables e below (T178.setTop (mkF m 73 #[.val (.int p1), .val (.int p2), .val (.int (1 : Int32)), .val (.int (0 : Int32)), .val (.int ((p2 &&& (255 : Int32)) - (1 : Int32))), .val (.ref w1), .unset] [(.int (0 : Int32))])) _
          refine XS.istore X178.here hx rfl (hb hby at_73) rfl (l' := #[.val (.int p1), .val (.int p2), .val (.int (1 : Int32)), .val (.int (0 : Int32)), .val (.int ((p2 &&& (255 : Int32)) - (1 : Int32))), .val (.ref w1), .val (.int (0 : Int32))]) rfl ?_
          refine XS.aload X178.here hx rfl (hb hby at_75) rfl rfl ?_
          refine XS.iload X178.here hx rfl (hb hby at_77) rfl ?_
          refine st181.trans ?_
          show Steps p.tables e below (T181.setTop (mkF m 82 #[.val (.int p1), .val (.int p2), .val (.int (1 : Int32)), .val (.int (0 : Int32)), .val (.int ((p2 &&& (255 : Int32)) - (1 : Int32))), .val (.ref w1), .val (.int (0 : Int32))] [(.int (own_rc ((p2 &&& (255 : Int32)) - (1 : Int32))))])) _
          refine XS.iload X181.here hx rfl (hb hby at_82) rfl ?_
          refine XS.icmpNo X181.here hx rfl (hb hby at_84) rfl (teq hc65_179).2 ?_
          refine XS.iconst X181.here hx rfl (hb hby at_87) ?_
          refine XS.goto X181.here hx rfl (pc0 := 88) (pc' := 92) rfl (hb hby at_88) (by decide) (by decide) ?_
          show Steps p.tables e below (T181.setTop (mkF m 92 #[.val (.int p1), .val (.int p2), .val (.int (1 : Int32)), .val (.int (0 : Int32)), .val (.int ((p2 &&& (255 : Int32)) - (1 : Int32))), .val (.ref w1), .val (.int (0 : Int32))] [(.int (1 : Int32))])) _
          exact retN X181 hx (t := .boolean) Bd.returns (by simp) (hb hby at_92) hr
        · show Q_rm0 Z p1 p2 w0 w1 h0 n0 _ T181.heap _
          rw [e181]
          exact ⟨rfl, N181, trivial⟩
      · obtain ⟨cq182, kq182, q182a, q182b, q182c⟩ := isOf hZ e178 (E_w1)
        obtain ⟨_, _, ⟨T182, L182, k182, n182⟩, -, X182, ⟨Lc182, hQ182, l182, y182, z182⟩, st182⟩ := X178.virtualBack hx (y := (⟨"com/example/octavo/octavo/XmlVersion", "restricts", "(I)Z"⟩ : MethodName)) (z := (⟨"com/example/octavo/octavo/XmlVersion", "restricts", "(I)Z"⟩ : MethodName)) hown (mvT hZ (wd_3 hw)) (mvT hZ (wd_4 hw)) (notFace_of_selects (args := #[]) (mvT hZ (wd_6 hw))) (mvT hZ (wd_6 hw)) (mvT hZ (wd_5 hw)) (by decide) (backOf (W := 0) (rmr1 l Z a0 hw [] w1 ((p2 &&& (255 : Int32)) - (1 : Int32)) h0 n0 Z0 S_XML_1_1) hZ (wd_7 hw) (wd_1 hw) (by decide) (by decide)) q182a q182c (g := (mkF m 79 #[.val (.int p1), .val (.int p2), .val (.int (1 : Int32)), .val (.int (0 : Int32)), .val (.int ((p2 &&& (255 : Int32)) - (1 : Int32))), .val (.ref w1), .val (.int (1 : Int32))] [(.int ((p2 &&& (255 : Int32)) - (1 : Int32))), (.ref w1)])) rfl (by rw [hml]; rfl) (Steps.refl _) (argsL := [(.int ((p2 &&& (255 : Int32)) - (1 : Int32)))]) (rest := []) (lenOf pd__I_Z rfl) rfl (by show 2 * 0 + _ ≤ _; exact Nat.le_of_eq rfl) (hb hby at_79) (fun _ _ => ⟨rfl, e178, (by decide : 0 + 0 ≤ _), (by decide : 0 + 0 ≤ _)⟩)
        dsimp only [Pt.U, Pt.locs, Pt.cells, Pt.slots] at X182 l182 y182 z182 st182 hQ182
        subst l182 y182 z182
        obtain ⟨rfl, N182q, e182⟩ := hQ182
        have N182 := Fr.app N178 N182q
        obtain ⟨fs, hr, hrun, hended, hW, hsame⟩ := X182.leave (v := some (.int (1 : Int32))) (fun h => by rw [Bd.returns] at h; cases h)
        refine ⟨_, _, pre180 _ ?_, hrun, hended, _, _, rfl, ?_, ⟨_, rfl⟩, hW, hsame.mono (by decide) (by decide)⟩
        · show Steps p.tables e below (T178.setTop (mkF m 65 #[.val (.int p1), .val (.int p2), .val (.int (1 : Int32)), .val (.int (0 : Int32)), .val (.int ((p2 &&& (255 : Int32)) - (1 : Int32))), .val (.ref w1), .unset] [(.int (own_rc ((p2 &&& (255 : Int32)) - (1 : Int32))))])) _
          refine XS.ifNo X178.here hx rfl (hb hby at_65) rfl ((if0 _ _).trans (feq hc65_179).1) ?_
          refine XS.iconst X178.here hx rfl (hb hby at_68) ?_
          show Steps p.tables e below (T178.setTop (mkF m 69 #[.val (.int p1), .val (.int p2), .val (.int (1 : Int32)), .val (.int (0 : Int32)), .val (.int ((p2 &&& (255 : Int32)) - (1 : Int32))), .val (.ref w1), .unset] [(.int (1 : Int32))])) _
          refine XS.goto X178.here hx rfl (pc0 := 69) (pc' := 73) rfl (hb hby at_69) (by decide) (by decide) ?_
          refine XS.istore X178.here hx rfl (hb hby at_73) rfl (l' := #[.val (.int p1), .val (.int p2), .val (.int (1 : Int32)), .val (.int (0 : Int32)), .val (.int ((p2 &&& (255 : Int32)) - (1 : Int32))), .val (.ref w1), .val (.int (1 : Int32))]) rfl ?_
          refine XS.aload X178.here hx rfl (hb hby at_75) rfl rfl ?_
          refine XS.iload X178.here hx rfl (hb hby at_77) rfl ?_
          show Steps p.tables e below (T178.setTop (mkF m 79 #[.val (.int p1), .val (.int p2), .val (.int (1 : Int32)), .val (.int (0 : Int32)), .val (.int ((p2 &&& (255 : Int32)) - (1 : Int32))), .val (.ref w1), .val (.int (1 : Int32))] [(.int ((p2 &&& (255 : Int32)) - (1 : Int32))), (.ref w1)])) _
          refine st182.trans ?_
          refine XS.iload X182.here hx rfl (hb hby at_82) rfl ?_
          refine XS.icmpNo X182.here hx rfl (hb hby at_84) rfl (teq (own_rcn hc65_179)).2 ?_
          refine XS.iconst X182.here hx rfl (hb hby at_87) ?_
          show Steps p.tables e below (T182.setTop (mkF m 88 #[.val (.int p1), .val (.int p2), .val (.int (1 : Int32)), .val (.int (0 : Int32)), .val (.int ((p2 &&& (255 : Int32)) - (1 : Int32))), .val (.ref w1), .val (.int (1 : Int32))] [(.int (1 : Int32))])) _
          refine XS.goto X182.here hx rfl (pc0 := 88) (pc' := 92) rfl (hb hby at_88) (by decide) (by decide) ?_
          exact retN X182 hx (t := .boolean) Bd.returns (by simp) (hb hby at_92) hr
        · show Q_rm0 Z p1 p2 w0 w1 h0 n0 _ T182.heap _
          rw [e182]
          exact ⟨rfl, N182, trivial⟩
    · obtain ⟨T183, X183, e183, st183⟩ := getS2 X0 hx hZ hown (host := "") (Or.inl (wd_10 hw)) Via.refl e0 S_XML_1_1 (g := (mkF m 45 #[.val (.int p1), .val (.int p2), .val (.int (1 : Int32)), .val (.int (1 : Int32)), .val (.int p2), .unset, .unset] [])) rfl (hb hby at_45)
      obtain ⟨_, _, ⟨T184, L184, k184, n184⟩, -, X184, ⟨Lc184, hQ184, l184, y184, z184⟩, st184⟩ := Jvm.LawKit.callS X183 hx (y := (⟨"com/example/octavo/octavo/XmlVersionRestrictsPinLaw", "restrictedChar", "(I)Z"⟩ : MethodName)) hown (mvT hZ (wd_11 hw)) (mvT hZ (wd_12 hw)) (mvT hZ (wd_13 hw)) (mvT hZ (wd_14 hw)) (by decide) (backOf (W := 0) (rm2 l Z a0 hw [] p2 h0 n0 Z0) hZ (wd_14 hw) (wd_13 hw) (by decide) (by decide)) (g := (mkF m 62 #[.val (.int p1), .val (.int p2), .val (.int (1 : Int32)), .val (.int (1 : Int32)), .val (.int p2), .val (.ref w1), .unset] [(.int p2)])) rfl (by rw [hml]; rfl) (argsL := [(.int p2)]) (rest := []) (lenOf pd__I_Z rfl) rfl (by show 2 * 0 + _ ≤ _; exact Nat.le_of_eq rfl) (hb hby at_62) (fun _ _ => ⟨rfl, e183, (by decide : 0 + 0 ≤ _), (by decide : 0 + 0 ≤ _)⟩)
      dsimp only [Pt.U, Pt.locs, Pt.cells, Pt.slots] at X184 l184 y184 z184 st184 hQ184
      subst l184 y184 z184
      obtain ⟨rfl, N184q, e184⟩ := hQ184
      have N184 := Fr.app N0 N184q
      have pre186 : ∀ t, Steps p.tables e below (T184.setTop (mkF m 65 #[.val (.int p1), .val (.int p2), .val (.int (1 : Int32)), .val (.int (1 : Int32)), .val (.int p2), .val (.ref w1), .unset] [(.int (own_rc p2))])) t → Steps p.tables e below (s₁.setTop (entryFrame m #[(.int p1), (.int p2)] maxLocals)) t := by
        intro t kt
        refine pre176 _ ?_
        show Steps p.tables e below (s₁.setTop (mkF m 15 #[.val (.int p1), .val (.int p2), .val (.int (1 : Int32)), .unset, .unset, .unset, .unset] [(.int (p1 &&& (2 : Int32)))])) _
        refine XS.ifNo X0.here hx rfl (hb hby at_15) rfl ((if0 _ _).trans (feq hc15_175).1) ?_
        refine XS.iconst X0.here hx rfl (hb hby at_18) ?_
        show Steps p.tables e below (s₁.setTop (mkF m 19 #[.val (.int p1), .val (.int p2), .val (.int (1 : Int32)), .unset, .unset, .unset, .unset] [(.int (1 : Int32))])) _
        refine XS.goto X0.here hx rfl (pc0 := 19) (pc' := 23) rfl (hb hby at_19) (by decide) (by decide) ?_
        refine XS.istoreN X0.here hx rfl (hb hby at_23) rfl (l' := #[.val (.int p1), .val (.int p2), .val (.int (1 : Int32)), .val (.int (1 : Int32)), .unset, .unset, .unset]) rfl ?_
        refine XS.iloadN X0.here hx rfl (hb hby at_24) rfl ?_
        refine XS.ifNo X0.here hx rfl (hb hby at_25) rfl ((if0 _ _).trans (feq (by decide)).1) ?_
        show Steps p.tables e below (s₁.setTop (mkF m 28 #[.val (.int p1), .val (.int p2), .val (.int (1 : Int32)), .val (.int (1 : Int32)), .unset, .unset, .unset] [])) _
        refine XS.iloadN X0.here hx rfl (hb hby at_28) rfl ?_
        refine XS.goto X0.here hx rfl (pc0 := 29) (pc' := 39) rfl (hb hby at_29) (by decide) (by decide) ?_
        refine XS.istore X0.here hx rfl (hb hby at_39) rfl (l' := #[.val (.int p1), .val (.int p2), .val (.int (1 : Int32)), .val (.int (1 : Int32)), .val (.int p2), .unset, .unset]) rfl ?_
        refine XS.iloadN X0.here hx rfl (hb hby at_41) rfl ?_
        show Steps p.tables e below (s₁.setTop (mkF m 42 #[.val (.int p1), .val (.int p2), .val (.int (1 : Int32)), .val (.int (1 : Int32)), .val (.int p2), .unset, .unset] [(.int (1 : Int32))])) _
        refine XS.ifNo X0.here hx rfl (hb hby at_42) rfl ((if0 _ _).trans (feq (by decide)).1) ?_
        refine st183 _ ?_
        refine XS.goto X183.here hx rfl (pc0 := 48) (pc' := 54) rfl (hb hby at_48) (by decide) (by decide) ?_
        refine XS.astore X183.here hx rfl (hb hby at_54) rfl rfl (l' := #[.val (.int p1), .val (.int p2), .val (.int (1 : Int32)), .val (.int (1 : Int32)), .val (.int p2), .val (.ref w1), .unset]) rfl ?_
        show Steps p.tables e below (T183.setTop (mkF m 56 #[.val (.int p1), .val (.int p2), .val (.int (1 : Int32)), .val (.int (1 : Int32)), .val (.int p2), .val (.ref w1), .unset] [])) _
        refine XS.iloadN X183.here hx rfl (hb hby at_56) rfl ?_
        refine XS.ifNo X183.here hx rfl (hb hby at_57) rfl ((if0 _ _).trans (feq (by decide)).1) ?_
        refine XS.iload X183.here hx rfl (hb hby at_60) rfl ?_
        refine st184 _ ?_
        show Steps p.tables e below (T184.setTop (mkF m 65 #[.val (.int p1), .val (.int p2), .val (.int (1 : Int32)), .val (.int (1 : Int32)), .val (.int p2), .val (.ref w1), .unset] [(.int (own_rc p2))])) _
        exact kt
      by_cases hc65_185 : (own_rc p2) = (0 : Int32)
      · obtain ⟨cq187, kq187, q187a, q187b, q187c⟩ := isOf hZ e184 (E_w1)
        obtain ⟨_, _, ⟨T187, L187, k187, n187⟩, -, X187, ⟨Lc187, hQ187, l187, y187, z187⟩, st187⟩ := X184.virtualBack hx (y := (⟨"com/example/octavo/octavo/XmlVersion", "restricts", "(I)Z"⟩ : MethodName)) (z := (⟨"com/example/octavo/octavo/XmlVersion", "restricts", "(I)Z"⟩ : MethodName)) hown (mvT hZ (wd_3 hw)) (mvT hZ (wd_4 hw)) (notFace_of_selects (args := #[]) (mvT hZ (wd_6 hw))) (mvT hZ (wd_6 hw)) (mvT hZ (wd_5 hw)) (by decide) (backOf (W := 0) (rmr1 l Z a0 hw [] w1 p2 h0 n0 Z0 S_XML_1_1) hZ (wd_7 hw) (wd_1 hw) (by decide) (by decide)) q187a q187c (g := (mkF m 79 #[.val (.int p1), .val (.int p2), .val (.int (1 : Int32)), .val (.int (1 : Int32)), .val (.int p2), .val (.ref w1), .val (.int (0 : Int32))] [(.int p2), (.ref w1)])) rfl (by rw [hml]; rfl) (Steps.refl _) (argsL := [(.int p2)]) (rest := []) (lenOf pd__I_Z rfl) rfl (by show 2 * 0 + _ ≤ _; exact Nat.le_of_eq rfl) (hb hby at_79) (fun _ _ => ⟨rfl, e184, (by decide : 0 + 0 ≤ _), (by decide : 0 + 0 ≤ _)⟩)
        dsimp only [Pt.U, Pt.locs, Pt.cells, Pt.slots] at X187 l187 y187 z187 st187 hQ187
        subst l187 y187 z187
        obtain ⟨rfl, N187q, e187⟩ := hQ187
        have N187 := Fr.app N184 N187q
        obtain ⟨fs, hr, hrun, hended, hW, hsame⟩ := X187.leave (v := some (.int (1 : Int32))) (fun h => by rw [Bd.returns] at h; cases h)
        refine ⟨_, _, pre186 _ ?_, hrun, hended, _, _, rfl, ?_, ⟨_, rfl⟩, hW, hsame.mono (by decide) (by decide)⟩
        · show Steps p.tables e below (T184.setTop (mkF m 65 #[.val (.int p1), .val (.int p2), .val (.int (1 : Int32)), .val (.int (1 : Int32)), .val (.int p2), .val (.ref w1), .unset] [(.int (own_rc p2))])) _
          refine XS.ifYes X184.here hx rfl (pc0 := 65) (pc' := 72) rfl (hb hby at_65) rfl ((if0 _ _).trans (teq hc65_185).1) (by decide) (by decide) ?_
          refine XS.iconst X184.here hx rfl (hb hby at_72) ?_
          refine XS.istore X184.here hx rfl (hb hby at_73) rfl (l' := #[.val (.int p1), .val (.int p2), .val (.int (1 : Int32)), .val (.int (1 : Int32)), .val (.int p2), .val (.ref w1), .val (.int (0 : Int32))]) rfl ?_
          refine XS.aload X184.here hx rfl (hb hby at_75) rfl rfl ?_
          show Steps p.tables e below (T184.setTop (mkF m 77 #[.val (.int p1), .val (.int p2), .val (.int (1 : Int32)), .val (.int (1 : Int32)), .val (.int p2), .val (.ref w1), .val (.int (0 : Int32))] [(.ref w1)])) _
          refine XS.iload X184.here hx rfl (hb hby at_77) rfl ?_
          refine st187.trans ?_
          refine XS.iload X187.here hx rfl (hb hby at_82) rfl ?_
          refine XS.icmpNo X187.here hx rfl (hb hby at_84) rfl (teq hc65_185).2 ?_
          show Steps p.tables e below (T187.setTop (mkF m 87 #[.val (.int p1), .val (.int p2), .val (.int (1 : Int32)), .val (.int (1 : Int32)), .val (.int p2), .val (.ref w1), .val (.int (0 : Int32))] [])) _
          refine XS.iconst X187.here hx rfl (hb hby at_87) ?_
          refine XS.goto X187.here hx rfl (pc0 := 88) (pc' := 92) rfl (hb hby at_88) (by decide) (by decide) ?_
          exact retN X187 hx (t := .boolean) Bd.returns (by simp) (hb hby at_92) hr
        · show Q_rm0 Z p1 p2 w0 w1 h0 n0 _ T187.heap _
          rw [e187]
          exact ⟨rfl, N187, trivial⟩
      · obtain ⟨cq188, kq188, q188a, q188b, q188c⟩ := isOf hZ e184 (E_w1)
        obtain ⟨_, _, ⟨T188, L188, k188, n188⟩, -, X188, ⟨Lc188, hQ188, l188, y188, z188⟩, st188⟩ := X184.virtualBack hx (y := (⟨"com/example/octavo/octavo/XmlVersion", "restricts", "(I)Z"⟩ : MethodName)) (z := (⟨"com/example/octavo/octavo/XmlVersion", "restricts", "(I)Z"⟩ : MethodName)) hown (mvT hZ (wd_3 hw)) (mvT hZ (wd_4 hw)) (notFace_of_selects (args := #[]) (mvT hZ (wd_6 hw))) (mvT hZ (wd_6 hw)) (mvT hZ (wd_5 hw)) (by decide) (backOf (W := 0) (rmr1 l Z a0 hw [] w1 p2 h0 n0 Z0 S_XML_1_1) hZ (wd_7 hw) (wd_1 hw) (by decide) (by decide)) q188a q188c (g := (mkF m 79 #[.val (.int p1), .val (.int p2), .val (.int (1 : Int32)), .val (.int (1 : Int32)), .val (.int p2), .val (.ref w1), .val (.int (1 : Int32))] [(.int p2), (.ref w1)])) rfl (by rw [hml]; rfl) (Steps.refl _) (argsL := [(.int p2)]) (rest := []) (lenOf pd__I_Z rfl) rfl (by show 2 * 0 + _ ≤ _; exact Nat.le_of_eq rfl) (hb hby at_79) (fun _ _ => ⟨rfl, e184, (by decide : 0 + 0 ≤ _), (by decide : 0 + 0 ≤ _)⟩)
        dsimp only [Pt.U, Pt.locs, Pt.cells, Pt.slots] at X188 l188 y188 z188 st188 hQ188
        subst l188 y188 z188
        obtain ⟨rfl, N188q, e188⟩ := hQ188
        have N188 := Fr.app N184 N188q
        obtain ⟨fs, hr, hrun, hended, hW, hsame⟩ := X188.leave (v := some (.int (1 : Int32))) (fun h => by rw [Bd.returns] at h; cases h)
        refine ⟨_, _, pre186 _ ?_, hrun, hended, _, _, rfl, ?_, ⟨_, rfl⟩, hW, hsame.mono (by decide) (by decide)⟩
        · show Steps p.tables e below (T184.setTop (mkF m 65 #[.val (.int p1), .val (.int p2), .val (.int (1 : Int32)), .val (.int (1 : Int32)), .val (.int p2), .val (.ref w1), .unset] [(.int (own_rc p2))])) _
          refine XS.ifNo X184.here hx rfl (hb hby at_65) rfl ((if0 _ _).trans (feq hc65_185).1) ?_
          refine XS.iconst X184.here hx rfl (hb hby at_68) ?_
          refine XS.goto X184.here hx rfl (pc0 := 69) (pc' := 73) rfl (hb hby at_69) (by decide) (by decide) ?_
          refine XS.istore X184.here hx rfl (hb hby at_73) rfl (l' := #[.val (.int p1), .val (.int p2), .val (.int (1 : Int32)), .val (.int (1 : Int32)), .val (.int p2), .val (.ref w1), .val (.int (1 : Int32))]) rfl ?_
          show Steps p.tables e below (T184.setTop (mkF m 75 #[.val (.int p1), .val (.int p2), .val (.int (1 : Int32)), .val (.int (1 : Int32)), .val (.int p2), .val (.ref w1), .val (.int (1 : Int32))] [])) _
          refine XS.aload X184.here hx rfl (hb hby at_75) rfl rfl ?_
          refine XS.iload X184.here hx rfl (hb hby at_77) rfl ?_
          refine st188.trans ?_
          refine XS.iload X188.here hx rfl (hb hby at_82) rfl ?_
          show Steps p.tables e below (T188.setTop (mkF m 84 #[.val (.int p1), .val (.int p2), .val (.int (1 : Int32)), .val (.int (1 : Int32)), .val (.int p2), .val (.ref w1), .val (.int (1 : Int32))] [(.int (1 : Int32)), (.int (own_rc p2))])) _
          refine XS.icmpNo X188.here hx rfl (hb hby at_84) rfl (teq (own_rcn hc65_185)).2 ?_
          refine XS.iconst X188.here hx rfl (hb hby at_87) ?_
          refine XS.goto X188.here hx rfl (pc0 := 88) (pc' := 92) rfl (hb hby at_88) (by decide) (by decide) ?_
          exact retN X188 hx (t := .boolean) Bd.returns (by simp) (hb hby at_92) hr
        · show Q_rm0 Z p1 p2 w0 w1 h0 n0 _ T188.heap _
          rw [e188]
          exact ⟨rfl, N188, trivial⟩
set_option maxRecDepth 65536 in
set_option maxHeartbeats 40000000 in
theorem comes_1 {Post : Tables → Env → Array Value → State → Outcome → State → Prop} (hpost : ∀ tb e args s v u, (limb_1_1.after args s (.returned v) u = true ∧ limb_1_2.after args s (.returned v) u = true ∧ True) → FrameEnd s (.returned v) u (Jvm.fieldLocs frame_1_writes args s ++ Jvm.arrayLocs frame_1_arrays args s ++ Jvm.staticLocs frame_1_statics s) 0 0 → Post tb e args s (.returned v) u) :
    ArmFor flags0 classFile x code maxLocals ret World_1 tables_1 room_1 Calls_1 rest_1 Pre_1 Post := by
  intro l hfl _ _ p e ha hc hk s m args below hf hA hF happ hP
  obtain ⟨hcalls, hrest, hpre⟩ := hP
  obtain ⟨-, -, -, hnamed, -, -, -, hat⟩ := (Spec.applies_iff hf).mp happ
  obtain ⟨hg, hn⟩ := and_e (Cond.before_iff.mp (show (Jvm.Cond.and given_1 narrow_1).before args s = true from hpre))
  obtain ⟨g189, g190⟩ := and_e hg
  obtain ⟨g191, g192⟩ := and_e g190
  obtain ⟨w0, w1, rfl⟩ : ∃ w0 w1 : Value, args = #[w0, w1] := by
    have hs : args.size = 2 := by simpa [Cond.value, given_1] using g189
    obtain ⟨L⟩ := args
    match L, hs with
    | [w0, w1], _ => exact ⟨w0, w1, rfl⟩
  have hw := fun d (hd : d ∈ tables_1) => atoms_spec (ws := Jvm.Cond.code x code maxLocals ret :: tables_1) hat d (List.mem_cons_of_mem _ hd)
  have hfit : Fit s := fun {y c} hc i hi => by
    obtain ⟨ha, rfl⟩ := Array.getElem?_eq_some_iff.mp hc
    have q := List.all_eq_true.mp ((Array.all_eq_true_iff_forall_mem.mp hF) _ (Array.getElem_mem ha)) i (List.mem_range.mpr hi)
    simpa [Array.getElem?_eq_getElem hi] using q
  obtain ⟨i0, ei0⟩ := is_v g191
  obtain rfl : w0 = (.int i0) := Option.some.inj ei0
  obtain ⟨i1, ei1⟩ := is_v g192
  obtain rfl : w1 = (.int i1) := Option.some.inj ei1
  obtain ⟨n1, n2⟩ := and_e hn
  obtain ⟨n3, n4⟩ := and_e n2
  obtain ⟨n5, n6⟩ := and_e n4
  obtain ⟨x0, ex0⟩ := exa_v n1
  obtain ⟨x1, ex1⟩ := exa_v n3
  have S0 : Sta s s.heap "com/example/octavo/octavo/XmlVersion" "XML_1_0" "Lcom/example/octavo/octavo/XmlVersion;" (.ref x0) := Sta.start ex0 (Or.inr ⟨hw _ (List.mem_of_getElem? (i := 1) rfl), hw _ (List.mem_of_getElem? (i := 2) rfl)⟩)
  have S1 : Sta s s.heap "com/example/octavo/octavo/XmlVersion" "XML_1_1" "Lcom/example/octavo/octavo/XmlVersion;" (.ref x1) := Sta.start ex1 (Or.inr ⟨hw _ (List.mem_of_getElem? (i := 1) rfl), hw _ (List.mem_of_getElem? (i := 9) rfl)⟩)
  have E0 : Exa s s.heap x0 "com/example/octavo/octavo/XmlVersion" := Exa.start ex0 n1
  have E1 : Exa s s.heap x1 "com/example/octavo/octavo/XmlVersion" := Exa.start ex1 n3
  have F0 := own_fv ex0 n5
  have F1 := own_fv ex1 n6
  have hne : ¬ (x0 = x1) := Fld.ne F0 F1 (by decide)
  obtain ⟨n, o, h1, h2, h3, _, L, rfl, ⟨rfl, N, -⟩, hq⟩ := rm0 l s _ hw tables_1 i0 i1 x0 x1 s.heap s.heap.size (Nat.le_refl _) S0 S1 E0 E1 hne p e ha hc hk s m _ below hf ((Spec.applies_iff_loose hf).mp happ).1 ⟨rfl, State.Warmed39.refl s, rfl⟩ trivial
  refine ⟨n, _, h1, h2, h3, hpost _ _ _ _ _ _ ⟨Cond.after_iff.mpr rfl, Cond.after_iff.mpr (eq_i res_at (Term.int_eval (1)) rfl), trivial⟩ ⟨hq.1, hq.2.1, (hq.2.2.sift fun y hy => Or.inr (N y hy)).mono (by decide) (by decide)⟩⟩
theorem main_1_1 : Claimed_1_1 := comes_1 fun _ _ _ _ _ _ h hF => ⟨h.1, hF⟩
theorem main_1_2 : Claimed_1_2 := comes_1 fun _ _ _ _ _ _ h hF => ⟨h.2.1, hF⟩
end Jvm.Pilot.@@N@@
namespace Jvm.Pilot.@@N@@
open Jvm Jvm.ClassFile Sem Op Lib Jvm.Free Jvm.Stand Jvm.Pilot.@@N@@.Jvm.D
/-! MADE BY PROGRAM (witnessworld.py) out of the Statement's table words and the real class files: 12 classes; the members and pool entries that the words name. The judged class is class 1, her method 2. -/
namespace start1
open Jvm.ClassFile
def u (s : String) : CpInfo := .utf8 (stringToUtf16 s)
/-- a pool by its gaps: so many unusable entries, then the entry; so many at the end -/
def gap : Nat → List CpInfo → List CpInfo
  | 0, r => r
  | n + 1, r => .unusable :: gap n r
def poolList (es : List (Nat × CpInfo)) (last : Nat) : List CpInfo := es.foldr (fun e r => gap e.1 (e.2 :: r)) (gap last [])
def pool (es : List (Nat × CpInfo)) (last : Nat) : Array CpInfo := ⟨poolList es last⟩
def fileOf (pool : Array CpInfo) (this : Nat) (attrs : Array Attribute := #[]) (ms : Array MethodInfo := #[]) (fl : Nat := 33) (sup : Nat := 0) (ifs : Array Nat := #[]) (fds : Array FieldInfo := #[]) : ClassFile where
  minorVersion := 0
  majorVersion := 65
  constantPool := pool
  accessFlags := fl
  thisClass := this
  superClass := sup
  interfaces := ifs
  fields := fds
  methods := ms
  attributes := attrs
def plain (name : String) (sup : Option ClassId) : Class where
  name := name
  kind := .ordinary
  loader := none
  accessFlags := 33
  super := sup
  interfaces := #[]
  cf := none
  fields := #[]
  methods := #[]
  instanceTypes := #[]
  staticTypes := #[]
  resolved := #[]
  callSites := []
  init := .initialized
  statics := none
  mirror := none

def pool0 : Array CpInfo := pool [(5, u "<init>"), (0, u "()V"), (1, .class_ 10), (1, u "java/lang/Object")] 113

def k0m0 : Method := { name := "<init>", desc := "()V", sig := { parameters := [], returnType := none }, accessFlags := 1, code := none }
/-- java/lang/Object -/
def k0 : Class := { plain "java/lang/Object" none with
  accessFlags := 33
  interfaces := #[]
  cf := some (fileOf pool0 8 #[] #[{ accessFlags := 1, nameIndex := 5, descriptorIndex := 6, attributes := #[] }] 33 0 #[] #[])
  fields := #[]
  methods := #[k0m0]
  instanceTypes := #[]
  staticTypes := #[]
  resolved := Array.replicate 124 none
  statics := none }

def pool1 : Array CpInfo := pool [(2, .class_ 4), (1, u "java/lang/Object"), (0, u "<init>"), (0, u "()V"), (0, .fieldref 8 9), (0, .class_ 10), (0, .nameAndType 11 12), (0, u "com/example/octavo/octavo/XmlVersion"), (0, u "XML_1_1"), (0, u "Lcom/example/octavo/octavo/XmlVersion;"), (0, .fieldref 8 14), (0, .nameAndType 15 12), (0, u "XML_1_0"), (0, .methodref 17 18), (0, .class_ 19), (0, .nameAndType 20 21), (0, u "com/example/octavo/octavo/XmlVersionRestrictsPinLaw"), (0, u "restrictedChar"), (0, u "(I)Z"), (0, .methodref 8 23), (0, .nameAndType 24 21), (0, u "restricts"), (3, u "law"), (0, u "(II)Z")] 2

def k1m0 : Method := { name := "<init>", desc := "()V", sig := { parameters := [], returnType := none }, accessFlags := 2, code := none }
def k1c1 : Code := { maxStack := 2, maxLocals := 1, code := method_2_code, exceptionTable := #[], attributes := #[] }
def k1m1 : Method := { name := "restrictedChar", desc := "(I)Z", sig := { parameters := [.int], returnType := some .boolean }, accessFlags := 10, code := some k1c1 }
def k1c2 : Code := { maxStack := 2, maxLocals := 7, code := code, exceptionTable := #[], attributes := #[] }
def k1m2 : Method := { name := "law", desc := "(II)Z", sig := { parameters := [.int, .int], returnType := some .boolean }, accessFlags := 9, code := some k1c2 }
/-- com/example/octavo/octavo/XmlVersionRestrictsPinLaw -/
def k1 : Class := { plain "com/example/octavo/octavo/XmlVersionRestrictsPinLaw" (some 0) with
  accessFlags := 49
  interfaces := #[]
  cf := some (fileOf pool1 17 #[] #[{ accessFlags := 2, nameIndex := 5, descriptorIndex := 6, attributes := #[] }, { accessFlags := 10, nameIndex := 20, descriptorIndex := 21, attributes := #[] }, { accessFlags := 9, nameIndex := 28, descriptorIndex := 29, attributes := #[] }] 49 2 #[] #[])
  fields := #[]
  methods := #[k1m0, k1m1, k1m2]
  instanceTypes := #[]
  staticTypes := #[]
  resolved := Array.replicate 32 none
  statics := none }

def pool2 : Array CpInfo := pool [(1, .class_ 2), (0, u "java/lang/constant/Constable"), (0, .class_ 4), (0, u "java/lang/Object")] 6

/-- java/lang/constant/Constable -/
def k2 : Class := { plain "java/lang/constant/Constable" (some 0) with
  accessFlags := 1537
  interfaces := #[]
  cf := some (fileOf pool2 1 #[] #[] 1537 3 #[] #[])
  fields := #[]
  methods := #[]
  instanceTypes := #[]
  staticTypes := #[]
  resolved := Array.replicate 11 none
  statics := none }

def pool3 : Array CpInfo := pool [(1, .class_ 2), (0, u "java/lang/Comparable"), (0, .class_ 4), (0, u "java/lang/Object")] 7

/-- java/lang/Comparable -/
def k3 : Class := { plain "java/lang/Comparable" (some 0) with
  accessFlags := 1537
  interfaces := #[]
  cf := some (fileOf pool3 1 #[] #[] 1537 3 #[] #[])
  fields := #[]
  methods := #[]
  instanceTypes := #[]
  staticTypes := #[]
  resolved := Array.replicate 12 none
  statics := none }

def pool4 : Array CpInfo := pool [(1, .class_ 2), (0, u "java/io/Serializable"), (0, .class_ 4), (0, u "java/lang/Object")] 2

/-- java/io/Serializable -/
def k4 : Class := { plain "java/io/Serializable" (some 0) with
  accessFlags := 1537
  interfaces := #[]
  cf := some (fileOf pool4 1 #[] #[] 1537 3 #[] #[])
  fields := #[]
  methods := #[]
  instanceTypes := #[]
  staticTypes := #[]
  resolved := Array.replicate 7 none
  statics := none }

def pool5 : Array CpInfo := pool [(2, .class_ 4), (1, u "java/lang/Enum"), (0, u "name"), (0, u "Ljava/lang/String;"), (2, u "ordinal"), (0, u "I"), (1, .class_ 14), (1, u "java/lang/Object"), (4, u "hash"), (86, .class_ 108), (1, u "java/lang/Enum$EnumDesc"), (2, .class_ 112), (0, u "java/lang/constant/Constable"), (0, .class_ 114), (0, u "java/lang/Comparable"), (0, .class_ 116), (0, u "java/io/Serializable")] 87

/-- java/lang/Enum -/
def k5 : Class := { plain "java/lang/Enum" (some 0) with
  accessFlags := 1057
  interfaces := #[2, 3, 4]
  cf := some (fileOf pool5 2 #[.nestMembers #[106]] #[] 1057 12 #[111, 113, 115] #[{ accessFlags := 18, nameIndex := 5, descriptorIndex := 6, attributes := #[] }, { accessFlags := 18, nameIndex := 9, descriptorIndex := 10, attributes := #[] }, { accessFlags := 2, nameIndex := 19, descriptorIndex := 10, attributes := #[] }])
  fields := #[{ name := "name", type := (.object "java/lang/String"), accessFlags := 18, slot := 0, constantValue := 0 }, { name := "ordinal", type := .int, accessFlags := 18, slot := 1, constantValue := 0 }, { name := "hash", type := .int, accessFlags := 2, slot := 2, constantValue := 0 }]
  methods := #[]
  instanceTypes := #[(.object "java/lang/String"), .int, .int]
  staticTypes := #[]
  resolved := Array.replicate 204 none
  statics := none }

def pool6 : Array CpInfo := pool [(1, .class_ 2), (0, u "com/example/octavo/octavo/XmlVersion"), (2, u "XML_1_0"), (0, u "Lcom/example/octavo/octavo/XmlVersion;"), (0, .fieldref 1 8), (0, .nameAndType 9 6), (0, u "XML_1_1"), (2, u "$VALUES"), (0, u "[Lcom/example/octavo/octavo/XmlVersion;"), (6, .class_ 22), (1, u "java/lang/Enum"), (8, u "number"), (0, u "Ljava/lang/String;"), (15, u "(I)Z"), (22, u "restricts")] 5

def k6c0 : Code := { maxStack := 2, maxLocals := 3, code := prog_31_method_7_code, exceptionTable := #[], attributes := #[] }
def k6m0 : Method := { name := "restricts", desc := "(I)Z", sig := { parameters := [.int], returnType := some .boolean }, accessFlags := 0, code := some k6c0 }
/-- com/example/octavo/octavo/XmlVersion -/
def k6 : Class := { plain "com/example/octavo/octavo/XmlVersion" (some 5) with
  accessFlags := 16432
  interfaces := #[]
  cf := some (fileOf pool6 1 #[] #[{ accessFlags := 0, nameIndex := 71, descriptorIndex := 48, attributes := #[] }] 16432 20 #[] #[{ accessFlags := 16409, nameIndex := 5, descriptorIndex := 6, attributes := #[] }, { accessFlags := 16409, nameIndex := 9, descriptorIndex := 6, attributes := #[] }, { accessFlags := 18, nameIndex := 31, descriptorIndex := 32, attributes := #[] }, { accessFlags := 4122, nameIndex := 12, descriptorIndex := 13, attributes := #[] }])
  fields := #[{ name := "XML_1_0", type := (.object "com/example/octavo/octavo/XmlVersion"), accessFlags := 16409, slot := 0, constantValue := 0 }, { name := "XML_1_1", type := (.object "com/example/octavo/octavo/XmlVersion"), accessFlags := 16409, slot := 1, constantValue := 0 }, { name := "number", type := (.object "java/lang/String"), accessFlags := 18, slot := 3, constantValue := 0 }, { name := "$VALUES", type := (.array (.object "com/example/octavo/octavo/XmlVersion")), accessFlags := 4122, slot := 2, constantValue := 0 }]
  methods := #[k6m0]
  instanceTypes := #[(.object "java/lang/String"), .int, .int, (.object "java/lang/String")]
  staticTypes := #[(.object "com/example/octavo/octavo/XmlVersion"), (.object "com/example/octavo/octavo/XmlVersion"), (.array (.object "com/example/octavo/octavo/XmlVersion"))]
  resolved := Array.replicate 77 none
  statics := some 0 }

def pool7 : Array CpInfo := pool [(1, u "java/lang/Cloneable"), (0, .class_ 1), (0, u "java/lang/Object"), (0, .class_ 3)] 3

/-- java/lang/Cloneable -/
def k7 : Class := { plain "java/lang/Cloneable" (some 0) with
  accessFlags := 1537
  interfaces := #[]
  cf := some (fileOf pool7 2 #[] #[] 1537 4 #[] #[])
  fields := #[]
  methods := #[]
  instanceTypes := #[]
  staticTypes := #[]
  resolved := Array.replicate 8 none
  statics := none }

/-- the primitive byte -/
def k8 : Class := { plain "byte" none with kind := .primitive 'B', accessFlags := 0x411 }
/-- [B -/
def k9 : Class := { plain "[B" (some 0) with kind := .array 8 .byte, interfaces := #[7, 4], accessFlags := 1041 }

/-- the primitive int -/
def k10 : Class := { plain "int" none with kind := .primitive 'I', accessFlags := 0x411 }
/-- [I -/
def k11 : Class := { plain "[I" (some 0) with kind := .array 10 .int, interfaces := #[7, 4], accessFlags := 1041 }

def heap : Heap := #[{ cls := 6, slots := #[.ref 1, .ref 2, .null], vm := .statics 6 },
  { cls := 6, slots := #[.null, .int 0, .int 0, .null], vm := .none },
  { cls := 6, slots := #[.null, .int 1, .int 0, .null], vm := .none }]
def classes : Array Class := #[k0, k1, k2, k3, k4, k5, k6, k7, k8, k9, k10, k11]
def interned : List (Array UInt16 × Addr) := []
def slotsUsed : Nat := 11
def theMethod : MethodId := ⟨1, 2⟩
def args0 : Array Value := #[.int 5, .int 5]
def aboutOver (below : List Frame) : State where
  vm := { classes := classes, interned := interned.toArray }
  heap := heap
  slotsUsed := slotsUsed
  threads := #[{ frames := .invoking theMethod args0 :: below }]
def below0 : List Frame := [.native { method := ⟨0, 0⟩, args := #[] }]
def about1 : State := aboutOver below0
def p0 : Program := .bare "" "" ""
def e0 : Env := launch0.env 0 0 0
theorem w_frames : about1.frames = Frame.invoking theMethod args0 :: below0 := rfl
set_option maxRecDepth 65536 in
theorem w_args : argsFit about1.vm theMethod args0 = true := by decide +kernel
set_option maxRecDepth 65536 in
theorem w_heap : heapFits about1 = true := by decide +kernel
set_option maxRecDepth 65536 in
theorem w_runnable : about1.curStatus? = some .runnable := by decide +kernel
set_option maxRecDepth 65536 in
theorem w_alone : about1.alone = true := by decide +kernel
set_option maxRecDepth 65536 in
theorem w_named : about1.methodNamed? x = some theMethod := by decide +kernel
set_option maxRecDepth 65536 in
theorem w_hears : about1.hears theMethod below0 = true := by decide +kernel
set_option maxRecDepth 65536 in
theorem w_ripe : about1.ripe theMethod args0 below0 = true := by decide +kernel
theorem w_running : about1.status = .running := rfl
set_option maxRecDepth 65536 in
theorem w_room : about1.hasRoom e0.platform room_1 = true :=
  launch0.hasRoom_least _ room_1 (by decide +kernel) (by decide +kernel) (by decide +kernel) (by decide +kernel) (by decide +kernel) (by decide +kernel)
theorem allAtoms_all (ts : List Jvm.Cond) (a : Array Jvm.Value) (st : Jvm.State) : (allAtoms ts).before a st = ts.all (fun c => c.before a st) := by
  induction ts with
  | nil => rfl
  | cons c t ih =>
    show (Jvm.Cond.and c (allAtoms t)).before a st = _
    rw [Jvm.Cond.before_and, ih, List.all_cons]
def words1 : List Jvm.Cond := Jvm.Cond.code x code maxLocals ret :: tables_1
/-- a 'code' word, met by the world's own term for the bytes: nothing is compared byte by byte -/
theorem code_word {y : MethodName} {bytes : ByteArray} {mx : Nat} {rt : Option FieldType} {a : Array Value} {s : State} {m : MethodId} {meth : Method} {c : Code} (h1 : s.methodNamed? y = some m) (h2 : s.vm.method? m = some meth) (h3 : meth.code = some c) (h4 : c.code = bytes)
    (h5 : (c.maxLocals == mx && c.exceptionTable.isEmpty && decide (c.maxStack ≤ mostOperands) && decide (meth.sig.returnType = rt) && !meth.locks && decide (parseMethodDescriptor y.desc = some meth.sig)) = true) : (Jvm.Cond.code y bytes mx rt).before a s = true := by
  simp only [Bool.and_eq_true, beq_iff_eq, Bool.not_eq_true', decide_eq_true_eq] at h5
  obtain ⟨⟨⟨⟨⟨g1, g2⟩, g3⟩, g4⟩, g5⟩, g6⟩ := h5
  simp [Cond.before, Cond.holds, Cond.value, h1, h2, h3, h4, g1, g2, g3, g4, g5, g6]
def isCode : Jvm.Cond → Bool
  | .code _ _ _ _ => true
  | _ => false
theorem all_split {L : List Jvm.Cond} {P : Jvm.Cond → Bool} (h1 : L.all (fun c => isCode c || P c) = true) (h2 : ∀ c ∈ L.filter isCode, P c = true) : L.all P = true := by
  refine List.all_eq_true.mpr fun c hc => ?_
  have h := List.all_eq_true.mp h1 c hc
  rcases Bool.eq_false_or_eq_true (isCode c) with hi | hi
  · exact h2 c (List.mem_filter.mpr ⟨hc, hi⟩)
  · simpa [hi] using h
set_option maxRecDepth 65536 in
theorem w_c0 : (Jvm.Cond.code x code maxLocals ret).before args0 about1 = true := code_word (m := ⟨1, 2⟩) (meth := k1m2) (c := k1c2) (by decide +kernel) rfl rfl rfl (by decide +kernel)
set_option maxRecDepth 65536 in
theorem w_c1 : (Jvm.Cond.code ({ cls := "com/example/octavo/octavo/XmlVersion", name := "restricts", desc := "(I)Z" } : Jvm.MethodName) prog_31_method_7_code (3 : Nat) (Option.some Jvm.ClassFile.FieldType.boolean)).before args0 about1 = true := code_word (m := ⟨6, 0⟩) (meth := k6m0) (c := k6c0) (by decide +kernel) rfl rfl rfl (by decide +kernel)
set_option maxRecDepth 65536 in
theorem w_c2 : (Jvm.Cond.code ({ cls := "com/example/octavo/octavo/XmlVersionRestrictsPinLaw", name := "restrictedChar", desc := "(I)Z" } : Jvm.MethodName) method_2_code (1 : Nat) (Option.some Jvm.ClassFile.FieldType.boolean)).before args0 about1 = true := code_word (m := ⟨1, 1⟩) (meth := k1m1) (c := k1c1) (by decide +kernel) rfl rfl rfl (by decide +kernel)
def codes1 : List Jvm.Cond := [Jvm.Cond.code x code maxLocals ret, Jvm.Cond.code ({ cls := "com/example/octavo/octavo/XmlVersion", name := "restricts", desc := "(I)Z" } : Jvm.MethodName) prog_31_method_7_code (3 : Nat) (Option.some Jvm.ClassFile.FieldType.boolean), Jvm.Cond.code ({ cls := "com/example/octavo/octavo/XmlVersionRestrictsPinLaw", name := "restrictedChar", desc := "(I)Z" } : Jvm.MethodName) method_2_code (1 : Nat) (Option.some Jvm.ClassFile.FieldType.boolean)]
set_option maxRecDepth 65536 in
theorem codes_eq : words1.filter isCode = codes1 := rfl
theorem w_codes : ∀ c ∈ words1.filter isCode, c.before args0 about1 = true := by
  rw [codes_eq]
  intro c hc
  simp only [codes1, List.mem_cons, List.not_mem_nil, or_false] at hc
  rcases hc with rfl | rfl | rfl
  · exact w_c0
  · exact w_c1
  · exact w_c2
set_option maxRecDepth 65536 in
theorem w_t1 : words1.all (fun c => isCode c || c.before args0 about1) = true := by decide +kernel
theorem w_tables : (allAtoms (Jvm.Cond.code x code maxLocals ret :: tables_1)).before args0 about1 = true := by
  rw [allAtoms_all]
  show words1.all (fun c => c.before args0 about1) = true
  refine all_split ?_ w_codes
  rw [w_t1]
set_option maxRecDepth 65536 in
theorem w_case : (Jvm.Cond.and given_1 narrow_1).before args0 about1 = true := by decide +kernel
theorem w_applies : (headSpec (Jvm.Cond.code x code maxLocals ret :: tables_1) room_1).applies x e0.platform about1 = true :=
  (Spec.applies_iff w_frames).mpr ⟨w_running, w_runnable, w_alone, w_named, w_hears, w_ripe, w_room, w_tables⟩
theorem atStart : AtStart classFile x code maxLocals ret World_1 tables_1 room_1 Calls_1 rest_1 Pre_1 launch0 p0 e0 about1 theMethod args0 below0 :=
  ⟨lists_1, trivial, launch0.admits_env _ _ _, launch0.least_env, fairChoices_fair.cas, fairChoices_fair.clock, w_frames, w_args, w_heap, w_applies, trivial, trivial, w_case⟩
end start1
theorem witness_1 : WitnessClaimed_1 := ⟨start1.p0, start1.e0, start1.about1, start1.theMethod, start1.args0, start1.below0, start1.atStart⟩
end Jvm.Pilot.@@N@@
