import JvmDerived
import JvmDerived.Pilot.@@N@@Statement
import JvmDerived.Pilot.@@N@@Code
set_option linter.unusedVariables false
set_option linter.unusedSimpArgs false
namespace Jvm.RoadKit
open Sem ClassFile Op Lib Jvm.Stand Jvm.Free Jvm.LawKit
section New
variable {p : Program} {l : Launch} {e : Env} {R : Room} {s : State} {m : MethodId} {args : Array Value} {below : List Frame} {meth : Method} {c : Code} {T : State} {locs : List Loc} {cells slots : Nat}
theorem retI (X : Stand p l e R s m args below meth c T locs cells slots) (hx : p.tables.exec = Jvm.exec) {pc : Nat} {Ls : Array Slot} {z : Int32} {rest : List Value} (hret : meth.sig.returnType = some .int) (hd : decode c.code pc = .ok (.ireturn, 1)) {fs : List Frame}
    (hl : ∀ (f : JFrame) (acts : List Action), f.method = m → f.locked = none → f.entered = [] → (doReturn e (T.setTop f) acts (some (.int z))).1 = T.setFrames fs) : Steps p.tables e below (T.setTop (mkF m pc Ls (.int z :: rest))) (T.setFrames fs) := by
  have hm' : T.vm.method? m = some meth := X.method'
  have hn : narrow .int (.int z) = .int z := rfl
  show Steps p.tables e below (T.setTop { method := m, pc := pc, locals := Ls, stack := _ :: rest, locked := none }) _
  jvm_step X.here [X.here.top, hx, hd, hm', hret, hn]
  first | (intro acts; rw [hl _ acts rfl rfl rfl]) | rw [hl _ _ rfl rfl rfl]
  exact Steps.refl _
end New
end Jvm.RoadKit
namespace Jvm.Pilot.@@N@@
open Jvm Jvm.ClassFile Sem Op Lib Jvm.Free Jvm.Stand Jvm.LawKit Jvm.RoadKit Bundle Jvm.Pilot.@@N@@.Jvm.D
theorem own_lt {x y : Int32} {a b : Int} (h : x < y) (hx : x.toInt = a) (hy : y.toInt = b) : a < b := by rw [← hx, ← hy]; exact Int32.lt_iff_toInt_lt.mp h
theorem own_nlt {x y : Int32} {a b : Int} (h : ¬ x < y) (hx : x.toInt = a) (hy : y.toInt = b) : b ≤ a := by rw [← hx, ← hy]; exact Int.not_lt.mp fun q => h (Int32.lt_iff_toInt_lt.mpr q)
theorem own_eq {x y : Int32} {a b : Int} (h : x = y) (hx : x.toInt = a) (hy : y.toInt = b) : a = b := by rw [← hx, ← hy, h]
theorem own_ne {x y : Int32} {a b : Int} (h : ¬ x = y) (hx : x.toInt = a) (hy : y.toInt = b) : a ≠ b := by rw [← hx, ← hy]; exact fun q => h (Int32.toInt_inj.mp q)
theorem own_ch (x : Int32) : ¬ ((255 : Int32) < ((x &&& (255 : Int32)).toUInt32.toUInt16.toUInt32.toInt32)) := by
  rw [i2c_mask]
  intro q
  have h1 := c_mask x 255 8 (by decide) rfl
  rw [show (((2 : Nat) ^ 8 : Nat) : Int) = 256 from rfl] at h1
  have := own_lt (a := 255) q rfl h1
  omega
theorem own_nar {c : Int32} (h : ¬ ((255 : Int32) < c)) (h0 : ¬ (c < (0 : Int32))) : nar .char c = c := by
  have a := own_nlt (a := 255) h rfl rfl
  have b := own_nlt (b := 0) h0 rfl rfl
  apply Int32.toInt_inj.mp
  have k := c_i2c c
  show (c.toUInt32.toUInt16.toUInt32.toInt32).toInt = _
  omega
theorem own_nch (x : Int32) : ¬ ((255 : Int32) < (nar .char ((x &&& (255 : Int32)).toUInt32.toUInt16.toUInt32.toInt32))) := by
  rw [own_nar (own_ch x) (by
    rw [i2c_mask]
    intro q
    have h1 := c_mask x 255 8 (by decide) rfl
    rw [show (((2 : Nat) ^ 8 : Nat) : Int) = 256 from rfl] at h1
    have := own_lt (b := 0) q h1 rfl
    omega)]
  exact own_ch x
theorem own_four (x : Int32) : (x &&& (3 : Int32)) = 0 ∨ (x &&& (3 : Int32)) = 1 ∨ (x &&& (3 : Int32)) = 2 ∨ (x &&& (3 : Int32)) = 3 := by
  have h1 := c_mask x 3 2 (by decide) rfl
  rw [show (((2 : Nat) ^ 2 : Nat) : Int) = 4 from rfl] at h1
  have e : ∀ (i : Int32) (n : Int), i.toInt = n → (x &&& (3 : Int32)).toInt = n → (x &&& (3 : Int32)) = i := fun i n a b => Int32.toInt_inj.mp (b.trans a.symm)
  have h3 : (x &&& (3 : Int32)).toInt = 0 ∨ (x &&& (3 : Int32)).toInt = 1 ∨ (x &&& (3 : Int32)).toInt = 2 ∨ (x &&& (3 : Int32)).toInt = 3 := by omega
  rcases h3 with q | q | q | q
  · exact Or.inl (e 0 0 rfl q)
  · exact Or.inr (Or.inl (e 1 1 rfl q))
  · exact Or.inr (Or.inr (Or.inl (e 2 2 rfl q)))
  · exact Or.inr (Or.inr (Or.inr (e 3 3 rfl q)))
theorem d2_0 : decode jdk_43_method_3_code 0 = .ok (.iload_n 0, 1) := by decide +kernel
theorem d2_1 : decode jdk_43_method_3_code 1 = .ok (.sipush 255, 3) := by decide +kernel
theorem d2_4 : decode jdk_43_method_3_code 4 = .ok (.if_icmp .gt 7, 3) := by decide +kernel
theorem d2_7 : decode jdk_43_method_3_code 7 = .ok (.iconst 1, 1) := by decide +kernel
theorem d2_8 : decode jdk_43_method_3_code 8 = .ok (.goto 4, 3) := by decide +kernel
theorem d2_12 : decode jdk_43_method_3_code 12 = .ok (.ireturn, 1) := by decide +kernel
theorem ef_2 (m : MethodId) (x0 : Int32) : entryFrame m #[(.int x0)] 1 = mkF m 0 #[.val (.int x0)] [] := by first | (simp [entryFrame, mkF, argsToLocals, Value.category]; done) | rfl
theorem pn_java_lang_StringLatin1 : plainName "java/lang/StringLatin1" = true := by first | (simp [plainName, overriddenIn]; done) | decide +kernel
def Q_rm2 (Z : State) (p1 : Int32) (h0 : Heap) (n0 : Nat) (v : Option Value) (h : Heap) (L : List Loc) : Prop := v = some (.int (1 : Int32)) ∧ Fr n0 L ∧ h = h0
set_option maxRecDepth 65536 in
set_option maxHeartbeats 40000000 in
theorem rm2 (l : Launch) (Z : State) (a0 : Array Value) (hw : ∀ d ∈ tables_1, d.before a0 Z = true) (ws : List Jvm.Cond) (p1 : Int32) (h0 : Heap) (n0 : Nat) (Z0 : n0 ≤ h0.size) (hp : ¬ ((255 : Int32) < p1)) :
    MetFree l (⟨"java/lang/StringLatin1", "canEncode", "(C)Z"⟩ : MethodName) (head1 (Jvm.Cond.code (⟨"java/lang/StringLatin1", "canEncode", "(C)Z"⟩ : MethodName) jdk_43_method_3_code 1 (some .boolean) :: ws) ({ frames := 0, cells := 0, slots := 0, locals := 0 } : Room)) (fun a U => a = #[(.int p1)] ∧ Z.Warmed39 U.vm ∧ U.heap = h0) (fun _ _ _ _ _ => True) (fun _ U o U' => ∃ v L, o = .returned v ∧ Q_rm2 Z p1 h0 n0 v U'.heap L ∧ FrameEnd U o U' L ({ frames := 0, cells := 0, slots := 0, locals := 0 } : Room).cells ({ frames := 0, cells := 0, slots := 0, locals := 0 } : Room).slots) := by
  refine MetFree.of_bodySF (plainFor_of_name pn_java_lang_StringLatin1) hisR ?_
  intro p e s m args below meth c s₁ Bd hml0 hP hK
  obtain ⟨rfl, hZ, hh⟩ := hP
  have hx := Bd.exec
  have hby := Bd.bytes
  have hml : c.maxLocals = 1 := hml0
  have hown : s.vm.findClass "java/lang/StringLatin1" = some m.cls := findClass_of_methodNamed Bd.named
  have hnm := (name_of_methodNamed Bd.named Bd.method).1
  have X0 : Stand p l e ({ frames := 0, cells := 0, slots := 0, locals := 0 } : Room) s m #[(.int p1)] below meth c s₁ [] 0 0 := Stand.of_body Bd
  have e0 : s₁.heap = h0 := by rw [← hh, Bd.state]; rfl
  have N0 := Fr.nil n0
  have pre0 : ∀ t, Steps p.tables e below (s₁.setTop (mkF m 0 #[.val (.int p1)] [])) t → Steps p.tables e below (s₁.setTop (entryFrame m #[(.int p1)] 1)) t := fun t k => castTop (ef_2 m p1) k
  obtain ⟨fs, hr, hrun, hended, hW, hsame⟩ := X0.leave (v := some (.int (1 : Int32))) (fun h => by rw [Bd.returns] at h; cases h)
  refine ⟨_, _, pre0 _ ?_, hrun, hended, _, _, rfl, ?_, ⟨_, rfl⟩, hW, hsame.mono (by decide) (by decide)⟩
  · show Steps p.tables e below (s₁.setTop (mkF m 0 #[.val (.int p1)] [])) _
    refine XS.iloadN X0.here hx rfl (hb hby d2_0) rfl ?_
    refine XS.sipush X0.here hx rfl (hb hby d2_1) ?_
    refine XS.icmpNo X0.here hx rfl (hb hby d2_4) rfl (flt hp).2.2.1 ?_
    refine XS.iconst X0.here hx rfl (hb hby d2_7) ?_
    show Steps p.tables e below (s₁.setTop (mkF m 8 #[.val (.int p1)] [(.int (1 : Int32))])) _
    refine XS.goto X0.here hx rfl (pc0 := 8) (pc' := 12) rfl (hb hby d2_8) (by decide) (by decide) ?_
    exact retN X0 hx (t := .boolean) Bd.returns (by simp) (hb hby d2_12) hr
  · show Q_rm2 Z p1 h0 n0 _ s₁.heap _
    rw [e0]
    exact ⟨rfl, N0, rfl⟩
theorem d3_0 : decode jdk_43_method_46_code 0 = .ok (.iconst 1, 1) := by decide +kernel
theorem d3_1 : decode jdk_43_method_46_code 1 = .ok (.newarray .byte, 2) := by decide +kernel
theorem wd_14 {a0 : Array Value} {Z : State} (hw : ∀ d ∈ tables_1, d.before a0 Z = true) : (Jvm.Cond.arrayClass Jvm.ClassFile.FieldType.byte).before a0 Z = true := hw _ (List.mem_of_getElem? (i := 14) rfl)
theorem d3_3 : decode jdk_43_method_46_code 3 = .ok (.dup, 1) := by decide +kernel
theorem d3_4 : decode jdk_43_method_46_code 4 = .ok (.iconst 0, 1) := by decide +kernel
theorem d3_5 : decode jdk_43_method_46_code 5 = .ok (.iload_n 0, 1) := by decide +kernel
theorem d3_6 : decode jdk_43_method_46_code 6 = .ok (.i2b, 1) := by decide +kernel
theorem d3_7 : decode jdk_43_method_46_code 7 = .ok (.bastore, 1) := by decide +kernel
theorem d3_8 : decode jdk_43_method_46_code 8 = .ok (.areturn, 1) := by decide +kernel
theorem ef_3 (m : MethodId) (x0 : Int32) : entryFrame m #[(.int x0)] 1 = mkF m 0 #[.val (.int x0)] [] := by first | (simp [entryFrame, mkF, argsToLocals, Value.category]; done) | rfl
def Q_rm3 (Z : State) (p1 : Int32) (h0 : Heap) (n0 : Nat) (v : Option Value) (h : Heap) (L : List Loc) : Prop := ∃ b : Addr, ∃ kb : ClassId, v = some (.ref b) ∧ Fr n0 L ∧ Keep h0 h [] ∧ (h0.size ≤ b) ∧ (Arv Z h b kb .byte (1 : Int32) [(.int (nar .byte (p1.toInt8.toInt32)))] (.int (0 : Int32)))
set_option maxRecDepth 65536 in
set_option maxHeartbeats 40000000 in
theorem rm3 (l : Launch) (Z : State) (a0 : Array Value) (hw : ∀ d ∈ tables_1, d.before a0 Z = true) (ws : List Jvm.Cond) (p1 : Int32) (h0 : Heap) (n0 : Nat) (Z0 : n0 ≤ h0.size) :
    MetFree l (⟨"java/lang/StringLatin1", "toBytes", "(C)[B"⟩ : MethodName) (head1 (Jvm.Cond.code (⟨"java/lang/StringLatin1", "toBytes", "(C)[B"⟩ : MethodName) jdk_43_method_46_code 1 (some (.array .byte)) :: ws) ({ frames := 0, cells := 1, slots := 1, locals := 0 } : Room)) (fun a U => a = #[(.int p1)] ∧ Z.Warmed39 U.vm ∧ U.heap = h0) (fun _ _ _ _ _ => True) (fun _ U o U' => ∃ v L, o = .returned v ∧ Q_rm3 Z p1 h0 n0 v U'.heap L ∧ FrameEnd U o U' L ({ frames := 0, cells := 1, slots := 1, locals := 0 } : Room).cells ({ frames := 0, cells := 1, slots := 1, locals := 0 } : Room).slots) := by
  refine MetFree.of_bodySF (plainFor_of_name pn_java_lang_StringLatin1) hisR ?_
  intro p e s m args below meth c s₁ Bd hml0 hP hK
  obtain ⟨rfl, hZ, hh⟩ := hP
  have hx := Bd.exec
  have hby := Bd.bytes
  have hml : c.maxLocals = 1 := hml0
  have hown : s.vm.findClass "java/lang/StringLatin1" = some m.cls := findClass_of_methodNamed Bd.named
  have hnm := (name_of_methodNamed Bd.named Bd.method).1
  have X0 : Stand p l e ({ frames := 0, cells := 1, slots := 1, locals := 0 } : Room) s m #[(.int p1)] below meth c s₁ [] 0 0 := Stand.of_body Bd
  have e0 : s₁.heap = h0 := by rw [← hh, Bd.state]; rfl
  have N0 := Fr.nil n0
  have pre0 : ∀ t, Steps p.tables e below (s₁.setTop (mkF m 0 #[.val (.int p1)] [])) t → Steps p.tables e below (s₁.setTop (entryFrame m #[(.int p1)] 1)) t := fun t k => castTop (ef_3 m p1) k
  obtain ⟨T1, h1, k1, X1, e1, E1, A1, st1⟩ := newP (aty := .byte) X0 hx hZ (wd_14 hw) e0 (g := (mkF m 1 #[.val (.int p1)] [(.int (1 : Int32))])) rfl (hb hby d3_1) rfl (by decide) (cap := 1) (by decide) (by decide) (by decide) (by decide)
  obtain ⟨b1, g1⟩ : ∃ z, z = h0.size := ⟨_, rfl⟩
  rw [← g1] at A1 st1
  have g_b1 : n0 ≤ b1 := Nat.le_trans Z0 (Nat.le_of_eq g1.symm)
  have sz_b1 : h0.size ≤ b1 := Nat.le_trans (And.left (Keep.refl h0 [])) (Nat.le_of_eq g1.symm)
  have Z2 : n0 ≤ h1.size := Nat.le_trans Z0 E1.1
  have K3 : Keep h0 h1 [] := Keep.ext (Keep.refl h0 []) E1
  have V0_b1 := (Arv.new A1 (by decide)).pad (pad_rep [] (.int (0 : Int32)) 1)
  have V_b1 : Arv Z h1 b1 k1 .byte (1 : Int32) [(.int (0 : Int32))] (.int (0 : Int32)) := V0_b1
  obtain ⟨cl4, Ar4, q4, S4, N4n, H4, G4⟩ := id (V_b1)
  have hin4 : ¬ ((0 : Int32) < 0 ∨ cl4.slots.size ≤ ((0 : Int32)).toNatClampNeg) := inb_of S4 ⟨by decide, by decide⟩
  obtain ⟨T5, h5, X5, e5, W5, st5⟩ := stB X1 hx hZ e1 Ar4 (j := (0 : Int32)) hin4 (g := (mkF m 7 #[.val (.int p1)] [(.int (p1.toInt8.toInt32)), (.int (0 : Int32)), (.ref b1), (.ref b1)])) rfl rfl (hb hby d3_7)
  have V_b1_5 : Arv Z h5 b1 k1 .byte (1 : Int32) [(.int (nar .byte (p1.toInt8.toInt32)))] (.int (0 : Int32)) := Arv.set Ar4 q4 S4 N4n H4 G4 (fits_nar_byte _) W5 0 rfl (Nat.le_of_ble_eq_true rfl)
  have Z6 : n0 ≤ h5.size := Nat.le_trans Z2 (Keep.of_wr W5).1
  have K7 : Keep h0 h5 [] := Keep.wr K3 W5 (Or.inr sz_b1)
  have N5 := Fr.snoc X5 N0 g_b1
  obtain ⟨fs, hr, hrun, hended, hW, hsame⟩ := X5.leave (v := some (.ref b1)) (fun h => by rw [Bd.returns] at h; cases h)
  refine ⟨_, _, pre0 _ ?_, hrun, hended, _, _, rfl, ?_, ⟨_, rfl⟩, hW, hsame.mono (by decide) (by decide)⟩
  · show Steps p.tables e below (s₁.setTop (mkF m 0 #[.val (.int p1)] [])) _
    refine XS.iconst X0.here hx rfl (hb hby d3_0) ?_
    refine st1 _ ?_
    refine XS.dup X1.here hx rfl (hb hby d3_3) rfl rfl ?_
    refine XS.iconst X1.here hx rfl (hb hby d3_4) ?_
    show Steps p.tables e below (T1.setTop (mkF m 5 #[.val (.int p1)] [(.int (0 : Int32)), (.ref b1), (.ref b1)])) _
    refine XS.iloadN X1.here hx rfl (hb hby d3_5) rfl ?_
    refine XS.i2b X1.here hx rfl (hb hby d3_6) rfl ?_
    refine st5 _ ?_
    exact X5.areturnOut hx rfl Bd.returns rfl (hb hby d3_8) hr
  · show Q_rm3 Z p1 h0 n0 _ T5.heap _
    rw [e5]
    exact ⟨b1, k1, rfl, N5, K7, sz_b1, V_b1_5⟩
theorem d4_0 : decode jdk_42_method_151_code 0 = .ok (.aload_n 0, 1) := by decide +kernel
theorem d4_1 : decode jdk_42_method_151_code 1 = .ok (.invokespecial 1, 3) := by decide +kernel
theorem wd_19 {a0 : Array Value} {Z : State} (hw : ∀ d ∈ tables_1, d.before a0 Z = true) : (Jvm.Cond.methodLink "java/lang/String" (1 : Nat) ({ cls := "java/lang/Object", name := "<init>", desc := "()V" } : Jvm.MethodName)).before a0 Z = true := hw _ (List.mem_of_getElem? (i := 19) rfl)
theorem wd_20 {a0 : Array Value} {Z : State} (hw : ∀ d ∈ tables_1, d.before a0 Z = true) : (Jvm.Cond.instanceMethod ({ cls := "java/lang/Object", name := "<init>", desc := "()V" } : Jvm.MethodName)).before a0 Z = true := hw _ (List.mem_of_getElem? (i := 20) rfl)
theorem wd_21 {a0 : Array Value} {Z : State} (hw : ∀ d ∈ tables_1, d.before a0 Z = true) : (Jvm.Cond.code ({ cls := "java/lang/Object", name := "<init>", desc := "()V" } : Jvm.MethodName) object_method_1_code (1 : Nat) (Option.none : Option Jvm.ClassFile.FieldType)).before a0 Z = true := hw _ (List.mem_of_getElem? (i := 21) rfl)
theorem d4_4 : decode jdk_42_method_151_code 4 = .ok (.aload_n 0, 1) := by decide +kernel
theorem d4_5 : decode jdk_42_method_151_code 5 = .ok (.aload_n 1, 1) := by decide +kernel
theorem d4_6 : decode jdk_42_method_151_code 6 = .ok (.putfield 9, 3) := by decide +kernel
theorem wd_22 {a0 : Array Value} {Z : State} (hw : ∀ d ∈ tables_1, d.before a0 Z = true) : (Jvm.Cond.fieldLink "java/lang/String" (9 : Nat) "java/lang/String" "value" "[B").before a0 Z = true := hw _ (List.mem_of_getElem? (i := 22) rfl)
theorem wd_23 {a0 : Array Value} {Z : State} (hw : ∀ d ∈ tables_1, d.before a0 Z = true) : (Jvm.Cond.laysFinal "java/lang/String" "java/lang/String" "value" "[B").before a0 Z = true := hw _ (List.mem_of_getElem? (i := 23) rfl)
theorem wd_10 {a0 : Array Value} {Z : State} (hw : ∀ d ∈ tables_1, d.before a0 Z = true) : (Jvm.Cond.instantiable "java/lang/String" (4 : Nat)).before a0 Z = true := hw _ (List.mem_of_getElem? (i := 10) rfl)
theorem d4_9 : decode jdk_42_method_151_code 9 = .ok (.aload_n 0, 1) := by decide +kernel
theorem d4_10 : decode jdk_42_method_151_code 10 = .ok (.iload_n 2, 1) := by decide +kernel
theorem d4_11 : decode jdk_42_method_151_code 11 = .ok (.putfield 15, 3) := by decide +kernel
theorem wd_24 {a0 : Array Value} {Z : State} (hw : ∀ d ∈ tables_1, d.before a0 Z = true) : (Jvm.Cond.fieldLink "java/lang/String" (15 : Nat) "java/lang/String" "coder" "B").before a0 Z = true := hw _ (List.mem_of_getElem? (i := 24) rfl)
theorem wd_25 {a0 : Array Value} {Z : State} (hw : ∀ d ∈ tables_1, d.before a0 Z = true) : (Jvm.Cond.laysFinal "java/lang/String" "java/lang/String" "coder" "B").before a0 Z = true := hw _ (List.mem_of_getElem? (i := 25) rfl)
theorem d4_14 : decode jdk_42_method_151_code 14 = .ok (.return_, 1) := by decide +kernel
theorem ef_4 (m : MethodId) (x0 : Addr) (x1 : Addr) (x2 : Int32) : entryFrame m #[(.ref x0), (.ref x1), (.int x2)] 3 = mkF m 0 #[.val (.ref x0), .val (.ref x1), .val (.int x2)] [] := by first | (simp [entryFrame, mkF, argsToLocals, Value.category]; done) | rfl
theorem pn_java_lang_String : plainName "java/lang/String" = true := by first | (simp [plainName, overriddenIn]; done) | decide +kernel
def Q_rm4 (Z : State) (a1 : Addr) (a2 : Addr) (u1 : Value) (u2 : Value) (h0 : Heap) (n0 : Nat) (v : Option Value) (h : Heap) (L : List Loc) : Prop := v = none ∧ Fr n0 L ∧ Keep h0 h [a1] ∧ (Fld Z h a1 "java/lang/String" "value" "[B" (.ref a2)) ∧ (Fld Z h a1 "java/lang/String" "coder" "B" (.int (0 : Int32)))
set_option maxRecDepth 65536 in
set_option maxHeartbeats 40000000 in
theorem rm4 (l : Launch) (Z : State) (a0 : Array Value) (hw : ∀ d ∈ tables_1, d.before a0 Z = true) (ws : List Jvm.Cond) (a1 : Addr) (a2 : Addr) (u1 : Value) (u2 : Value) (h0 : Heap) (n0 : Nat) (Z0 : n0 ≤ h0.size) (F_value_a1 : Fld Z h0 a1 "java/lang/String" "value" "[B" u1) (F_coder_a1 : Fld Z h0 a1 "java/lang/String" "coder" "B" u2) (E_a1 : Exa Z h0 a1 "java/lang/String") (g_a1 : n0 ≤ a1) :
    MetFree l (⟨"java/lang/String", "<init>", "([BB)V"⟩ : MethodName) (head1 (Jvm.Cond.code (⟨"java/lang/String", "<init>", "([BB)V"⟩ : MethodName) jdk_42_method_151_code 3 none :: ws) ({ frames := 1, cells := 0, slots := 0, locals := 12 } : Room)) (fun a U => a = #[(.ref a1), (.ref a2), (.int (0 : Int32))] ∧ Z.Warmed39 U.vm ∧ U.heap = h0) (fun _ _ _ _ _ => True) (fun _ U o U' => ∃ v L, o = .returned v ∧ Q_rm4 Z a1 a2 u1 u2 h0 n0 v U'.heap L ∧ FrameEnd U o U' L ({ frames := 1, cells := 0, slots := 0, locals := 12 } : Room).cells ({ frames := 1, cells := 0, slots := 0, locals := 12 } : Room).slots) := by
  refine MetFree.of_bodySF (plainFor_of_name pn_java_lang_String) hisR ?_
  intro p e s m args below meth c s₁ Bd hml0 hP hK
  obtain ⟨rfl, hZ, hh⟩ := hP
  have hx := Bd.exec
  have hby := Bd.bytes
  have hml : c.maxLocals = 3 := hml0
  have hown : s.vm.findClass "java/lang/String" = some m.cls := findClass_of_methodNamed Bd.named
  have hnm := (name_of_methodNamed Bd.named Bd.method).1
  have X0 : Stand p l e ({ frames := 1, cells := 0, slots := 0, locals := 12 } : Room) s m #[(.ref a1), (.ref a2), (.int (0 : Int32))] below meth c s₁ [] 0 0 := Stand.of_body Bd
  have e0 : s₁.heap = h0 := by rw [← hh, Bd.state]; rfl
  have N0 := Fr.nil n0
  have pre0 : ∀ t, Steps p.tables e below (s₁.setTop (mkF m 0 #[.val (.ref a1), .val (.ref a2), .val (.int (0 : Int32))] [])) t → Steps p.tables e below (s₁.setTop (entryFrame m #[(.ref a1), (.ref a2), (.int (0 : Int32))] 3)) t := fun t k => castTop (ef_4 m a1 a2 (0 : Int32)) k
  obtain ⟨T8, X8, e8, st8⟩ := initO X0 hx hZ hown (wd_19 hw) (wd_20 hw) (wd_21 hw) e0 (g := (mkF m 1 #[.val (.ref a1), .val (.ref a2), .val (.int (0 : Int32))] [(.ref a1)])) rfl (by rw [hml]; rfl) rfl (hb hby d4_1) (by decide) (W := 0) (by show 2 * 0 + _ ≤ _; exact Nat.le_of_eq rfl) (by decide)
  obtain ⟨T9, h9, X9, e9, W9, st9⟩ := putF X8 hx hZ hown (host := "") (Or.inl (wd_22 hw)) Via.refl e8 F_value_a1 E_a1 (Or.inr ⟨(wd_23 hw), rfl, hnm⟩) (wd_10 hw) (ty := (.array .byte)) (by decide) rfl rfl (g := (mkF m 6 #[.val (.ref a1), .val (.ref a2), .val (.int (0 : Int32))] [(.ref a2), (.ref a1)])) rfl rfl (hb hby d4_6)
  have Fw9 := F_value_a1.same W9
  have Z10 : n0 ≤ h9.size := Nat.le_trans Z0 (Keep.of_wr W9).1
  have K11 : Keep h0 h9 [a1] := Keep.wr (Keep.refl h0 [a1]) W9 (Or.inl (List.mem_of_getElem? (i := 0) rfl))
  have N9 := Fr.snoc X9 N0 g_a1
  obtain ⟨T12, h12, X12, e12, W12, st12⟩ := putFN X9 hx hZ hown (wd_24 hw) Via.refl e9 (F_coder_a1.other W9 (Or.inr (slot_ne (Or.inr (wd_25 hw)) (Or.inr (wd_23 hw)) (by decide) (t := .byte) (t' := (.array .byte)) (by decide) (by decide)))) (E_a1.wr W9) (Or.inr ⟨(wd_25 hw), rfl, hnm⟩) (wd_10 hw) (ty := .byte) (v' := (.int (0 : Int32))) (by decide) rfl rfl (g := (mkF m 11 #[.val (.ref a1), .val (.ref a2), .val (.int (0 : Int32))] [(.int (0 : Int32)), (.ref a1)])) rfl rfl (hb hby d4_11)
  have Fw12 := (F_coder_a1.other W9 (Or.inr (slot_ne (Or.inr (wd_25 hw)) (Or.inr (wd_23 hw)) (by decide) (t := .byte) (t' := (.array .byte)) (by decide) (by decide)))).same W12
  have Z13 : n0 ≤ h12.size := Nat.le_trans Z10 (Keep.of_wr W12).1
  have K14 : Keep h0 h12 [a1] := Keep.wr K11 W12 (Or.inl (List.mem_of_getElem? (i := 0) rfl))
  have N12 := Fr.snoc X12 N9 g_a1
  obtain ⟨fs, hr, hrun, hended, hW, hsame⟩ := X12.leave (v := none) (fun _ => rfl)
  refine ⟨_, _, pre0 _ ?_, hrun, hended, _, _, rfl, ?_, ⟨_, rfl⟩, hW, hsame.mono (by decide) (by decide)⟩
  · show Steps p.tables e below (s₁.setTop (mkF m 0 #[.val (.ref a1), .val (.ref a2), .val (.int (0 : Int32))] [])) _
    refine XS.aloadN X0.here hx rfl (hb hby d4_0) rfl rfl ?_
    refine st8 _ ?_
    refine XS.aloadN X8.here hx rfl (hb hby d4_4) rfl rfl ?_
    refine XS.aloadN X8.here hx rfl (hb hby d4_5) rfl rfl ?_
    show Steps p.tables e below (T8.setTop (mkF m 6 #[.val (.ref a1), .val (.ref a2), .val (.int (0 : Int32))] [(.ref a2), (.ref a1)])) _
    refine st9 _ ?_
    refine XS.aloadN X9.here hx rfl (hb hby d4_9) rfl rfl ?_
    refine XS.iloadN X9.here hx rfl (hb hby d4_10) rfl ?_
    refine st12 _ ?_
    show Steps p.tables e below (T12.setTop (mkF m 14 #[.val (.ref a1), .val (.ref a2), .val (.int (0 : Int32))] [])) _
    exact X12.returnOut hx Bd.returns (hb hby d4_14) hr
  · show Q_rm4 Z a1 a2 u1 u2 h0 n0 _ T12.heap _
    rw [e12]
    exact ⟨rfl, N12, K14, (Fw9.other W12 (Or.inr (slot_ne (Or.inr (wd_23 hw)) (Or.inr (wd_25 hw)) (by decide) (t := (.array .byte)) (t' := .byte) (by decide) (by decide)))), Fw12⟩
theorem d1_0 : decode jdk_42_method_139_code 0 = .ok (.getstatic 38, 3) := by decide +kernel
theorem wd_4 {a0 : Array Value} {Z : State} (hw : ∀ d ∈ tables_1, d.before a0 Z = true) : (Jvm.Cond.fieldLink "java/lang/String" (38 : Nat) "java/lang/String" "COMPACT_STRINGS" "Z").before a0 Z = true := hw _ (List.mem_of_getElem? (i := 4) rfl)
theorem d1_3 : decode jdk_42_method_139_code 3 = .ok (.ifCond .eq 23, 3) := by decide +kernel
theorem d1_6 : decode jdk_42_method_139_code 6 = .ok (.iload_n 0, 1) := by decide +kernel
theorem d1_7 : decode jdk_42_method_139_code 7 = .ok (.invokestatic 1015, 3) := by decide +kernel
theorem wd_5 {a0 : Array Value} {Z : State} (hw : ∀ d ∈ tables_1, d.before a0 Z = true) : (Jvm.Cond.methodLink "java/lang/String" (1015 : Nat) ({ cls := "java/lang/StringLatin1", name := "canEncode", desc := "(C)Z" } : Jvm.MethodName)).before a0 Z = true := hw _ (List.mem_of_getElem? (i := 5) rfl)
theorem wd_8 {a0 : Array Value} {Z : State} (hw : ∀ d ∈ tables_1, d.before a0 Z = true) : (Jvm.Cond.code ({ cls := "java/lang/StringLatin1", name := "canEncode", desc := "(C)Z" } : Jvm.MethodName) jdk_43_method_3_code (1 : Nat) (Option.some Jvm.ClassFile.FieldType.boolean)).before a0 Z = true := hw _ (List.mem_of_getElem? (i := 8) rfl)
theorem wd_7 {a0 : Array Value} {Z : State} (hw : ∀ d ∈ tables_1, d.before a0 Z = true) : (Jvm.Cond.initialized "java/lang/StringLatin1").before a0 Z = true := hw _ (List.mem_of_getElem? (i := 7) rfl)
theorem pd__C_Z : parseMethodDescriptor "(C)Z" = some ⟨[.char], some .boolean⟩ := by decide +kernel
theorem wd_6 {a0 : Array Value} {Z : State} (hw : ∀ d ∈ tables_1, d.before a0 Z = true) : (Jvm.Cond.static ({ cls := "java/lang/StringLatin1", name := "canEncode", desc := "(C)Z" } : Jvm.MethodName)).before a0 Z = true := hw _ (List.mem_of_getElem? (i := 6) rfl)
theorem d1_10 : decode jdk_42_method_139_code 10 = .ok (.ifCond .eq 16, 3) := by decide +kernel
theorem d1_13 : decode jdk_42_method_139_code 13 = .ok (.new 10, 3) := by decide +kernel
theorem wd_9 {a0 : Array Value} {Z : State} (hw : ∀ d ∈ tables_1, d.before a0 Z = true) : (Jvm.Cond.classLink "java/lang/String" (10 : Nat) "java/lang/String").before a0 Z = true := hw _ (List.mem_of_getElem? (i := 9) rfl)
theorem wd_2 {a0 : Array Value} {Z : State} (hw : ∀ d ∈ tables_1, d.before a0 Z = true) : (Jvm.Cond.initialized "java/lang/String").before a0 Z = true := hw _ (List.mem_of_getElem? (i := 2) rfl)
theorem d1_16 : decode jdk_42_method_139_code 16 = .ok (.dup, 1) := by decide +kernel
theorem d1_17 : decode jdk_42_method_139_code 17 = .ok (.iload_n 0, 1) := by decide +kernel
theorem d1_18 : decode jdk_42_method_139_code 18 = .ok (.invokestatic 1018, 3) := by decide +kernel
theorem wd_11 {a0 : Array Value} {Z : State} (hw : ∀ d ∈ tables_1, d.before a0 Z = true) : (Jvm.Cond.methodLink "java/lang/String" (1018 : Nat) ({ cls := "java/lang/StringLatin1", name := "toBytes", desc := "(C)[B" } : Jvm.MethodName)).before a0 Z = true := hw _ (List.mem_of_getElem? (i := 11) rfl)
theorem wd_13 {a0 : Array Value} {Z : State} (hw : ∀ d ∈ tables_1, d.before a0 Z = true) : (Jvm.Cond.code ({ cls := "java/lang/StringLatin1", name := "toBytes", desc := "(C)[B" } : Jvm.MethodName) jdk_43_method_46_code (1 : Nat) (Option.some (Jvm.ClassFile.FieldType.array Jvm.ClassFile.FieldType.byte))).before a0 Z = true := hw _ (List.mem_of_getElem? (i := 13) rfl)
theorem pd__C__B : parseMethodDescriptor "(C)[B" = some ⟨[.char], some (.array .byte)⟩ := by decide +kernel
theorem wd_12 {a0 : Array Value} {Z : State} (hw : ∀ d ∈ tables_1, d.before a0 Z = true) : (Jvm.Cond.static ({ cls := "java/lang/StringLatin1", name := "toBytes", desc := "(C)[B" } : Jvm.MethodName)).before a0 Z = true := hw _ (List.mem_of_getElem? (i := 12) rfl)
theorem d1_21 : decode jdk_42_method_139_code 21 = .ok (.iconst 0, 1) := by decide +kernel
theorem d1_22 : decode jdk_42_method_139_code 22 = .ok (.invokespecial 209, 3) := by decide +kernel
theorem wd_15 {a0 : Array Value} {Z : State} (hw : ∀ d ∈ tables_1, d.before a0 Z = true) : (Jvm.Cond.methodLink "java/lang/String" (209 : Nat) ({ cls := "java/lang/String", name := "<init>", desc := "([BB)V" } : Jvm.MethodName)).before a0 Z = true := hw _ (List.mem_of_getElem? (i := 15) rfl)
theorem wd_18 {a0 : Array Value} {Z : State} (hw : ∀ d ∈ tables_1, d.before a0 Z = true) : (Jvm.Cond.code ({ cls := "java/lang/String", name := "<init>", desc := "([BB)V" } : Jvm.MethodName) jdk_42_method_151_code (3 : Nat) (Option.none : Option Jvm.ClassFile.FieldType)).before a0 Z = true := hw _ (List.mem_of_getElem? (i := 18) rfl)
theorem pd___BB_V : parseMethodDescriptor "([BB)V" = some ⟨[(.array .byte), .byte], none⟩ := by decide +kernel
theorem wd_16 {a0 : Array Value} {Z : State} (hw : ∀ d ∈ tables_1, d.before a0 Z = true) : (Jvm.Cond.instanceMethod ({ cls := "java/lang/String", name := "<init>", desc := "([BB)V" } : Jvm.MethodName)).before a0 Z = true := hw _ (List.mem_of_getElem? (i := 16) rfl)
theorem d1_25 : decode jdk_42_method_139_code 25 = .ok (.areturn, 1) := by decide +kernel
theorem ef_1 (m : MethodId) (x0 : Int32) : entryFrame m #[(.int x0)] 1 = mkF m 0 #[.val (.int x0)] [] := by first | (simp [entryFrame, mkF, argsToLocals, Value.category]; done) | rfl
def Q_rm1 (Z : State) (p1 : Int32) (wz : Int32) (h0 : Heap) (n0 : Nat) (v : Option Value) (h : Heap) (L : List Loc) : Prop := ∃ b : Addr, ∃ t : Addr, ∃ kb : ClassId, v = some (.ref b) ∧ Fr n0 L ∧ Keep h0 h [] ∧ (h0.size ≤ b) ∧ (h0.size ≤ t) ∧ (t ≠ b) ∧ (Exa Z h b "java/lang/String") ∧ (Fld Z h b "java/lang/String" "value" "[B" (.ref t)) ∧ (Fld Z h b "java/lang/String" "coder" "B" (.int (0 : Int32))) ∧ (Arv Z h t kb .byte (1 : Int32) [(.int (nar .byte (p1.toInt8.toInt32)))] (.int (0 : Int32)))
set_option maxRecDepth 65536 in
set_option maxHeartbeats 40000000 in
theorem rm1 (l : Launch) (Z : State) (a0 : Array Value) (hw : ∀ d ∈ tables_1, d.before a0 Z = true) (ws : List Jvm.Cond) (p1 : Int32) (wz : Int32) (h0 : Heap) (n0 : Nat) (Z0 : n0 ≤ h0.size) (hp : ¬ ((255 : Int32) < p1)) (Old0 : Old Z n0 h0) (S_COMPACT_STRINGS : Sta Z Z.heap "java/lang/String" "COMPACT_STRINGS" "Z" (.int wz)) (hz : ¬ (wz = (0 : Int32))) :
    MetFree l (⟨"java/lang/String", "valueOf", "(C)Ljava/lang/String;"⟩ : MethodName) (head1 (Jvm.Cond.code (⟨"java/lang/String", "valueOf", "(C)Ljava/lang/String;"⟩ : MethodName) jdk_42_method_139_code 1 (some (.object "java/lang/String")) :: ws) ({ frames := 2, cells := 2, slots := 5, locals := 27 } : Room)) (fun a U => a = #[(.int p1)] ∧ Z.Warmed39 U.vm ∧ U.heap = h0) (fun _ _ _ _ _ => True) (fun _ U o U' => ∃ v L, o = .returned v ∧ Q_rm1 Z p1 wz h0 n0 v U'.heap L ∧ FrameEnd U o U' L ({ frames := 2, cells := 2, slots := 5, locals := 27 } : Room).cells ({ frames := 2, cells := 2, slots := 5, locals := 27 } : Room).slots) := by
  refine MetFree.of_bodySF (plainFor_of_name pn_java_lang_String) hisR ?_
  intro p e s m args below meth c s₁ Bd hml0 hP hK
  obtain ⟨rfl, hZ, hh⟩ := hP
  have hx := Bd.exec
  have hby := Bd.bytes
  have hml : c.maxLocals = 1 := hml0
  have hown : s.vm.findClass "java/lang/String" = some m.cls := findClass_of_methodNamed Bd.named
  have hnm := (name_of_methodNamed Bd.named Bd.method).1
  have X0 : Stand p l e ({ frames := 2, cells := 2, slots := 5, locals := 27 } : Room) s m #[(.int p1)] below meth c s₁ [] 0 0 := Stand.of_body Bd
  have e0 : s₁.heap = h0 := by rw [← hh, Bd.state]; rfl
  have N0 := Fr.nil n0
  have pre0 : ∀ t, Steps p.tables e below (s₁.setTop (mkF m 0 #[.val (.int p1)] [])) t → Steps p.tables e below (s₁.setTop (entryFrame m #[(.int p1)] 1)) t := fun t k => castTop (ef_1 m p1) k
  obtain ⟨T15, X15, e15, st15⟩ := getS2 X0 hx hZ hown (host := "") (Or.inl (wd_4 hw)) Via.refl e0 (S_COMPACT_STRINGS.ext (Old0).2) (g := (mkF m 0 #[.val (.int p1)] [])) rfl (hb hby d1_0)
  obtain ⟨_, _, ⟨T16, L16, k16, n16⟩, -, X16, ⟨Lc16, hQ16, l16, y16, z16⟩, st16⟩ := Jvm.LawKit.callS X15 hx (y := (⟨"java/lang/StringLatin1", "canEncode", "(C)Z"⟩ : MethodName)) hown (mvT hZ (wd_5 hw)) (mvT hZ (wd_6 hw)) (mvT hZ (wd_7 hw)) (mvT hZ (wd_8 hw)) (by decide) (backOf (W := 0) (rm2 l Z a0 hw [] p1 h0 n0 Z0 hp) hZ (wd_8 hw) (wd_7 hw) (by decide) (by decide)) (g := (mkF m 7 #[.val (.int p1)] [(.int p1)])) rfl (by rw [hml]; rfl) (argsL := [(.int p1)]) (rest := []) (lenOf pd__C_Z rfl) rfl (by show 2 * 0 + _ ≤ _; exact Nat.le_of_eq rfl) (hb hby d1_7) (fun _ _ => ⟨rfl, e15, (by decide : 0 + 0 ≤ _), (by decide : 0 + 0 ≤ _)⟩)
  dsimp only [Pt.U, Pt.locs, Pt.cells, Pt.slots] at X16 l16 y16 z16 st16 hQ16
  rw [l16, y16, z16] at X16
  obtain ⟨rfl, N16q, e16⟩ := hQ16
  have N16 := Fr.app N0 N16q
  obtain ⟨T17, h17, X17, e17, E17, A17, D17, -, st17⟩ := newO X16 hx hZ hown (wd_9 hw) (wd_10 hw) (wd_2 hw) e16 (g := (mkF m 13 #[.val (.int p1)] [])) rfl (hb hby d1_13) (by decide) (by decide)
  obtain ⟨b17, g17⟩ : ∃ z, z = h0.size := ⟨_, rfl⟩
  rw [← g17] at A17 D17 st17
  have g_b17 : n0 ≤ b17 := Nat.le_trans Z0 (Nat.le_of_eq g17.symm)
  have sz_b17 : h0.size ≤ b17 := Nat.le_trans (And.left (Keep.refl h0 [])) (Nat.le_of_eq g17.symm)
  have Z18 : n0 ≤ h17.size := Nat.le_trans Z0 E17.1
  have K19 : Keep h0 h17 [] := Keep.ext (Keep.refl h0 []) E17
  have F_value_b17 : Fld Z h17 b17 "java/lang/String" "value" "[B" .null := D17 (Or.inr (wd_23 hw)) (ty := (.array .byte)) (by decide)
  have F_coder_b17 : Fld Z h17 b17 "java/lang/String" "coder" "B" (.int (0 : Int32)) := D17 (Or.inr (wd_25 hw)) (ty := .byte) (by decide)
  obtain ⟨_, _, ⟨T20, L20, k20, n20⟩, -, X20, ⟨Lc20, hQ20, l20, y20, z20⟩, st20⟩ := Jvm.LawKit.callS X17 hx (y := (⟨"java/lang/StringLatin1", "toBytes", "(C)[B"⟩ : MethodName)) hown (mvT hZ (wd_11 hw)) (mvT hZ (wd_12 hw)) (mvT hZ (wd_7 hw)) (mvT hZ (wd_13 hw)) (by decide) (backOf (W := 2) (rm3 l Z a0 hw [] p1 h17 n0 Z18) hZ (wd_13 hw) (wd_7 hw) (by decide) (by decide)) (g := (mkF m 18 #[.val (.int p1)] [(.int p1), (.ref b17), (.ref b17)])) rfl (by rw [hml]; rfl) (argsL := [(.int p1)]) (rest := [(.ref b17), (.ref b17)]) (lenOf pd__C__B rfl) rfl (by show 2 * 0 + _ ≤ _; exact Nat.le_of_eq rfl) (hb hby d1_18) (fun _ _ => ⟨rfl, e17, (by decide : 1 + 1 ≤ _), (by decide : 4 + 1 ≤ _)⟩)
  dsimp only [Pt.U, Pt.locs, Pt.cells, Pt.slots] at X20 l20 y20 z20 st20 hQ20
  rw [l20, y20, z20] at X20
  obtain ⟨b_20, kb_20, rfl, N20q, K20q, g20_0, g20_1⟩ := hQ20
  have N20 := Fr.app N16 N20q
  have Z21 : n0 ≤ T20.heap.size := Nat.le_trans Z18 K20q.1
  have K22 : Keep h0 T20.heap [] := Keep.trans K19 K20q all0
  have ne_b17_b_20 : b17 ≠ b_20 := Nat.ne_of_lt (Nat.lt_of_lt_of_le (A17).lt g20_0)
  have g23 : n0 ≤ b_20 := Nat.le_trans Z18 g20_0
  have sz24 : h0.size ≤ b_20 := Nat.le_trans (And.left K19) g20_0
  obtain ⟨_, _, ⟨T25, L25, k25, n25⟩, -, X25, ⟨Lc25, hQ25, l25, y25, z25⟩, st25⟩ := X20.specialBack hx (y := (⟨"java/lang/String", "<init>", "([BB)V"⟩ : MethodName)) rfl hown (mvT hZ (wd_15 hw)) (mvT hZ (wd_16 hw)) (mvT hZ (wd_18 hw)) (by decide) (backOf (W := 1) (rm4 l Z a0 hw [] b17 b_20 .null (.int (0 : Int32)) T20.heap n0 Z21 (F_value_b17.keep K20q nin0) (F_coder_b17.keep K20q nin0) (A17.keep K20q) g_b17) hZ (wd_18 hw) (wd_2 hw) (by decide) (by decide)) (g := (mkF m 22 #[.val (.int p1)] [(.int (0 : Int32)), (.ref b_20), (.ref b17), (.ref b17)])) rfl (by rw [hml]; rfl) (Steps.refl _) (a := b17) (argsL := [(.ref b_20), (.int (0 : Int32))]) (rest := [(.ref b17)]) (lenOf pd___BB_V rfl) rfl (by show 2 * 0 + _ ≤ _; exact Nat.le_of_eq rfl) (hb hby d1_22) (fun _ _ => ⟨rfl, rfl, (by decide : 2 + 0 ≤ _), (by decide : 5 + 0 ≤ _)⟩)
  dsimp only [Pt.U, Pt.locs, Pt.cells, Pt.slots] at X25 l25 y25 z25 st25 hQ25
  rw [l25, y25, z25] at X25
  obtain ⟨rfl, N25q, K25q, g25_0, g25_1⟩ := hQ25
  have N25 := Fr.app N20 N25q
  have Z26 : n0 ≤ T25.heap.size := Nat.le_trans Z21 K25q.1
  have K27 : Keep h0 T25.heap [] := Keep.trans K22 K25q (allS (Or.inr sz_b17) all0)
  obtain ⟨fs, hr, hrun, hended, hW, hsame⟩ := X25.leave (v := some (.ref b17)) (fun h => by rw [Bd.returns] at h; cases h)
  refine ⟨_, _, pre0 _ ?_, hrun, hended, _, _, rfl, ?_, ⟨_, rfl⟩, hW, hsame.mono (by decide) (by decide)⟩
  · show Steps p.tables e below (s₁.setTop (mkF m 0 #[.val (.int p1)] [])) _
    refine st15 _ ?_
    refine XS.ifNo X15.here hx rfl (hb hby d1_3) rfl ((if0 _ _).trans (feq hz).1) ?_
    refine XS.iloadN X15.here hx rfl (hb hby d1_6) rfl ?_
    refine st16 _ ?_
    show Steps p.tables e below (T16.setTop (mkF m 10 #[.val (.int p1)] [(.int (1 : Int32))])) _
    refine XS.ifNo X16.here hx rfl (hb hby d1_10) rfl ((if0 _ _).trans (feq (by decide)).1) ?_
    refine st17 _ ?_
    refine XS.dup X17.here hx rfl (hb hby d1_16) rfl rfl ?_
    refine XS.iloadN X17.here hx rfl (hb hby d1_17) rfl ?_
    show Steps p.tables e below (T17.setTop (mkF m 18 #[.val (.int p1)] [(.int p1), (.ref b17), (.ref b17)])) _
    refine st20 _ ?_
    refine XS.iconst X20.here hx rfl (hb hby d1_21) ?_
    refine st25.trans ?_
    exact X25.areturnOut hx rfl Bd.returns rfl (hb hby d1_25) hr
  · show Q_rm1 Z p1 wz h0 n0 _ T25.heap _
    exact ⟨b17, b_20, kb_20, rfl, N25, K27, sz_b17, sz24, (Ne.symm ne_b17_b_20), ((A17.keep K20q).keep K25q), g25_0, g25_1, (g20_1.keep K25q (ninS (Ne.symm ne_b17_b_20) nin0))⟩
theorem d9_0 : decode jdk_52_method_21_code 0 = .ok (.iconst 0, 1) := by decide +kernel
theorem d9_1 : decode jdk_52_method_21_code 1 = .ok (.istore 5, 2) := by decide +kernel
theorem d9_3 : decode jdk_52_method_21_code 3 = .ok (.iload 5, 2) := by decide +kernel
theorem d9_5 : decode jdk_52_method_21_code 5 = .ok (.iload 4, 2) := by decide +kernel
theorem d9_7 : decode jdk_52_method_21_code 7 = .ok (.if_icmp .ge 37, 3) := by decide +kernel
theorem d9_10 : decode jdk_52_method_21_code 10 = .ok (.aload_n 0, 1) := by decide +kernel
theorem d9_11 : decode jdk_52_method_21_code 11 = .ok (.iload_n 1, 1) := by decide +kernel
theorem d9_12 : decode jdk_52_method_21_code 12 = .ok (.caload, 1) := by decide +kernel
theorem d9_13 : decode jdk_52_method_21_code 13 = .ok (.istore 6, 2) := by decide +kernel
theorem d9_15 : decode jdk_52_method_21_code 15 = .ok (.iload 6, 2) := by decide +kernel
theorem d9_17 : decode jdk_52_method_21_code 17 = .ok (.sipush 255, 3) := by decide +kernel
theorem d9_20 : decode jdk_52_method_21_code 20 = .ok (.if_icmp .le 6, 3) := by decide +kernel
theorem d9_26 : decode jdk_52_method_21_code 26 = .ok (.aload_n 2, 1) := by decide +kernel
theorem d9_27 : decode jdk_52_method_21_code 27 = .ok (.iload_n 3, 1) := by decide +kernel
theorem d9_28 : decode jdk_52_method_21_code 28 = .ok (.iload 6, 2) := by decide +kernel
theorem d9_30 : decode jdk_52_method_21_code 30 = .ok (.i2b, 1) := by decide +kernel
theorem d9_31 : decode jdk_52_method_21_code 31 = .ok (.bastore, 1) := by decide +kernel
theorem d9_32 : decode jdk_52_method_21_code 32 = .ok (.iinc 1 1, 3) := by decide +kernel
theorem d9_35 : decode jdk_52_method_21_code 35 = .ok (.iinc 3 1, 3) := by decide +kernel
theorem d9_38 : decode jdk_52_method_21_code 38 = .ok (.iinc 5 1, 3) := by decide +kernel
theorem d9_41 : decode jdk_52_method_21_code 41 = .ok (.goto (-38), 3) := by decide +kernel
theorem d9_44 : decode jdk_52_method_21_code 44 = .ok (.iload 4, 2) := by decide +kernel
theorem d9_46 : decode jdk_52_method_21_code 46 = .ok (.ireturn, 1) := by decide +kernel
theorem ef_9 (m : MethodId) (x0 : Addr) (x1 : Int32) (x2 : Addr) (x3 : Int32) (x4 : Int32) : entryFrame m #[(.ref x0), (.int x1), (.ref x2), (.int x3), (.int x4)] 7 = mkF m 0 #[.val (.ref x0), .val (.int x1), .val (.ref x2), .val (.int x3), .val (.int x4), .unset, .unset] [] := by first | (simp [entryFrame, mkF, argsToLocals, Value.category]; done) | rfl
theorem pn_java_lang_StringUTF16 : plainName "java/lang/StringUTF16" = true := by first | (simp [plainName, overriddenIn]; done) | decide +kernel
def Q_rmcm1 (Z : State) (a1 : Addr) (a3 : Addr) (kc : ClassId) (kb : ClassId) (c0 : Int32) (h0 : Heap) (n0 : Nat) (v : Option Value) (h : Heap) (L : List Loc) : Prop := v = some (.int (1 : Int32)) ∧ Fr n0 L ∧ Keep h0 h [a3] ∧ (Arv Z h a3 kb .byte (1 : Int32) [(.int (nar .byte (c0.toInt8.toInt32)))] (.int (0 : Int32)))
set_option maxRecDepth 65536 in
set_option maxHeartbeats 40000000 in
theorem rmcm1 (l : Launch) (Z : State) (a0 : Array Value) (hw : ∀ d ∈ tables_1, d.before a0 Z = true) (ws : List Jvm.Cond) (a1 : Addr) (a3 : Addr) (kc : ClassId) (kb : ClassId) (c0 : Int32) (h0 : Heap) (n0 : Nat) (Z0 : n0 ≤ h0.size) (V_a1 : Arv Z h0 a1 kc .char (1 : Int32) [(.int c0)] (.int (0 : Int32))) (V_a3 : Arv Z h0 a3 kb .byte (1 : Int32) [(.int (0 : Int32))] (.int (0 : Int32))) (g_a3 : n0 ≤ a3) (ne_a1_a3 : a1 ≠ a3) (hp0 : ¬ ((255 : Int32) < c0)) :
    MetFree l (⟨"java/lang/StringUTF16", "compress", "([CI[BII)I"⟩ : MethodName) (head1 (Jvm.Cond.code (⟨"java/lang/StringUTF16", "compress", "([CI[BII)I"⟩ : MethodName) jdk_52_method_21_code 7 (some .int) :: ws) ({ frames := 0, cells := 0, slots := 0, locals := 0 } : Room)) (fun a U => a = #[(.ref a1), (.int (0 : Int32)), (.ref a3), (.int (0 : Int32)), (.int (1 : Int32))] ∧ Z.Warmed39 U.vm ∧ U.heap = h0) (fun _ _ _ _ _ => True) (fun _ U o U' => ∃ v L, o = .returned v ∧ Q_rmcm1 Z a1 a3 kc kb c0 h0 n0 v U'.heap L ∧ FrameEnd U o U' L ({ frames := 0, cells := 0, slots := 0, locals := 0 } : Room).cells ({ frames := 0, cells := 0, slots := 0, locals := 0 } : Room).slots) := by
  refine MetFree.of_bodySF (plainFor_of_name pn_java_lang_StringUTF16) hisR ?_
  intro p e s m args below meth c s₁ Bd hml0 hP hK
  obtain ⟨rfl, hZ, hh⟩ := hP
  have hx := Bd.exec
  have hby := Bd.bytes
  have hml : c.maxLocals = 7 := hml0
  have hown : s.vm.findClass "java/lang/StringUTF16" = some m.cls := findClass_of_methodNamed Bd.named
  have hnm := (name_of_methodNamed Bd.named Bd.method).1
  have X0 : Stand p l e ({ frames := 0, cells := 0, slots := 0, locals := 0 } : Room) s m #[(.ref a1), (.int (0 : Int32)), (.ref a3), (.int (0 : Int32)), (.int (1 : Int32))] below meth c s₁ [] 0 0 := Stand.of_body Bd
  have e0 : s₁.heap = h0 := by rw [← hh, Bd.state]; rfl
  have N0 := Fr.nil n0
  have pre0 : ∀ t, Steps p.tables e below (s₁.setTop (mkF m 0 #[.val (.ref a1), .val (.int (0 : Int32)), .val (.ref a3), .val (.int (0 : Int32)), .val (.int (1 : Int32)), .unset, .unset] [])) t → Steps p.tables e below (s₁.setTop (entryFrame m #[(.ref a1), (.int (0 : Int32)), (.ref a3), (.int (0 : Int32)), (.int (1 : Int32))] 7)) t := fun t k => castTop (ef_9 m a1 (0 : Int32) a3 (0 : Int32) (1 : Int32)) k
  obtain ⟨cl28, Ar28, q28, S28, N28n, H28, G28⟩ := id (V_a1)
  have hin28 : ¬ ((0 : Int32) < 0 ∨ cl28.slots.size ≤ ((0 : Int32)).toNatClampNeg) := inb_of S28 ⟨by decide, by decide⟩
  have hat28 : cl28.slots[((0 : Int32)).toNatClampNeg]? = some (.int c0) := H28.at hin28 rfl
  obtain ⟨cl29, Ar29, q29, S29, N29n, H29, G29⟩ := id (V_a3)
  have hin29 : ¬ ((0 : Int32) < 0 ∨ cl29.slots.size ≤ ((0 : Int32)).toNatClampNeg) := inb_of S29 ⟨by decide, by decide⟩
  obtain ⟨T30, h30, X30, e30, W30, st30⟩ := stB X0 hx hZ e0 Ar29 (j := (0 : Int32)) hin29 (g := (mkF m 31 #[.val (.ref a1), .val (.int (0 : Int32)), .val (.ref a3), .val (.int (0 : Int32)), .val (.int (1 : Int32)), .val (.int (0 : Int32)), .val (.int c0)] [(.int (c0.toInt8.toInt32)), (.int (0 : Int32)), (.ref a3)])) rfl rfl (hb hby d9_31)
  have V_a3_30 : Arv Z h30 a3 kb .byte (1 : Int32) [(.int (nar .byte (c0.toInt8.toInt32)))] (.int (0 : Int32)) := Arv.set Ar29 q29 S29 N29n H29 G29 (fits_nar_byte _) W30 0 rfl (Nat.le_of_ble_eq_true rfl)
  have Z31 : n0 ≤ h30.size := Nat.le_trans Z0 (Keep.of_wr W30).1
  have K32 : Keep h0 h30 [a3] := Keep.wr (Keep.refl h0 [a3]) W30 (Or.inl (List.mem_of_getElem? (i := 0) rfl))
  have N30 := Fr.snoc X30 N0 g_a3
  obtain ⟨fs, hr, hrun, hended, hW, hsame⟩ := X30.leave (v := some (.int (1 : Int32))) (fun h => by rw [Bd.returns] at h; cases h)
  refine ⟨_, _, pre0 _ ?_, hrun, hended, _, _, rfl, ?_, ⟨_, rfl⟩, hW, hsame.mono (by decide) (by decide)⟩
  · show Steps p.tables e below (s₁.setTop (mkF m 0 #[.val (.ref a1), .val (.int (0 : Int32)), .val (.ref a3), .val (.int (0 : Int32)), .val (.int (1 : Int32)), .unset, .unset] [])) _
    refine XS.iconst X0.here hx rfl (hb hby d9_0) ?_
    refine XS.istore X0.here hx rfl (hb hby d9_1) rfl (l' := #[.val (.ref a1), .val (.int (0 : Int32)), .val (.ref a3), .val (.int (0 : Int32)), .val (.int (1 : Int32)), .val (.int (0 : Int32)), .unset]) rfl ?_
    refine XS.iload X0.here hx rfl (hb hby d9_3) rfl ?_
    refine XS.iload X0.here hx rfl (hb hby d9_5) rfl ?_
    show Steps p.tables e below (s₁.setTop (mkF m 7 #[.val (.ref a1), .val (.int (0 : Int32)), .val (.ref a3), .val (.int (0 : Int32)), .val (.int (1 : Int32)), .val (.int (0 : Int32)), .unset] [(.int (1 : Int32)), (.int (0 : Int32))])) _
    refine XS.icmpNo X0.here hx rfl (hb hby d9_7) rfl (tlt (by decide)).2.1 ?_
    refine XS.aloadN X0.here hx rfl (hb hby d9_10) rfl rfl ?_
    refine XS.iloadN X0.here hx rfl (hb hby d9_11) rfl ?_
    refine X0.caload hx (j := (0 : Int32)) (v := (.int c0)) (by rw [e0]; exact Ar28.1) (State.isArrayOf_alike hZ.alike Ar28.2.1) Ar28.2.2 hin28 hat28 (g := (mkF m 12 #[.val (.ref a1), .val (.int (0 : Int32)), .val (.ref a3), .val (.int (0 : Int32)), .val (.int (1 : Int32)), .val (.int (0 : Int32)), .unset] [(.int (0 : Int32)), (.ref a1)])) rfl rfl (hb hby d9_12) _ ?_
    show Steps p.tables e below (s₁.setTop (mkF m 13 #[.val (.ref a1), .val (.int (0 : Int32)), .val (.ref a3), .val (.int (0 : Int32)), .val (.int (1 : Int32)), .val (.int (0 : Int32)), .unset] [(.int c0)])) _
    refine XS.istore X0.here hx rfl (hb hby d9_13) rfl (l' := #[.val (.ref a1), .val (.int (0 : Int32)), .val (.ref a3), .val (.int (0 : Int32)), .val (.int (1 : Int32)), .val (.int (0 : Int32)), .val (.int c0)]) rfl ?_
    refine XS.iload X0.here hx rfl (hb hby d9_15) rfl ?_
    refine XS.sipush X0.here hx rfl (hb hby d9_17) ?_
    refine XS.icmpYes X0.here hx rfl (pc0 := 20) (pc' := 26) rfl (hb hby d9_20) rfl (flt hp0).2.2.2 (by decide) (by decide) ?_
    show Steps p.tables e below (s₁.setTop (mkF m 26 #[.val (.ref a1), .val (.int (0 : Int32)), .val (.ref a3), .val (.int (0 : Int32)), .val (.int (1 : Int32)), .val (.int (0 : Int32)), .val (.int c0)] [])) _
    refine XS.aloadN X0.here hx rfl (hb hby d9_26) rfl rfl ?_
    refine XS.iloadN X0.here hx rfl (hb hby d9_27) rfl ?_
    refine XS.iload X0.here hx rfl (hb hby d9_28) rfl ?_
    refine XS.i2b X0.here hx rfl (hb hby d9_30) rfl ?_
    show Steps p.tables e below (s₁.setTop (mkF m 31 #[.val (.ref a1), .val (.int (0 : Int32)), .val (.ref a3), .val (.int (0 : Int32)), .val (.int (1 : Int32)), .val (.int (0 : Int32)), .val (.int c0)] [(.int (c0.toInt8.toInt32)), (.int (0 : Int32)), (.ref a3)])) _
    refine st30 _ ?_
    refine XS.iinc X30.here hx rfl (hb hby d9_32) rfl (l' := #[.val (.ref a1), .val (.int (1 : Int32)), .val (.ref a3), .val (.int (0 : Int32)), .val (.int (1 : Int32)), .val (.int (0 : Int32)), .val (.int c0)]) rfl ?_
    refine XS.iinc X30.here hx rfl (hb hby d9_35) rfl (l' := #[.val (.ref a1), .val (.int (1 : Int32)), .val (.ref a3), .val (.int (1 : Int32)), .val (.int (1 : Int32)), .val (.int (0 : Int32)), .val (.int c0)]) rfl ?_
    refine XS.iinc X30.here hx rfl (hb hby d9_38) rfl (l' := #[.val (.ref a1), .val (.int (1 : Int32)), .val (.ref a3), .val (.int (1 : Int32)), .val (.int (1 : Int32)), .val (.int (1 : Int32)), .val (.int c0)]) rfl ?_
    show Steps p.tables e below (T30.setTop (mkF m 41 #[.val (.ref a1), .val (.int (1 : Int32)), .val (.ref a3), .val (.int (1 : Int32)), .val (.int (1 : Int32)), .val (.int (1 : Int32)), .val (.int c0)] [])) _
    refine XS.goto X30.here hx rfl (pc0 := 41) (pc' := 3) rfl (hb hby d9_41) (by decide) (by decide) ?_
    refine XS.iload X30.here hx rfl (hb hby d9_3) rfl ?_
    refine XS.iload X30.here hx rfl (hb hby d9_5) rfl ?_
    refine XS.icmpYes X30.here hx rfl (pc0 := 7) (pc' := 44) rfl (hb hby d9_7) rfl (flt (by decide)).2.1 (by decide) (by decide) ?_
    show Steps p.tables e below (T30.setTop (mkF m 44 #[.val (.ref a1), .val (.int (1 : Int32)), .val (.ref a3), .val (.int (1 : Int32)), .val (.int (1 : Int32)), .val (.int (1 : Int32)), .val (.int c0)] [])) _
    refine XS.iload X30.here hx rfl (hb hby d9_44) rfl ?_
    exact retI X30 hx Bd.returns (hb hby d9_46) hr
  · show Q_rmcm1 Z a1 a3 kc kb c0 h0 n0 _ T30.heap _
    rw [e30]
    exact ⟨rfl, N30, K32, V_a3_30⟩
theorem d8_0 : decode jdk_52_method_16_code 0 = .ok (.iload_n 2, 1) := by decide +kernel
theorem d8_1 : decode jdk_52_method_16_code 1 = .ok (.newarray .byte, 2) := by decide +kernel
theorem d8_3 : decode jdk_52_method_16_code 3 = .ok (.astore_n 3, 1) := by decide +kernel
theorem d8_4 : decode jdk_52_method_16_code 4 = .ok (.aload_n 0, 1) := by decide +kernel
theorem d8_5 : decode jdk_52_method_16_code 5 = .ok (.iload_n 1, 1) := by decide +kernel
theorem d8_6 : decode jdk_52_method_16_code 6 = .ok (.aload_n 3, 1) := by decide +kernel
theorem d8_7 : decode jdk_52_method_16_code 7 = .ok (.iconst 0, 1) := by decide +kernel
theorem d8_8 : decode jdk_52_method_16_code 8 = .ok (.iload_n 2, 1) := by decide +kernel
theorem d8_9 : decode jdk_52_method_16_code 9 = .ok (.invokestatic 115, 3) := by decide +kernel
theorem wd_38 {a0 : Array Value} {Z : State} (hw : ∀ d ∈ tables_1, d.before a0 Z = true) : (Jvm.Cond.methodLink "java/lang/StringUTF16" (115 : Nat) ({ cls := "java/lang/StringUTF16", name := "compress", desc := "([CI[BII)I" } : Jvm.MethodName)).before a0 Z = true := hw _ (List.mem_of_getElem? (i := 38) rfl)
theorem wd_40 {a0 : Array Value} {Z : State} (hw : ∀ d ∈ tables_1, d.before a0 Z = true) : (Jvm.Cond.code ({ cls := "java/lang/StringUTF16", name := "compress", desc := "([CI[BII)I" } : Jvm.MethodName) jdk_52_method_21_code (7 : Nat) (Option.some Jvm.ClassFile.FieldType.int)).before a0 Z = true := hw _ (List.mem_of_getElem? (i := 40) rfl)
theorem wd_36 {a0 : Array Value} {Z : State} (hw : ∀ d ∈ tables_1, d.before a0 Z = true) : (Jvm.Cond.initialized "java/lang/StringUTF16").before a0 Z = true := hw _ (List.mem_of_getElem? (i := 36) rfl)
theorem pd___CI_BII_I : parseMethodDescriptor "([CI[BII)I" = some ⟨[(.array .char), .int, (.array .byte), .int, .int], some .int⟩ := by decide +kernel
theorem wd_39 {a0 : Array Value} {Z : State} (hw : ∀ d ∈ tables_1, d.before a0 Z = true) : (Jvm.Cond.static ({ cls := "java/lang/StringUTF16", name := "compress", desc := "([CI[BII)I" } : Jvm.MethodName)).before a0 Z = true := hw _ (List.mem_of_getElem? (i := 39) rfl)
theorem d8_12 : decode jdk_52_method_16_code 12 = .ok (.istore 4, 2) := by decide +kernel
theorem d8_14 : decode jdk_52_method_16_code 14 = .ok (.iload 4, 2) := by decide +kernel
theorem d8_16 : decode jdk_52_method_16_code 16 = .ok (.iload_n 2, 1) := by decide +kernel
theorem d8_17 : decode jdk_52_method_16_code 17 = .ok (.if_icmp .eq 40, 3) := by decide +kernel
theorem d8_57 : decode jdk_52_method_16_code 57 = .ok (.aload_n 3, 1) := by decide +kernel
theorem d8_58 : decode jdk_52_method_16_code 58 = .ok (.areturn, 1) := by decide +kernel
theorem ef_8 (m : MethodId) (x0 : Addr) (x1 : Int32) (x2 : Int32) : entryFrame m #[(.ref x0), (.int x1), (.int x2)] 6 = mkF m 0 #[.val (.ref x0), .val (.int x1), .val (.int x2), .unset, .unset, .unset] [] := by first | (simp [entryFrame, mkF, argsToLocals, Value.category]; done) | rfl
def Q_rmcp1 (Z : State) (a1 : Addr) (kc : ClassId) (c0 : Int32) (h0 : Heap) (n0 : Nat) (v : Option Value) (h : Heap) (L : List Loc) : Prop := ∃ b : Addr, ∃ kb : ClassId, v = some (.ref b) ∧ Fr n0 L ∧ Keep h0 h [] ∧ (h0.size ≤ b) ∧ (Arv Z h b kb .byte (1 : Int32) [(.int (nar .byte (c0.toInt8.toInt32)))] (.int (0 : Int32)))
set_option maxRecDepth 65536 in
set_option maxHeartbeats 40000000 in
theorem rmcp1 (l : Launch) (Z : State) (a0 : Array Value) (hw : ∀ d ∈ tables_1, d.before a0 Z = true) (ws : List Jvm.Cond) (a1 : Addr) (kc : ClassId) (c0 : Int32) (h0 : Heap) (n0 : Nat) (Z0 : n0 ≤ h0.size) (V_a1 : Arv Z h0 a1 kc .char (1 : Int32) [(.int c0)] (.int (0 : Int32))) (hp0 : ¬ ((255 : Int32) < c0)) :
    MetFree l (⟨"java/lang/StringUTF16", "compress", "([CII)[B"⟩ : MethodName) (head1 (Jvm.Cond.code (⟨"java/lang/StringUTF16", "compress", "([CII)[B"⟩ : MethodName) jdk_52_method_16_code 6 (some (.array .byte)) :: ws) ({ frames := 1, cells := 1, slots := 1, locals := 18 } : Room)) (fun a U => a = #[(.ref a1), (.int (0 : Int32)), (.int (1 : Int32))] ∧ Z.Warmed39 U.vm ∧ U.heap = h0) (fun _ _ _ _ _ => True) (fun _ U o U' => ∃ v L, o = .returned v ∧ Q_rmcp1 Z a1 kc c0 h0 n0 v U'.heap L ∧ FrameEnd U o U' L ({ frames := 1, cells := 1, slots := 1, locals := 18 } : Room).cells ({ frames := 1, cells := 1, slots := 1, locals := 18 } : Room).slots) := by
  refine MetFree.of_bodySF (plainFor_of_name pn_java_lang_StringUTF16) hisR ?_
  intro p e s m args below meth c s₁ Bd hml0 hP hK
  obtain ⟨rfl, hZ, hh⟩ := hP
  have hx := Bd.exec
  have hby := Bd.bytes
  have hml : c.maxLocals = 6 := hml0
  have hown : s.vm.findClass "java/lang/StringUTF16" = some m.cls := findClass_of_methodNamed Bd.named
  have hnm := (name_of_methodNamed Bd.named Bd.method).1
  have X0 : Stand p l e ({ frames := 1, cells := 1, slots := 1, locals := 18 } : Room) s m #[(.ref a1), (.int (0 : Int32)), (.int (1 : Int32))] below meth c s₁ [] 0 0 := Stand.of_body Bd
  have e0 : s₁.heap = h0 := by rw [← hh, Bd.state]; rfl
  have N0 := Fr.nil n0
  have pre0 : ∀ t, Steps p.tables e below (s₁.setTop (mkF m 0 #[.val (.ref a1), .val (.int (0 : Int32)), .val (.int (1 : Int32)), .unset, .unset, .unset] [])) t → Steps p.tables e below (s₁.setTop (entryFrame m #[(.ref a1), (.int (0 : Int32)), (.int (1 : Int32))] 6)) t := fun t k => castTop (ef_8 m a1 (0 : Int32) (1 : Int32)) k
  obtain ⟨T33, h33, k33, X33, e33, E33, A33, st33⟩ := newP (aty := .byte) X0 hx hZ (wd_14 hw) e0 (g := (mkF m 1 #[.val (.ref a1), .val (.int (0 : Int32)), .val (.int (1 : Int32)), .unset, .unset, .unset] [(.int (1 : Int32))])) rfl (hb hby d8_1) rfl (by decide) (cap := 1) (by decide) (by decide) (by decide) (by decide)
  obtain ⟨b33, g33⟩ : ∃ z, z = h0.size := ⟨_, rfl⟩
  rw [← g33] at A33 st33
  have g_b33 : n0 ≤ b33 := Nat.le_trans Z0 (Nat.le_of_eq g33.symm)
  have sz_b33 : h0.size ≤ b33 := Nat.le_trans (And.left (Keep.refl h0 [])) (Nat.le_of_eq g33.symm)
  have ne_a1_b33 : a1 ≠ b33 := Nat.ne_of_lt (Nat.lt_of_lt_of_le (V_a1).lt (Nat.le_of_eq g33.symm))
  have Z34 : n0 ≤ h33.size := Nat.le_trans Z0 E33.1
  have K35 : Keep h0 h33 [] := Keep.ext (Keep.refl h0 []) E33
  have V0_b33 := (Arv.new A33 (by decide)).pad (pad_rep [] (.int (0 : Int32)) 1)
  have V_b33 : Arv Z h33 b33 k33 .byte (1 : Int32) [(.int (0 : Int32))] (.int (0 : Int32)) := V0_b33
  obtain ⟨_, _, ⟨T36, L36, k36, n36⟩, -, X36, ⟨Lc36, hQ36, l36, y36, z36⟩, st36⟩ := Jvm.LawKit.callS X33 hx (y := (⟨"java/lang/StringUTF16", "compress", "([CI[BII)I"⟩ : MethodName)) hown (mvT hZ (wd_38 hw)) (mvT hZ (wd_39 hw)) (mvT hZ (wd_36 hw)) (mvT hZ (wd_40 hw)) (by decide) (backOf (W := 0) (rmcm1 l Z a0 hw [] a1 b33 kc k33 c0 h33 n0 Z34 (V_a1.ext E33) V_b33 g_b33 ne_a1_b33 hp0) hZ (wd_40 hw) (wd_36 hw) (by decide) (by decide)) (g := (mkF m 9 #[.val (.ref a1), .val (.int (0 : Int32)), .val (.int (1 : Int32)), .val (.ref b33), .unset, .unset] [(.int (1 : Int32)), (.int (0 : Int32)), (.ref b33), (.int (0 : Int32)), (.ref a1)])) rfl (by rw [hml]; rfl) (argsL := [(.ref a1), (.int (0 : Int32)), (.ref b33), (.int (0 : Int32)), (.int (1 : Int32))]) (rest := []) (lenOf pd___CI_BII_I rfl) rfl (by show 2 * 0 + _ ≤ _; exact Nat.le_of_eq rfl) (hb hby d8_9) (fun _ _ => ⟨rfl, e33, (by decide : 1 + 0 ≤ _), (by decide : 1 + 0 ≤ _)⟩)
  dsimp only [Pt.U, Pt.locs, Pt.cells, Pt.slots] at X36 l36 y36 z36 st36 hQ36
  rw [l36, y36, z36] at X36
  obtain ⟨rfl, N36q, K36q, g36_0⟩ := hQ36
  have N36 := Fr.app N0 N36q
  have Z37 : n0 ≤ T36.heap.size := Nat.le_trans Z34 K36q.1
  have K38 : Keep h0 T36.heap [] := Keep.trans K35 K36q (allS (Or.inr sz_b33) all0)
  obtain ⟨fs, hr, hrun, hended, hW, hsame⟩ := X36.leave (v := some (.ref b33)) (fun h => by rw [Bd.returns] at h; cases h)
  refine ⟨_, _, pre0 _ ?_, hrun, hended, _, _, rfl, ?_, ⟨_, rfl⟩, hW, hsame.mono (by decide) (by decide)⟩
  · show Steps p.tables e below (s₁.setTop (mkF m 0 #[.val (.ref a1), .val (.int (0 : Int32)), .val (.int (1 : Int32)), .unset, .unset, .unset] [])) _
    refine XS.iloadN X0.here hx rfl (hb hby d8_0) rfl ?_
    refine st33 _ ?_
    refine XS.astoreN X33.here hx rfl (hb hby d8_3) rfl rfl (l' := #[.val (.ref a1), .val (.int (0 : Int32)), .val (.int (1 : Int32)), .val (.ref b33), .unset, .unset]) rfl ?_
    refine XS.aloadN X33.here hx rfl (hb hby d8_4) rfl rfl ?_
    show Steps p.tables e below (T33.setTop (mkF m 5 #[.val (.ref a1), .val (.int (0 : Int32)), .val (.int (1 : Int32)), .val (.ref b33), .unset, .unset] [(.ref a1)])) _
    refine XS.iloadN X33.here hx rfl (hb hby d8_5) rfl ?_
    refine XS.aloadN X33.here hx rfl (hb hby d8_6) rfl rfl ?_
    refine XS.iconst X33.here hx rfl (hb hby d8_7) ?_
    refine XS.iloadN X33.here hx rfl (hb hby d8_8) rfl ?_
    show Steps p.tables e below (T33.setTop (mkF m 9 #[.val (.ref a1), .val (.int (0 : Int32)), .val (.int (1 : Int32)), .val (.ref b33), .unset, .unset] [(.int (1 : Int32)), (.int (0 : Int32)), (.ref b33), (.int (0 : Int32)), (.ref a1)])) _
    refine st36 _ ?_
    refine XS.istore X36.here hx rfl (hb hby d8_12) rfl (l' := #[.val (.ref a1), .val (.int (0 : Int32)), .val (.int (1 : Int32)), .val (.ref b33), .val (.int (1 : Int32)), .unset]) rfl ?_
    refine XS.iload X36.here hx rfl (hb hby d8_14) rfl ?_
    refine XS.iloadN X36.here hx rfl (hb hby d8_16) rfl ?_
    show Steps p.tables e below (T36.setTop (mkF m 17 #[.val (.ref a1), .val (.int (0 : Int32)), .val (.int (1 : Int32)), .val (.ref b33), .val (.int (1 : Int32)), .unset] [(.int (1 : Int32)), (.int (1 : Int32))])) _
    refine XS.icmpYes X36.here hx rfl (pc0 := 17) (pc' := 57) rfl (hb hby d8_17) rfl (teq (rfl : (1 : Int32) = (1 : Int32))).1 (by decide) (by decide) ?_
    refine XS.aloadN X36.here hx rfl (hb hby d8_57) rfl rfl ?_
    exact X36.areturnOut hx rfl Bd.returns rfl (hb hby d8_58) hr
  · show Q_rmcp1 Z a1 kc c0 h0 n0 _ T36.heap _
    exact ⟨b33, k33, rfl, N36, K38, sz_b33, g36_0⟩
theorem d10_0 : decode jdk_52_method_15_code 0 = .ok (.iload_n 1, 1) := by decide +kernel
theorem d10_1 : decode jdk_52_method_15_code 1 = .ok (.aload_n 0, 1) := by decide +kernel
theorem d10_2 : decode jdk_52_method_15_code 2 = .ok (.arraylength, 1) := by decide +kernel
theorem d10_3 : decode jdk_52_method_15_code 3 = .ok (.isub, 1) := by decide +kernel
theorem d10_4 : decode jdk_52_method_15_code 4 = .ok (.bipush 31, 2) := by decide +kernel
theorem d10_6 : decode jdk_52_method_15_code 6 = .ok (.iushr, 1) := by decide +kernel
theorem d10_7 : decode jdk_52_method_15_code 7 = .ok (.i2b, 1) := by decide +kernel
theorem d10_8 : decode jdk_52_method_15_code 8 = .ok (.ireturn, 1) := by decide +kernel
theorem ef_10 (m : MethodId) (x0 : Addr) (x1 : Int32) : entryFrame m #[(.ref x0), (.int x1)] 2 = mkF m 0 #[.val (.ref x0), .val (.int x1)] [] := by first | (simp [entryFrame, mkF, argsToLocals, Value.category]; done) | rfl
def Q_rmcl1 (Z : State) (a1 : Addr) (kb : ClassId) (x0 : Int32) (h0 : Heap) (n0 : Nat) (v : Option Value) (h : Heap) (L : List Loc) : Prop := v = some (.int (0 : Int32)) ∧ Fr n0 L ∧ h = h0
set_option maxRecDepth 65536 in
set_option maxHeartbeats 40000000 in
theorem rmcl1 (l : Launch) (Z : State) (a0 : Array Value) (hw : ∀ d ∈ tables_1, d.before a0 Z = true) (ws : List Jvm.Cond) (a1 : Addr) (kb : ClassId) (x0 : Int32) (h0 : Heap) (n0 : Nat) (Z0 : n0 ≤ h0.size) (V_a1 : Arv Z h0 a1 kb .byte (1 : Int32) [(.int x0)] (.int (0 : Int32))) :
    MetFree l (⟨"java/lang/StringUTF16", "coderFromArrayLen", "([BI)B"⟩ : MethodName) (head1 (Jvm.Cond.code (⟨"java/lang/StringUTF16", "coderFromArrayLen", "([BI)B"⟩ : MethodName) jdk_52_method_15_code 2 (some .byte) :: ws) ({ frames := 0, cells := 0, slots := 0, locals := 0 } : Room)) (fun a U => a = #[(.ref a1), (.int (1 : Int32))] ∧ Z.Warmed39 U.vm ∧ U.heap = h0) (fun _ _ _ _ _ => True) (fun _ U o U' => ∃ v L, o = .returned v ∧ Q_rmcl1 Z a1 kb x0 h0 n0 v U'.heap L ∧ FrameEnd U o U' L ({ frames := 0, cells := 0, slots := 0, locals := 0 } : Room).cells ({ frames := 0, cells := 0, slots := 0, locals := 0 } : Room).slots) := by
  refine MetFree.of_bodySF (plainFor_of_name pn_java_lang_StringUTF16) hisR ?_
  intro p e s m args below meth c s₁ Bd hml0 hP hK
  obtain ⟨rfl, hZ, hh⟩ := hP
  have hx := Bd.exec
  have hby := Bd.bytes
  have hml : c.maxLocals = 2 := hml0
  have hown : s.vm.findClass "java/lang/StringUTF16" = some m.cls := findClass_of_methodNamed Bd.named
  have hnm := (name_of_methodNamed Bd.named Bd.method).1
  have X0 : Stand p l e ({ frames := 0, cells := 0, slots := 0, locals := 0 } : Room) s m #[(.ref a1), (.int (1 : Int32))] below meth c s₁ [] 0 0 := Stand.of_body Bd
  have e0 : s₁.heap = h0 := by rw [← hh, Bd.state]; rfl
  have N0 := Fr.nil n0
  have pre0 : ∀ t, Steps p.tables e below (s₁.setTop (mkF m 0 #[.val (.ref a1), .val (.int (1 : Int32))] [])) t → Steps p.tables e below (s₁.setTop (entryFrame m #[(.ref a1), (.int (1 : Int32))] 2)) t := fun t k => castTop (ef_10 m a1 (1 : Int32)) k
  obtain ⟨cl39, Ar39, q39, S39, N39n, H39, G39⟩ := id (V_a1)
  obtain ⟨fs, hr, hrun, hended, hW, hsame⟩ := X0.leave (v := some (.int (0 : Int32))) (fun h => by rw [Bd.returns] at h; cases h)
  refine ⟨_, _, pre0 _ ?_, hrun, hended, _, _, rfl, ?_, ⟨_, rfl⟩, hW, hsame.mono (by decide) (by decide)⟩
  · show Steps p.tables e below (s₁.setTop (mkF m 0 #[.val (.ref a1), .val (.int (1 : Int32))] [])) _
    refine XS.iloadN X0.here hx rfl (hb hby d10_0) rfl ?_
    refine XS.aloadN X0.here hx rfl (hb hby d10_1) rfl rfl ?_
    refine X0.arraylength hx (by rw [e0]; exact Ar39.1) (State.isArrayOf_alike hZ.alike Ar39.2.1) (g := (mkF m 2 #[.val (.ref a1), .val (.int (1 : Int32))] [(.ref a1), (.int (1 : Int32))])) rfl rfl (hb hby d10_2) _ ?_
    rw [len_of S39 N39n]
    refine XS.isub X0.here hx rfl (hb hby d10_3) rfl ?_
    show Steps p.tables e below (s₁.setTop (mkF m 4 #[.val (.ref a1), .val (.int (1 : Int32))] [(.int (0 : Int32))])) _
    refine XS.bipush X0.here hx rfl (hb hby d10_4) ?_
    refine XS.iushr X0.here hx rfl (hb hby d10_6) rfl ?_
    refine XS.i2b X0.here hx rfl (hb hby d10_7) rfl ?_
    show Steps p.tables e below (s₁.setTop (mkF m 8 #[.val (.ref a1), .val (.int (1 : Int32))] [(.int (0 : Int32))])) _
    exact retN X0 hx (t := .byte) Bd.returns (by simp) (hb hby d10_8) hr
  · show Q_rmcl1 Z a1 kb x0 h0 n0 _ s₁.heap _
    rw [e0]
    exact ⟨rfl, N0, rfl⟩
theorem d7_0 : decode jdk_42_method_149_code 0 = .ok (.aload_n 0, 1) := by decide +kernel
theorem d7_1 : decode jdk_42_method_149_code 1 = .ok (.invokespecial 1, 3) := by decide +kernel
theorem d7_4 : decode jdk_42_method_149_code 4 = .ok (.iload_n 3, 1) := by decide +kernel
theorem d7_5 : decode jdk_42_method_149_code 5 = .ok (.ifCond .ne 22, 3) := by decide +kernel
theorem d7_27 : decode jdk_42_method_149_code 27 = .ok (.getstatic 38, 3) := by decide +kernel
theorem d7_30 : decode jdk_42_method_149_code 30 = .ok (.ifCond .eq 28, 3) := by decide +kernel
theorem d7_33 : decode jdk_42_method_149_code 33 = .ok (.aload_n 1, 1) := by decide +kernel
theorem d7_34 : decode jdk_42_method_149_code 34 = .ok (.iload_n 2, 1) := by decide +kernel
theorem d7_35 : decode jdk_42_method_149_code 35 = .ok (.iload_n 3, 1) := by decide +kernel
theorem d7_36 : decode jdk_42_method_149_code 36 = .ok (.invokestatic 177, 3) := by decide +kernel
theorem wd_34 {a0 : Array Value} {Z : State} (hw : ∀ d ∈ tables_1, d.before a0 Z = true) : (Jvm.Cond.methodLink "java/lang/String" (177 : Nat) ({ cls := "java/lang/StringUTF16", name := "compress", desc := "([CII)[B" } : Jvm.MethodName)).before a0 Z = true := hw _ (List.mem_of_getElem? (i := 34) rfl)
theorem wd_37 {a0 : Array Value} {Z : State} (hw : ∀ d ∈ tables_1, d.before a0 Z = true) : (Jvm.Cond.code ({ cls := "java/lang/StringUTF16", name := "compress", desc := "([CII)[B" } : Jvm.MethodName) jdk_52_method_16_code (6 : Nat) (Option.some (Jvm.ClassFile.FieldType.array Jvm.ClassFile.FieldType.byte))).before a0 Z = true := hw _ (List.mem_of_getElem? (i := 37) rfl)
theorem pd___CII__B : parseMethodDescriptor "([CII)[B" = some ⟨[(.array .char), .int, .int], some (.array .byte)⟩ := by decide +kernel
theorem wd_35 {a0 : Array Value} {Z : State} (hw : ∀ d ∈ tables_1, d.before a0 Z = true) : (Jvm.Cond.static ({ cls := "java/lang/StringUTF16", name := "compress", desc := "([CII)[B" } : Jvm.MethodName)).before a0 Z = true := hw _ (List.mem_of_getElem? (i := 35) rfl)
theorem d7_39 : decode jdk_42_method_149_code 39 = .ok (.astore 5, 2) := by decide +kernel
theorem d7_41 : decode jdk_42_method_149_code 41 = .ok (.aload_n 0, 1) := by decide +kernel
theorem d7_42 : decode jdk_42_method_149_code 42 = .ok (.aload 5, 2) := by decide +kernel
theorem d7_44 : decode jdk_42_method_149_code 44 = .ok (.iload_n 3, 1) := by decide +kernel
theorem d7_45 : decode jdk_42_method_149_code 45 = .ok (.invokestatic 47, 3) := by decide +kernel
theorem wd_41 {a0 : Array Value} {Z : State} (hw : ∀ d ∈ tables_1, d.before a0 Z = true) : (Jvm.Cond.methodLink "java/lang/String" (47 : Nat) ({ cls := "java/lang/StringUTF16", name := "coderFromArrayLen", desc := "([BI)B" } : Jvm.MethodName)).before a0 Z = true := hw _ (List.mem_of_getElem? (i := 41) rfl)
theorem wd_43 {a0 : Array Value} {Z : State} (hw : ∀ d ∈ tables_1, d.before a0 Z = true) : (Jvm.Cond.code ({ cls := "java/lang/StringUTF16", name := "coderFromArrayLen", desc := "([BI)B" } : Jvm.MethodName) jdk_52_method_15_code (2 : Nat) (Option.some Jvm.ClassFile.FieldType.byte)).before a0 Z = true := hw _ (List.mem_of_getElem? (i := 43) rfl)
theorem pd___BI_B : parseMethodDescriptor "([BI)B" = some ⟨[(.array .byte), .int], some .byte⟩ := by decide +kernel
theorem wd_42 {a0 : Array Value} {Z : State} (hw : ∀ d ∈ tables_1, d.before a0 Z = true) : (Jvm.Cond.static ({ cls := "java/lang/StringUTF16", name := "coderFromArrayLen", desc := "([BI)B" } : Jvm.MethodName)).before a0 Z = true := hw _ (List.mem_of_getElem? (i := 42) rfl)
theorem d7_48 : decode jdk_42_method_149_code 48 = .ok (.putfield 15, 3) := by decide +kernel
theorem d7_51 : decode jdk_42_method_149_code 51 = .ok (.aload_n 0, 1) := by decide +kernel
theorem d7_52 : decode jdk_42_method_149_code 52 = .ok (.aload 5, 2) := by decide +kernel
theorem d7_54 : decode jdk_42_method_149_code 54 = .ok (.putfield 9, 3) := by decide +kernel
theorem d7_57 : decode jdk_42_method_149_code 57 = .ok (.return_, 1) := by decide +kernel
theorem efn_7 (m : MethodId) (x0 : Addr) (x1 : Addr) (x2 : Int32) (x3 : Int32) : entryFrame m #[(.ref x0), (.ref x1), (.int x2), (.int x3), .null] 6 = mkF m 0 #[.val (.ref x0), .val (.ref x1), .val (.int x2), .val (.int x3), .val .null, .unset] [] := by first | (simp [entryFrame, mkF, argsToLocals, Value.category]; done) | rfl
def Q_rmi4_1 (Z : State) (a1 : Addr) (a2 : Addr) (u1 : Value) (u2 : Value) (kc : ClassId) (wz : Int32) (c0 : Int32) (h0 : Heap) (n0 : Nat) (v : Option Value) (h : Heap) (L : List Loc) : Prop := ∃ b : Addr, ∃ kb : ClassId, v = none ∧ Fr n0 L ∧ Keep h0 h [a1] ∧ (h0.size ≤ b) ∧ (Fld Z h a1 "java/lang/String" "value" "[B" (.ref b)) ∧ (Fld Z h a1 "java/lang/String" "coder" "B" (.int (0 : Int32))) ∧ (Arv Z h b kb .byte (1 : Int32) [(.int (nar .byte (c0.toInt8.toInt32)))] (.int (0 : Int32)))
set_option maxRecDepth 65536 in
set_option maxHeartbeats 40000000 in
theorem rmi4_1 (l : Launch) (Z : State) (a0 : Array Value) (hw : ∀ d ∈ tables_1, d.before a0 Z = true) (ws : List Jvm.Cond) (a1 : Addr) (a2 : Addr) (u1 : Value) (u2 : Value) (kc : ClassId) (wz : Int32) (c0 : Int32) (h0 : Heap) (n0 : Nat) (Z0 : n0 ≤ h0.size) (F_value_a1 : Fld Z h0 a1 "java/lang/String" "value" "[B" u1) (F_coder_a1 : Fld Z h0 a1 "java/lang/String" "coder" "B" u2) (E_a1 : Exa Z h0 a1 "java/lang/String") (g_a1 : n0 ≤ a1) (V_a2 : Arv Z h0 a2 kc .char (1 : Int32) [(.int c0)] (.int (0 : Int32))) (hp0 : ¬ ((255 : Int32) < c0)) (Old0 : Old Z n0 h0) (S_COMPACT_STRINGS : Sta Z Z.heap "java/lang/String" "COMPACT_STRINGS" "Z" (.int wz)) (hz : ¬ (wz = (0 : Int32))) :
    MetFree l (⟨"java/lang/String", "<init>", "([CIILjava/lang/Void;)V"⟩ : MethodName) (head1 (Jvm.Cond.code (⟨"java/lang/String", "<init>", "([CIILjava/lang/Void;)V"⟩ : MethodName) jdk_42_method_149_code 6 none :: ws) ({ frames := 2, cells := 1, slots := 1, locals := 35 } : Room)) (fun a U => a = #[(.ref a1), (.ref a2), (.int (0 : Int32)), (.int (1 : Int32)), .null] ∧ Z.Warmed39 U.vm ∧ U.heap = h0) (fun _ _ _ _ _ => True) (fun _ U o U' => ∃ v L, o = .returned v ∧ Q_rmi4_1 Z a1 a2 u1 u2 kc wz c0 h0 n0 v U'.heap L ∧ FrameEnd U o U' L ({ frames := 2, cells := 1, slots := 1, locals := 35 } : Room).cells ({ frames := 2, cells := 1, slots := 1, locals := 35 } : Room).slots) := by
  refine MetFree.of_bodySF (plainFor_of_name pn_java_lang_String) hisR ?_
  intro p e s m args below meth c s₁ Bd hml0 hP hK
  obtain ⟨rfl, hZ, hh⟩ := hP
  have hx := Bd.exec
  have hby := Bd.bytes
  have hml : c.maxLocals = 6 := hml0
  have hown : s.vm.findClass "java/lang/String" = some m.cls := findClass_of_methodNamed Bd.named
  have hnm := (name_of_methodNamed Bd.named Bd.method).1
  have X0 : Stand p l e ({ frames := 2, cells := 1, slots := 1, locals := 35 } : Room) s m #[(.ref a1), (.ref a2), (.int (0 : Int32)), (.int (1 : Int32)), .null] below meth c s₁ [] 0 0 := Stand.of_body Bd
  have e0 : s₁.heap = h0 := by rw [← hh, Bd.state]; rfl
  have N0 := Fr.nil n0
  have pre0 : ∀ t, Steps p.tables e below (s₁.setTop (mkF m 0 #[.val (.ref a1), .val (.ref a2), .val (.int (0 : Int32)), .val (.int (1 : Int32)), .val .null, .unset] [])) t → Steps p.tables e below (s₁.setTop (entryFrame m #[(.ref a1), (.ref a2), (.int (0 : Int32)), (.int (1 : Int32)), .null] 6)) t := fun t k => castTop (efn_7 m a1 a2 (0 : Int32) (1 : Int32)) k
  obtain ⟨T40, X40, e40, st40⟩ := initO X0 hx hZ hown (wd_19 hw) (wd_20 hw) (wd_21 hw) e0 (g := (mkF m 1 #[.val (.ref a1), .val (.ref a2), .val (.int (0 : Int32)), .val (.int (1 : Int32)), .val .null, .unset] [(.ref a1)])) rfl (by rw [hml]; rfl) rfl (hb hby d7_1) (by decide) (W := 0) (by show 2 * 0 + _ ≤ _; exact Nat.le_of_eq rfl) (by decide)
  obtain ⟨T41, X41, e41, st41⟩ := getS2 X40 hx hZ hown (host := "") (Or.inl (wd_4 hw)) Via.refl e40 (S_COMPACT_STRINGS.ext (Old0).2) (g := (mkF m 27 #[.val (.ref a1), .val (.ref a2), .val (.int (0 : Int32)), .val (.int (1 : Int32)), .val .null, .unset] [])) rfl (hb hby d7_27)
  obtain ⟨_, _, ⟨T42, L42, k42, n42⟩, -, X42, ⟨Lc42, hQ42, l42, y42, z42⟩, st42⟩ := Jvm.LawKit.callS X41 hx (y := (⟨"java/lang/StringUTF16", "compress", "([CII)[B"⟩ : MethodName)) hown (mvT hZ (wd_34 hw)) (mvT hZ (wd_35 hw)) (mvT hZ (wd_36 hw)) (mvT hZ (wd_37 hw)) (by decide) (backOf (W := 0) (rmcp1 l Z a0 hw [] a2 kc c0 h0 n0 Z0 V_a2 hp0) hZ (wd_37 hw) (wd_36 hw) (by decide) (by decide)) (g := (mkF m 36 #[.val (.ref a1), .val (.ref a2), .val (.int (0 : Int32)), .val (.int (1 : Int32)), .val .null, .unset] [(.int (1 : Int32)), (.int (0 : Int32)), (.ref a2)])) rfl (by rw [hml]; rfl) (argsL := [(.ref a2), (.int (0 : Int32)), (.int (1 : Int32))]) (rest := []) (lenOf pd___CII__B rfl) rfl (by show 2 * 0 + _ ≤ _; exact Nat.le_of_eq rfl) (hb hby d7_36) (fun _ _ => ⟨rfl, e41, (by decide : 0 + 1 ≤ _), (by decide : 0 + 1 ≤ _)⟩)
  dsimp only [Pt.U, Pt.locs, Pt.cells, Pt.slots] at X42 l42 y42 z42 st42 hQ42
  rw [l42, y42, z42] at X42
  obtain ⟨b_42, kb_42, rfl, N42q, K42q, g42_0, g42_1⟩ := hQ42
  have N42 := Fr.app N0 N42q
  have Z43 : n0 ≤ T42.heap.size := Nat.le_trans Z0 K42q.1
  have K44 : Keep h0 T42.heap [a1] := Keep.trans (Keep.refl h0 [a1]) K42q all0
  have ne_a1_b_42 : a1 ≠ b_42 := Nat.ne_of_lt (Nat.lt_of_lt_of_le (F_value_a1).lt g42_0)
  have ne_a2_b_42 : a2 ≠ b_42 := Nat.ne_of_lt (Nat.lt_of_lt_of_le (V_a2).lt g42_0)
  have g45 : n0 ≤ b_42 := Nat.le_trans Z0 g42_0
  have sz46 : h0.size ≤ b_42 := Nat.le_trans (And.left (Keep.refl h0 [a1])) g42_0
  obtain ⟨_, _, ⟨T47, L47, k47, n47⟩, -, X47, ⟨Lc47, hQ47, l47, y47, z47⟩, st47⟩ := Jvm.LawKit.callS X42 hx (y := (⟨"java/lang/StringUTF16", "coderFromArrayLen", "([BI)B"⟩ : MethodName)) hown (mvT hZ (wd_41 hw)) (mvT hZ (wd_42 hw)) (mvT hZ (wd_36 hw)) (mvT hZ (wd_43 hw)) (by decide) (backOf (W := 1) (rmcl1 l Z a0 hw [] b_42 kb_42 (nar .byte (c0.toInt8.toInt32)) T42.heap n0 Z43 g42_1) hZ (wd_43 hw) (wd_36 hw) (by decide) (by decide)) (g := (mkF m 45 #[.val (.ref a1), .val (.ref a2), .val (.int (0 : Int32)), .val (.int (1 : Int32)), .val .null, .val (.ref b_42)] [(.int (1 : Int32)), (.ref b_42), (.ref a1)])) rfl (by rw [hml]; rfl) (argsL := [(.ref b_42), (.int (1 : Int32))]) (rest := [(.ref a1)]) (lenOf pd___BI_B rfl) rfl (by show 2 * 0 + _ ≤ _; exact Nat.le_of_eq rfl) (hb hby d7_45) (fun _ _ => ⟨rfl, rfl, (by decide : 1 + 0 ≤ _), (by decide : 1 + 0 ≤ _)⟩)
  dsimp only [Pt.U, Pt.locs, Pt.cells, Pt.slots] at X47 l47 y47 z47 st47 hQ47
  rw [l47, y47, z47] at X47
  obtain ⟨rfl, N47q, e47⟩ := hQ47
  have N47 := Fr.app N42 N47q
  obtain ⟨T48, h48, X48, e48, W48, st48⟩ := putFN X47 hx hZ hown (wd_24 hw) Via.refl e47 (F_coder_a1.keep K42q nin0) (E_a1.keep K42q) (Or.inr ⟨(wd_25 hw), rfl, hnm⟩) (wd_10 hw) (ty := .byte) (v' := (.int (0 : Int32))) (by decide) rfl rfl (g := (mkF m 48 #[.val (.ref a1), .val (.ref a2), .val (.int (0 : Int32)), .val (.int (1 : Int32)), .val .null, .val (.ref b_42)] [(.int (0 : Int32)), (.ref a1)])) rfl rfl (hb hby d7_48)
  have Fw48 := (F_coder_a1.keep K42q nin0).same W48
  have Z49 : n0 ≤ h48.size := Nat.le_trans Z43 (Keep.of_wr W48).1
  have K50 : Keep h0 h48 [a1] := Keep.wr K44 W48 (Or.inl (List.mem_of_getElem? (i := 0) rfl))
  have N48 := Fr.snoc X48 N47 g_a1
  obtain ⟨T51, h51, X51, e51, W51, st51⟩ := putF X48 hx hZ hown (host := "") (Or.inl (wd_22 hw)) Via.refl e48 ((F_value_a1.keep K42q nin0).other W48 (Or.inr (slot_ne (Or.inr (wd_23 hw)) (Or.inr (wd_25 hw)) (by decide) (t := (.array .byte)) (t' := .byte) (by decide) (by decide)))) ((E_a1.keep K42q).wr W48) (Or.inr ⟨(wd_23 hw), rfl, hnm⟩) (wd_10 hw) (ty := (.array .byte)) (by decide) rfl rfl (g := (mkF m 54 #[.val (.ref a1), .val (.ref a2), .val (.int (0 : Int32)), .val (.int (1 : Int32)), .val .null, .val (.ref b_42)] [(.ref b_42), (.ref a1)])) rfl rfl (hb hby d7_54)
  have Fw51 := ((F_value_a1.keep K42q nin0).other W48 (Or.inr (slot_ne (Or.inr (wd_23 hw)) (Or.inr (wd_25 hw)) (by decide) (t := (.array .byte)) (t' := .byte) (by decide) (by decide)))).same W51
  have Z52 : n0 ≤ h51.size := Nat.le_trans Z49 (Keep.of_wr W51).1
  have K53 : Keep h0 h51 [a1] := Keep.wr K50 W51 (Or.inl (List.mem_of_getElem? (i := 0) rfl))
  have N51 := Fr.snoc X51 N48 g_a1
  obtain ⟨fs, hr, hrun, hended, hW, hsame⟩ := X51.leave (v := none) (fun _ => rfl)
  refine ⟨_, _, pre0 _ ?_, hrun, hended, _, _, rfl, ?_, ⟨_, rfl⟩, hW, hsame.mono (by decide) (by decide)⟩
  · show Steps p.tables e below (s₁.setTop (mkF m 0 #[.val (.ref a1), .val (.ref a2), .val (.int (0 : Int32)), .val (.int (1 : Int32)), .val .null, .unset] [])) _
    refine XS.aloadN X0.here hx rfl (hb hby d7_0) rfl rfl ?_
    refine st40 _ ?_
    refine XS.iloadN X40.here hx rfl (hb hby d7_4) rfl ?_
    refine XS.ifYes X40.here hx rfl (pc0 := 5) (pc' := 27) rfl (hb hby d7_5) rfl ((if0 _ _).trans (feq (by decide)).2) (by decide) (by decide) ?_
    show Steps p.tables e below (T40.setTop (mkF m 27 #[.val (.ref a1), .val (.ref a2), .val (.int (0 : Int32)), .val (.int (1 : Int32)), .val .null, .unset] [])) _
    refine st41 _ ?_
    refine XS.ifNo X41.here hx rfl (hb hby d7_30) rfl ((if0 _ _).trans (feq hz).1) ?_
    refine XS.aloadN X41.here hx rfl (hb hby d7_33) rfl rfl ?_
    refine XS.iloadN X41.here hx rfl (hb hby d7_34) rfl ?_
    show Steps p.tables e below (T41.setTop (mkF m 35 #[.val (.ref a1), .val (.ref a2), .val (.int (0 : Int32)), .val (.int (1 : Int32)), .val .null, .unset] [(.int (0 : Int32)), (.ref a2)])) _
    refine XS.iloadN X41.here hx rfl (hb hby d7_35) rfl ?_
    refine st42 _ ?_
    refine XS.astore X42.here hx rfl (hb hby d7_39) rfl rfl (l' := #[.val (.ref a1), .val (.ref a2), .val (.int (0 : Int32)), .val (.int (1 : Int32)), .val .null, .val (.ref b_42)]) rfl ?_
    refine XS.aloadN X42.here hx rfl (hb hby d7_41) rfl rfl ?_
    show Steps p.tables e below (T42.setTop (mkF m 42 #[.val (.ref a1), .val (.ref a2), .val (.int (0 : Int32)), .val (.int (1 : Int32)), .val .null, .val (.ref b_42)] [(.ref a1)])) _
    refine XS.aload X42.here hx rfl (hb hby d7_42) rfl rfl ?_
    refine XS.iloadN X42.here hx rfl (hb hby d7_44) rfl ?_
    refine st47 _ ?_
    refine st48 _ ?_
    show Steps p.tables e below (T48.setTop (mkF m 51 #[.val (.ref a1), .val (.ref a2), .val (.int (0 : Int32)), .val (.int (1 : Int32)), .val .null, .val (.ref b_42)] [])) _
    refine XS.aloadN X48.here hx rfl (hb hby d7_51) rfl rfl ?_
    refine XS.aload X48.here hx rfl (hb hby d7_52) rfl rfl ?_
    refine st51 _ ?_
    exact X51.returnOut hx Bd.returns (hb hby d7_57) hr
  · show Q_rmi4_1 Z a1 a2 u1 u2 kc wz c0 h0 n0 _ T51.heap _
    rw [e51]
    exact ⟨b_42, kb_42, rfl, N51, K53, sz46, Fw51, (Fw48.other W51 (Or.inr (slot_ne (Or.inr (wd_25 hw)) (Or.inr (wd_23 hw)) (by decide) (t := .byte) (t' := (.array .byte)) (by decide) (by decide)))), ((g42_1.other W48 (Ne.symm ne_a1_b_42)).other W51 (Ne.symm ne_a1_b_42))⟩
theorem d6_0 : decode jdk_42_method_3_code 0 = .ok (.aload_n 0, 1) := by decide +kernel
theorem d6_1 : decode jdk_42_method_3_code 1 = .ok (.aload_n 1, 1) := by decide +kernel
theorem d6_2 : decode jdk_42_method_3_code 2 = .ok (.iconst 0, 1) := by decide +kernel
theorem d6_3 : decode jdk_42_method_3_code 3 = .ok (.aload_n 1, 1) := by decide +kernel
theorem d6_4 : decode jdk_42_method_3_code 4 = .ok (.arraylength, 1) := by decide +kernel
theorem d6_5 : decode jdk_42_method_3_code 5 = .ok (.aconst_null, 1) := by decide +kernel
theorem d6_6 : decode jdk_42_method_3_code 6 = .ok (.invokespecial 27, 3) := by decide +kernel
theorem wd_31 {a0 : Array Value} {Z : State} (hw : ∀ d ∈ tables_1, d.before a0 Z = true) : (Jvm.Cond.methodLink "java/lang/String" (27 : Nat) ({ cls := "java/lang/String", name := "<init>", desc := "([CIILjava/lang/Void;)V" } : Jvm.MethodName)).before a0 Z = true := hw _ (List.mem_of_getElem? (i := 31) rfl)
theorem wd_33 {a0 : Array Value} {Z : State} (hw : ∀ d ∈ tables_1, d.before a0 Z = true) : (Jvm.Cond.code ({ cls := "java/lang/String", name := "<init>", desc := "([CIILjava/lang/Void;)V" } : Jvm.MethodName) jdk_42_method_149_code (6 : Nat) (Option.none : Option Jvm.ClassFile.FieldType)).before a0 Z = true := hw _ (List.mem_of_getElem? (i := 33) rfl)
theorem pd___CIILjava_lang_Void__V : parseMethodDescriptor "([CIILjava/lang/Void;)V" = some ⟨[(.array .char), .int, .int, (.object "java/lang/Void")], none⟩ := by decide +kernel
theorem wd_32 {a0 : Array Value} {Z : State} (hw : ∀ d ∈ tables_1, d.before a0 Z = true) : (Jvm.Cond.instanceMethod ({ cls := "java/lang/String", name := "<init>", desc := "([CIILjava/lang/Void;)V" } : Jvm.MethodName)).before a0 Z = true := hw _ (List.mem_of_getElem? (i := 32) rfl)
theorem d6_9 : decode jdk_42_method_3_code 9 = .ok (.return_, 1) := by decide +kernel
theorem ef_6 (m : MethodId) (x0 : Addr) (x1 : Addr) : entryFrame m #[(.ref x0), (.ref x1)] 2 = mkF m 0 #[.val (.ref x0), .val (.ref x1)] [] := by first | (simp [entryFrame, mkF, argsToLocals, Value.category]; done) | rfl
def Q_rmi1_1 (Z : State) (a1 : Addr) (a2 : Addr) (u1 : Value) (u2 : Value) (kc : ClassId) (wz : Int32) (c0 : Int32) (h0 : Heap) (n0 : Nat) (v : Option Value) (h : Heap) (L : List Loc) : Prop := ∃ b : Addr, ∃ kb : ClassId, v = none ∧ Fr n0 L ∧ Keep h0 h [a1] ∧ (h0.size ≤ b) ∧ (Fld Z h a1 "java/lang/String" "value" "[B" (.ref b)) ∧ (Fld Z h a1 "java/lang/String" "coder" "B" (.int (0 : Int32))) ∧ (Arv Z h b kb .byte (1 : Int32) [(.int (nar .byte (c0.toInt8.toInt32)))] (.int (0 : Int32)))
set_option maxRecDepth 65536 in
set_option maxHeartbeats 40000000 in
theorem rmi1_1 (l : Launch) (Z : State) (a0 : Array Value) (hw : ∀ d ∈ tables_1, d.before a0 Z = true) (ws : List Jvm.Cond) (a1 : Addr) (a2 : Addr) (u1 : Value) (u2 : Value) (kc : ClassId) (wz : Int32) (c0 : Int32) (h0 : Heap) (n0 : Nat) (Z0 : n0 ≤ h0.size) (F_value_a1 : Fld Z h0 a1 "java/lang/String" "value" "[B" u1) (F_coder_a1 : Fld Z h0 a1 "java/lang/String" "coder" "B" u2) (E_a1 : Exa Z h0 a1 "java/lang/String") (g_a1 : n0 ≤ a1) (V_a2 : Arv Z h0 a2 kc .char (1 : Int32) [(.int c0)] (.int (0 : Int32))) (hp0 : ¬ ((255 : Int32) < c0)) (Old0 : Old Z n0 h0) (S_COMPACT_STRINGS : Sta Z Z.heap "java/lang/String" "COMPACT_STRINGS" "Z" (.int wz)) (hz : ¬ (wz = (0 : Int32))) :
    MetFree l (⟨"java/lang/String", "<init>", "([C)V"⟩ : MethodName) (head1 (Jvm.Cond.code (⟨"java/lang/String", "<init>", "([C)V"⟩ : MethodName) jdk_42_method_3_code 2 none :: ws) ({ frames := 3, cells := 1, slots := 1, locals := 52 } : Room)) (fun a U => a = #[(.ref a1), (.ref a2)] ∧ Z.Warmed39 U.vm ∧ U.heap = h0) (fun _ _ _ _ _ => True) (fun _ U o U' => ∃ v L, o = .returned v ∧ Q_rmi1_1 Z a1 a2 u1 u2 kc wz c0 h0 n0 v U'.heap L ∧ FrameEnd U o U' L ({ frames := 3, cells := 1, slots := 1, locals := 52 } : Room).cells ({ frames := 3, cells := 1, slots := 1, locals := 52 } : Room).slots) := by
  refine MetFree.of_bodySF (plainFor_of_name pn_java_lang_String) hisR ?_
  intro p e s m args below meth c s₁ Bd hml0 hP hK
  obtain ⟨rfl, hZ, hh⟩ := hP
  have hx := Bd.exec
  have hby := Bd.bytes
  have hml : c.maxLocals = 2 := hml0
  have hown : s.vm.findClass "java/lang/String" = some m.cls := findClass_of_methodNamed Bd.named
  have hnm := (name_of_methodNamed Bd.named Bd.method).1
  have X0 : Stand p l e ({ frames := 3, cells := 1, slots := 1, locals := 52 } : Room) s m #[(.ref a1), (.ref a2)] below meth c s₁ [] 0 0 := Stand.of_body Bd
  have e0 : s₁.heap = h0 := by rw [← hh, Bd.state]; rfl
  have N0 := Fr.nil n0
  have pre0 : ∀ t, Steps p.tables e below (s₁.setTop (mkF m 0 #[.val (.ref a1), .val (.ref a2)] [])) t → Steps p.tables e below (s₁.setTop (entryFrame m #[(.ref a1), (.ref a2)] 2)) t := fun t k => castTop (ef_6 m a1 a2) k
  obtain ⟨cl54, Ar54, q54, S54, N54n, H54, G54⟩ := id (V_a2)
  obtain ⟨_, _, ⟨T55, L55, k55, n55⟩, -, X55, ⟨Lc55, hQ55, l55, y55, z55⟩, st55⟩ := X0.specialBack hx (y := (⟨"java/lang/String", "<init>", "([CIILjava/lang/Void;)V"⟩ : MethodName)) rfl hown (mvT hZ (wd_31 hw)) (mvT hZ (wd_32 hw)) (mvT hZ (wd_33 hw)) (by decide) (backOf (W := 0) (rmi4_1 l Z a0 hw [] a1 a2 u1 u2 kc wz c0 h0 n0 Z0 F_value_a1 F_coder_a1 E_a1 g_a1 V_a2 hp0 Old0 S_COMPACT_STRINGS hz) hZ (wd_33 hw) (wd_2 hw) (by decide) (by decide)) (g := (mkF m 6 #[.val (.ref a1), .val (.ref a2)] [.null, (.int (1 : Int32)), (.int (0 : Int32)), (.ref a2), (.ref a1)])) rfl (by rw [hml]; rfl) (Steps.refl _) (a := a1) (argsL := [(.ref a2), (.int (0 : Int32)), (.int (1 : Int32)), .null]) (rest := []) (lenOf pd___CIILjava_lang_Void__V rfl) rfl (by show 2 * 0 + _ ≤ _; exact Nat.le_of_eq rfl) (hb hby d6_6) (fun _ _ => ⟨rfl, e0, (by decide : 0 + 1 ≤ _), (by decide : 0 + 1 ≤ _)⟩)
  dsimp only [Pt.U, Pt.locs, Pt.cells, Pt.slots] at X55 l55 y55 z55 st55 hQ55
  rw [l55, y55, z55] at X55
  obtain ⟨b_55, kb_55, rfl, N55q, K55q, g55_0, g55_1, g55_2, g55_3⟩ := hQ55
  have N55 := Fr.app N0 N55q
  have Z56 : n0 ≤ T55.heap.size := Nat.le_trans Z0 K55q.1
  have K57 : Keep h0 T55.heap [a1] := Keep.trans (Keep.refl h0 [a1]) K55q (allS (Or.inl (List.mem_of_getElem? (i := 0) rfl)) all0)
  have ne_a1_b_55 : a1 ≠ b_55 := Nat.ne_of_lt (Nat.lt_of_lt_of_le (F_value_a1).lt g55_0)
  have ne_a2_b_55 : a2 ≠ b_55 := Nat.ne_of_lt (Nat.lt_of_lt_of_le (V_a2).lt g55_0)
  have g58 : n0 ≤ b_55 := Nat.le_trans Z0 g55_0
  have sz59 : h0.size ≤ b_55 := Nat.le_trans (And.left (Keep.refl h0 [a1])) g55_0
  obtain ⟨fs, hr, hrun, hended, hW, hsame⟩ := X55.leave (v := none) (fun _ => rfl)
  refine ⟨_, _, pre0 _ ?_, hrun, hended, _, _, rfl, ?_, ⟨_, rfl⟩, hW, hsame.mono (by decide) (by decide)⟩
  · show Steps p.tables e below (s₁.setTop (mkF m 0 #[.val (.ref a1), .val (.ref a2)] [])) _
    refine XS.aloadN X0.here hx rfl (hb hby d6_0) rfl rfl ?_
    refine XS.aloadN X0.here hx rfl (hb hby d6_1) rfl rfl ?_
    refine XS.iconst X0.here hx rfl (hb hby d6_2) ?_
    refine XS.aloadN X0.here hx rfl (hb hby d6_3) rfl rfl ?_
    show Steps p.tables e below (s₁.setTop (mkF m 4 #[.val (.ref a1), .val (.ref a2)] [(.ref a2), (.int (0 : Int32)), (.ref a2), (.ref a1)])) _
    refine X0.arraylength hx (by rw [e0]; exact Ar54.1) (State.isArrayOf_alike hZ.alike Ar54.2.1) (g := (mkF m 4 #[.val (.ref a1), .val (.ref a2)] [(.ref a2), (.int (0 : Int32)), (.ref a2), (.ref a1)])) rfl rfl (hb hby d6_4) _ ?_
    rw [len_of S54 N54n]
    refine XS.aconstNull X0.here hx rfl (hb hby d6_5) ?_
    refine st55.trans ?_
    exact X55.returnOut hx Bd.returns (hb hby d6_9) hr
  · show Q_rmi1_1 Z a1 a2 u1 u2 kc wz c0 h0 n0 _ T55.heap _
    exact ⟨b_55, kb_55, rfl, N55, K57, sz59, g55_1, g55_2, g55_3⟩
def Q_rmcm2 (Z : State) (a1 : Addr) (a3 : Addr) (kc : ClassId) (kb : ClassId) (c0 : Int32) (c1 : Int32) (h0 : Heap) (n0 : Nat) (v : Option Value) (h : Heap) (L : List Loc) : Prop := v = some (.int (2 : Int32)) ∧ Fr n0 L ∧ Keep h0 h [a3] ∧ (Arv Z h a3 kb .byte (2 : Int32) [(.int (nar .byte (c0.toInt8.toInt32))), (.int (nar .byte (c1.toInt8.toInt32)))] (.int (0 : Int32)))
set_option maxRecDepth 65536 in
set_option maxHeartbeats 40000000 in
theorem rmcm2 (l : Launch) (Z : State) (a0 : Array Value) (hw : ∀ d ∈ tables_1, d.before a0 Z = true) (ws : List Jvm.Cond) (a1 : Addr) (a3 : Addr) (kc : ClassId) (kb : ClassId) (c0 : Int32) (c1 : Int32) (h0 : Heap) (n0 : Nat) (Z0 : n0 ≤ h0.size) (V_a1 : Arv Z h0 a1 kc .char (2 : Int32) [(.int c0), (.int c1)] (.int (0 : Int32))) (V_a3 : Arv Z h0 a3 kb .byte (2 : Int32) [(.int (0 : Int32)), (.int (0 : Int32))] (.int (0 : Int32))) (g_a3 : n0 ≤ a3) (ne_a1_a3 : a1 ≠ a3) (hp0 : ¬ ((255 : Int32) < c0)) (hp1 : ¬ ((255 : Int32) < c1)) :
    MetFree l (⟨"java/lang/StringUTF16", "compress", "([CI[BII)I"⟩ : MethodName) (head1 (Jvm.Cond.code (⟨"java/lang/StringUTF16", "compress", "([CI[BII)I"⟩ : MethodName) jdk_52_method_21_code 7 (some .int) :: ws) ({ frames := 0, cells := 0, slots := 0, locals := 0 } : Room)) (fun a U => a = #[(.ref a1), (.int (0 : Int32)), (.ref a3), (.int (0 : Int32)), (.int (2 : Int32))] ∧ Z.Warmed39 U.vm ∧ U.heap = h0) (fun _ _ _ _ _ => True) (fun _ U o U' => ∃ v L, o = .returned v ∧ Q_rmcm2 Z a1 a3 kc kb c0 c1 h0 n0 v U'.heap L ∧ FrameEnd U o U' L ({ frames := 0, cells := 0, slots := 0, locals := 0 } : Room).cells ({ frames := 0, cells := 0, slots := 0, locals := 0 } : Room).slots) := by
  refine MetFree.of_bodySF (plainFor_of_name pn_java_lang_StringUTF16) hisR ?_
  intro p e s m args below meth c s₁ Bd hml0 hP hK
  obtain ⟨rfl, hZ, hh⟩ := hP
  have hx := Bd.exec
  have hby := Bd.bytes
  have hml : c.maxLocals = 7 := hml0
  have hown : s.vm.findClass "java/lang/StringUTF16" = some m.cls := findClass_of_methodNamed Bd.named
  have hnm := (name_of_methodNamed Bd.named Bd.method).1
  have X0 : Stand p l e ({ frames := 0, cells := 0, slots := 0, locals := 0 } : Room) s m #[(.ref a1), (.int (0 : Int32)), (.ref a3), (.int (0 : Int32)), (.int (2 : Int32))] below meth c s₁ [] 0 0 := Stand.of_body Bd
  have e0 : s₁.heap = h0 := by rw [← hh, Bd.state]; rfl
  have N0 := Fr.nil n0
  have pre0 : ∀ t, Steps p.tables e below (s₁.setTop (mkF m 0 #[.val (.ref a1), .val (.int (0 : Int32)), .val (.ref a3), .val (.int (0 : Int32)), .val (.int (2 : Int32)), .unset, .unset] [])) t → Steps p.tables e below (s₁.setTop (entryFrame m #[(.ref a1), (.int (0 : Int32)), (.ref a3), (.int (0 : Int32)), (.int (2 : Int32))] 7)) t := fun t k => castTop (ef_9 m a1 (0 : Int32) a3 (0 : Int32) (2 : Int32)) k
  obtain ⟨cl60, Ar60, q60, S60, N60n, H60, G60⟩ := id (V_a1)
  have hin60 : ¬ ((0 : Int32) < 0 ∨ cl60.slots.size ≤ ((0 : Int32)).toNatClampNeg) := inb_of S60 ⟨by decide, by decide⟩
  have hat60 : cl60.slots[((0 : Int32)).toNatClampNeg]? = some (.int c0) := H60.at hin60 rfl
  obtain ⟨cl61, Ar61, q61, S61, N61n, H61, G61⟩ := id (V_a3)
  have hin61 : ¬ ((0 : Int32) < 0 ∨ cl61.slots.size ≤ ((0 : Int32)).toNatClampNeg) := inb_of S61 ⟨by decide, by decide⟩
  obtain ⟨T62, h62, X62, e62, W62, st62⟩ := stB X0 hx hZ e0 Ar61 (j := (0 : Int32)) hin61 (g := (mkF m 31 #[.val (.ref a1), .val (.int (0 : Int32)), .val (.ref a3), .val (.int (0 : Int32)), .val (.int (2 : Int32)), .val (.int (0 : Int32)), .val (.int c0)] [(.int (c0.toInt8.toInt32)), (.int (0 : Int32)), (.ref a3)])) rfl rfl (hb hby d9_31)
  have V_a3_62 : Arv Z h62 a3 kb .byte (2 : Int32) [(.int (nar .byte (c0.toInt8.toInt32))), (.int (0 : Int32))] (.int (0 : Int32)) := Arv.set Ar61 q61 S61 N61n H61 G61 (fits_nar_byte _) W62 0 rfl (Nat.le_of_ble_eq_true rfl)
  have Z63 : n0 ≤ h62.size := Nat.le_trans Z0 (Keep.of_wr W62).1
  have K64 : Keep h0 h62 [a3] := Keep.wr (Keep.refl h0 [a3]) W62 (Or.inl (List.mem_of_getElem? (i := 0) rfl))
  have N62 := Fr.snoc X62 N0 g_a3
  obtain ⟨cl65, Ar65, q65, S65, N65n, H65, G65⟩ := id ((V_a1.other W62 ne_a1_a3))
  have hin65 : ¬ ((1 : Int32) < 0 ∨ cl65.slots.size ≤ ((1 : Int32)).toNatClampNeg) := inb_of S65 ⟨by decide, by decide⟩
  have hat65 : cl65.slots[((1 : Int32)).toNatClampNeg]? = some (.int c1) := H65.at hin65 rfl
  obtain ⟨cl66, Ar66, q66, S66, N66n, H66, G66⟩ := id (V_a3_62)
  have hin66 : ¬ ((1 : Int32) < 0 ∨ cl66.slots.size ≤ ((1 : Int32)).toNatClampNeg) := inb_of S66 ⟨by decide, by decide⟩
  obtain ⟨T67, h67, X67, e67, W67, st67⟩ := stB X62 hx hZ e62 Ar66 (j := (1 : Int32)) hin66 (g := (mkF m 31 #[.val (.ref a1), .val (.int (1 : Int32)), .val (.ref a3), .val (.int (1 : Int32)), .val (.int (2 : Int32)), .val (.int (1 : Int32)), .val (.int c1)] [(.int (c1.toInt8.toInt32)), (.int (1 : Int32)), (.ref a3)])) rfl rfl (hb hby d9_31)
  have V_a3_67 : Arv Z h67 a3 kb .byte (2 : Int32) [(.int (nar .byte (c0.toInt8.toInt32))), (.int (nar .byte (c1.toInt8.toInt32)))] (.int (0 : Int32)) := Arv.set Ar66 q66 S66 N66n H66 G66 (fits_nar_byte _) W67 1 rfl (Nat.le_of_ble_eq_true rfl)
  have Z68 : n0 ≤ h67.size := Nat.le_trans Z63 (Keep.of_wr W67).1
  have K69 : Keep h0 h67 [a3] := Keep.wr K64 W67 (Or.inl (List.mem_of_getElem? (i := 0) rfl))
  have N67 := Fr.snoc X67 N62 g_a3
  obtain ⟨fs, hr, hrun, hended, hW, hsame⟩ := X67.leave (v := some (.int (2 : Int32))) (fun h => by rw [Bd.returns] at h; cases h)
  refine ⟨_, _, pre0 _ ?_, hrun, hended, _, _, rfl, ?_, ⟨_, rfl⟩, hW, hsame.mono (by decide) (by decide)⟩
  · show Steps p.tables e below (s₁.setTop (mkF m 0 #[.val (.ref a1), .val (.int (0 : Int32)), .val (.ref a3), .val (.int (0 : Int32)), .val (.int (2 : Int32)), .unset, .unset] [])) _
    refine XS.iconst X0.here hx rfl (hb hby d9_0) ?_
    refine XS.istore X0.here hx rfl (hb hby d9_1) rfl (l' := #[.val (.ref a1), .val (.int (0 : Int32)), .val (.ref a3), .val (.int (0 : Int32)), .val (.int (2 : Int32)), .val (.int (0 : Int32)), .unset]) rfl ?_
    refine XS.iload X0.here hx rfl (hb hby d9_3) rfl ?_
    refine XS.iload X0.here hx rfl (hb hby d9_5) rfl ?_
    show Steps p.tables e below (s₁.setTop (mkF m 7 #[.val (.ref a1), .val (.int (0 : Int32)), .val (.ref a3), .val (.int (0 : Int32)), .val (.int (2 : Int32)), .val (.int (0 : Int32)), .unset] [(.int (2 : Int32)), (.int (0 : Int32))])) _
    refine XS.icmpNo X0.here hx rfl (hb hby d9_7) rfl (tlt (by decide)).2.1 ?_
    refine XS.aloadN X0.here hx rfl (hb hby d9_10) rfl rfl ?_
    refine XS.iloadN X0.here hx rfl (hb hby d9_11) rfl ?_
    refine X0.caload hx (j := (0 : Int32)) (v := (.int c0)) (by rw [e0]; exact Ar60.1) (State.isArrayOf_alike hZ.alike Ar60.2.1) Ar60.2.2 hin60 hat60 (g := (mkF m 12 #[.val (.ref a1), .val (.int (0 : Int32)), .val (.ref a3), .val (.int (0 : Int32)), .val (.int (2 : Int32)), .val (.int (0 : Int32)), .unset] [(.int (0 : Int32)), (.ref a1)])) rfl rfl (hb hby d9_12) _ ?_
    show Steps p.tables e below (s₁.setTop (mkF m 13 #[.val (.ref a1), .val (.int (0 : Int32)), .val (.ref a3), .val (.int (0 : Int32)), .val (.int (2 : Int32)), .val (.int (0 : Int32)), .unset] [(.int c0)])) _
    refine XS.istore X0.here hx rfl (hb hby d9_13) rfl (l' := #[.val (.ref a1), .val (.int (0 : Int32)), .val (.ref a3), .val (.int (0 : Int32)), .val (.int (2 : Int32)), .val (.int (0 : Int32)), .val (.int c0)]) rfl ?_
    refine XS.iload X0.here hx rfl (hb hby d9_15) rfl ?_
    refine XS.sipush X0.here hx rfl (hb hby d9_17) ?_
    refine XS.icmpYes X0.here hx rfl (pc0 := 20) (pc' := 26) rfl (hb hby d9_20) rfl (flt hp0).2.2.2 (by decide) (by decide) ?_
    show Steps p.tables e below (s₁.setTop (mkF m 26 #[.val (.ref a1), .val (.int (0 : Int32)), .val (.ref a3), .val (.int (0 : Int32)), .val (.int (2 : Int32)), .val (.int (0 : Int32)), .val (.int c0)] [])) _
    refine XS.aloadN X0.here hx rfl (hb hby d9_26) rfl rfl ?_
    refine XS.iloadN X0.here hx rfl (hb hby d9_27) rfl ?_
    refine XS.iload X0.here hx rfl (hb hby d9_28) rfl ?_
    refine XS.i2b X0.here hx rfl (hb hby d9_30) rfl ?_
    show Steps p.tables e below (s₁.setTop (mkF m 31 #[.val (.ref a1), .val (.int (0 : Int32)), .val (.ref a3), .val (.int (0 : Int32)), .val (.int (2 : Int32)), .val (.int (0 : Int32)), .val (.int c0)] [(.int (c0.toInt8.toInt32)), (.int (0 : Int32)), (.ref a3)])) _
    refine st62 _ ?_
    refine XS.iinc X62.here hx rfl (hb hby d9_32) rfl (l' := #[.val (.ref a1), .val (.int (1 : Int32)), .val (.ref a3), .val (.int (0 : Int32)), .val (.int (2 : Int32)), .val (.int (0 : Int32)), .val (.int c0)]) rfl ?_
    refine XS.iinc X62.here hx rfl (hb hby d9_35) rfl (l' := #[.val (.ref a1), .val (.int (1 : Int32)), .val (.ref a3), .val (.int (1 : Int32)), .val (.int (2 : Int32)), .val (.int (0 : Int32)), .val (.int c0)]) rfl ?_
    refine XS.iinc X62.here hx rfl (hb hby d9_38) rfl (l' := #[.val (.ref a1), .val (.int (1 : Int32)), .val (.ref a3), .val (.int (1 : Int32)), .val (.int (2 : Int32)), .val (.int (1 : Int32)), .val (.int c0)]) rfl ?_
    show Steps p.tables e below (T62.setTop (mkF m 41 #[.val (.ref a1), .val (.int (1 : Int32)), .val (.ref a3), .val (.int (1 : Int32)), .val (.int (2 : Int32)), .val (.int (1 : Int32)), .val (.int c0)] [])) _
    refine XS.goto X62.here hx rfl (pc0 := 41) (pc' := 3) rfl (hb hby d9_41) (by decide) (by decide) ?_
    refine XS.iload X62.here hx rfl (hb hby d9_3) rfl ?_
    refine XS.iload X62.here hx rfl (hb hby d9_5) rfl ?_
    refine XS.icmpNo X62.here hx rfl (hb hby d9_7) rfl (tlt (by decide)).2.1 ?_
    show Steps p.tables e below (T62.setTop (mkF m 10 #[.val (.ref a1), .val (.int (1 : Int32)), .val (.ref a3), .val (.int (1 : Int32)), .val (.int (2 : Int32)), .val (.int (1 : Int32)), .val (.int c0)] [])) _
    refine XS.aloadN X62.here hx rfl (hb hby d9_10) rfl rfl ?_
    refine XS.iloadN X62.here hx rfl (hb hby d9_11) rfl ?_
    refine X62.caload hx (j := (1 : Int32)) (v := (.int c1)) (by rw [e62]; exact Ar65.1) (State.isArrayOf_alike hZ.alike Ar65.2.1) Ar65.2.2 hin65 hat65 (g := (mkF m 12 #[.val (.ref a1), .val (.int (1 : Int32)), .val (.ref a3), .val (.int (1 : Int32)), .val (.int (2 : Int32)), .val (.int (1 : Int32)), .val (.int c0)] [(.int (1 : Int32)), (.ref a1)])) rfl rfl (hb hby d9_12) _ ?_
    refine XS.istore X62.here hx rfl (hb hby d9_13) rfl (l' := #[.val (.ref a1), .val (.int (1 : Int32)), .val (.ref a3), .val (.int (1 : Int32)), .val (.int (2 : Int32)), .val (.int (1 : Int32)), .val (.int c1)]) rfl ?_
    show Steps p.tables e below (T62.setTop (mkF m 15 #[.val (.ref a1), .val (.int (1 : Int32)), .val (.ref a3), .val (.int (1 : Int32)), .val (.int (2 : Int32)), .val (.int (1 : Int32)), .val (.int c1)] [])) _
    refine XS.iload X62.here hx rfl (hb hby d9_15) rfl ?_
    refine XS.sipush X62.here hx rfl (hb hby d9_17) ?_
    refine XS.icmpYes X62.here hx rfl (pc0 := 20) (pc' := 26) rfl (hb hby d9_20) rfl (flt hp1).2.2.2 (by decide) (by decide) ?_
    refine XS.aloadN X62.here hx rfl (hb hby d9_26) rfl rfl ?_
    show Steps p.tables e below (T62.setTop (mkF m 27 #[.val (.ref a1), .val (.int (1 : Int32)), .val (.ref a3), .val (.int (1 : Int32)), .val (.int (2 : Int32)), .val (.int (1 : Int32)), .val (.int c1)] [(.ref a3)])) _
    refine XS.iloadN X62.here hx rfl (hb hby d9_27) rfl ?_
    refine XS.iload X62.here hx rfl (hb hby d9_28) rfl ?_
    refine XS.i2b X62.here hx rfl (hb hby d9_30) rfl ?_
    refine st67 _ ?_
    show Steps p.tables e below (T67.setTop (mkF m 32 #[.val (.ref a1), .val (.int (1 : Int32)), .val (.ref a3), .val (.int (1 : Int32)), .val (.int (2 : Int32)), .val (.int (1 : Int32)), .val (.int c1)] [])) _
    refine XS.iinc X67.here hx rfl (hb hby d9_32) rfl (l' := #[.val (.ref a1), .val (.int (2 : Int32)), .val (.ref a3), .val (.int (1 : Int32)), .val (.int (2 : Int32)), .val (.int (1 : Int32)), .val (.int c1)]) rfl ?_
    refine XS.iinc X67.here hx rfl (hb hby d9_35) rfl (l' := #[.val (.ref a1), .val (.int (2 : Int32)), .val (.ref a3), .val (.int (2 : Int32)), .val (.int (2 : Int32)), .val (.int (1 : Int32)), .val (.int c1)]) rfl ?_
    refine XS.iinc X67.here hx rfl (hb hby d9_38) rfl (l' := #[.val (.ref a1), .val (.int (2 : Int32)), .val (.ref a3), .val (.int (2 : Int32)), .val (.int (2 : Int32)), .val (.int (2 : Int32)), .val (.int c1)]) rfl ?_
    refine XS.goto X67.here hx rfl (pc0 := 41) (pc' := 3) rfl (hb hby d9_41) (by decide) (by decide) ?_
    show Steps p.tables e below (T67.setTop (mkF m 3 #[.val (.ref a1), .val (.int (2 : Int32)), .val (.ref a3), .val (.int (2 : Int32)), .val (.int (2 : Int32)), .val (.int (2 : Int32)), .val (.int c1)] [])) _
    refine XS.iload X67.here hx rfl (hb hby d9_3) rfl ?_
    refine XS.iload X67.here hx rfl (hb hby d9_5) rfl ?_
    refine XS.icmpYes X67.here hx rfl (pc0 := 7) (pc' := 44) rfl (hb hby d9_7) rfl (flt (by decide)).2.1 (by decide) (by decide) ?_
    refine XS.iload X67.here hx rfl (hb hby d9_44) rfl ?_
    show Steps p.tables e below (T67.setTop (mkF m 46 #[.val (.ref a1), .val (.int (2 : Int32)), .val (.ref a3), .val (.int (2 : Int32)), .val (.int (2 : Int32)), .val (.int (2 : Int32)), .val (.int c1)] [(.int (2 : Int32))])) _
    exact retI X67 hx Bd.returns (hb hby d9_46) hr
  · show Q_rmcm2 Z a1 a3 kc kb c0 c1 h0 n0 _ T67.heap _
    rw [e67]
    exact ⟨rfl, N67, K69, V_a3_67⟩
def Q_rmcp2 (Z : State) (a1 : Addr) (kc : ClassId) (c0 : Int32) (c1 : Int32) (h0 : Heap) (n0 : Nat) (v : Option Value) (h : Heap) (L : List Loc) : Prop := ∃ b : Addr, ∃ kb : ClassId, v = some (.ref b) ∧ Fr n0 L ∧ Keep h0 h [] ∧ (h0.size ≤ b) ∧ (Arv Z h b kb .byte (2 : Int32) [(.int (nar .byte (c0.toInt8.toInt32))), (.int (nar .byte (c1.toInt8.toInt32)))] (.int (0 : Int32)))
set_option maxRecDepth 65536 in
set_option maxHeartbeats 40000000 in
theorem rmcp2 (l : Launch) (Z : State) (a0 : Array Value) (hw : ∀ d ∈ tables_1, d.before a0 Z = true) (ws : List Jvm.Cond) (a1 : Addr) (kc : ClassId) (c0 : Int32) (c1 : Int32) (h0 : Heap) (n0 : Nat) (Z0 : n0 ≤ h0.size) (V_a1 : Arv Z h0 a1 kc .char (2 : Int32) [(.int c0), (.int c1)] (.int (0 : Int32))) (hp0 : ¬ ((255 : Int32) < c0)) (hp1 : ¬ ((255 : Int32) < c1)) :
    MetFree l (⟨"java/lang/StringUTF16", "compress", "([CII)[B"⟩ : MethodName) (head1 (Jvm.Cond.code (⟨"java/lang/StringUTF16", "compress", "([CII)[B"⟩ : MethodName) jdk_52_method_16_code 6 (some (.array .byte)) :: ws) ({ frames := 1, cells := 1, slots := 2, locals := 18 } : Room)) (fun a U => a = #[(.ref a1), (.int (0 : Int32)), (.int (2 : Int32))] ∧ Z.Warmed39 U.vm ∧ U.heap = h0) (fun _ _ _ _ _ => True) (fun _ U o U' => ∃ v L, o = .returned v ∧ Q_rmcp2 Z a1 kc c0 c1 h0 n0 v U'.heap L ∧ FrameEnd U o U' L ({ frames := 1, cells := 1, slots := 2, locals := 18 } : Room).cells ({ frames := 1, cells := 1, slots := 2, locals := 18 } : Room).slots) := by
  refine MetFree.of_bodySF (plainFor_of_name pn_java_lang_StringUTF16) hisR ?_
  intro p e s m args below meth c s₁ Bd hml0 hP hK
  obtain ⟨rfl, hZ, hh⟩ := hP
  have hx := Bd.exec
  have hby := Bd.bytes
  have hml : c.maxLocals = 6 := hml0
  have hown : s.vm.findClass "java/lang/StringUTF16" = some m.cls := findClass_of_methodNamed Bd.named
  have hnm := (name_of_methodNamed Bd.named Bd.method).1
  have X0 : Stand p l e ({ frames := 1, cells := 1, slots := 2, locals := 18 } : Room) s m #[(.ref a1), (.int (0 : Int32)), (.int (2 : Int32))] below meth c s₁ [] 0 0 := Stand.of_body Bd
  have e0 : s₁.heap = h0 := by rw [← hh, Bd.state]; rfl
  have N0 := Fr.nil n0
  have pre0 : ∀ t, Steps p.tables e below (s₁.setTop (mkF m 0 #[.val (.ref a1), .val (.int (0 : Int32)), .val (.int (2 : Int32)), .unset, .unset, .unset] [])) t → Steps p.tables e below (s₁.setTop (entryFrame m #[(.ref a1), (.int (0 : Int32)), (.int (2 : Int32))] 6)) t := fun t k => castTop (ef_8 m a1 (0 : Int32) (2 : Int32)) k
  obtain ⟨T70, h70, k70, X70, e70, E70, A70, st70⟩ := newP (aty := .byte) X0 hx hZ (wd_14 hw) e0 (g := (mkF m 1 #[.val (.ref a1), .val (.int (0 : Int32)), .val (.int (2 : Int32)), .unset, .unset, .unset] [(.int (2 : Int32))])) rfl (hb hby d8_1) rfl (by decide) (cap := 2) (by decide) (by decide) (by decide) (by decide)
  obtain ⟨b70, g70⟩ : ∃ z, z = h0.size := ⟨_, rfl⟩
  rw [← g70] at A70 st70
  have g_b70 : n0 ≤ b70 := Nat.le_trans Z0 (Nat.le_of_eq g70.symm)
  have sz_b70 : h0.size ≤ b70 := Nat.le_trans (And.left (Keep.refl h0 [])) (Nat.le_of_eq g70.symm)
  have ne_a1_b70 : a1 ≠ b70 := Nat.ne_of_lt (Nat.lt_of_lt_of_le (V_a1).lt (Nat.le_of_eq g70.symm))
  have Z71 : n0 ≤ h70.size := Nat.le_trans Z0 E70.1
  have K72 : Keep h0 h70 [] := Keep.ext (Keep.refl h0 []) E70
  have V0_b70 := (Arv.new A70 (by decide)).pad (pad_rep [] (.int (0 : Int32)) 2)
  have V_b70 : Arv Z h70 b70 k70 .byte (2 : Int32) [(.int (0 : Int32)), (.int (0 : Int32))] (.int (0 : Int32)) := V0_b70
  obtain ⟨_, _, ⟨T73, L73, k73, n73⟩, -, X73, ⟨Lc73, hQ73, l73, y73, z73⟩, st73⟩ := Jvm.LawKit.callS X70 hx (y := (⟨"java/lang/StringUTF16", "compress", "([CI[BII)I"⟩ : MethodName)) hown (mvT hZ (wd_38 hw)) (mvT hZ (wd_39 hw)) (mvT hZ (wd_36 hw)) (mvT hZ (wd_40 hw)) (by decide) (backOf (W := 0) (rmcm2 l Z a0 hw [] a1 b70 kc k70 c0 c1 h70 n0 Z71 (V_a1.ext E70) V_b70 g_b70 ne_a1_b70 hp0 hp1) hZ (wd_40 hw) (wd_36 hw) (by decide) (by decide)) (g := (mkF m 9 #[.val (.ref a1), .val (.int (0 : Int32)), .val (.int (2 : Int32)), .val (.ref b70), .unset, .unset] [(.int (2 : Int32)), (.int (0 : Int32)), (.ref b70), (.int (0 : Int32)), (.ref a1)])) rfl (by rw [hml]; rfl) (argsL := [(.ref a1), (.int (0 : Int32)), (.ref b70), (.int (0 : Int32)), (.int (2 : Int32))]) (rest := []) (lenOf pd___CI_BII_I rfl) rfl (by show 2 * 0 + _ ≤ _; exact Nat.le_of_eq rfl) (hb hby d8_9) (fun _ _ => ⟨rfl, e70, (by decide : 1 + 0 ≤ _), (by decide : 2 + 0 ≤ _)⟩)
  dsimp only [Pt.U, Pt.locs, Pt.cells, Pt.slots] at X73 l73 y73 z73 st73 hQ73
  rw [l73, y73, z73] at X73
  obtain ⟨rfl, N73q, K73q, g73_0⟩ := hQ73
  have N73 := Fr.app N0 N73q
  have Z74 : n0 ≤ T73.heap.size := Nat.le_trans Z71 K73q.1
  have K75 : Keep h0 T73.heap [] := Keep.trans K72 K73q (allS (Or.inr sz_b70) all0)
  obtain ⟨fs, hr, hrun, hended, hW, hsame⟩ := X73.leave (v := some (.ref b70)) (fun h => by rw [Bd.returns] at h; cases h)
  refine ⟨_, _, pre0 _ ?_, hrun, hended, _, _, rfl, ?_, ⟨_, rfl⟩, hW, hsame.mono (by decide) (by decide)⟩
  · show Steps p.tables e below (s₁.setTop (mkF m 0 #[.val (.ref a1), .val (.int (0 : Int32)), .val (.int (2 : Int32)), .unset, .unset, .unset] [])) _
    refine XS.iloadN X0.here hx rfl (hb hby d8_0) rfl ?_
    refine st70 _ ?_
    refine XS.astoreN X70.here hx rfl (hb hby d8_3) rfl rfl (l' := #[.val (.ref a1), .val (.int (0 : Int32)), .val (.int (2 : Int32)), .val (.ref b70), .unset, .unset]) rfl ?_
    refine XS.aloadN X70.here hx rfl (hb hby d8_4) rfl rfl ?_
    show Steps p.tables e below (T70.setTop (mkF m 5 #[.val (.ref a1), .val (.int (0 : Int32)), .val (.int (2 : Int32)), .val (.ref b70), .unset, .unset] [(.ref a1)])) _
    refine XS.iloadN X70.here hx rfl (hb hby d8_5) rfl ?_
    refine XS.aloadN X70.here hx rfl (hb hby d8_6) rfl rfl ?_
    refine XS.iconst X70.here hx rfl (hb hby d8_7) ?_
    refine XS.iloadN X70.here hx rfl (hb hby d8_8) rfl ?_
    show Steps p.tables e below (T70.setTop (mkF m 9 #[.val (.ref a1), .val (.int (0 : Int32)), .val (.int (2 : Int32)), .val (.ref b70), .unset, .unset] [(.int (2 : Int32)), (.int (0 : Int32)), (.ref b70), (.int (0 : Int32)), (.ref a1)])) _
    refine st73 _ ?_
    refine XS.istore X73.here hx rfl (hb hby d8_12) rfl (l' := #[.val (.ref a1), .val (.int (0 : Int32)), .val (.int (2 : Int32)), .val (.ref b70), .val (.int (2 : Int32)), .unset]) rfl ?_
    refine XS.iload X73.here hx rfl (hb hby d8_14) rfl ?_
    refine XS.iloadN X73.here hx rfl (hb hby d8_16) rfl ?_
    show Steps p.tables e below (T73.setTop (mkF m 17 #[.val (.ref a1), .val (.int (0 : Int32)), .val (.int (2 : Int32)), .val (.ref b70), .val (.int (2 : Int32)), .unset] [(.int (2 : Int32)), (.int (2 : Int32))])) _
    refine XS.icmpYes X73.here hx rfl (pc0 := 17) (pc' := 57) rfl (hb hby d8_17) rfl (teq (rfl : (2 : Int32) = (2 : Int32))).1 (by decide) (by decide) ?_
    refine XS.aloadN X73.here hx rfl (hb hby d8_57) rfl rfl ?_
    exact X73.areturnOut hx rfl Bd.returns rfl (hb hby d8_58) hr
  · show Q_rmcp2 Z a1 kc c0 c1 h0 n0 _ T73.heap _
    exact ⟨b70, k70, rfl, N73, K75, sz_b70, g73_0⟩
def Q_rmcl2 (Z : State) (a1 : Addr) (kb : ClassId) (x0 : Int32) (x1 : Int32) (h0 : Heap) (n0 : Nat) (v : Option Value) (h : Heap) (L : List Loc) : Prop := v = some (.int (0 : Int32)) ∧ Fr n0 L ∧ h = h0
set_option maxRecDepth 65536 in
set_option maxHeartbeats 40000000 in
theorem rmcl2 (l : Launch) (Z : State) (a0 : Array Value) (hw : ∀ d ∈ tables_1, d.before a0 Z = true) (ws : List Jvm.Cond) (a1 : Addr) (kb : ClassId) (x0 : Int32) (x1 : Int32) (h0 : Heap) (n0 : Nat) (Z0 : n0 ≤ h0.size) (V_a1 : Arv Z h0 a1 kb .byte (2 : Int32) [(.int x0), (.int x1)] (.int (0 : Int32))) :
    MetFree l (⟨"java/lang/StringUTF16", "coderFromArrayLen", "([BI)B"⟩ : MethodName) (head1 (Jvm.Cond.code (⟨"java/lang/StringUTF16", "coderFromArrayLen", "([BI)B"⟩ : MethodName) jdk_52_method_15_code 2 (some .byte) :: ws) ({ frames := 0, cells := 0, slots := 0, locals := 0 } : Room)) (fun a U => a = #[(.ref a1), (.int (2 : Int32))] ∧ Z.Warmed39 U.vm ∧ U.heap = h0) (fun _ _ _ _ _ => True) (fun _ U o U' => ∃ v L, o = .returned v ∧ Q_rmcl2 Z a1 kb x0 x1 h0 n0 v U'.heap L ∧ FrameEnd U o U' L ({ frames := 0, cells := 0, slots := 0, locals := 0 } : Room).cells ({ frames := 0, cells := 0, slots := 0, locals := 0 } : Room).slots) := by
  refine MetFree.of_bodySF (plainFor_of_name pn_java_lang_StringUTF16) hisR ?_
  intro p e s m args below meth c s₁ Bd hml0 hP hK
  obtain ⟨rfl, hZ, hh⟩ := hP
  have hx := Bd.exec
  have hby := Bd.bytes
  have hml : c.maxLocals = 2 := hml0
  have hown : s.vm.findClass "java/lang/StringUTF16" = some m.cls := findClass_of_methodNamed Bd.named
  have hnm := (name_of_methodNamed Bd.named Bd.method).1
  have X0 : Stand p l e ({ frames := 0, cells := 0, slots := 0, locals := 0 } : Room) s m #[(.ref a1), (.int (2 : Int32))] below meth c s₁ [] 0 0 := Stand.of_body Bd
  have e0 : s₁.heap = h0 := by rw [← hh, Bd.state]; rfl
  have N0 := Fr.nil n0
  have pre0 : ∀ t, Steps p.tables e below (s₁.setTop (mkF m 0 #[.val (.ref a1), .val (.int (2 : Int32))] [])) t → Steps p.tables e below (s₁.setTop (entryFrame m #[(.ref a1), (.int (2 : Int32))] 2)) t := fun t k => castTop (ef_10 m a1 (2 : Int32)) k
  obtain ⟨cl76, Ar76, q76, S76, N76n, H76, G76⟩ := id (V_a1)
  obtain ⟨fs, hr, hrun, hended, hW, hsame⟩ := X0.leave (v := some (.int (0 : Int32))) (fun h => by rw [Bd.returns] at h; cases h)
  refine ⟨_, _, pre0 _ ?_, hrun, hended, _, _, rfl, ?_, ⟨_, rfl⟩, hW, hsame.mono (by decide) (by decide)⟩
  · show Steps p.tables e below (s₁.setTop (mkF m 0 #[.val (.ref a1), .val (.int (2 : Int32))] [])) _
    refine XS.iloadN X0.here hx rfl (hb hby d10_0) rfl ?_
    refine XS.aloadN X0.here hx rfl (hb hby d10_1) rfl rfl ?_
    refine X0.arraylength hx (by rw [e0]; exact Ar76.1) (State.isArrayOf_alike hZ.alike Ar76.2.1) (g := (mkF m 2 #[.val (.ref a1), .val (.int (2 : Int32))] [(.ref a1), (.int (2 : Int32))])) rfl rfl (hb hby d10_2) _ ?_
    rw [len_of S76 N76n]
    refine XS.isub X0.here hx rfl (hb hby d10_3) rfl ?_
    show Steps p.tables e below (s₁.setTop (mkF m 4 #[.val (.ref a1), .val (.int (2 : Int32))] [(.int (0 : Int32))])) _
    refine XS.bipush X0.here hx rfl (hb hby d10_4) ?_
    refine XS.iushr X0.here hx rfl (hb hby d10_6) rfl ?_
    refine XS.i2b X0.here hx rfl (hb hby d10_7) rfl ?_
    show Steps p.tables e below (s₁.setTop (mkF m 8 #[.val (.ref a1), .val (.int (2 : Int32))] [(.int (0 : Int32))])) _
    exact retN X0 hx (t := .byte) Bd.returns (by simp) (hb hby d10_8) hr
  · show Q_rmcl2 Z a1 kb x0 x1 h0 n0 _ s₁.heap _
    rw [e0]
    exact ⟨rfl, N0, rfl⟩
def Q_rmi4_2 (Z : State) (a1 : Addr) (a2 : Addr) (u1 : Value) (u2 : Value) (kc : ClassId) (wz : Int32) (c0 : Int32) (c1 : Int32) (h0 : Heap) (n0 : Nat) (v : Option Value) (h : Heap) (L : List Loc) : Prop := ∃ b : Addr, ∃ kb : ClassId, v = none ∧ Fr n0 L ∧ Keep h0 h [a1] ∧ (h0.size ≤ b) ∧ (Fld Z h a1 "java/lang/String" "value" "[B" (.ref b)) ∧ (Fld Z h a1 "java/lang/String" "coder" "B" (.int (0 : Int32))) ∧ (Arv Z h b kb .byte (2 : Int32) [(.int (nar .byte (c0.toInt8.toInt32))), (.int (nar .byte (c1.toInt8.toInt32)))] (.int (0 : Int32)))
set_option maxRecDepth 65536 in
set_option maxHeartbeats 40000000 in
theorem rmi4_2 (l : Launch) (Z : State) (a0 : Array Value) (hw : ∀ d ∈ tables_1, d.before a0 Z = true) (ws : List Jvm.Cond) (a1 : Addr) (a2 : Addr) (u1 : Value) (u2 : Value) (kc : ClassId) (wz : Int32) (c0 : Int32) (c1 : Int32) (h0 : Heap) (n0 : Nat) (Z0 : n0 ≤ h0.size) (F_value_a1 : Fld Z h0 a1 "java/lang/String" "value" "[B" u1) (F_coder_a1 : Fld Z h0 a1 "java/lang/String" "coder" "B" u2) (E_a1 : Exa Z h0 a1 "java/lang/String") (g_a1 : n0 ≤ a1) (V_a2 : Arv Z h0 a2 kc .char (2 : Int32) [(.int c0), (.int c1)] (.int (0 : Int32))) (hp0 : ¬ ((255 : Int32) < c0)) (hp1 : ¬ ((255 : Int32) < c1)) (Old0 : Old Z n0 h0) (S_COMPACT_STRINGS : Sta Z Z.heap "java/lang/String" "COMPACT_STRINGS" "Z" (.int wz)) (hz : ¬ (wz = (0 : Int32))) :
    MetFree l (⟨"java/lang/String", "<init>", "([CIILjava/lang/Void;)V"⟩ : MethodName) (head1 (Jvm.Cond.code (⟨"java/lang/String", "<init>", "([CIILjava/lang/Void;)V"⟩ : MethodName) jdk_42_method_149_code 6 none :: ws) ({ frames := 2, cells := 1, slots := 2, locals := 35 } : Room)) (fun a U => a = #[(.ref a1), (.ref a2), (.int (0 : Int32)), (.int (2 : Int32)), .null] ∧ Z.Warmed39 U.vm ∧ U.heap = h0) (fun _ _ _ _ _ => True) (fun _ U o U' => ∃ v L, o = .returned v ∧ Q_rmi4_2 Z a1 a2 u1 u2 kc wz c0 c1 h0 n0 v U'.heap L ∧ FrameEnd U o U' L ({ frames := 2, cells := 1, slots := 2, locals := 35 } : Room).cells ({ frames := 2, cells := 1, slots := 2, locals := 35 } : Room).slots) := by
  refine MetFree.of_bodySF (plainFor_of_name pn_java_lang_String) hisR ?_
  intro p e s m args below meth c s₁ Bd hml0 hP hK
  obtain ⟨rfl, hZ, hh⟩ := hP
  have hx := Bd.exec
  have hby := Bd.bytes
  have hml : c.maxLocals = 6 := hml0
  have hown : s.vm.findClass "java/lang/String" = some m.cls := findClass_of_methodNamed Bd.named
  have hnm := (name_of_methodNamed Bd.named Bd.method).1
  have X0 : Stand p l e ({ frames := 2, cells := 1, slots := 2, locals := 35 } : Room) s m #[(.ref a1), (.ref a2), (.int (0 : Int32)), (.int (2 : Int32)), .null] below meth c s₁ [] 0 0 := Stand.of_body Bd
  have e0 : s₁.heap = h0 := by rw [← hh, Bd.state]; rfl
  have N0 := Fr.nil n0
  have pre0 : ∀ t, Steps p.tables e below (s₁.setTop (mkF m 0 #[.val (.ref a1), .val (.ref a2), .val (.int (0 : Int32)), .val (.int (2 : Int32)), .val .null, .unset] [])) t → Steps p.tables e below (s₁.setTop (entryFrame m #[(.ref a1), (.ref a2), (.int (0 : Int32)), (.int (2 : Int32)), .null] 6)) t := fun t k => castTop (efn_7 m a1 a2 (0 : Int32) (2 : Int32)) k
  obtain ⟨T77, X77, e77, st77⟩ := initO X0 hx hZ hown (wd_19 hw) (wd_20 hw) (wd_21 hw) e0 (g := (mkF m 1 #[.val (.ref a1), .val (.ref a2), .val (.int (0 : Int32)), .val (.int (2 : Int32)), .val .null, .unset] [(.ref a1)])) rfl (by rw [hml]; rfl) rfl (hb hby d7_1) (by decide) (W := 0) (by show 2 * 0 + _ ≤ _; exact Nat.le_of_eq rfl) (by decide)
  obtain ⟨T78, X78, e78, st78⟩ := getS2 X77 hx hZ hown (host := "") (Or.inl (wd_4 hw)) Via.refl e77 (S_COMPACT_STRINGS.ext (Old0).2) (g := (mkF m 27 #[.val (.ref a1), .val (.ref a2), .val (.int (0 : Int32)), .val (.int (2 : Int32)), .val .null, .unset] [])) rfl (hb hby d7_27)
  obtain ⟨_, _, ⟨T79, L79, k79, n79⟩, -, X79, ⟨Lc79, hQ79, l79, y79, z79⟩, st79⟩ := Jvm.LawKit.callS X78 hx (y := (⟨"java/lang/StringUTF16", "compress", "([CII)[B"⟩ : MethodName)) hown (mvT hZ (wd_34 hw)) (mvT hZ (wd_35 hw)) (mvT hZ (wd_36 hw)) (mvT hZ (wd_37 hw)) (by decide) (backOf (W := 0) (rmcp2 l Z a0 hw [] a2 kc c0 c1 h0 n0 Z0 V_a2 hp0 hp1) hZ (wd_37 hw) (wd_36 hw) (by decide) (by decide)) (g := (mkF m 36 #[.val (.ref a1), .val (.ref a2), .val (.int (0 : Int32)), .val (.int (2 : Int32)), .val .null, .unset] [(.int (2 : Int32)), (.int (0 : Int32)), (.ref a2)])) rfl (by rw [hml]; rfl) (argsL := [(.ref a2), (.int (0 : Int32)), (.int (2 : Int32))]) (rest := []) (lenOf pd___CII__B rfl) rfl (by show 2 * 0 + _ ≤ _; exact Nat.le_of_eq rfl) (hb hby d7_36) (fun _ _ => ⟨rfl, e78, (by decide : 0 + 1 ≤ _), (by decide : 0 + 2 ≤ _)⟩)
  dsimp only [Pt.U, Pt.locs, Pt.cells, Pt.slots] at X79 l79 y79 z79 st79 hQ79
  rw [l79, y79, z79] at X79
  obtain ⟨b_79, kb_79, rfl, N79q, K79q, g79_0, g79_1⟩ := hQ79
  have N79 := Fr.app N0 N79q
  have Z80 : n0 ≤ T79.heap.size := Nat.le_trans Z0 K79q.1
  have K81 : Keep h0 T79.heap [a1] := Keep.trans (Keep.refl h0 [a1]) K79q all0
  have ne_a1_b_79 : a1 ≠ b_79 := Nat.ne_of_lt (Nat.lt_of_lt_of_le (F_value_a1).lt g79_0)
  have ne_a2_b_79 : a2 ≠ b_79 := Nat.ne_of_lt (Nat.lt_of_lt_of_le (V_a2).lt g79_0)
  have g82 : n0 ≤ b_79 := Nat.le_trans Z0 g79_0
  have sz83 : h0.size ≤ b_79 := Nat.le_trans (And.left (Keep.refl h0 [a1])) g79_0
  obtain ⟨_, _, ⟨T84, L84, k84, n84⟩, -, X84, ⟨Lc84, hQ84, l84, y84, z84⟩, st84⟩ := Jvm.LawKit.callS X79 hx (y := (⟨"java/lang/StringUTF16", "coderFromArrayLen", "([BI)B"⟩ : MethodName)) hown (mvT hZ (wd_41 hw)) (mvT hZ (wd_42 hw)) (mvT hZ (wd_36 hw)) (mvT hZ (wd_43 hw)) (by decide) (backOf (W := 1) (rmcl2 l Z a0 hw [] b_79 kb_79 (nar .byte (c0.toInt8.toInt32)) (nar .byte (c1.toInt8.toInt32)) T79.heap n0 Z80 g79_1) hZ (wd_43 hw) (wd_36 hw) (by decide) (by decide)) (g := (mkF m 45 #[.val (.ref a1), .val (.ref a2), .val (.int (0 : Int32)), .val (.int (2 : Int32)), .val .null, .val (.ref b_79)] [(.int (2 : Int32)), (.ref b_79), (.ref a1)])) rfl (by rw [hml]; rfl) (argsL := [(.ref b_79), (.int (2 : Int32))]) (rest := [(.ref a1)]) (lenOf pd___BI_B rfl) rfl (by show 2 * 0 + _ ≤ _; exact Nat.le_of_eq rfl) (hb hby d7_45) (fun _ _ => ⟨rfl, rfl, (by decide : 1 + 0 ≤ _), (by decide : 2 + 0 ≤ _)⟩)
  dsimp only [Pt.U, Pt.locs, Pt.cells, Pt.slots] at X84 l84 y84 z84 st84 hQ84
  rw [l84, y84, z84] at X84
  obtain ⟨rfl, N84q, e84⟩ := hQ84
  have N84 := Fr.app N79 N84q
  obtain ⟨T85, h85, X85, e85, W85, st85⟩ := putFN X84 hx hZ hown (wd_24 hw) Via.refl e84 (F_coder_a1.keep K79q nin0) (E_a1.keep K79q) (Or.inr ⟨(wd_25 hw), rfl, hnm⟩) (wd_10 hw) (ty := .byte) (v' := (.int (0 : Int32))) (by decide) rfl rfl (g := (mkF m 48 #[.val (.ref a1), .val (.ref a2), .val (.int (0 : Int32)), .val (.int (2 : Int32)), .val .null, .val (.ref b_79)] [(.int (0 : Int32)), (.ref a1)])) rfl rfl (hb hby d7_48)
  have Fw85 := (F_coder_a1.keep K79q nin0).same W85
  have Z86 : n0 ≤ h85.size := Nat.le_trans Z80 (Keep.of_wr W85).1
  have K87 : Keep h0 h85 [a1] := Keep.wr K81 W85 (Or.inl (List.mem_of_getElem? (i := 0) rfl))
  have N85 := Fr.snoc X85 N84 g_a1
  obtain ⟨T88, h88, X88, e88, W88, st88⟩ := putF X85 hx hZ hown (host := "") (Or.inl (wd_22 hw)) Via.refl e85 ((F_value_a1.keep K79q nin0).other W85 (Or.inr (slot_ne (Or.inr (wd_23 hw)) (Or.inr (wd_25 hw)) (by decide) (t := (.array .byte)) (t' := .byte) (by decide) (by decide)))) ((E_a1.keep K79q).wr W85) (Or.inr ⟨(wd_23 hw), rfl, hnm⟩) (wd_10 hw) (ty := (.array .byte)) (by decide) rfl rfl (g := (mkF m 54 #[.val (.ref a1), .val (.ref a2), .val (.int (0 : Int32)), .val (.int (2 : Int32)), .val .null, .val (.ref b_79)] [(.ref b_79), (.ref a1)])) rfl rfl (hb hby d7_54)
  have Fw88 := ((F_value_a1.keep K79q nin0).other W85 (Or.inr (slot_ne (Or.inr (wd_23 hw)) (Or.inr (wd_25 hw)) (by decide) (t := (.array .byte)) (t' := .byte) (by decide) (by decide)))).same W88
  have Z89 : n0 ≤ h88.size := Nat.le_trans Z86 (Keep.of_wr W88).1
  have K90 : Keep h0 h88 [a1] := Keep.wr K87 W88 (Or.inl (List.mem_of_getElem? (i := 0) rfl))
  have N88 := Fr.snoc X88 N85 g_a1
  obtain ⟨fs, hr, hrun, hended, hW, hsame⟩ := X88.leave (v := none) (fun _ => rfl)
  refine ⟨_, _, pre0 _ ?_, hrun, hended, _, _, rfl, ?_, ⟨_, rfl⟩, hW, hsame.mono (by decide) (by decide)⟩
  · show Steps p.tables e below (s₁.setTop (mkF m 0 #[.val (.ref a1), .val (.ref a2), .val (.int (0 : Int32)), .val (.int (2 : Int32)), .val .null, .unset] [])) _
    refine XS.aloadN X0.here hx rfl (hb hby d7_0) rfl rfl ?_
    refine st77 _ ?_
    refine XS.iloadN X77.here hx rfl (hb hby d7_4) rfl ?_
    refine XS.ifYes X77.here hx rfl (pc0 := 5) (pc' := 27) rfl (hb hby d7_5) rfl ((if0 _ _).trans (feq (by decide)).2) (by decide) (by decide) ?_
    show Steps p.tables e below (T77.setTop (mkF m 27 #[.val (.ref a1), .val (.ref a2), .val (.int (0 : Int32)), .val (.int (2 : Int32)), .val .null, .unset] [])) _
    refine st78 _ ?_
    refine XS.ifNo X78.here hx rfl (hb hby d7_30) rfl ((if0 _ _).trans (feq hz).1) ?_
    refine XS.aloadN X78.here hx rfl (hb hby d7_33) rfl rfl ?_
    refine XS.iloadN X78.here hx rfl (hb hby d7_34) rfl ?_
    show Steps p.tables e below (T78.setTop (mkF m 35 #[.val (.ref a1), .val (.ref a2), .val (.int (0 : Int32)), .val (.int (2 : Int32)), .val .null, .unset] [(.int (0 : Int32)), (.ref a2)])) _
    refine XS.iloadN X78.here hx rfl (hb hby d7_35) rfl ?_
    refine st79 _ ?_
    refine XS.astore X79.here hx rfl (hb hby d7_39) rfl rfl (l' := #[.val (.ref a1), .val (.ref a2), .val (.int (0 : Int32)), .val (.int (2 : Int32)), .val .null, .val (.ref b_79)]) rfl ?_
    refine XS.aloadN X79.here hx rfl (hb hby d7_41) rfl rfl ?_
    show Steps p.tables e below (T79.setTop (mkF m 42 #[.val (.ref a1), .val (.ref a2), .val (.int (0 : Int32)), .val (.int (2 : Int32)), .val .null, .val (.ref b_79)] [(.ref a1)])) _
    refine XS.aload X79.here hx rfl (hb hby d7_42) rfl rfl ?_
    refine XS.iloadN X79.here hx rfl (hb hby d7_44) rfl ?_
    refine st84 _ ?_
    refine st85 _ ?_
    show Steps p.tables e below (T85.setTop (mkF m 51 #[.val (.ref a1), .val (.ref a2), .val (.int (0 : Int32)), .val (.int (2 : Int32)), .val .null, .val (.ref b_79)] [])) _
    refine XS.aloadN X85.here hx rfl (hb hby d7_51) rfl rfl ?_
    refine XS.aload X85.here hx rfl (hb hby d7_52) rfl rfl ?_
    refine st88 _ ?_
    exact X88.returnOut hx Bd.returns (hb hby d7_57) hr
  · show Q_rmi4_2 Z a1 a2 u1 u2 kc wz c0 c1 h0 n0 _ T88.heap _
    rw [e88]
    exact ⟨b_79, kb_79, rfl, N88, K90, sz83, Fw88, (Fw85.other W88 (Or.inr (slot_ne (Or.inr (wd_25 hw)) (Or.inr (wd_23 hw)) (by decide) (t := .byte) (t' := (.array .byte)) (by decide) (by decide)))), ((g79_1.other W85 (Ne.symm ne_a1_b_79)).other W88 (Ne.symm ne_a1_b_79))⟩
def Q_rmi1_2 (Z : State) (a1 : Addr) (a2 : Addr) (u1 : Value) (u2 : Value) (kc : ClassId) (wz : Int32) (c0 : Int32) (c1 : Int32) (h0 : Heap) (n0 : Nat) (v : Option Value) (h : Heap) (L : List Loc) : Prop := ∃ b : Addr, ∃ kb : ClassId, v = none ∧ Fr n0 L ∧ Keep h0 h [a1] ∧ (h0.size ≤ b) ∧ (Fld Z h a1 "java/lang/String" "value" "[B" (.ref b)) ∧ (Fld Z h a1 "java/lang/String" "coder" "B" (.int (0 : Int32))) ∧ (Arv Z h b kb .byte (2 : Int32) [(.int (nar .byte (c0.toInt8.toInt32))), (.int (nar .byte (c1.toInt8.toInt32)))] (.int (0 : Int32)))
set_option maxRecDepth 65536 in
set_option maxHeartbeats 40000000 in
theorem rmi1_2 (l : Launch) (Z : State) (a0 : Array Value) (hw : ∀ d ∈ tables_1, d.before a0 Z = true) (ws : List Jvm.Cond) (a1 : Addr) (a2 : Addr) (u1 : Value) (u2 : Value) (kc : ClassId) (wz : Int32) (c0 : Int32) (c1 : Int32) (h0 : Heap) (n0 : Nat) (Z0 : n0 ≤ h0.size) (F_value_a1 : Fld Z h0 a1 "java/lang/String" "value" "[B" u1) (F_coder_a1 : Fld Z h0 a1 "java/lang/String" "coder" "B" u2) (E_a1 : Exa Z h0 a1 "java/lang/String") (g_a1 : n0 ≤ a1) (V_a2 : Arv Z h0 a2 kc .char (2 : Int32) [(.int c0), (.int c1)] (.int (0 : Int32))) (hp0 : ¬ ((255 : Int32) < c0)) (hp1 : ¬ ((255 : Int32) < c1)) (Old0 : Old Z n0 h0) (S_COMPACT_STRINGS : Sta Z Z.heap "java/lang/String" "COMPACT_STRINGS" "Z" (.int wz)) (hz : ¬ (wz = (0 : Int32))) :
    MetFree l (⟨"java/lang/String", "<init>", "([C)V"⟩ : MethodName) (head1 (Jvm.Cond.code (⟨"java/lang/String", "<init>", "([C)V"⟩ : MethodName) jdk_42_method_3_code 2 none :: ws) ({ frames := 3, cells := 1, slots := 2, locals := 52 } : Room)) (fun a U => a = #[(.ref a1), (.ref a2)] ∧ Z.Warmed39 U.vm ∧ U.heap = h0) (fun _ _ _ _ _ => True) (fun _ U o U' => ∃ v L, o = .returned v ∧ Q_rmi1_2 Z a1 a2 u1 u2 kc wz c0 c1 h0 n0 v U'.heap L ∧ FrameEnd U o U' L ({ frames := 3, cells := 1, slots := 2, locals := 52 } : Room).cells ({ frames := 3, cells := 1, slots := 2, locals := 52 } : Room).slots) := by
  refine MetFree.of_bodySF (plainFor_of_name pn_java_lang_String) hisR ?_
  intro p e s m args below meth c s₁ Bd hml0 hP hK
  obtain ⟨rfl, hZ, hh⟩ := hP
  have hx := Bd.exec
  have hby := Bd.bytes
  have hml : c.maxLocals = 2 := hml0
  have hown : s.vm.findClass "java/lang/String" = some m.cls := findClass_of_methodNamed Bd.named
  have hnm := (name_of_methodNamed Bd.named Bd.method).1
  have X0 : Stand p l e ({ frames := 3, cells := 1, slots := 2, locals := 52 } : Room) s m #[(.ref a1), (.ref a2)] below meth c s₁ [] 0 0 := Stand.of_body Bd
  have e0 : s₁.heap = h0 := by rw [← hh, Bd.state]; rfl
  have N0 := Fr.nil n0
  have pre0 : ∀ t, Steps p.tables e below (s₁.setTop (mkF m 0 #[.val (.ref a1), .val (.ref a2)] [])) t → Steps p.tables e below (s₁.setTop (entryFrame m #[(.ref a1), (.ref a2)] 2)) t := fun t k => castTop (ef_6 m a1 a2) k
  obtain ⟨cl91, Ar91, q91, S91, N91n, H91, G91⟩ := id (V_a2)
  obtain ⟨_, _, ⟨T92, L92, k92, n92⟩, -, X92, ⟨Lc92, hQ92, l92, y92, z92⟩, st92⟩ := X0.specialBack hx (y := (⟨"java/lang/String", "<init>", "([CIILjava/lang/Void;)V"⟩ : MethodName)) rfl hown (mvT hZ (wd_31 hw)) (mvT hZ (wd_32 hw)) (mvT hZ (wd_33 hw)) (by decide) (backOf (W := 0) (rmi4_2 l Z a0 hw [] a1 a2 u1 u2 kc wz c0 c1 h0 n0 Z0 F_value_a1 F_coder_a1 E_a1 g_a1 V_a2 hp0 hp1 Old0 S_COMPACT_STRINGS hz) hZ (wd_33 hw) (wd_2 hw) (by decide) (by decide)) (g := (mkF m 6 #[.val (.ref a1), .val (.ref a2)] [.null, (.int (2 : Int32)), (.int (0 : Int32)), (.ref a2), (.ref a1)])) rfl (by rw [hml]; rfl) (Steps.refl _) (a := a1) (argsL := [(.ref a2), (.int (0 : Int32)), (.int (2 : Int32)), .null]) (rest := []) (lenOf pd___CIILjava_lang_Void__V rfl) rfl (by show 2 * 0 + _ ≤ _; exact Nat.le_of_eq rfl) (hb hby d6_6) (fun _ _ => ⟨rfl, e0, (by decide : 0 + 1 ≤ _), (by decide : 0 + 2 ≤ _)⟩)
  dsimp only [Pt.U, Pt.locs, Pt.cells, Pt.slots] at X92 l92 y92 z92 st92 hQ92
  rw [l92, y92, z92] at X92
  obtain ⟨b_92, kb_92, rfl, N92q, K92q, g92_0, g92_1, g92_2, g92_3⟩ := hQ92
  have N92 := Fr.app N0 N92q
  have Z93 : n0 ≤ T92.heap.size := Nat.le_trans Z0 K92q.1
  have K94 : Keep h0 T92.heap [a1] := Keep.trans (Keep.refl h0 [a1]) K92q (allS (Or.inl (List.mem_of_getElem? (i := 0) rfl)) all0)
  have ne_a1_b_92 : a1 ≠ b_92 := Nat.ne_of_lt (Nat.lt_of_lt_of_le (F_value_a1).lt g92_0)
  have ne_a2_b_92 : a2 ≠ b_92 := Nat.ne_of_lt (Nat.lt_of_lt_of_le (V_a2).lt g92_0)
  have g95 : n0 ≤ b_92 := Nat.le_trans Z0 g92_0
  have sz96 : h0.size ≤ b_92 := Nat.le_trans (And.left (Keep.refl h0 [a1])) g92_0
  obtain ⟨fs, hr, hrun, hended, hW, hsame⟩ := X92.leave (v := none) (fun _ => rfl)
  refine ⟨_, _, pre0 _ ?_, hrun, hended, _, _, rfl, ?_, ⟨_, rfl⟩, hW, hsame.mono (by decide) (by decide)⟩
  · show Steps p.tables e below (s₁.setTop (mkF m 0 #[.val (.ref a1), .val (.ref a2)] [])) _
    refine XS.aloadN X0.here hx rfl (hb hby d6_0) rfl rfl ?_
    refine XS.aloadN X0.here hx rfl (hb hby d6_1) rfl rfl ?_
    refine XS.iconst X0.here hx rfl (hb hby d6_2) ?_
    refine XS.aloadN X0.here hx rfl (hb hby d6_3) rfl rfl ?_
    show Steps p.tables e below (s₁.setTop (mkF m 4 #[.val (.ref a1), .val (.ref a2)] [(.ref a2), (.int (0 : Int32)), (.ref a2), (.ref a1)])) _
    refine X0.arraylength hx (by rw [e0]; exact Ar91.1) (State.isArrayOf_alike hZ.alike Ar91.2.1) (g := (mkF m 4 #[.val (.ref a1), .val (.ref a2)] [(.ref a2), (.int (0 : Int32)), (.ref a2), (.ref a1)])) rfl rfl (hb hby d6_4) _ ?_
    rw [len_of S91 N91n]
    refine XS.aconstNull X0.here hx rfl (hb hby d6_5) ?_
    refine st92.trans ?_
    exact X92.returnOut hx Bd.returns (hb hby d6_9) hr
  · show Q_rmi1_2 Z a1 a2 u1 u2 kc wz c0 c1 h0 n0 _ T92.heap _
    exact ⟨b_92, kb_92, rfl, N92, K94, sz96, g92_1, g92_2, g92_3⟩
theorem d11_0 : decode prog_112_method_1_code 0 = .ok (.aload_n 0, 1) := by decide +kernel
theorem d11_1 : decode prog_112_method_1_code 1 = .ok (.invokespecial 1, 3) := by decide +kernel
theorem wd_51 {a0 : Array Value} {Z : State} (hw : ∀ d ∈ tables_1, d.before a0 Z = true) : (Jvm.Cond.methodLink "com/example/kawi/kawi/xml/Attributes" (1 : Nat) ({ cls := "java/lang/Object", name := "<init>", desc := "()V" } : Jvm.MethodName)).before a0 Z = true := hw _ (List.mem_of_getElem? (i := 51) rfl)
theorem d11_4 : decode prog_112_method_1_code 4 = .ok (.aload_n 0, 1) := by decide +kernel
theorem d11_5 : decode prog_112_method_1_code 5 = .ok (.aload_n 1, 1) := by decide +kernel
theorem d11_6 : decode prog_112_method_1_code 6 = .ok (.putfield 7, 3) := by decide +kernel
theorem wd_52 {a0 : Array Value} {Z : State} (hw : ∀ d ∈ tables_1, d.before a0 Z = true) : (Jvm.Cond.fieldLink "com/example/kawi/kawi/xml/Attributes" (7 : Nat) "com/example/kawi/kawi/xml/Attributes" "names" "[Ljava/lang/String;").before a0 Z = true := hw _ (List.mem_of_getElem? (i := 52) rfl)
theorem wd_53 {a0 : Array Value} {Z : State} (hw : ∀ d ∈ tables_1, d.before a0 Z = true) : (Jvm.Cond.laysFinal "com/example/kawi/kawi/xml/Attributes" "com/example/kawi/kawi/xml/Attributes" "names" "[Ljava/lang/String;").before a0 Z = true := hw _ (List.mem_of_getElem? (i := 53) rfl)
theorem wd_46 {a0 : Array Value} {Z : State} (hw : ∀ d ∈ tables_1, d.before a0 Z = true) : (Jvm.Cond.instantiable "com/example/kawi/kawi/xml/Attributes" (3 : Nat)).before a0 Z = true := hw _ (List.mem_of_getElem? (i := 46) rfl)
theorem d11_9 : decode prog_112_method_1_code 9 = .ok (.aload_n 0, 1) := by decide +kernel
theorem d11_10 : decode prog_112_method_1_code 10 = .ok (.aload_n 2, 1) := by decide +kernel
theorem d11_11 : decode prog_112_method_1_code 11 = .ok (.putfield 13, 3) := by decide +kernel
theorem wd_54 {a0 : Array Value} {Z : State} (hw : ∀ d ∈ tables_1, d.before a0 Z = true) : (Jvm.Cond.fieldLink "com/example/kawi/kawi/xml/Attributes" (13 : Nat) "com/example/kawi/kawi/xml/Attributes" "values" "[Ljava/lang/String;").before a0 Z = true := hw _ (List.mem_of_getElem? (i := 54) rfl)
theorem wd_55 {a0 : Array Value} {Z : State} (hw : ∀ d ∈ tables_1, d.before a0 Z = true) : (Jvm.Cond.laysFinal "com/example/kawi/kawi/xml/Attributes" "com/example/kawi/kawi/xml/Attributes" "values" "[Ljava/lang/String;").before a0 Z = true := hw _ (List.mem_of_getElem? (i := 55) rfl)
theorem d11_14 : decode prog_112_method_1_code 14 = .ok (.aload_n 0, 1) := by decide +kernel
theorem d11_15 : decode prog_112_method_1_code 15 = .ok (.iload_n 3, 1) := by decide +kernel
theorem d11_16 : decode prog_112_method_1_code 16 = .ok (.putfield 16, 3) := by decide +kernel
theorem wd_56 {a0 : Array Value} {Z : State} (hw : ∀ d ∈ tables_1, d.before a0 Z = true) : (Jvm.Cond.fieldLink "com/example/kawi/kawi/xml/Attributes" (16 : Nat) "com/example/kawi/kawi/xml/Attributes" "size" "I").before a0 Z = true := hw _ (List.mem_of_getElem? (i := 56) rfl)
theorem wd_57 {a0 : Array Value} {Z : State} (hw : ∀ d ∈ tables_1, d.before a0 Z = true) : (Jvm.Cond.laysFinal "com/example/kawi/kawi/xml/Attributes" "com/example/kawi/kawi/xml/Attributes" "size" "I").before a0 Z = true := hw _ (List.mem_of_getElem? (i := 57) rfl)
theorem d11_19 : decode prog_112_method_1_code 19 = .ok (.return_, 1) := by decide +kernel
theorem ef_11 (m : MethodId) (x0 : Addr) (x1 : Addr) (x2 : Addr) (x3 : Int32) : entryFrame m #[(.ref x0), (.ref x1), (.ref x2), (.int x3)] 4 = mkF m 0 #[.val (.ref x0), .val (.ref x1), .val (.ref x2), .val (.int x3)] [] := by first | (simp [entryFrame, mkF, argsToLocals, Value.category]; done) | rfl
theorem pn_com_example_kawi_kawi_xml_Attributes : plainName "com/example/kawi/kawi/xml/Attributes" = true := by first | (simp [plainName, overriddenIn]; done) | decide +kernel
def Q_rm11 (Z : State) (a1 : Addr) (a2 : Addr) (a3 : Addr) (p4 : Int32) (u1 : Value) (u2 : Value) (u3 : Value) (h0 : Heap) (n0 : Nat) (v : Option Value) (h : Heap) (L : List Loc) : Prop := v = none ∧ Fr n0 L ∧ Keep h0 h [a1] ∧ (Fld Z h a1 "com/example/kawi/kawi/xml/Attributes" "names" "[Ljava/lang/String;" (.ref a2)) ∧ (Fld Z h a1 "com/example/kawi/kawi/xml/Attributes" "values" "[Ljava/lang/String;" (.ref a3)) ∧ (Fld Z h a1 "com/example/kawi/kawi/xml/Attributes" "size" "I" (.int p4))
set_option maxRecDepth 65536 in
set_option maxHeartbeats 40000000 in
theorem rm11 (l : Launch) (Z : State) (a0 : Array Value) (hw : ∀ d ∈ tables_1, d.before a0 Z = true) (ws : List Jvm.Cond) (a1 : Addr) (a2 : Addr) (a3 : Addr) (p4 : Int32) (u1 : Value) (u2 : Value) (u3 : Value) (h0 : Heap) (n0 : Nat) (Z0 : n0 ≤ h0.size) (F_names_a1 : Fld Z h0 a1 "com/example/kawi/kawi/xml/Attributes" "names" "[Ljava/lang/String;" u1) (F_values_a1 : Fld Z h0 a1 "com/example/kawi/kawi/xml/Attributes" "values" "[Ljava/lang/String;" u2) (F_size_a1 : Fld Z h0 a1 "com/example/kawi/kawi/xml/Attributes" "size" "I" u3) (E_a1 : Exa Z h0 a1 "com/example/kawi/kawi/xml/Attributes") (g_a1 : n0 ≤ a1) :
    MetFree l (⟨"com/example/kawi/kawi/xml/Attributes", "<init>", "([Ljava/lang/String;[Ljava/lang/String;I)V"⟩ : MethodName) (head1 (Jvm.Cond.code (⟨"com/example/kawi/kawi/xml/Attributes", "<init>", "([Ljava/lang/String;[Ljava/lang/String;I)V"⟩ : MethodName) prog_112_method_1_code 4 none :: ws) ({ frames := 1, cells := 0, slots := 0, locals := 12 } : Room)) (fun a U => a = #[(.ref a1), (.ref a2), (.ref a3), (.int p4)] ∧ Z.Warmed39 U.vm ∧ U.heap = h0) (fun _ _ _ _ _ => True) (fun _ U o U' => ∃ v L, o = .returned v ∧ Q_rm11 Z a1 a2 a3 p4 u1 u2 u3 h0 n0 v U'.heap L ∧ FrameEnd U o U' L ({ frames := 1, cells := 0, slots := 0, locals := 12 } : Room).cells ({ frames := 1, cells := 0, slots := 0, locals := 12 } : Room).slots) := by
  refine MetFree.of_bodySF (plainFor_of_name pn_com_example_kawi_kawi_xml_Attributes) hisR ?_
  intro p e s m args below meth c s₁ Bd hml0 hP hK
  obtain ⟨rfl, hZ, hh⟩ := hP
  have hx := Bd.exec
  have hby := Bd.bytes
  have hml : c.maxLocals = 4 := hml0
  have hown : s.vm.findClass "com/example/kawi/kawi/xml/Attributes" = some m.cls := findClass_of_methodNamed Bd.named
  have hnm := (name_of_methodNamed Bd.named Bd.method).1
  have X0 : Stand p l e ({ frames := 1, cells := 0, slots := 0, locals := 12 } : Room) s m #[(.ref a1), (.ref a2), (.ref a3), (.int p4)] below meth c s₁ [] 0 0 := Stand.of_body Bd
  have e0 : s₁.heap = h0 := by rw [← hh, Bd.state]; rfl
  have N0 := Fr.nil n0
  have pre0 : ∀ t, Steps p.tables e below (s₁.setTop (mkF m 0 #[.val (.ref a1), .val (.ref a2), .val (.ref a3), .val (.int p4)] [])) t → Steps p.tables e below (s₁.setTop (entryFrame m #[(.ref a1), (.ref a2), (.ref a3), (.int p4)] 4)) t := fun t k => castTop (ef_11 m a1 a2 a3 p4) k
  obtain ⟨T97, X97, e97, st97⟩ := initO X0 hx hZ hown (wd_51 hw) (wd_20 hw) (wd_21 hw) e0 (g := (mkF m 1 #[.val (.ref a1), .val (.ref a2), .val (.ref a3), .val (.int p4)] [(.ref a1)])) rfl (by rw [hml]; rfl) rfl (hb hby d11_1) (by decide) (W := 0) (by show 2 * 0 + _ ≤ _; exact Nat.le_of_eq rfl) (by decide)
  obtain ⟨T98, h98, X98, e98, W98, st98⟩ := putF X97 hx hZ hown (host := "") (Or.inl (wd_52 hw)) Via.refl e97 F_names_a1 E_a1 (Or.inr ⟨(wd_53 hw), rfl, hnm⟩) (wd_46 hw) (ty := (.array (.object "java/lang/String"))) (by decide) rfl rfl (g := (mkF m 6 #[.val (.ref a1), .val (.ref a2), .val (.ref a3), .val (.int p4)] [(.ref a2), (.ref a1)])) rfl rfl (hb hby d11_6)
  have Fw98 := F_names_a1.same W98
  have Z99 : n0 ≤ h98.size := Nat.le_trans Z0 (Keep.of_wr W98).1
  have K100 : Keep h0 h98 [a1] := Keep.wr (Keep.refl h0 [a1]) W98 (Or.inl (List.mem_of_getElem? (i := 0) rfl))
  have N98 := Fr.snoc X98 N0 g_a1
  obtain ⟨T101, h101, X101, e101, W101, st101⟩ := putF X98 hx hZ hown (host := "") (Or.inl (wd_54 hw)) Via.refl e98 (F_values_a1.other W98 (Or.inr (slot_ne (Or.inr (wd_55 hw)) (Or.inr (wd_53 hw)) (by decide) (t := (.array (.object "java/lang/String"))) (t' := (.array (.object "java/lang/String"))) (by decide) (by decide)))) (E_a1.wr W98) (Or.inr ⟨(wd_55 hw), rfl, hnm⟩) (wd_46 hw) (ty := (.array (.object "java/lang/String"))) (by decide) rfl rfl (g := (mkF m 11 #[.val (.ref a1), .val (.ref a2), .val (.ref a3), .val (.int p4)] [(.ref a3), (.ref a1)])) rfl rfl (hb hby d11_11)
  have Fw101 := (F_values_a1.other W98 (Or.inr (slot_ne (Or.inr (wd_55 hw)) (Or.inr (wd_53 hw)) (by decide) (t := (.array (.object "java/lang/String"))) (t' := (.array (.object "java/lang/String"))) (by decide) (by decide)))).same W101
  have Z102 : n0 ≤ h101.size := Nat.le_trans Z99 (Keep.of_wr W101).1
  have K103 : Keep h0 h101 [a1] := Keep.wr K100 W101 (Or.inl (List.mem_of_getElem? (i := 0) rfl))
  have N101 := Fr.snoc X101 N98 g_a1
  obtain ⟨T104, h104, X104, e104, W104, st104⟩ := putF X101 hx hZ hown (host := "") (Or.inl (wd_56 hw)) Via.refl e101 ((F_size_a1.other W98 (Or.inr (slot_ne (Or.inr (wd_57 hw)) (Or.inr (wd_53 hw)) (by decide) (t := .int) (t' := (.array (.object "java/lang/String"))) (by decide) (by decide)))).other W101 (Or.inr (slot_ne (Or.inr (wd_57 hw)) (Or.inr (wd_55 hw)) (by decide) (t := .int) (t' := (.array (.object "java/lang/String"))) (by decide) (by decide)))) ((E_a1.wr W98).wr W101) (Or.inr ⟨(wd_57 hw), rfl, hnm⟩) (wd_46 hw) (ty := .int) (by decide) rfl rfl (g := (mkF m 16 #[.val (.ref a1), .val (.ref a2), .val (.ref a3), .val (.int p4)] [(.int p4), (.ref a1)])) rfl rfl (hb hby d11_16)
  have Fw104 := ((F_size_a1.other W98 (Or.inr (slot_ne (Or.inr (wd_57 hw)) (Or.inr (wd_53 hw)) (by decide) (t := .int) (t' := (.array (.object "java/lang/String"))) (by decide) (by decide)))).other W101 (Or.inr (slot_ne (Or.inr (wd_57 hw)) (Or.inr (wd_55 hw)) (by decide) (t := .int) (t' := (.array (.object "java/lang/String"))) (by decide) (by decide)))).same W104
  have Z105 : n0 ≤ h104.size := Nat.le_trans Z102 (Keep.of_wr W104).1
  have K106 : Keep h0 h104 [a1] := Keep.wr K103 W104 (Or.inl (List.mem_of_getElem? (i := 0) rfl))
  have N104 := Fr.snoc X104 N101 g_a1
  obtain ⟨fs, hr, hrun, hended, hW, hsame⟩ := X104.leave (v := none) (fun _ => rfl)
  refine ⟨_, _, pre0 _ ?_, hrun, hended, _, _, rfl, ?_, ⟨_, rfl⟩, hW, hsame.mono (by decide) (by decide)⟩
  · show Steps p.tables e below (s₁.setTop (mkF m 0 #[.val (.ref a1), .val (.ref a2), .val (.ref a3), .val (.int p4)] [])) _
    refine XS.aloadN X0.here hx rfl (hb hby d11_0) rfl rfl ?_
    refine st97 _ ?_
    refine XS.aloadN X97.here hx rfl (hb hby d11_4) rfl rfl ?_
    refine XS.aloadN X97.here hx rfl (hb hby d11_5) rfl rfl ?_
    show Steps p.tables e below (T97.setTop (mkF m 6 #[.val (.ref a1), .val (.ref a2), .val (.ref a3), .val (.int p4)] [(.ref a2), (.ref a1)])) _
    refine st98 _ ?_
    refine XS.aloadN X98.here hx rfl (hb hby d11_9) rfl rfl ?_
    refine XS.aloadN X98.here hx rfl (hb hby d11_10) rfl rfl ?_
    refine st101 _ ?_
    show Steps p.tables e below (T101.setTop (mkF m 14 #[.val (.ref a1), .val (.ref a2), .val (.ref a3), .val (.int p4)] [])) _
    refine XS.aloadN X101.here hx rfl (hb hby d11_14) rfl rfl ?_
    refine XS.iloadN X101.here hx rfl (hb hby d11_15) rfl ?_
    refine st104 _ ?_
    exact X104.returnOut hx Bd.returns (hb hby d11_19) hr
  · show Q_rm11 Z a1 a2 a3 p4 u1 u2 u3 h0 n0 _ T104.heap _
    rw [e104]
    exact ⟨rfl, N104, K106, ((Fw98.other W101 (Or.inr (slot_ne (Or.inr (wd_53 hw)) (Or.inr (wd_55 hw)) (by decide) (t := (.array (.object "java/lang/String"))) (t' := (.array (.object "java/lang/String"))) (by decide) (by decide)))).other W104 (Or.inr (slot_ne (Or.inr (wd_53 hw)) (Or.inr (wd_57 hw)) (by decide) (t := (.array (.object "java/lang/String"))) (t' := .int) (by decide) (by decide)))), (Fw101.other W104 (Or.inr (slot_ne (Or.inr (wd_55 hw)) (Or.inr (wd_57 hw)) (by decide) (t := (.array (.object "java/lang/String"))) (t' := .int) (by decide) (by decide)))), Fw104⟩
theorem wd_0 {a0 : Array Value} {Z : State} (hw : ∀ d ∈ tables_1, d.before a0 Z = true) : (Jvm.Cond.methodLink "com/example/kawi/kawi/xml/AttributesGetOrDefaultPinLaw" (7 : Nat) ({ cls := "java/lang/String", name := "valueOf", desc := "(C)Ljava/lang/String;" } : Jvm.MethodName)).before a0 Z = true := hw _ (List.mem_of_getElem? (i := 0) rfl)
theorem wd_3 {a0 : Array Value} {Z : State} (hw : ∀ d ∈ tables_1, d.before a0 Z = true) : (Jvm.Cond.code ({ cls := "java/lang/String", name := "valueOf", desc := "(C)Ljava/lang/String;" } : Jvm.MethodName) jdk_42_method_139_code (1 : Nat) (Option.some (Jvm.ClassFile.FieldType.object "java/lang/String"))).before a0 Z = true := hw _ (List.mem_of_getElem? (i := 3) rfl)
theorem pd__C_Ljava_lang_String_ : parseMethodDescriptor "(C)Ljava/lang/String;" = some ⟨[.char], some (.object "java/lang/String")⟩ := by decide +kernel
theorem wd_1 {a0 : Array Value} {Z : State} (hw : ∀ d ∈ tables_1, d.before a0 Z = true) : (Jvm.Cond.static ({ cls := "java/lang/String", name := "valueOf", desc := "(C)Ljava/lang/String;" } : Jvm.MethodName)).before a0 Z = true := hw _ (List.mem_of_getElem? (i := 1) rfl)
theorem wd_26 {a0 : Array Value} {Z : State} (hw : ∀ d ∈ tables_1, d.before a0 Z = true) : (Jvm.Cond.classLink "com/example/kawi/kawi/xml/AttributesGetOrDefaultPinLaw" (8 : Nat) "java/lang/String").before a0 Z = true := hw _ (List.mem_of_getElem? (i := 26) rfl)
theorem wd_27 {a0 : Array Value} {Z : State} (hw : ∀ d ∈ tables_1, d.before a0 Z = true) : (Jvm.Cond.arrayClass Jvm.ClassFile.FieldType.char).before a0 Z = true := hw _ (List.mem_of_getElem? (i := 27) rfl)
theorem wd_28 {a0 : Array Value} {Z : State} (hw : ∀ d ∈ tables_1, d.before a0 Z = true) : (Jvm.Cond.methodLink "com/example/kawi/kawi/xml/AttributesGetOrDefaultPinLaw" (13 : Nat) ({ cls := "java/lang/String", name := "<init>", desc := "([C)V" } : Jvm.MethodName)).before a0 Z = true := hw _ (List.mem_of_getElem? (i := 28) rfl)
theorem wd_30 {a0 : Array Value} {Z : State} (hw : ∀ d ∈ tables_1, d.before a0 Z = true) : (Jvm.Cond.code ({ cls := "java/lang/String", name := "<init>", desc := "([C)V" } : Jvm.MethodName) jdk_42_method_3_code (2 : Nat) (Option.none : Option Jvm.ClassFile.FieldType)).before a0 Z = true := hw _ (List.mem_of_getElem? (i := 30) rfl)
theorem pd___C_V : parseMethodDescriptor "([C)V" = some ⟨[(.array .char)], none⟩ := by decide +kernel
theorem wd_29 {a0 : Array Value} {Z : State} (hw : ∀ d ∈ tables_1, d.before a0 Z = true) : (Jvm.Cond.instanceMethod ({ cls := "java/lang/String", name := "<init>", desc := "([C)V" } : Jvm.MethodName)).before a0 Z = true := hw _ (List.mem_of_getElem? (i := 29) rfl)
theorem wd_44 {a0 : Array Value} {Z : State} (hw : ∀ d ∈ tables_1, d.before a0 Z = true) : (Jvm.Cond.arrayOver (Jvm.ClassFile.FieldType.object "java/lang/String")).before a0 Z = true := hw _ (List.mem_of_getElem? (i := 44) rfl)
theorem wd_45 {a0 : Array Value} {Z : State} (hw : ∀ d ∈ tables_1, d.before a0 Z = true) : (Jvm.Cond.classLink "com/example/kawi/kawi/xml/AttributesGetOrDefaultPinLaw" (16 : Nat) "com/example/kawi/kawi/xml/Attributes").before a0 Z = true := hw _ (List.mem_of_getElem? (i := 45) rfl)
theorem wd_47 {a0 : Array Value} {Z : State} (hw : ∀ d ∈ tables_1, d.before a0 Z = true) : (Jvm.Cond.initialized "com/example/kawi/kawi/xml/Attributes").before a0 Z = true := hw _ (List.mem_of_getElem? (i := 47) rfl)
theorem wd_48 {a0 : Array Value} {Z : State} (hw : ∀ d ∈ tables_1, d.before a0 Z = true) : (Jvm.Cond.methodLink "com/example/kawi/kawi/xml/AttributesGetOrDefaultPinLaw" (18 : Nat) ({ cls := "com/example/kawi/kawi/xml/Attributes", name := "<init>", desc := "([Ljava/lang/String;[Ljava/lang/String;I)V" } : Jvm.MethodName)).before a0 Z = true := hw _ (List.mem_of_getElem? (i := 48) rfl)
theorem wd_50 {a0 : Array Value} {Z : State} (hw : ∀ d ∈ tables_1, d.before a0 Z = true) : (Jvm.Cond.code ({ cls := "com/example/kawi/kawi/xml/Attributes", name := "<init>", desc := "([Ljava/lang/String;[Ljava/lang/String;I)V" } : Jvm.MethodName) prog_112_method_1_code (4 : Nat) (Option.none : Option Jvm.ClassFile.FieldType)).before a0 Z = true := hw _ (List.mem_of_getElem? (i := 50) rfl)
theorem pd___Ljava_lang_String__Ljava_lang_String_I_V : parseMethodDescriptor "([Ljava/lang/String;[Ljava/lang/String;I)V" = some ⟨[(.array (.object "java/lang/String")), (.array (.object "java/lang/String")), .int], none⟩ := by decide +kernel
theorem wd_49 {a0 : Array Value} {Z : State} (hw : ∀ d ∈ tables_1, d.before a0 Z = true) : (Jvm.Cond.instanceMethod ({ cls := "com/example/kawi/kawi/xml/Attributes", name := "<init>", desc := "([Ljava/lang/String;[Ljava/lang/String;I)V" } : Jvm.MethodName)).before a0 Z = true := hw _ (List.mem_of_getElem? (i := 49) rfl)
theorem d14_0 : decode prog_112_method_5_code 0 = .ok (.iconst 0, 1) := by decide +kernel
theorem d14_1 : decode prog_112_method_5_code 1 = .ok (.istore_n 3, 1) := by decide +kernel
theorem d14_2 : decode prog_112_method_5_code 2 = .ok (.iload_n 3, 1) := by decide +kernel
theorem d14_3 : decode prog_112_method_5_code 3 = .ok (.aload_n 0, 1) := by decide +kernel
theorem d14_4 : decode prog_112_method_5_code 4 = .ok (.getfield 16, 3) := by decide +kernel
theorem d14_7 : decode prog_112_method_5_code 7 = .ok (.if_icmp .ge 29, 3) := by decide +kernel
theorem d14_36 : decode prog_112_method_5_code 36 = .ok (.aload_n 2, 1) := by decide +kernel
theorem d14_37 : decode prog_112_method_5_code 37 = .ok (.areturn, 1) := by decide +kernel
theorem ef_14 (m : MethodId) (x0 : Addr) (x1 : Addr) (x2 : Addr) : entryFrame m #[(.ref x0), (.ref x1), (.ref x2)] 4 = mkF m 0 #[.val (.ref x0), .val (.ref x1), .val (.ref x2), .unset] [] := by first | (simp [entryFrame, mkF, argsToLocals, Value.category]; done) | rfl
def Q_rmg0x1 (Z : State) (a1 : Addr) (a2 : Addr) (a3 : Addr) (nm : Addr) (vl : Addr) (kn : ClassId) (kv : ClassId) (s0 : Addr) (s1 : Addr) (s2 : Addr) (v0 : Addr) (v1 : Addr) (v2 : Addr) (y0 : Int32) (tq : Addr) (kq : ClassId) (wz : Int32) (h0 : Heap) (n0 : Nat) (v : Option Value) (h : Heap) (L : List Loc) : Prop := v = some (.ref a3) ∧ Fr n0 L ∧ h = h0
set_option maxRecDepth 65536 in
set_option maxHeartbeats 40000000 in
theorem rmg0x1 (l : Launch) (Z : State) (a0 : Array Value) (hw : ∀ d ∈ tables_1, d.before a0 Z = true) (ws : List Jvm.Cond) (a1 : Addr) (a2 : Addr) (a3 : Addr) (nm : Addr) (vl : Addr) (kn : ClassId) (kv : ClassId) (s0 : Addr) (s1 : Addr) (s2 : Addr) (v0 : Addr) (v1 : Addr) (v2 : Addr) (y0 : Int32) (tq : Addr) (kq : ClassId) (wz : Int32) (h0 : Heap) (n0 : Nat) (Z0 : n0 ≤ h0.size) (F_names_a1 : Fld Z h0 a1 "com/example/kawi/kawi/xml/Attributes" "names" "[Ljava/lang/String;" (.ref nm)) (F_values_a1 : Fld Z h0 a1 "com/example/kawi/kawi/xml/Attributes" "values" "[Ljava/lang/String;" (.ref vl)) (F_size_a1 : Fld Z h0 a1 "com/example/kawi/kawi/xml/Attributes" "size" "I" (.int (0 : Int32))) (V_nm : Arv Z h0 nm kn (.object "java/lang/String") (3 : Int32) [(.ref s0), (.ref s1), (.ref s2)] .null) (V_vl : Arv Z h0 vl kv (.object "java/lang/String") (3 : Int32) [(.ref v0), (.ref v1), (.ref v2)] .null) (E_a2 : Exa Z h0 a2 "java/lang/String") (F_value_a2 : Fld Z h0 a2 "java/lang/String" "value" "[B" (.ref tq)) (F_coder_a2 : Fld Z h0 a2 "java/lang/String" "coder" "B" (.int (0 : Int32))) (V_tq : Arv Z h0 tq kq .byte (1 : Int32) [(.int y0)] (.int (0 : Int32))) (Old0 : Old Z n0 h0) (S_COMPACT_STRINGS : Sta Z Z.heap "java/lang/String" "COMPACT_STRINGS" "Z" (.int wz)) (hz : ¬ (wz = (0 : Int32))) :
    MetFree l (⟨"com/example/kawi/kawi/xml/Attributes", "getOrDefault", "(Ljava/lang/String;Ljava/lang/String;)Ljava/lang/String;"⟩ : MethodName) (head1 (Jvm.Cond.code (⟨"com/example/kawi/kawi/xml/Attributes", "getOrDefault", "(Ljava/lang/String;Ljava/lang/String;)Ljava/lang/String;"⟩ : MethodName) prog_112_method_5_code 4 (some (.object "java/lang/String")) :: ws) ({ frames := 0, cells := 0, slots := 0, locals := 0 } : Room)) (fun a U => a = #[(.ref a1), (.ref a2), (.ref a3)] ∧ Z.Warmed39 U.vm ∧ U.heap = h0) (fun _ _ _ _ _ => True) (fun _ U o U' => ∃ v L, o = .returned v ∧ Q_rmg0x1 Z a1 a2 a3 nm vl kn kv s0 s1 s2 v0 v1 v2 y0 tq kq wz h0 n0 v U'.heap L ∧ FrameEnd U o U' L ({ frames := 0, cells := 0, slots := 0, locals := 0 } : Room).cells ({ frames := 0, cells := 0, slots := 0, locals := 0 } : Room).slots) := by
  refine MetFree.of_bodySF (plainFor_of_name pn_com_example_kawi_kawi_xml_Attributes) hisR ?_
  intro p e s m args below meth c s₁ Bd hml0 hP hK
  obtain ⟨rfl, hZ, hh⟩ := hP
  have hx := Bd.exec
  have hby := Bd.bytes
  have hml : c.maxLocals = 4 := hml0
  have hown : s.vm.findClass "com/example/kawi/kawi/xml/Attributes" = some m.cls := findClass_of_methodNamed Bd.named
  have hnm := (name_of_methodNamed Bd.named Bd.method).1
  have X0 : Stand p l e ({ frames := 0, cells := 0, slots := 0, locals := 0 } : Room) s m #[(.ref a1), (.ref a2), (.ref a3)] below meth c s₁ [] 0 0 := Stand.of_body Bd
  have e0 : s₁.heap = h0 := by rw [← hh, Bd.state]; rfl
  have N0 := Fr.nil n0
  have pre0 : ∀ t, Steps p.tables e below (s₁.setTop (mkF m 0 #[.val (.ref a1), .val (.ref a2), .val (.ref a3), .unset] [])) t → Steps p.tables e below (s₁.setTop (entryFrame m #[(.ref a1), (.ref a2), (.ref a3)] 4)) t := fun t k => castTop (ef_14 m a1 a2 a3) k
  obtain ⟨T248, X248, e248, st248⟩ := getF X0 hx hZ hown (host := "") (Or.inl (wd_56 hw)) Via.refl e0 F_size_a1 (g := (mkF m 4 #[.val (.ref a1), .val (.ref a2), .val (.ref a3), .val (.int (0 : Int32))] [(.ref a1), (.int (0 : Int32))])) rfl rfl (hb hby d14_4)
  obtain ⟨fs, hr, hrun, hended, hW, hsame⟩ := X248.leave (v := some (.ref a3)) (fun h => by rw [Bd.returns] at h; cases h)
  refine ⟨_, _, pre0 _ ?_, hrun, hended, _, _, rfl, ?_, ⟨_, rfl⟩, hW, hsame.mono (by decide) (by decide)⟩
  · show Steps p.tables e below (s₁.setTop (mkF m 0 #[.val (.ref a1), .val (.ref a2), .val (.ref a3), .unset] [])) _
    refine XS.iconst X0.here hx rfl (hb hby d14_0) ?_
    refine XS.istoreN X0.here hx rfl (hb hby d14_1) rfl (l' := #[.val (.ref a1), .val (.ref a2), .val (.ref a3), .val (.int (0 : Int32))]) rfl ?_
    refine XS.iloadN X0.here hx rfl (hb hby d14_2) rfl ?_
    refine XS.aloadN X0.here hx rfl (hb hby d14_3) rfl rfl ?_
    refine st248 _ ?_
    refine XS.icmpYes X248.here hx rfl (pc0 := 7) (pc' := 36) rfl (hb hby d14_7) rfl (flt (by decide)).2.1 (by decide) (by decide) ?_
    refine XS.aloadN X248.here hx rfl (hb hby d14_36) rfl rfl ?_
    exact X248.areturnOut hx rfl Bd.returns rfl (hb hby d14_37) hr
  · show Q_rmg0x1 Z a1 a2 a3 nm vl kn kv s0 s1 s2 v0 v1 v2 y0 tq kq wz h0 n0 _ T248.heap _
    rw [e248]
    exact ⟨rfl, N0, rfl⟩
theorem wd_66 {a0 : Array Value} {Z : State} (hw : ∀ d ∈ tables_1, d.before a0 Z = true) : (Jvm.Cond.methodLink "com/example/kawi/kawi/xml/AttributesGetOrDefaultPinLaw" (25 : Nat) ({ cls := "com/example/kawi/kawi/xml/Attributes", name := "getOrDefault", desc := "(Ljava/lang/String;Ljava/lang/String;)Ljava/lang/String;" } : Jvm.MethodName)).before a0 Z = true := hw _ (List.mem_of_getElem? (i := 66) rfl)
theorem wd_70 {a0 : Array Value} {Z : State} (hw : ∀ d ∈ tables_1, d.before a0 Z = true) : (Jvm.Cond.code ({ cls := "com/example/kawi/kawi/xml/Attributes", name := "getOrDefault", desc := "(Ljava/lang/String;Ljava/lang/String;)Ljava/lang/String;" } : Jvm.MethodName) prog_112_method_5_code (4 : Nat) (Option.some (Jvm.ClassFile.FieldType.object "java/lang/String"))).before a0 Z = true := hw _ (List.mem_of_getElem? (i := 70) rfl)
theorem pd__Ljava_lang_String_Ljava_lang_String__Ljava_lang_String_ : parseMethodDescriptor "(Ljava/lang/String;Ljava/lang/String;)Ljava/lang/String;" = some ⟨[(.object "java/lang/String"), (.object "java/lang/String")], some (.object "java/lang/String")⟩ := by decide +kernel
theorem wd_69 {a0 : Array Value} {Z : State} (hw : ∀ d ∈ tables_1, d.before a0 Z = true) : (Jvm.Cond.selects "com/example/kawi/kawi/xml/Attributes" ({ cls := "com/example/kawi/kawi/xml/Attributes", name := "getOrDefault", desc := "(Ljava/lang/String;Ljava/lang/String;)Ljava/lang/String;" } : Jvm.MethodName) ({ cls := "com/example/kawi/kawi/xml/Attributes", name := "getOrDefault", desc := "(Ljava/lang/String;Ljava/lang/String;)Ljava/lang/String;" } : Jvm.MethodName)).before a0 Z = true := hw _ (List.mem_of_getElem? (i := 69) rfl)
theorem wd_67 {a0 : Array Value} {Z : State} (hw : ∀ d ∈ tables_1, d.before a0 Z = true) : (Jvm.Cond.declares ({ cls := "com/example/kawi/kawi/xml/Attributes", name := "getOrDefault", desc := "(Ljava/lang/String;Ljava/lang/String;)Ljava/lang/String;" } : Jvm.MethodName)).before a0 Z = true := hw _ (List.mem_of_getElem? (i := 67) rfl)
theorem wd_68 {a0 : Array Value} {Z : State} (hw : ∀ d ∈ tables_1, d.before a0 Z = true) : (Jvm.Cond.instanceMethod ({ cls := "com/example/kawi/kawi/xml/Attributes", name := "getOrDefault", desc := "(Ljava/lang/String;Ljava/lang/String;)Ljava/lang/String;" } : Jvm.MethodName)).before a0 Z = true := hw _ (List.mem_of_getElem? (i := 68) rfl)
theorem d13_0 : decode jdk_43_method_13_code 0 = .ok (.aload_n 0, 1) := by decide +kernel
theorem d13_1 : decode jdk_43_method_13_code 1 = .ok (.arraylength, 1) := by decide +kernel
theorem d13_2 : decode jdk_43_method_13_code 2 = .ok (.aload_n 1, 1) := by decide +kernel
theorem d13_3 : decode jdk_43_method_13_code 3 = .ok (.arraylength, 1) := by decide +kernel
theorem d13_4 : decode jdk_43_method_13_code 4 = .ok (.if_icmp .ne 30, 3) := by decide +kernel
theorem d13_7 : decode jdk_43_method_13_code 7 = .ok (.iconst 0, 1) := by decide +kernel
theorem d13_8 : decode jdk_43_method_13_code 8 = .ok (.istore_n 2, 1) := by decide +kernel
theorem d13_9 : decode jdk_43_method_13_code 9 = .ok (.iload_n 2, 1) := by decide +kernel
theorem d13_10 : decode jdk_43_method_13_code 10 = .ok (.aload_n 0, 1) := by decide +kernel
theorem d13_11 : decode jdk_43_method_13_code 11 = .ok (.arraylength, 1) := by decide +kernel
theorem d13_12 : decode jdk_43_method_13_code 12 = .ok (.if_icmp .ge 20, 3) := by decide +kernel
theorem d13_15 : decode jdk_43_method_13_code 15 = .ok (.aload_n 0, 1) := by decide +kernel
theorem d13_16 : decode jdk_43_method_13_code 16 = .ok (.iload_n 2, 1) := by decide +kernel
theorem d13_17 : decode jdk_43_method_13_code 17 = .ok (.baload, 1) := by decide +kernel
theorem d13_18 : decode jdk_43_method_13_code 18 = .ok (.aload_n 1, 1) := by decide +kernel
theorem d13_19 : decode jdk_43_method_13_code 19 = .ok (.iload_n 2, 1) := by decide +kernel
theorem d13_20 : decode jdk_43_method_13_code 20 = .ok (.baload, 1) := by decide +kernel
theorem d13_21 : decode jdk_43_method_13_code 21 = .ok (.if_icmp .eq 5, 3) := by decide +kernel
theorem d13_26 : decode jdk_43_method_13_code 26 = .ok (.iinc 2 1, 3) := by decide +kernel
theorem d13_29 : decode jdk_43_method_13_code 29 = .ok (.goto (-20), 3) := by decide +kernel
theorem d13_32 : decode jdk_43_method_13_code 32 = .ok (.iconst 1, 1) := by decide +kernel
theorem d13_33 : decode jdk_43_method_13_code 33 = .ok (.ireturn, 1) := by decide +kernel
theorem ef_13 (m : MethodId) (x0 : Addr) (x1 : Addr) : entryFrame m #[(.ref x0), (.ref x1)] 3 = mkF m 0 #[.val (.ref x0), .val (.ref x1), .unset] [] := by first | (simp [entryFrame, mkF, argsToLocals, Value.category]; done) | rfl
def Q_rmle11eq (Z : State) (a1 : Addr) (a2 : Addr) (k1 : ClassId) (k2 : ClassId) (x0 : Int32) (y0 : Int32) (h0 : Heap) (n0 : Nat) (v : Option Value) (h : Heap) (L : List Loc) : Prop := v = some (.int (1 : Int32)) ∧ Fr n0 L ∧ h = h0
set_option maxRecDepth 65536 in
set_option maxHeartbeats 40000000 in
theorem rmle11eq (l : Launch) (Z : State) (a0 : Array Value) (hw : ∀ d ∈ tables_1, d.before a0 Z = true) (ws : List Jvm.Cond) (a1 : Addr) (a2 : Addr) (k1 : ClassId) (k2 : ClassId) (x0 : Int32) (y0 : Int32) (h0 : Heap) (n0 : Nat) (Z0 : n0 ≤ h0.size) (V_a1 : Arv Z h0 a1 k1 .byte (1 : Int32) [(.int x0)] (.int (0 : Int32))) (V_a2 : Arv Z h0 a2 k2 .byte (1 : Int32) [(.int y0)] (.int (0 : Int32))) (he0 : x0 = y0) :
    MetFree l (⟨"java/lang/StringLatin1", "equals", "([B[B)Z"⟩ : MethodName) (head1 (Jvm.Cond.code (⟨"java/lang/StringLatin1", "equals", "([B[B)Z"⟩ : MethodName) jdk_43_method_13_code 3 (some .boolean) :: ws) ({ frames := 0, cells := 0, slots := 0, locals := 0 } : Room)) (fun a U => a = #[(.ref a1), (.ref a2)] ∧ Z.Warmed39 U.vm ∧ U.heap = h0) (fun _ _ _ _ _ => True) (fun _ U o U' => ∃ v L, o = .returned v ∧ Q_rmle11eq Z a1 a2 k1 k2 x0 y0 h0 n0 v U'.heap L ∧ FrameEnd U o U' L ({ frames := 0, cells := 0, slots := 0, locals := 0 } : Room).cells ({ frames := 0, cells := 0, slots := 0, locals := 0 } : Room).slots) := by
  refine MetFree.of_bodySF (plainFor_of_name pn_java_lang_StringLatin1) hisR ?_
  intro p e s m args below meth c s₁ Bd hml0 hP hK
  obtain ⟨rfl, hZ, hh⟩ := hP
  have hx := Bd.exec
  have hby := Bd.bytes
  have hml : c.maxLocals = 3 := hml0
  have hown : s.vm.findClass "java/lang/StringLatin1" = some m.cls := findClass_of_methodNamed Bd.named
  have hnm := (name_of_methodNamed Bd.named Bd.method).1
  have X0 : Stand p l e ({ frames := 0, cells := 0, slots := 0, locals := 0 } : Room) s m #[(.ref a1), (.ref a2)] below meth c s₁ [] 0 0 := Stand.of_body Bd
  have e0 : s₁.heap = h0 := by rw [← hh, Bd.state]; rfl
  have N0 := Fr.nil n0
  have pre0 : ∀ t, Steps p.tables e below (s₁.setTop (mkF m 0 #[.val (.ref a1), .val (.ref a2), .unset] [])) t → Steps p.tables e below (s₁.setTop (entryFrame m #[(.ref a1), (.ref a2)] 3)) t := fun t k => castTop (ef_13 m a1 a2) k
  obtain ⟨cl252, Ar252, q252, S252, N252n, H252, G252⟩ := id (V_a1)
  obtain ⟨cl253, Ar253, q253, S253, N253n, H253, G253⟩ := id (V_a2)
  obtain ⟨cl254, Ar254, q254, S254, N254n, H254, G254⟩ := id (V_a1)
  obtain ⟨cl255, Ar255, q255, S255, N255n, H255, G255⟩ := id (V_a1)
  have hin255 : ¬ ((0 : Int32) < 0 ∨ cl255.slots.size ≤ ((0 : Int32)).toNatClampNeg) := inb_of S255 ⟨by decide, by decide⟩
  have hat255 : cl255.slots[((0 : Int32)).toNatClampNeg]? = some (.int x0) := H255.at hin255 rfl
  obtain ⟨cl256, Ar256, q256, S256, N256n, H256, G256⟩ := id (V_a2)
  have hin256 : ¬ ((0 : Int32) < 0 ∨ cl256.slots.size ≤ ((0 : Int32)).toNatClampNeg) := inb_of S256 ⟨by decide, by decide⟩
  have hat256 : cl256.slots[((0 : Int32)).toNatClampNeg]? = some (.int y0) := H256.at hin256 rfl
  obtain ⟨cl257, Ar257, q257, S257, N257n, H257, G257⟩ := id (V_a1)
  obtain ⟨fs, hr, hrun, hended, hW, hsame⟩ := X0.leave (v := some (.int (1 : Int32))) (fun h => by rw [Bd.returns] at h; cases h)
  refine ⟨_, _, pre0 _ ?_, hrun, hended, _, _, rfl, ?_, ⟨_, rfl⟩, hW, hsame.mono (by decide) (by decide)⟩
  · show Steps p.tables e below (s₁.setTop (mkF m 0 #[.val (.ref a1), .val (.ref a2), .unset] [])) _
    refine XS.aloadN X0.here hx rfl (hb hby d13_0) rfl rfl ?_
    refine X0.arraylength hx (by rw [e0]; exact Ar252.1) (State.isArrayOf_alike hZ.alike Ar252.2.1) (g := (mkF m 1 #[.val (.ref a1), .val (.ref a2), .unset] [(.ref a1)])) rfl rfl (hb hby d13_1) _ ?_
    rw [len_of S252 N252n]
    refine XS.aloadN X0.here hx rfl (hb hby d13_2) rfl rfl ?_
    refine X0.arraylength hx (by rw [e0]; exact Ar253.1) (State.isArrayOf_alike hZ.alike Ar253.2.1) (g := (mkF m 3 #[.val (.ref a1), .val (.ref a2), .unset] [(.ref a2), (.int (1 : Int32))])) rfl rfl (hb hby d13_3) _ ?_
    rw [len_of S253 N253n]
    refine XS.icmpNo X0.here hx rfl (hb hby d13_4) rfl (teq (rfl : (1 : Int32) = (1 : Int32))).2 ?_
    refine XS.iconst X0.here hx rfl (hb hby d13_7) ?_
    refine XS.istoreN X0.here hx rfl (hb hby d13_8) rfl (l' := #[.val (.ref a1), .val (.ref a2), .val (.int (0 : Int32))]) rfl ?_
    refine XS.iloadN X0.here hx rfl (hb hby d13_9) rfl ?_
    refine XS.aloadN X0.here hx rfl (hb hby d13_10) rfl rfl ?_
    refine X0.arraylength hx (by rw [e0]; exact Ar254.1) (State.isArrayOf_alike hZ.alike Ar254.2.1) (g := (mkF m 11 #[.val (.ref a1), .val (.ref a2), .val (.int (0 : Int32))] [(.ref a1), (.int (0 : Int32))])) rfl rfl (hb hby d13_11) _ ?_
    rw [len_of S254 N254n]
    show Steps p.tables e below (s₁.setTop (mkF m 12 #[.val (.ref a1), .val (.ref a2), .val (.int (0 : Int32))] [(.int (1 : Int32)), (.int (0 : Int32))])) _
    refine XS.icmpNo X0.here hx rfl (hb hby d13_12) rfl (tlt (by decide)).2.1 ?_
    refine XS.aloadN X0.here hx rfl (hb hby d13_15) rfl rfl ?_
    refine XS.iloadN X0.here hx rfl (hb hby d13_16) rfl ?_
    refine X0.baloadBytes hx (j := (0 : Int32)) (v := (.int x0)) (by rw [e0]; exact Ar255.1) (State.isArrayOf_alike hZ.alike Ar255.2.1) Ar255.2.2 hin255 hat255 (g := (mkF m 17 #[.val (.ref a1), .val (.ref a2), .val (.int (0 : Int32))] [(.int (0 : Int32)), (.ref a1)])) rfl rfl (hb hby d13_17) _ ?_
    refine XS.aloadN X0.here hx rfl (hb hby d13_18) rfl rfl ?_
    refine XS.iloadN X0.here hx rfl (hb hby d13_19) rfl ?_
    refine X0.baloadBytes hx (j := (0 : Int32)) (v := (.int y0)) (by rw [e0]; exact Ar256.1) (State.isArrayOf_alike hZ.alike Ar256.2.1) Ar256.2.2 hin256 hat256 (g := (mkF m 20 #[.val (.ref a1), .val (.ref a2), .val (.int (0 : Int32))] [(.int (0 : Int32)), (.ref a2), (.int x0)])) rfl rfl (hb hby d13_20) _ ?_
    refine XS.icmpYes X0.here hx rfl (pc0 := 21) (pc' := 26) rfl (hb hby d13_21) rfl (teq he0).1 (by decide) (by decide) ?_
    refine XS.iinc X0.here hx rfl (hb hby d13_26) rfl (l' := #[.val (.ref a1), .val (.ref a2), .val (.int (1 : Int32))]) rfl ?_
    refine XS.goto X0.here hx rfl (pc0 := 29) (pc' := 9) rfl (hb hby d13_29) (by decide) (by decide) ?_
    show Steps p.tables e below (s₁.setTop (mkF m 9 #[.val (.ref a1), .val (.ref a2), .val (.int (1 : Int32))] [])) _
    refine XS.iloadN X0.here hx rfl (hb hby d13_9) rfl ?_
    refine XS.aloadN X0.here hx rfl (hb hby d13_10) rfl rfl ?_
    refine X0.arraylength hx (by rw [e0]; exact Ar257.1) (State.isArrayOf_alike hZ.alike Ar257.2.1) (g := (mkF m 11 #[.val (.ref a1), .val (.ref a2), .val (.int (1 : Int32))] [(.ref a1), (.int (1 : Int32))])) rfl rfl (hb hby d13_11) _ ?_
    rw [len_of S257 N257n]
    refine XS.icmpYes X0.here hx rfl (pc0 := 12) (pc' := 32) rfl (hb hby d13_12) rfl (flt (by decide)).2.1 (by decide) (by decide) ?_
    refine XS.iconst X0.here hx rfl (hb hby d13_32) ?_
    exact retN X0 hx (t := .boolean) Bd.returns (by simp) (hb hby d13_33) hr
  · show Q_rmle11eq Z a1 a2 k1 k2 x0 y0 h0 n0 _ s₁.heap _
    rw [e0]
    exact ⟨rfl, N0, rfl⟩
theorem d12_0 : decode jdk_42_method_66_code 0 = .ok (.aload_n 0, 1) := by decide +kernel
theorem d12_1 : decode jdk_42_method_66_code 1 = .ok (.aload_n 1, 1) := by decide +kernel
theorem d12_2 : decode jdk_42_method_66_code 2 = .ok (.if_acmp .ne 5, 3) := by decide +kernel
theorem d12_7 : decode jdk_42_method_66_code 7 = .ok (.aload_n 1, 1) := by decide +kernel
theorem d12_8 : decode jdk_42_method_66_code 8 = .ok (.instanceof 10, 3) := by decide +kernel
theorem d12_11 : decode jdk_42_method_66_code 11 = .ok (.ifCond .eq 43, 3) := by decide +kernel
theorem d12_14 : decode jdk_42_method_66_code 14 = .ok (.aload_n 1, 1) := by decide +kernel
theorem d12_15 : decode jdk_42_method_66_code 15 = .ok (.checkcast 10, 3) := by decide +kernel
theorem d12_18 : decode jdk_42_method_66_code 18 = .ok (.astore_n 2, 1) := by decide +kernel
theorem d12_19 : decode jdk_42_method_66_code 19 = .ok (.getstatic 38, 3) := by decide +kernel
theorem d12_22 : decode jdk_42_method_66_code 22 = .ok (.ifCond .eq 14, 3) := by decide +kernel
theorem d12_25 : decode jdk_42_method_66_code 25 = .ok (.aload_n 0, 1) := by decide +kernel
theorem d12_26 : decode jdk_42_method_66_code 26 = .ok (.getfield 15, 3) := by decide +kernel
theorem d12_29 : decode jdk_42_method_66_code 29 = .ok (.aload_n 2, 1) := by decide +kernel
theorem d12_30 : decode jdk_42_method_66_code 30 = .ok (.getfield 15, 3) := by decide +kernel
theorem d12_33 : decode jdk_42_method_66_code 33 = .ok (.if_icmp .ne 21, 3) := by decide +kernel
theorem d12_36 : decode jdk_42_method_66_code 36 = .ok (.aload_n 0, 1) := by decide +kernel
theorem d12_37 : decode jdk_42_method_66_code 37 = .ok (.getfield 9, 3) := by decide +kernel
theorem d12_40 : decode jdk_42_method_66_code 40 = .ok (.aload_n 2, 1) := by decide +kernel
theorem d12_41 : decode jdk_42_method_66_code 41 = .ok (.getfield 9, 3) := by decide +kernel
theorem d12_44 : decode jdk_42_method_66_code 44 = .ok (.invokestatic 541, 3) := by decide +kernel
theorem wd_63 {a0 : Array Value} {Z : State} (hw : ∀ d ∈ tables_1, d.before a0 Z = true) : (Jvm.Cond.methodLink "java/lang/String" (541 : Nat) ({ cls := "java/lang/StringLatin1", name := "equals", desc := "([B[B)Z" } : Jvm.MethodName)).before a0 Z = true := hw _ (List.mem_of_getElem? (i := 63) rfl)
theorem wd_65 {a0 : Array Value} {Z : State} (hw : ∀ d ∈ tables_1, d.before a0 Z = true) : (Jvm.Cond.code ({ cls := "java/lang/StringLatin1", name := "equals", desc := "([B[B)Z" } : Jvm.MethodName) jdk_43_method_13_code (3 : Nat) (Option.some Jvm.ClassFile.FieldType.boolean)).before a0 Z = true := hw _ (List.mem_of_getElem? (i := 65) rfl)
theorem pd___B_B_Z : parseMethodDescriptor "([B[B)Z" = some ⟨[(.array .byte), (.array .byte)], some .boolean⟩ := by decide +kernel
theorem wd_64 {a0 : Array Value} {Z : State} (hw : ∀ d ∈ tables_1, d.before a0 Z = true) : (Jvm.Cond.static ({ cls := "java/lang/StringLatin1", name := "equals", desc := "([B[B)Z" } : Jvm.MethodName)).before a0 Z = true := hw _ (List.mem_of_getElem? (i := 64) rfl)
theorem d12_47 : decode jdk_42_method_66_code 47 = .ok (.ifCond .eq 7, 3) := by decide +kernel
theorem d12_50 : decode jdk_42_method_66_code 50 = .ok (.iconst 1, 1) := by decide +kernel
theorem d12_51 : decode jdk_42_method_66_code 51 = .ok (.goto 4, 3) := by decide +kernel
theorem d12_55 : decode jdk_42_method_66_code 55 = .ok (.ireturn, 1) := by decide +kernel
theorem ef_12 (m : MethodId) (x0 : Addr) (x1 : Addr) : entryFrame m #[(.ref x0), (.ref x1)] 3 = mkF m 0 #[.val (.ref x0), .val (.ref x1), .unset] [] := by first | (simp [entryFrame, mkF, argsToLocals, Value.category]; done) | rfl
def Q_rmeq11eq (Z : State) (a1 : Addr) (a2 : Addr) (t1 : Addr) (t2 : Addr) (wz : Int32) (k1 : ClassId) (k2 : ClassId) (x0 : Int32) (y0 : Int32) (h0 : Heap) (n0 : Nat) (v : Option Value) (h : Heap) (L : List Loc) : Prop := v = some (.int (1 : Int32)) ∧ Fr n0 L ∧ h = h0
set_option maxRecDepth 65536 in
set_option maxHeartbeats 40000000 in
theorem rmeq11eq (l : Launch) (Z : State) (a0 : Array Value) (hw : ∀ d ∈ tables_1, d.before a0 Z = true) (ws : List Jvm.Cond) (a1 : Addr) (a2 : Addr) (t1 : Addr) (t2 : Addr) (wz : Int32) (k1 : ClassId) (k2 : ClassId) (x0 : Int32) (y0 : Int32) (h0 : Heap) (n0 : Nat) (Z0 : n0 ≤ h0.size) (E_a1 : Exa Z h0 a1 "java/lang/String") (E_a2 : Exa Z h0 a2 "java/lang/String") (F_value_a1 : Fld Z h0 a1 "java/lang/String" "value" "[B" (.ref t1)) (F_value_a2 : Fld Z h0 a2 "java/lang/String" "value" "[B" (.ref t2)) (F_coder_a1 : Fld Z h0 a1 "java/lang/String" "coder" "B" (.int (0 : Int32))) (F_coder_a2 : Fld Z h0 a2 "java/lang/String" "coder" "B" (.int (0 : Int32))) (V_t1 : Arv Z h0 t1 k1 .byte (1 : Int32) [(.int x0)] (.int (0 : Int32))) (V_t2 : Arv Z h0 t2 k2 .byte (1 : Int32) [(.int y0)] (.int (0 : Int32))) (Old0 : Old Z n0 h0) (S_COMPACT_STRINGS : Sta Z Z.heap "java/lang/String" "COMPACT_STRINGS" "Z" (.int wz)) (hz : ¬ (wz = (0 : Int32))) (ne_a1_a2 : a1 ≠ a2) (he0 : x0 = y0) :
    MetFree l (⟨"java/lang/String", "equals", "(Ljava/lang/Object;)Z"⟩ : MethodName) (head1 (Jvm.Cond.code (⟨"java/lang/String", "equals", "(Ljava/lang/Object;)Z"⟩ : MethodName) jdk_42_method_66_code 3 (some .boolean) :: ws) ({ frames := 1, cells := 0, slots := 0, locals := 14 } : Room)) (fun a U => a = #[(.ref a1), (.ref a2)] ∧ Z.Warmed39 U.vm ∧ U.heap = h0) (fun _ _ _ _ _ => True) (fun _ U o U' => ∃ v L, o = .returned v ∧ Q_rmeq11eq Z a1 a2 t1 t2 wz k1 k2 x0 y0 h0 n0 v U'.heap L ∧ FrameEnd U o U' L ({ frames := 1, cells := 0, slots := 0, locals := 14 } : Room).cells ({ frames := 1, cells := 0, slots := 0, locals := 14 } : Room).slots) := by
  refine MetFree.of_bodySF (plainFor_of_name pn_java_lang_String) hisR ?_
  intro p e s m args below meth c s₁ Bd hml0 hP hK
  obtain ⟨rfl, hZ, hh⟩ := hP
  have hx := Bd.exec
  have hby := Bd.bytes
  have hml : c.maxLocals = 3 := hml0
  have hown : s.vm.findClass "java/lang/String" = some m.cls := findClass_of_methodNamed Bd.named
  have hnm := (name_of_methodNamed Bd.named Bd.method).1
  have X0 : Stand p l e ({ frames := 1, cells := 0, slots := 0, locals := 14 } : Room) s m #[(.ref a1), (.ref a2)] below meth c s₁ [] 0 0 := Stand.of_body Bd
  have e0 : s₁.heap = h0 := by rw [← hh, Bd.state]; rfl
  have N0 := Fr.nil n0
  have pre0 : ∀ t, Steps p.tables e below (s₁.setTop (mkF m 0 #[.val (.ref a1), .val (.ref a2), .unset] [])) t → Steps p.tables e below (s₁.setTop (entryFrame m #[(.ref a1), (.ref a2)] 3)) t := fun t k => castTop (ef_12 m a1 a2) k
  obtain ⟨T258, X258, e258, st258⟩ := instY X0 hx hZ hown (wd_9 hw) e0 (Ins.self E_a2) (g := (mkF m 8 #[.val (.ref a1), .val (.ref a2), .unset] [(.ref a2)])) rfl rfl (hb hby d12_8)
  obtain ⟨T259, X259, e259, st259⟩ := castY X258 hx hZ hown (wd_9 hw) e258 (Ins.self E_a2) (g := (mkF m 15 #[.val (.ref a1), .val (.ref a2), .unset] [(.ref a2)])) rfl rfl (hb hby d12_15)
  obtain ⟨T260, X260, e260, st260⟩ := getS2 X259 hx hZ hown (host := "") (Or.inl (wd_4 hw)) Via.refl e259 (S_COMPACT_STRINGS.ext (Old0).2) (g := (mkF m 19 #[.val (.ref a1), .val (.ref a2), .val (.ref a2)] [])) rfl (hb hby d12_19)
  obtain ⟨T261, X261, e261, st261⟩ := getF X260 hx hZ hown (host := "") (Or.inl (wd_24 hw)) Via.refl e260 F_coder_a1 (g := (mkF m 26 #[.val (.ref a1), .val (.ref a2), .val (.ref a2)] [(.ref a1)])) rfl rfl (hb hby d12_26)
  obtain ⟨T262, X262, e262, st262⟩ := getF X261 hx hZ hown (host := "") (Or.inl (wd_24 hw)) Via.refl e261 F_coder_a2 (g := (mkF m 30 #[.val (.ref a1), .val (.ref a2), .val (.ref a2)] [(.ref a2), (.int (0 : Int32))])) rfl rfl (hb hby d12_30)
  obtain ⟨T263, X263, e263, st263⟩ := getF X262 hx hZ hown (host := "") (Or.inl (wd_22 hw)) Via.refl e262 F_value_a1 (g := (mkF m 37 #[.val (.ref a1), .val (.ref a2), .val (.ref a2)] [(.ref a1)])) rfl rfl (hb hby d12_37)
  obtain ⟨T264, X264, e264, st264⟩ := getF X263 hx hZ hown (host := "") (Or.inl (wd_22 hw)) Via.refl e263 F_value_a2 (g := (mkF m 41 #[.val (.ref a1), .val (.ref a2), .val (.ref a2)] [(.ref a2), (.ref t1)])) rfl rfl (hb hby d12_41)
  obtain ⟨_, _, ⟨T265, L265, k265, n265⟩, -, X265, ⟨Lc265, hQ265, l265, y265, z265⟩, st265⟩ := Jvm.LawKit.callS X264 hx (y := (⟨"java/lang/StringLatin1", "equals", "([B[B)Z"⟩ : MethodName)) hown (mvT hZ (wd_63 hw)) (mvT hZ (wd_64 hw)) (mvT hZ (wd_7 hw)) (mvT hZ (wd_65 hw)) (by decide) (backOf (W := 0) (rmle11eq l Z a0 hw [] t1 t2 k1 k2 x0 y0 h0 n0 Z0 V_t1 V_t2 he0) hZ (wd_65 hw) (wd_7 hw) (by decide) (by decide)) (g := (mkF m 44 #[.val (.ref a1), .val (.ref a2), .val (.ref a2)] [(.ref t2), (.ref t1)])) rfl (by rw [hml]; rfl) (argsL := [(.ref t1), (.ref t2)]) (rest := []) (lenOf pd___B_B_Z rfl) rfl (by show 2 * 0 + _ ≤ _; exact Nat.le_of_eq rfl) (hb hby d12_44) (fun _ _ => ⟨rfl, e264, (by decide : 0 + 0 ≤ _), (by decide : 0 + 0 ≤ _)⟩)
  dsimp only [Pt.U, Pt.locs, Pt.cells, Pt.slots] at X265 l265 y265 z265 st265 hQ265
  rw [l265, y265, z265] at X265
  obtain ⟨rfl, N265q, e265⟩ := hQ265
  have N265 := Fr.app N0 N265q
  obtain ⟨fs, hr, hrun, hended, hW, hsame⟩ := X265.leave (v := some (.int (1 : Int32))) (fun h => by rw [Bd.returns] at h; cases h)
  refine ⟨_, _, pre0 _ ?_, hrun, hended, _, _, rfl, ?_, ⟨_, rfl⟩, hW, hsame.mono (by decide) (by decide)⟩
  · show Steps p.tables e below (s₁.setTop (mkF m 0 #[.val (.ref a1), .val (.ref a2), .unset] [])) _
    refine XS.aloadN X0.here hx rfl (hb hby d12_0) rfl rfl ?_
    refine XS.aloadN X0.here hx rfl (hb hby d12_1) rfl rfl ?_
    refine Jvm.RoadKit.acmp (g := (mkF m 2 #[.val (.ref a1), .val (.ref a2), .unset] [(.ref a2), (.ref a1)])) X0 hx rfl rfl rfl (pc0 := 2) (pc' := 7) (same := false) rfl (hb hby d12_2) rfl (decide_eq_false fun q => ne_a1_a2 (Value.ref.inj q)) (by decide) (by decide) ?_
    refine XS.aloadN X0.here hx rfl (hb hby d12_7) rfl rfl ?_
    refine st258 _ ?_
    refine XS.ifNo X258.here hx rfl (hb hby d12_11) rfl ((if0 _ _).trans (feq (by decide)).1) ?_
    refine XS.aloadN X258.here hx rfl (hb hby d12_14) rfl rfl ?_
    refine st259 _ ?_
    refine XS.astoreN X259.here hx rfl (hb hby d12_18) rfl rfl (l' := #[.val (.ref a1), .val (.ref a2), .val (.ref a2)]) rfl ?_
    refine st260 _ ?_
    show Steps p.tables e below (T260.setTop (mkF m 22 #[.val (.ref a1), .val (.ref a2), .val (.ref a2)] [(.int wz)])) _
    refine XS.ifNo X260.here hx rfl (hb hby d12_22) rfl ((if0 _ _).trans (feq hz).1) ?_
    refine XS.aloadN X260.here hx rfl (hb hby d12_25) rfl rfl ?_
    refine st261 _ ?_
    refine XS.aloadN X261.here hx rfl (hb hby d12_29) rfl rfl ?_
    refine st262 _ ?_
    refine XS.icmpNo X262.here hx rfl (hb hby d12_33) rfl (teq (rfl : (0 : Int32) = (0 : Int32))).2 ?_
    refine XS.aloadN X262.here hx rfl (hb hby d12_36) rfl rfl ?_
    refine st263 _ ?_
    refine XS.aloadN X263.here hx rfl (hb hby d12_40) rfl rfl ?_
    refine st264 _ ?_
    show Steps p.tables e below (T264.setTop (mkF m 44 #[.val (.ref a1), .val (.ref a2), .val (.ref a2)] [(.ref t2), (.ref t1)])) _
    refine st265 _ ?_
    refine XS.ifNo X265.here hx rfl (hb hby d12_47) rfl ((if0 _ _).trans (feq (by decide)).1) ?_
    refine XS.iconst X265.here hx rfl (hb hby d12_50) ?_
    refine XS.goto X265.here hx rfl (pc0 := 51) (pc' := 55) rfl (hb hby d12_51) (by decide) (by decide) ?_
    exact retN X265 hx (t := .boolean) Bd.returns (by simp) (hb hby d12_55) hr
  · show Q_rmeq11eq Z a1 a2 t1 t2 wz k1 k2 x0 y0 h0 n0 _ T265.heap _
    rw [e265]
    exact ⟨rfl, N265, rfl⟩
theorem wd_58 {a0 : Array Value} {Z : State} (hw : ∀ d ∈ tables_1, d.before a0 Z = true) : (Jvm.Cond.methodLink "com/example/kawi/kawi/xml/AttributesGetOrDefaultPinLaw" (21 : Nat) ({ cls := "java/lang/String", name := "equals", desc := "(Ljava/lang/Object;)Z" } : Jvm.MethodName)).before a0 Z = true := hw _ (List.mem_of_getElem? (i := 58) rfl)
theorem wd_62 {a0 : Array Value} {Z : State} (hw : ∀ d ∈ tables_1, d.before a0 Z = true) : (Jvm.Cond.code ({ cls := "java/lang/String", name := "equals", desc := "(Ljava/lang/Object;)Z" } : Jvm.MethodName) jdk_42_method_66_code (3 : Nat) (Option.some Jvm.ClassFile.FieldType.boolean)).before a0 Z = true := hw _ (List.mem_of_getElem? (i := 62) rfl)
theorem pd__Ljava_lang_Object__Z : parseMethodDescriptor "(Ljava/lang/Object;)Z" = some ⟨[(.object "java/lang/Object")], some .boolean⟩ := by decide +kernel
theorem wd_61 {a0 : Array Value} {Z : State} (hw : ∀ d ∈ tables_1, d.before a0 Z = true) : (Jvm.Cond.selects "java/lang/String" ({ cls := "java/lang/String", name := "equals", desc := "(Ljava/lang/Object;)Z" } : Jvm.MethodName) ({ cls := "java/lang/String", name := "equals", desc := "(Ljava/lang/Object;)Z" } : Jvm.MethodName)).before a0 Z = true := hw _ (List.mem_of_getElem? (i := 61) rfl)
theorem wd_59 {a0 : Array Value} {Z : State} (hw : ∀ d ∈ tables_1, d.before a0 Z = true) : (Jvm.Cond.declares ({ cls := "java/lang/String", name := "equals", desc := "(Ljava/lang/Object;)Z" } : Jvm.MethodName)).before a0 Z = true := hw _ (List.mem_of_getElem? (i := 59) rfl)
theorem wd_60 {a0 : Array Value} {Z : State} (hw : ∀ d ∈ tables_1, d.before a0 Z = true) : (Jvm.Cond.instanceMethod ({ cls := "java/lang/String", name := "equals", desc := "(Ljava/lang/Object;)Z" } : Jvm.MethodName)).before a0 Z = true := hw _ (List.mem_of_getElem? (i := 60) rfl)
theorem d14_10 : decode prog_112_method_5_code 10 = .ok (.aload_n 0, 1) := by decide +kernel
theorem d14_11 : decode prog_112_method_5_code 11 = .ok (.getfield 7, 3) := by decide +kernel
theorem d14_14 : decode prog_112_method_5_code 14 = .ok (.iload_n 3, 1) := by decide +kernel
theorem d14_15 : decode prog_112_method_5_code 15 = .ok (.aaload, 1) := by decide +kernel
theorem d14_16 : decode prog_112_method_5_code 16 = .ok (.aload_n 1, 1) := by decide +kernel
theorem d14_17 : decode prog_112_method_5_code 17 = .ok (.invokevirtual 24, 3) := by decide +kernel
theorem wd_71 {a0 : Array Value} {Z : State} (hw : ∀ d ∈ tables_1, d.before a0 Z = true) : (Jvm.Cond.methodLink "com/example/kawi/kawi/xml/Attributes" (24 : Nat) ({ cls := "java/lang/String", name := "equals", desc := "(Ljava/lang/Object;)Z" } : Jvm.MethodName)).before a0 Z = true := hw _ (List.mem_of_getElem? (i := 71) rfl)
theorem d14_20 : decode prog_112_method_5_code 20 = .ok (.ifCond .eq 10, 3) := by decide +kernel
theorem d14_23 : decode prog_112_method_5_code 23 = .ok (.aload_n 0, 1) := by decide +kernel
theorem d14_24 : decode prog_112_method_5_code 24 = .ok (.getfield 13, 3) := by decide +kernel
theorem d14_27 : decode prog_112_method_5_code 27 = .ok (.iload_n 3, 1) := by decide +kernel
theorem d14_28 : decode prog_112_method_5_code 28 = .ok (.aaload, 1) := by decide +kernel
theorem d14_29 : decode prog_112_method_5_code 29 = .ok (.areturn, 1) := by decide +kernel
def Q_rmg101 (Z : State) (a1 : Addr) (a2 : Addr) (a3 : Addr) (nm : Addr) (vl : Addr) (kn : ClassId) (kv : ClassId) (s0 : Addr) (s1 : Addr) (s2 : Addr) (v0 : Addr) (v1 : Addr) (v2 : Addr) (t0 : Addr) (k0 : ClassId) (x0 : Int32) (y0 : Int32) (tq : Addr) (kq : ClassId) (wz : Int32) (h0 : Heap) (n0 : Nat) (v : Option Value) (h : Heap) (L : List Loc) : Prop := v = some (.ref v0) ∧ Fr n0 L ∧ h = h0
set_option maxRecDepth 65536 in
set_option maxHeartbeats 40000000 in
theorem rmg101 (l : Launch) (Z : State) (a0 : Array Value) (hw : ∀ d ∈ tables_1, d.before a0 Z = true) (ws : List Jvm.Cond) (a1 : Addr) (a2 : Addr) (a3 : Addr) (nm : Addr) (vl : Addr) (kn : ClassId) (kv : ClassId) (s0 : Addr) (s1 : Addr) (s2 : Addr) (v0 : Addr) (v1 : Addr) (v2 : Addr) (t0 : Addr) (k0 : ClassId) (x0 : Int32) (y0 : Int32) (tq : Addr) (kq : ClassId) (wz : Int32) (h0 : Heap) (n0 : Nat) (Z0 : n0 ≤ h0.size) (F_names_a1 : Fld Z h0 a1 "com/example/kawi/kawi/xml/Attributes" "names" "[Ljava/lang/String;" (.ref nm)) (F_values_a1 : Fld Z h0 a1 "com/example/kawi/kawi/xml/Attributes" "values" "[Ljava/lang/String;" (.ref vl)) (F_size_a1 : Fld Z h0 a1 "com/example/kawi/kawi/xml/Attributes" "size" "I" (.int (1 : Int32))) (V_nm : Arv Z h0 nm kn (.object "java/lang/String") (3 : Int32) [(.ref s0), (.ref s1), (.ref s2)] .null) (V_vl : Arv Z h0 vl kv (.object "java/lang/String") (3 : Int32) [(.ref v0), (.ref v1), (.ref v2)] .null) (E_s0 : Exa Z h0 s0 "java/lang/String") (F_value_s0 : Fld Z h0 s0 "java/lang/String" "value" "[B" (.ref t0)) (F_coder_s0 : Fld Z h0 s0 "java/lang/String" "coder" "B" (.int (0 : Int32))) (V_t0 : Arv Z h0 t0 k0 .byte (1 : Int32) [(.int x0)] (.int (0 : Int32))) (ne_s0_a2 : s0 ≠ a2) (E_a2 : Exa Z h0 a2 "java/lang/String") (F_value_a2 : Fld Z h0 a2 "java/lang/String" "value" "[B" (.ref tq)) (F_coder_a2 : Fld Z h0 a2 "java/lang/String" "coder" "B" (.int (0 : Int32))) (V_tq : Arv Z h0 tq kq .byte (1 : Int32) [(.int y0)] (.int (0 : Int32))) (Old0 : Old Z n0 h0) (S_COMPACT_STRINGS : Sta Z Z.heap "java/lang/String" "COMPACT_STRINGS" "Z" (.int wz)) (hz : ¬ (wz = (0 : Int32))) (he0 : x0 = y0) :
    MetFree l (⟨"com/example/kawi/kawi/xml/Attributes", "getOrDefault", "(Ljava/lang/String;Ljava/lang/String;)Ljava/lang/String;"⟩ : MethodName) (head1 (Jvm.Cond.code (⟨"com/example/kawi/kawi/xml/Attributes", "getOrDefault", "(Ljava/lang/String;Ljava/lang/String;)Ljava/lang/String;"⟩ : MethodName) prog_112_method_5_code 4 (some (.object "java/lang/String")) :: ws) ({ frames := 2, cells := 0, slots := 0, locals := 28 } : Room)) (fun a U => a = #[(.ref a1), (.ref a2), (.ref a3)] ∧ Z.Warmed39 U.vm ∧ U.heap = h0) (fun _ _ _ _ _ => True) (fun _ U o U' => ∃ v L, o = .returned v ∧ Q_rmg101 Z a1 a2 a3 nm vl kn kv s0 s1 s2 v0 v1 v2 t0 k0 x0 y0 tq kq wz h0 n0 v U'.heap L ∧ FrameEnd U o U' L ({ frames := 2, cells := 0, slots := 0, locals := 28 } : Room).cells ({ frames := 2, cells := 0, slots := 0, locals := 28 } : Room).slots) := by
  refine MetFree.of_bodySF (plainFor_of_name pn_com_example_kawi_kawi_xml_Attributes) hisR ?_
  intro p e s m args below meth c s₁ Bd hml0 hP hK
  obtain ⟨rfl, hZ, hh⟩ := hP
  have hx := Bd.exec
  have hby := Bd.bytes
  have hml : c.maxLocals = 4 := hml0
  have hown : s.vm.findClass "com/example/kawi/kawi/xml/Attributes" = some m.cls := findClass_of_methodNamed Bd.named
  have hnm := (name_of_methodNamed Bd.named Bd.method).1
  have X0 : Stand p l e ({ frames := 2, cells := 0, slots := 0, locals := 28 } : Room) s m #[(.ref a1), (.ref a2), (.ref a3)] below meth c s₁ [] 0 0 := Stand.of_body Bd
  have e0 : s₁.heap = h0 := by rw [← hh, Bd.state]; rfl
  have N0 := Fr.nil n0
  have pre0 : ∀ t, Steps p.tables e below (s₁.setTop (mkF m 0 #[.val (.ref a1), .val (.ref a2), .val (.ref a3), .unset] [])) t → Steps p.tables e below (s₁.setTop (entryFrame m #[(.ref a1), (.ref a2), (.ref a3)] 4)) t := fun t k => castTop (ef_14 m a1 a2 a3) k
  obtain ⟨T267, X267, e267, st267⟩ := getF X0 hx hZ hown (host := "") (Or.inl (wd_56 hw)) Via.refl e0 F_size_a1 (g := (mkF m 4 #[.val (.ref a1), .val (.ref a2), .val (.ref a3), .val (.int (0 : Int32))] [(.ref a1), (.int (0 : Int32))])) rfl rfl (hb hby d14_4)
  obtain ⟨T268, X268, e268, st268⟩ := getF X267 hx hZ hown (host := "") (Or.inl (wd_52 hw)) Via.refl e267 F_names_a1 (g := (mkF m 11 #[.val (.ref a1), .val (.ref a2), .val (.ref a3), .val (.int (0 : Int32))] [(.ref a1)])) rfl rfl (hb hby d14_11)
  obtain ⟨cl269, Ar269, q269, S269, N269n, H269, G269⟩ := id (V_nm)
  have hin269 : ¬ ((0 : Int32) < 0 ∨ cl269.slots.size ≤ ((0 : Int32)).toNatClampNeg) := inb_of S269 ⟨by decide, by decide⟩
  have hat269 : cl269.slots[((0 : Int32)).toNatClampNeg]? = some (.ref s0) := H269.at hin269 rfl
  obtain ⟨cq270, kq270, q270a, q270b, q270c⟩ := isOf hZ e268 (E_s0)
  obtain ⟨_, _, ⟨T270, L270, k270, n270⟩, -, X270, ⟨Lc270, hQ270, l270, y270, z270⟩, st270⟩ := X268.virtualBack hx (y := (⟨"java/lang/String", "equals", "(Ljava/lang/Object;)Z"⟩ : MethodName)) (z := (⟨"java/lang/String", "equals", "(Ljava/lang/Object;)Z"⟩ : MethodName)) hown (mvT hZ (wd_71 hw)) (mvT hZ (wd_59 hw)) (notFace_of_selects (args := #[]) (mvT hZ (wd_61 hw))) (mvT hZ (wd_61 hw)) (mvT hZ (wd_60 hw)) (by decide) (backOf (W := 0) (rmeq11eq l Z a0 hw [] s0 a2 t0 tq wz k0 kq x0 y0 h0 n0 Z0 E_s0 E_a2 F_value_s0 F_value_a2 F_coder_s0 F_coder_a2 V_t0 V_tq Old0 S_COMPACT_STRINGS hz ne_s0_a2 he0) hZ (wd_62 hw) (wd_2 hw) (by decide) (by decide)) q270a q270c (g := (mkF m 17 #[.val (.ref a1), .val (.ref a2), .val (.ref a3), .val (.int (0 : Int32))] [(.ref a2), (.ref s0)])) rfl (by rw [hml]; rfl) (Steps.refl _) (argsL := [(.ref a2)]) (rest := []) (lenOf pd__Ljava_lang_Object__Z rfl) rfl (by show 2 * 0 + _ ≤ _; exact Nat.le_of_eq rfl) (hb hby d14_17) (fun _ _ => ⟨rfl, e268, (by decide : 0 + 0 ≤ _), (by decide : 0 + 0 ≤ _)⟩)
  dsimp only [Pt.U, Pt.locs, Pt.cells, Pt.slots] at X270 l270 y270 z270 st270 hQ270
  rw [l270, y270, z270] at X270
  obtain ⟨rfl, N270q, e270⟩ := hQ270
  have N270 := Fr.app N0 N270q
  obtain ⟨T271, X271, e271, st271⟩ := getF X270 hx hZ hown (host := "") (Or.inl (wd_54 hw)) Via.refl e270 F_values_a1 (g := (mkF m 24 #[.val (.ref a1), .val (.ref a2), .val (.ref a3), .val (.int (0 : Int32))] [(.ref a1)])) rfl rfl (hb hby d14_24)
  obtain ⟨cl272, Ar272, q272, S272, N272n, H272, G272⟩ := id (V_vl)
  have hin272 : ¬ ((0 : Int32) < 0 ∨ cl272.slots.size ≤ ((0 : Int32)).toNatClampNeg) := inb_of S272 ⟨by decide, by decide⟩
  have hat272 : cl272.slots[((0 : Int32)).toNatClampNeg]? = some (.ref v0) := H272.at hin272 rfl
  obtain ⟨fs, hr, hrun, hended, hW, hsame⟩ := X271.leave (v := some (.ref v0)) (fun h => by rw [Bd.returns] at h; cases h)
  refine ⟨_, _, pre0 _ ?_, hrun, hended, _, _, rfl, ?_, ⟨_, rfl⟩, hW, hsame.mono (by decide) (by decide)⟩
  · show Steps p.tables e below (s₁.setTop (mkF m 0 #[.val (.ref a1), .val (.ref a2), .val (.ref a3), .unset] [])) _
    refine XS.iconst X0.here hx rfl (hb hby d14_0) ?_
    refine XS.istoreN X0.here hx rfl (hb hby d14_1) rfl (l' := #[.val (.ref a1), .val (.ref a2), .val (.ref a3), .val (.int (0 : Int32))]) rfl ?_
    refine XS.iloadN X0.here hx rfl (hb hby d14_2) rfl ?_
    refine XS.aloadN X0.here hx rfl (hb hby d14_3) rfl rfl ?_
    refine st267 _ ?_
    refine XS.icmpNo X267.here hx rfl (hb hby d14_7) rfl (tlt (by decide)).2.1 ?_
    refine XS.aloadN X267.here hx rfl (hb hby d14_10) rfl rfl ?_
    refine st268 _ ?_
    refine XS.iloadN X268.here hx rfl (hb hby d14_14) rfl ?_
    refine X268.aaload hx (j := (0 : Int32)) (v := (.ref s0)) (by rw [e268]; exact Ar269.1) (State.isArrayOf_alike hZ.alike Ar269.2.1) rfl Ar269.2.2 hin269 hat269 (g := (mkF m 15 #[.val (.ref a1), .val (.ref a2), .val (.ref a3), .val (.int (0 : Int32))] [(.int (0 : Int32)), (.ref nm)])) rfl rfl (hb hby d14_15) _ ?_
    show Steps p.tables e below (T268.setTop (mkF m 16 #[.val (.ref a1), .val (.ref a2), .val (.ref a3), .val (.int (0 : Int32))] [(.ref s0)])) _
    refine XS.aloadN X268.here hx rfl (hb hby d14_16) rfl rfl ?_
    refine st270.trans ?_
    refine XS.ifNo X270.here hx rfl (hb hby d14_20) rfl ((if0 _ _).trans (feq (by decide)).1) ?_
    refine XS.aloadN X270.here hx rfl (hb hby d14_23) rfl rfl ?_
    refine st271 _ ?_
    refine XS.iloadN X271.here hx rfl (hb hby d14_27) rfl ?_
    refine X271.aaload hx (j := (0 : Int32)) (v := (.ref v0)) (by rw [e271]; exact Ar272.1) (State.isArrayOf_alike hZ.alike Ar272.2.1) rfl Ar272.2.2 hin272 hat272 (g := (mkF m 28 #[.val (.ref a1), .val (.ref a2), .val (.ref a3), .val (.int (0 : Int32))] [(.int (0 : Int32)), (.ref vl)])) rfl rfl (hb hby d14_28) _ ?_
    exact X271.areturnOut hx rfl Bd.returns rfl (hb hby d14_29) hr
  · show Q_rmg101 Z a1 a2 a3 nm vl kn kv s0 s1 s2 v0 v1 v2 t0 k0 x0 y0 tq kq wz h0 n0 _ T271.heap _
    rw [e271]
    exact ⟨rfl, N270, rfl⟩
theorem d13_24 : decode jdk_43_method_13_code 24 = .ok (.iconst 0, 1) := by decide +kernel
theorem d13_25 : decode jdk_43_method_13_code 25 = .ok (.ireturn, 1) := by decide +kernel
def Q_rmle110 (Z : State) (a1 : Addr) (a2 : Addr) (k1 : ClassId) (k2 : ClassId) (x0 : Int32) (y0 : Int32) (h0 : Heap) (n0 : Nat) (v : Option Value) (h : Heap) (L : List Loc) : Prop := v = some (.int (0 : Int32)) ∧ Fr n0 L ∧ h = h0
set_option maxRecDepth 65536 in
set_option maxHeartbeats 40000000 in
theorem rmle110 (l : Launch) (Z : State) (a0 : Array Value) (hw : ∀ d ∈ tables_1, d.before a0 Z = true) (ws : List Jvm.Cond) (a1 : Addr) (a2 : Addr) (k1 : ClassId) (k2 : ClassId) (x0 : Int32) (y0 : Int32) (h0 : Heap) (n0 : Nat) (Z0 : n0 ≤ h0.size) (V_a1 : Arv Z h0 a1 k1 .byte (1 : Int32) [(.int x0)] (.int (0 : Int32))) (V_a2 : Arv Z h0 a2 k2 .byte (1 : Int32) [(.int y0)] (.int (0 : Int32))) (hn : ¬ (x0 = y0)) :
    MetFree l (⟨"java/lang/StringLatin1", "equals", "([B[B)Z"⟩ : MethodName) (head1 (Jvm.Cond.code (⟨"java/lang/StringLatin1", "equals", "([B[B)Z"⟩ : MethodName) jdk_43_method_13_code 3 (some .boolean) :: ws) ({ frames := 0, cells := 0, slots := 0, locals := 0 } : Room)) (fun a U => a = #[(.ref a1), (.ref a2)] ∧ Z.Warmed39 U.vm ∧ U.heap = h0) (fun _ _ _ _ _ => True) (fun _ U o U' => ∃ v L, o = .returned v ∧ Q_rmle110 Z a1 a2 k1 k2 x0 y0 h0 n0 v U'.heap L ∧ FrameEnd U o U' L ({ frames := 0, cells := 0, slots := 0, locals := 0 } : Room).cells ({ frames := 0, cells := 0, slots := 0, locals := 0 } : Room).slots) := by
  refine MetFree.of_bodySF (plainFor_of_name pn_java_lang_StringLatin1) hisR ?_
  intro p e s m args below meth c s₁ Bd hml0 hP hK
  obtain ⟨rfl, hZ, hh⟩ := hP
  have hx := Bd.exec
  have hby := Bd.bytes
  have hml : c.maxLocals = 3 := hml0
  have hown : s.vm.findClass "java/lang/StringLatin1" = some m.cls := findClass_of_methodNamed Bd.named
  have hnm := (name_of_methodNamed Bd.named Bd.method).1
  have X0 : Stand p l e ({ frames := 0, cells := 0, slots := 0, locals := 0 } : Room) s m #[(.ref a1), (.ref a2)] below meth c s₁ [] 0 0 := Stand.of_body Bd
  have e0 : s₁.heap = h0 := by rw [← hh, Bd.state]; rfl
  have N0 := Fr.nil n0
  have pre0 : ∀ t, Steps p.tables e below (s₁.setTop (mkF m 0 #[.val (.ref a1), .val (.ref a2), .unset] [])) t → Steps p.tables e below (s₁.setTop (entryFrame m #[(.ref a1), (.ref a2)] 3)) t := fun t k => castTop (ef_13 m a1 a2) k
  obtain ⟨cl274, Ar274, q274, S274, N274n, H274, G274⟩ := id (V_a1)
  obtain ⟨cl275, Ar275, q275, S275, N275n, H275, G275⟩ := id (V_a2)
  obtain ⟨cl276, Ar276, q276, S276, N276n, H276, G276⟩ := id (V_a1)
  obtain ⟨cl277, Ar277, q277, S277, N277n, H277, G277⟩ := id (V_a1)
  have hin277 : ¬ ((0 : Int32) < 0 ∨ cl277.slots.size ≤ ((0 : Int32)).toNatClampNeg) := inb_of S277 ⟨by decide, by decide⟩
  have hat277 : cl277.slots[((0 : Int32)).toNatClampNeg]? = some (.int x0) := H277.at hin277 rfl
  obtain ⟨cl278, Ar278, q278, S278, N278n, H278, G278⟩ := id (V_a2)
  have hin278 : ¬ ((0 : Int32) < 0 ∨ cl278.slots.size ≤ ((0 : Int32)).toNatClampNeg) := inb_of S278 ⟨by decide, by decide⟩
  have hat278 : cl278.slots[((0 : Int32)).toNatClampNeg]? = some (.int y0) := H278.at hin278 rfl
  obtain ⟨fs, hr, hrun, hended, hW, hsame⟩ := X0.leave (v := some (.int (0 : Int32))) (fun h => by rw [Bd.returns] at h; cases h)
  refine ⟨_, _, pre0 _ ?_, hrun, hended, _, _, rfl, ?_, ⟨_, rfl⟩, hW, hsame.mono (by decide) (by decide)⟩
  · show Steps p.tables e below (s₁.setTop (mkF m 0 #[.val (.ref a1), .val (.ref a2), .unset] [])) _
    refine XS.aloadN X0.here hx rfl (hb hby d13_0) rfl rfl ?_
    refine X0.arraylength hx (by rw [e0]; exact Ar274.1) (State.isArrayOf_alike hZ.alike Ar274.2.1) (g := (mkF m 1 #[.val (.ref a1), .val (.ref a2), .unset] [(.ref a1)])) rfl rfl (hb hby d13_1) _ ?_
    rw [len_of S274 N274n]
    refine XS.aloadN X0.here hx rfl (hb hby d13_2) rfl rfl ?_
    refine X0.arraylength hx (by rw [e0]; exact Ar275.1) (State.isArrayOf_alike hZ.alike Ar275.2.1) (g := (mkF m 3 #[.val (.ref a1), .val (.ref a2), .unset] [(.ref a2), (.int (1 : Int32))])) rfl rfl (hb hby d13_3) _ ?_
    rw [len_of S275 N275n]
    refine XS.icmpNo X0.here hx rfl (hb hby d13_4) rfl (teq (rfl : (1 : Int32) = (1 : Int32))).2 ?_
    refine XS.iconst X0.here hx rfl (hb hby d13_7) ?_
    refine XS.istoreN X0.here hx rfl (hb hby d13_8) rfl (l' := #[.val (.ref a1), .val (.ref a2), .val (.int (0 : Int32))]) rfl ?_
    refine XS.iloadN X0.here hx rfl (hb hby d13_9) rfl ?_
    refine XS.aloadN X0.here hx rfl (hb hby d13_10) rfl rfl ?_
    refine X0.arraylength hx (by rw [e0]; exact Ar276.1) (State.isArrayOf_alike hZ.alike Ar276.2.1) (g := (mkF m 11 #[.val (.ref a1), .val (.ref a2), .val (.int (0 : Int32))] [(.ref a1), (.int (0 : Int32))])) rfl rfl (hb hby d13_11) _ ?_
    rw [len_of S276 N276n]
    show Steps p.tables e below (s₁.setTop (mkF m 12 #[.val (.ref a1), .val (.ref a2), .val (.int (0 : Int32))] [(.int (1 : Int32)), (.int (0 : Int32))])) _
    refine XS.icmpNo X0.here hx rfl (hb hby d13_12) rfl (tlt (by decide)).2.1 ?_
    refine XS.aloadN X0.here hx rfl (hb hby d13_15) rfl rfl ?_
    refine XS.iloadN X0.here hx rfl (hb hby d13_16) rfl ?_
    refine X0.baloadBytes hx (j := (0 : Int32)) (v := (.int x0)) (by rw [e0]; exact Ar277.1) (State.isArrayOf_alike hZ.alike Ar277.2.1) Ar277.2.2 hin277 hat277 (g := (mkF m 17 #[.val (.ref a1), .val (.ref a2), .val (.int (0 : Int32))] [(.int (0 : Int32)), (.ref a1)])) rfl rfl (hb hby d13_17) _ ?_
    refine XS.aloadN X0.here hx rfl (hb hby d13_18) rfl rfl ?_
    refine XS.iloadN X0.here hx rfl (hb hby d13_19) rfl ?_
    refine X0.baloadBytes hx (j := (0 : Int32)) (v := (.int y0)) (by rw [e0]; exact Ar278.1) (State.isArrayOf_alike hZ.alike Ar278.2.1) Ar278.2.2 hin278 hat278 (g := (mkF m 20 #[.val (.ref a1), .val (.ref a2), .val (.int (0 : Int32))] [(.int (0 : Int32)), (.ref a2), (.int x0)])) rfl rfl (hb hby d13_20) _ ?_
    refine XS.icmpNo X0.here hx rfl (hb hby d13_21) rfl (feq hn).1 ?_
    refine XS.iconst X0.here hx rfl (hb hby d13_24) ?_
    exact retN X0 hx (t := .boolean) Bd.returns (by simp) (hb hby d13_25) hr
  · show Q_rmle110 Z a1 a2 k1 k2 x0 y0 h0 n0 _ s₁.heap _
    rw [e0]
    exact ⟨rfl, N0, rfl⟩
theorem d12_54 : decode jdk_42_method_66_code 54 = .ok (.iconst 0, 1) := by decide +kernel
def Q_rmeq110 (Z : State) (a1 : Addr) (a2 : Addr) (t1 : Addr) (t2 : Addr) (wz : Int32) (k1 : ClassId) (k2 : ClassId) (x0 : Int32) (y0 : Int32) (h0 : Heap) (n0 : Nat) (v : Option Value) (h : Heap) (L : List Loc) : Prop := v = some (.int (0 : Int32)) ∧ Fr n0 L ∧ h = h0
set_option maxRecDepth 65536 in
set_option maxHeartbeats 40000000 in
theorem rmeq110 (l : Launch) (Z : State) (a0 : Array Value) (hw : ∀ d ∈ tables_1, d.before a0 Z = true) (ws : List Jvm.Cond) (a1 : Addr) (a2 : Addr) (t1 : Addr) (t2 : Addr) (wz : Int32) (k1 : ClassId) (k2 : ClassId) (x0 : Int32) (y0 : Int32) (h0 : Heap) (n0 : Nat) (Z0 : n0 ≤ h0.size) (E_a1 : Exa Z h0 a1 "java/lang/String") (E_a2 : Exa Z h0 a2 "java/lang/String") (F_value_a1 : Fld Z h0 a1 "java/lang/String" "value" "[B" (.ref t1)) (F_value_a2 : Fld Z h0 a2 "java/lang/String" "value" "[B" (.ref t2)) (F_coder_a1 : Fld Z h0 a1 "java/lang/String" "coder" "B" (.int (0 : Int32))) (F_coder_a2 : Fld Z h0 a2 "java/lang/String" "coder" "B" (.int (0 : Int32))) (V_t1 : Arv Z h0 t1 k1 .byte (1 : Int32) [(.int x0)] (.int (0 : Int32))) (V_t2 : Arv Z h0 t2 k2 .byte (1 : Int32) [(.int y0)] (.int (0 : Int32))) (Old0 : Old Z n0 h0) (S_COMPACT_STRINGS : Sta Z Z.heap "java/lang/String" "COMPACT_STRINGS" "Z" (.int wz)) (hz : ¬ (wz = (0 : Int32))) (ne_a1_a2 : a1 ≠ a2) (hn : ¬ (x0 = y0)) :
    MetFree l (⟨"java/lang/String", "equals", "(Ljava/lang/Object;)Z"⟩ : MethodName) (head1 (Jvm.Cond.code (⟨"java/lang/String", "equals", "(Ljava/lang/Object;)Z"⟩ : MethodName) jdk_42_method_66_code 3 (some .boolean) :: ws) ({ frames := 1, cells := 0, slots := 0, locals := 14 } : Room)) (fun a U => a = #[(.ref a1), (.ref a2)] ∧ Z.Warmed39 U.vm ∧ U.heap = h0) (fun _ _ _ _ _ => True) (fun _ U o U' => ∃ v L, o = .returned v ∧ Q_rmeq110 Z a1 a2 t1 t2 wz k1 k2 x0 y0 h0 n0 v U'.heap L ∧ FrameEnd U o U' L ({ frames := 1, cells := 0, slots := 0, locals := 14 } : Room).cells ({ frames := 1, cells := 0, slots := 0, locals := 14 } : Room).slots) := by
  refine MetFree.of_bodySF (plainFor_of_name pn_java_lang_String) hisR ?_
  intro p e s m args below meth c s₁ Bd hml0 hP hK
  obtain ⟨rfl, hZ, hh⟩ := hP
  have hx := Bd.exec
  have hby := Bd.bytes
  have hml : c.maxLocals = 3 := hml0
  have hown : s.vm.findClass "java/lang/String" = some m.cls := findClass_of_methodNamed Bd.named
  have hnm := (name_of_methodNamed Bd.named Bd.method).1
  have X0 : Stand p l e ({ frames := 1, cells := 0, slots := 0, locals := 14 } : Room) s m #[(.ref a1), (.ref a2)] below meth c s₁ [] 0 0 := Stand.of_body Bd
  have e0 : s₁.heap = h0 := by rw [← hh, Bd.state]; rfl
  have N0 := Fr.nil n0
  have pre0 : ∀ t, Steps p.tables e below (s₁.setTop (mkF m 0 #[.val (.ref a1), .val (.ref a2), .unset] [])) t → Steps p.tables e below (s₁.setTop (entryFrame m #[(.ref a1), (.ref a2)] 3)) t := fun t k => castTop (ef_12 m a1 a2) k
  obtain ⟨T279, X279, e279, st279⟩ := instY X0 hx hZ hown (wd_9 hw) e0 (Ins.self E_a2) (g := (mkF m 8 #[.val (.ref a1), .val (.ref a2), .unset] [(.ref a2)])) rfl rfl (hb hby d12_8)
  obtain ⟨T280, X280, e280, st280⟩ := castY X279 hx hZ hown (wd_9 hw) e279 (Ins.self E_a2) (g := (mkF m 15 #[.val (.ref a1), .val (.ref a2), .unset] [(.ref a2)])) rfl rfl (hb hby d12_15)
  obtain ⟨T281, X281, e281, st281⟩ := getS2 X280 hx hZ hown (host := "") (Or.inl (wd_4 hw)) Via.refl e280 (S_COMPACT_STRINGS.ext (Old0).2) (g := (mkF m 19 #[.val (.ref a1), .val (.ref a2), .val (.ref a2)] [])) rfl (hb hby d12_19)
  obtain ⟨T282, X282, e282, st282⟩ := getF X281 hx hZ hown (host := "") (Or.inl (wd_24 hw)) Via.refl e281 F_coder_a1 (g := (mkF m 26 #[.val (.ref a1), .val (.ref a2), .val (.ref a2)] [(.ref a1)])) rfl rfl (hb hby d12_26)
  obtain ⟨T283, X283, e283, st283⟩ := getF X282 hx hZ hown (host := "") (Or.inl (wd_24 hw)) Via.refl e282 F_coder_a2 (g := (mkF m 30 #[.val (.ref a1), .val (.ref a2), .val (.ref a2)] [(.ref a2), (.int (0 : Int32))])) rfl rfl (hb hby d12_30)
  obtain ⟨T284, X284, e284, st284⟩ := getF X283 hx hZ hown (host := "") (Or.inl (wd_22 hw)) Via.refl e283 F_value_a1 (g := (mkF m 37 #[.val (.ref a1), .val (.ref a2), .val (.ref a2)] [(.ref a1)])) rfl rfl (hb hby d12_37)
  obtain ⟨T285, X285, e285, st285⟩ := getF X284 hx hZ hown (host := "") (Or.inl (wd_22 hw)) Via.refl e284 F_value_a2 (g := (mkF m 41 #[.val (.ref a1), .val (.ref a2), .val (.ref a2)] [(.ref a2), (.ref t1)])) rfl rfl (hb hby d12_41)
  obtain ⟨_, _, ⟨T286, L286, k286, n286⟩, -, X286, ⟨Lc286, hQ286, l286, y286, z286⟩, st286⟩ := Jvm.LawKit.callS X285 hx (y := (⟨"java/lang/StringLatin1", "equals", "([B[B)Z"⟩ : MethodName)) hown (mvT hZ (wd_63 hw)) (mvT hZ (wd_64 hw)) (mvT hZ (wd_7 hw)) (mvT hZ (wd_65 hw)) (by decide) (backOf (W := 0) (rmle110 l Z a0 hw [] t1 t2 k1 k2 x0 y0 h0 n0 Z0 V_t1 V_t2 hn) hZ (wd_65 hw) (wd_7 hw) (by decide) (by decide)) (g := (mkF m 44 #[.val (.ref a1), .val (.ref a2), .val (.ref a2)] [(.ref t2), (.ref t1)])) rfl (by rw [hml]; rfl) (argsL := [(.ref t1), (.ref t2)]) (rest := []) (lenOf pd___B_B_Z rfl) rfl (by show 2 * 0 + _ ≤ _; exact Nat.le_of_eq rfl) (hb hby d12_44) (fun _ _ => ⟨rfl, e285, (by decide : 0 + 0 ≤ _), (by decide : 0 + 0 ≤ _)⟩)
  dsimp only [Pt.U, Pt.locs, Pt.cells, Pt.slots] at X286 l286 y286 z286 st286 hQ286
  rw [l286, y286, z286] at X286
  obtain ⟨rfl, N286q, e286⟩ := hQ286
  have N286 := Fr.app N0 N286q
  obtain ⟨fs, hr, hrun, hended, hW, hsame⟩ := X286.leave (v := some (.int (0 : Int32))) (fun h => by rw [Bd.returns] at h; cases h)
  refine ⟨_, _, pre0 _ ?_, hrun, hended, _, _, rfl, ?_, ⟨_, rfl⟩, hW, hsame.mono (by decide) (by decide)⟩
  · show Steps p.tables e below (s₁.setTop (mkF m 0 #[.val (.ref a1), .val (.ref a2), .unset] [])) _
    refine XS.aloadN X0.here hx rfl (hb hby d12_0) rfl rfl ?_
    refine XS.aloadN X0.here hx rfl (hb hby d12_1) rfl rfl ?_
    refine Jvm.RoadKit.acmp (g := (mkF m 2 #[.val (.ref a1), .val (.ref a2), .unset] [(.ref a2), (.ref a1)])) X0 hx rfl rfl rfl (pc0 := 2) (pc' := 7) (same := false) rfl (hb hby d12_2) rfl (decide_eq_false fun q => ne_a1_a2 (Value.ref.inj q)) (by decide) (by decide) ?_
    refine XS.aloadN X0.here hx rfl (hb hby d12_7) rfl rfl ?_
    refine st279 _ ?_
    refine XS.ifNo X279.here hx rfl (hb hby d12_11) rfl ((if0 _ _).trans (feq (by decide)).1) ?_
    refine XS.aloadN X279.here hx rfl (hb hby d12_14) rfl rfl ?_
    refine st280 _ ?_
    refine XS.astoreN X280.here hx rfl (hb hby d12_18) rfl rfl (l' := #[.val (.ref a1), .val (.ref a2), .val (.ref a2)]) rfl ?_
    refine st281 _ ?_
    show Steps p.tables e below (T281.setTop (mkF m 22 #[.val (.ref a1), .val (.ref a2), .val (.ref a2)] [(.int wz)])) _
    refine XS.ifNo X281.here hx rfl (hb hby d12_22) rfl ((if0 _ _).trans (feq hz).1) ?_
    refine XS.aloadN X281.here hx rfl (hb hby d12_25) rfl rfl ?_
    refine st282 _ ?_
    refine XS.aloadN X282.here hx rfl (hb hby d12_29) rfl rfl ?_
    refine st283 _ ?_
    refine XS.icmpNo X283.here hx rfl (hb hby d12_33) rfl (teq (rfl : (0 : Int32) = (0 : Int32))).2 ?_
    refine XS.aloadN X283.here hx rfl (hb hby d12_36) rfl rfl ?_
    refine st284 _ ?_
    refine XS.aloadN X284.here hx rfl (hb hby d12_40) rfl rfl ?_
    refine st285 _ ?_
    show Steps p.tables e below (T285.setTop (mkF m 44 #[.val (.ref a1), .val (.ref a2), .val (.ref a2)] [(.ref t2), (.ref t1)])) _
    refine st286 _ ?_
    refine XS.ifYes X286.here hx rfl (pc0 := 47) (pc' := 54) rfl (hb hby d12_47) rfl ((if0 _ _).trans (teq (rfl : (0 : Int32) = (0 : Int32))).1) (by decide) (by decide) ?_
    refine XS.iconst X286.here hx rfl (hb hby d12_54) ?_
    exact retN X286 hx (t := .boolean) Bd.returns (by simp) (hb hby d12_55) hr
  · show Q_rmeq110 Z a1 a2 t1 t2 wz k1 k2 x0 y0 h0 n0 _ T286.heap _
    rw [e286]
    exact ⟨rfl, N286, rfl⟩
theorem d14_30 : decode prog_112_method_5_code 30 = .ok (.iinc 3 1, 3) := by decide +kernel
theorem d14_33 : decode prog_112_method_5_code 33 = .ok (.goto (-31), 3) := by decide +kernel
def Q_rmg1x1 (Z : State) (a1 : Addr) (a2 : Addr) (a3 : Addr) (nm : Addr) (vl : Addr) (kn : ClassId) (kv : ClassId) (s0 : Addr) (s1 : Addr) (s2 : Addr) (v0 : Addr) (v1 : Addr) (v2 : Addr) (t0 : Addr) (k0 : ClassId) (x0 : Int32) (y0 : Int32) (tq : Addr) (kq : ClassId) (wz : Int32) (h0 : Heap) (n0 : Nat) (v : Option Value) (h : Heap) (L : List Loc) : Prop := v = some (.ref a3) ∧ Fr n0 L ∧ h = h0
set_option maxRecDepth 65536 in
set_option maxHeartbeats 40000000 in
theorem rmg1x1 (l : Launch) (Z : State) (a0 : Array Value) (hw : ∀ d ∈ tables_1, d.before a0 Z = true) (ws : List Jvm.Cond) (a1 : Addr) (a2 : Addr) (a3 : Addr) (nm : Addr) (vl : Addr) (kn : ClassId) (kv : ClassId) (s0 : Addr) (s1 : Addr) (s2 : Addr) (v0 : Addr) (v1 : Addr) (v2 : Addr) (t0 : Addr) (k0 : ClassId) (x0 : Int32) (y0 : Int32) (tq : Addr) (kq : ClassId) (wz : Int32) (h0 : Heap) (n0 : Nat) (Z0 : n0 ≤ h0.size) (F_names_a1 : Fld Z h0 a1 "com/example/kawi/kawi/xml/Attributes" "names" "[Ljava/lang/String;" (.ref nm)) (F_values_a1 : Fld Z h0 a1 "com/example/kawi/kawi/xml/Attributes" "values" "[Ljava/lang/String;" (.ref vl)) (F_size_a1 : Fld Z h0 a1 "com/example/kawi/kawi/xml/Attributes" "size" "I" (.int (1 : Int32))) (V_nm : Arv Z h0 nm kn (.object "java/lang/String") (3 : Int32) [(.ref s0), (.ref s1), (.ref s2)] .null) (V_vl : Arv Z h0 vl kv (.object "java/lang/String") (3 : Int32) [(.ref v0), (.ref v1), (.ref v2)] .null) (E_s0 : Exa Z h0 s0 "java/lang/String") (F_value_s0 : Fld Z h0 s0 "java/lang/String" "value" "[B" (.ref t0)) (F_coder_s0 : Fld Z h0 s0 "java/lang/String" "coder" "B" (.int (0 : Int32))) (V_t0 : Arv Z h0 t0 k0 .byte (1 : Int32) [(.int x0)] (.int (0 : Int32))) (ne_s0_a2 : s0 ≠ a2) (E_a2 : Exa Z h0 a2 "java/lang/String") (F_value_a2 : Fld Z h0 a2 "java/lang/String" "value" "[B" (.ref tq)) (F_coder_a2 : Fld Z h0 a2 "java/lang/String" "coder" "B" (.int (0 : Int32))) (V_tq : Arv Z h0 tq kq .byte (1 : Int32) [(.int y0)] (.int (0 : Int32))) (Old0 : Old Z n0 h0) (S_COMPACT_STRINGS : Sta Z Z.heap "java/lang/String" "COMPACT_STRINGS" "Z" (.int wz)) (hz : ¬ (wz = (0 : Int32))) (he0 : ¬ (x0 = y0)) :
    MetFree l (⟨"com/example/kawi/kawi/xml/Attributes", "getOrDefault", "(Ljava/lang/String;Ljava/lang/String;)Ljava/lang/String;"⟩ : MethodName) (head1 (Jvm.Cond.code (⟨"com/example/kawi/kawi/xml/Attributes", "getOrDefault", "(Ljava/lang/String;Ljava/lang/String;)Ljava/lang/String;"⟩ : MethodName) prog_112_method_5_code 4 (some (.object "java/lang/String")) :: ws) ({ frames := 2, cells := 0, slots := 0, locals := 28 } : Room)) (fun a U => a = #[(.ref a1), (.ref a2), (.ref a3)] ∧ Z.Warmed39 U.vm ∧ U.heap = h0) (fun _ _ _ _ _ => True) (fun _ U o U' => ∃ v L, o = .returned v ∧ Q_rmg1x1 Z a1 a2 a3 nm vl kn kv s0 s1 s2 v0 v1 v2 t0 k0 x0 y0 tq kq wz h0 n0 v U'.heap L ∧ FrameEnd U o U' L ({ frames := 2, cells := 0, slots := 0, locals := 28 } : Room).cells ({ frames := 2, cells := 0, slots := 0, locals := 28 } : Room).slots) := by
  refine MetFree.of_bodySF (plainFor_of_name pn_com_example_kawi_kawi_xml_Attributes) hisR ?_
  intro p e s m args below meth c s₁ Bd hml0 hP hK
  obtain ⟨rfl, hZ, hh⟩ := hP
  have hx := Bd.exec
  have hby := Bd.bytes
  have hml : c.maxLocals = 4 := hml0
  have hown : s.vm.findClass "com/example/kawi/kawi/xml/Attributes" = some m.cls := findClass_of_methodNamed Bd.named
  have hnm := (name_of_methodNamed Bd.named Bd.method).1
  have X0 : Stand p l e ({ frames := 2, cells := 0, slots := 0, locals := 28 } : Room) s m #[(.ref a1), (.ref a2), (.ref a3)] below meth c s₁ [] 0 0 := Stand.of_body Bd
  have e0 : s₁.heap = h0 := by rw [← hh, Bd.state]; rfl
  have N0 := Fr.nil n0
  have pre0 : ∀ t, Steps p.tables e below (s₁.setTop (mkF m 0 #[.val (.ref a1), .val (.ref a2), .val (.ref a3), .unset] [])) t → Steps p.tables e below (s₁.setTop (entryFrame m #[(.ref a1), (.ref a2), (.ref a3)] 4)) t := fun t k => castTop (ef_14 m a1 a2 a3) k
  obtain ⟨T288, X288, e288, st288⟩ := getF X0 hx hZ hown (host := "") (Or.inl (wd_56 hw)) Via.refl e0 F_size_a1 (g := (mkF m 4 #[.val (.ref a1), .val (.ref a2), .val (.ref a3), .val (.int (0 : Int32))] [(.ref a1), (.int (0 : Int32))])) rfl rfl (hb hby d14_4)
  obtain ⟨T289, X289, e289, st289⟩ := getF X288 hx hZ hown (host := "") (Or.inl (wd_52 hw)) Via.refl e288 F_names_a1 (g := (mkF m 11 #[.val (.ref a1), .val (.ref a2), .val (.ref a3), .val (.int (0 : Int32))] [(.ref a1)])) rfl rfl (hb hby d14_11)
  obtain ⟨cl290, Ar290, q290, S290, N290n, H290, G290⟩ := id (V_nm)
  have hin290 : ¬ ((0 : Int32) < 0 ∨ cl290.slots.size ≤ ((0 : Int32)).toNatClampNeg) := inb_of S290 ⟨by decide, by decide⟩
  have hat290 : cl290.slots[((0 : Int32)).toNatClampNeg]? = some (.ref s0) := H290.at hin290 rfl
  obtain ⟨cq291, kq291, q291a, q291b, q291c⟩ := isOf hZ e289 (E_s0)
  obtain ⟨_, _, ⟨T291, L291, k291, n291⟩, -, X291, ⟨Lc291, hQ291, l291, y291, z291⟩, st291⟩ := X289.virtualBack hx (y := (⟨"java/lang/String", "equals", "(Ljava/lang/Object;)Z"⟩ : MethodName)) (z := (⟨"java/lang/String", "equals", "(Ljava/lang/Object;)Z"⟩ : MethodName)) hown (mvT hZ (wd_71 hw)) (mvT hZ (wd_59 hw)) (notFace_of_selects (args := #[]) (mvT hZ (wd_61 hw))) (mvT hZ (wd_61 hw)) (mvT hZ (wd_60 hw)) (by decide) (backOf (W := 0) (rmeq110 l Z a0 hw [] s0 a2 t0 tq wz k0 kq x0 y0 h0 n0 Z0 E_s0 E_a2 F_value_s0 F_value_a2 F_coder_s0 F_coder_a2 V_t0 V_tq Old0 S_COMPACT_STRINGS hz ne_s0_a2 he0) hZ (wd_62 hw) (wd_2 hw) (by decide) (by decide)) q291a q291c (g := (mkF m 17 #[.val (.ref a1), .val (.ref a2), .val (.ref a3), .val (.int (0 : Int32))] [(.ref a2), (.ref s0)])) rfl (by rw [hml]; rfl) (Steps.refl _) (argsL := [(.ref a2)]) (rest := []) (lenOf pd__Ljava_lang_Object__Z rfl) rfl (by show 2 * 0 + _ ≤ _; exact Nat.le_of_eq rfl) (hb hby d14_17) (fun _ _ => ⟨rfl, e289, (by decide : 0 + 0 ≤ _), (by decide : 0 + 0 ≤ _)⟩)
  dsimp only [Pt.U, Pt.locs, Pt.cells, Pt.slots] at X291 l291 y291 z291 st291 hQ291
  rw [l291, y291, z291] at X291
  obtain ⟨rfl, N291q, e291⟩ := hQ291
  have N291 := Fr.app N0 N291q
  obtain ⟨T292, X292, e292, st292⟩ := getF X291 hx hZ hown (host := "") (Or.inl (wd_56 hw)) Via.refl e291 F_size_a1 (g := (mkF m 4 #[.val (.ref a1), .val (.ref a2), .val (.ref a3), .val (.int (1 : Int32))] [(.ref a1), (.int (1 : Int32))])) rfl rfl (hb hby d14_4)
  obtain ⟨fs, hr, hrun, hended, hW, hsame⟩ := X292.leave (v := some (.ref a3)) (fun h => by rw [Bd.returns] at h; cases h)
  refine ⟨_, _, pre0 _ ?_, hrun, hended, _, _, rfl, ?_, ⟨_, rfl⟩, hW, hsame.mono (by decide) (by decide)⟩
  · show Steps p.tables e below (s₁.setTop (mkF m 0 #[.val (.ref a1), .val (.ref a2), .val (.ref a3), .unset] [])) _
    refine XS.iconst X0.here hx rfl (hb hby d14_0) ?_
    refine XS.istoreN X0.here hx rfl (hb hby d14_1) rfl (l' := #[.val (.ref a1), .val (.ref a2), .val (.ref a3), .val (.int (0 : Int32))]) rfl ?_
    refine XS.iloadN X0.here hx rfl (hb hby d14_2) rfl ?_
    refine XS.aloadN X0.here hx rfl (hb hby d14_3) rfl rfl ?_
    refine st288 _ ?_
    refine XS.icmpNo X288.here hx rfl (hb hby d14_7) rfl (tlt (by decide)).2.1 ?_
    refine XS.aloadN X288.here hx rfl (hb hby d14_10) rfl rfl ?_
    refine st289 _ ?_
    refine XS.iloadN X289.here hx rfl (hb hby d14_14) rfl ?_
    refine X289.aaload hx (j := (0 : Int32)) (v := (.ref s0)) (by rw [e289]; exact Ar290.1) (State.isArrayOf_alike hZ.alike Ar290.2.1) rfl Ar290.2.2 hin290 hat290 (g := (mkF m 15 #[.val (.ref a1), .val (.ref a2), .val (.ref a3), .val (.int (0 : Int32))] [(.int (0 : Int32)), (.ref nm)])) rfl rfl (hb hby d14_15) _ ?_
    show Steps p.tables e below (T289.setTop (mkF m 16 #[.val (.ref a1), .val (.ref a2), .val (.ref a3), .val (.int (0 : Int32))] [(.ref s0)])) _
    refine XS.aloadN X289.here hx rfl (hb hby d14_16) rfl rfl ?_
    refine st291.trans ?_
    refine XS.ifYes X291.here hx rfl (pc0 := 20) (pc' := 30) rfl (hb hby d14_20) rfl ((if0 _ _).trans (teq (rfl : (0 : Int32) = (0 : Int32))).1) (by decide) (by decide) ?_
    refine XS.iinc X291.here hx rfl (hb hby d14_30) rfl (l' := #[.val (.ref a1), .val (.ref a2), .val (.ref a3), .val (.int (1 : Int32))]) rfl ?_
    refine XS.goto X291.here hx rfl (pc0 := 33) (pc' := 2) rfl (hb hby d14_33) (by decide) (by decide) ?_
    refine XS.iloadN X291.here hx rfl (hb hby d14_2) rfl ?_
    refine XS.aloadN X291.here hx rfl (hb hby d14_3) rfl rfl ?_
    refine st292 _ ?_
    refine XS.icmpYes X292.here hx rfl (pc0 := 7) (pc' := 36) rfl (hb hby d14_7) rfl (flt (by decide)).2.1 (by decide) (by decide) ?_
    refine XS.aloadN X292.here hx rfl (hb hby d14_36) rfl rfl ?_
    show Steps p.tables e below (T292.setTop (mkF m 37 #[.val (.ref a1), .val (.ref a2), .val (.ref a3), .val (.int (1 : Int32))] [(.ref a3)])) _
    exact X292.areturnOut hx rfl Bd.returns rfl (hb hby d14_37) hr
  · show Q_rmg1x1 Z a1 a2 a3 nm vl kn kv s0 s1 s2 v0 v1 v2 t0 k0 x0 y0 tq kq wz h0 n0 _ T292.heap _
    rw [e292]
    exact ⟨rfl, N291, rfl⟩
def Q_rmg201 (Z : State) (a1 : Addr) (a2 : Addr) (a3 : Addr) (nm : Addr) (vl : Addr) (kn : ClassId) (kv : ClassId) (s0 : Addr) (s1 : Addr) (s2 : Addr) (v0 : Addr) (v1 : Addr) (v2 : Addr) (t0 : Addr) (k0 : ClassId) (x0 : Int32) (y0 : Int32) (tq : Addr) (kq : ClassId) (wz : Int32) (h0 : Heap) (n0 : Nat) (v : Option Value) (h : Heap) (L : List Loc) : Prop := v = some (.ref v0) ∧ Fr n0 L ∧ h = h0
set_option maxRecDepth 65536 in
set_option maxHeartbeats 40000000 in
theorem rmg201 (l : Launch) (Z : State) (a0 : Array Value) (hw : ∀ d ∈ tables_1, d.before a0 Z = true) (ws : List Jvm.Cond) (a1 : Addr) (a2 : Addr) (a3 : Addr) (nm : Addr) (vl : Addr) (kn : ClassId) (kv : ClassId) (s0 : Addr) (s1 : Addr) (s2 : Addr) (v0 : Addr) (v1 : Addr) (v2 : Addr) (t0 : Addr) (k0 : ClassId) (x0 : Int32) (y0 : Int32) (tq : Addr) (kq : ClassId) (wz : Int32) (h0 : Heap) (n0 : Nat) (Z0 : n0 ≤ h0.size) (F_names_a1 : Fld Z h0 a1 "com/example/kawi/kawi/xml/Attributes" "names" "[Ljava/lang/String;" (.ref nm)) (F_values_a1 : Fld Z h0 a1 "com/example/kawi/kawi/xml/Attributes" "values" "[Ljava/lang/String;" (.ref vl)) (F_size_a1 : Fld Z h0 a1 "com/example/kawi/kawi/xml/Attributes" "size" "I" (.int (2 : Int32))) (V_nm : Arv Z h0 nm kn (.object "java/lang/String") (3 : Int32) [(.ref s0), (.ref s1), (.ref s2)] .null) (V_vl : Arv Z h0 vl kv (.object "java/lang/String") (3 : Int32) [(.ref v0), (.ref v1), (.ref v2)] .null) (E_s0 : Exa Z h0 s0 "java/lang/String") (F_value_s0 : Fld Z h0 s0 "java/lang/String" "value" "[B" (.ref t0)) (F_coder_s0 : Fld Z h0 s0 "java/lang/String" "coder" "B" (.int (0 : Int32))) (V_t0 : Arv Z h0 t0 k0 .byte (1 : Int32) [(.int x0)] (.int (0 : Int32))) (ne_s0_a2 : s0 ≠ a2) (E_a2 : Exa Z h0 a2 "java/lang/String") (F_value_a2 : Fld Z h0 a2 "java/lang/String" "value" "[B" (.ref tq)) (F_coder_a2 : Fld Z h0 a2 "java/lang/String" "coder" "B" (.int (0 : Int32))) (V_tq : Arv Z h0 tq kq .byte (1 : Int32) [(.int y0)] (.int (0 : Int32))) (Old0 : Old Z n0 h0) (S_COMPACT_STRINGS : Sta Z Z.heap "java/lang/String" "COMPACT_STRINGS" "Z" (.int wz)) (hz : ¬ (wz = (0 : Int32))) (he0 : x0 = y0) :
    MetFree l (⟨"com/example/kawi/kawi/xml/Attributes", "getOrDefault", "(Ljava/lang/String;Ljava/lang/String;)Ljava/lang/String;"⟩ : MethodName) (head1 (Jvm.Cond.code (⟨"com/example/kawi/kawi/xml/Attributes", "getOrDefault", "(Ljava/lang/String;Ljava/lang/String;)Ljava/lang/String;"⟩ : MethodName) prog_112_method_5_code 4 (some (.object "java/lang/String")) :: ws) ({ frames := 2, cells := 0, slots := 0, locals := 28 } : Room)) (fun a U => a = #[(.ref a1), (.ref a2), (.ref a3)] ∧ Z.Warmed39 U.vm ∧ U.heap = h0) (fun _ _ _ _ _ => True) (fun _ U o U' => ∃ v L, o = .returned v ∧ Q_rmg201 Z a1 a2 a3 nm vl kn kv s0 s1 s2 v0 v1 v2 t0 k0 x0 y0 tq kq wz h0 n0 v U'.heap L ∧ FrameEnd U o U' L ({ frames := 2, cells := 0, slots := 0, locals := 28 } : Room).cells ({ frames := 2, cells := 0, slots := 0, locals := 28 } : Room).slots) := by
  refine MetFree.of_bodySF (plainFor_of_name pn_com_example_kawi_kawi_xml_Attributes) hisR ?_
  intro p e s m args below meth c s₁ Bd hml0 hP hK
  obtain ⟨rfl, hZ, hh⟩ := hP
  have hx := Bd.exec
  have hby := Bd.bytes
  have hml : c.maxLocals = 4 := hml0
  have hown : s.vm.findClass "com/example/kawi/kawi/xml/Attributes" = some m.cls := findClass_of_methodNamed Bd.named
  have hnm := (name_of_methodNamed Bd.named Bd.method).1
  have X0 : Stand p l e ({ frames := 2, cells := 0, slots := 0, locals := 28 } : Room) s m #[(.ref a1), (.ref a2), (.ref a3)] below meth c s₁ [] 0 0 := Stand.of_body Bd
  have e0 : s₁.heap = h0 := by rw [← hh, Bd.state]; rfl
  have N0 := Fr.nil n0
  have pre0 : ∀ t, Steps p.tables e below (s₁.setTop (mkF m 0 #[.val (.ref a1), .val (.ref a2), .val (.ref a3), .unset] [])) t → Steps p.tables e below (s₁.setTop (entryFrame m #[(.ref a1), (.ref a2), (.ref a3)] 4)) t := fun t k => castTop (ef_14 m a1 a2 a3) k
  obtain ⟨T297, X297, e297, st297⟩ := getF X0 hx hZ hown (host := "") (Or.inl (wd_56 hw)) Via.refl e0 F_size_a1 (g := (mkF m 4 #[.val (.ref a1), .val (.ref a2), .val (.ref a3), .val (.int (0 : Int32))] [(.ref a1), (.int (0 : Int32))])) rfl rfl (hb hby d14_4)
  obtain ⟨T298, X298, e298, st298⟩ := getF X297 hx hZ hown (host := "") (Or.inl (wd_52 hw)) Via.refl e297 F_names_a1 (g := (mkF m 11 #[.val (.ref a1), .val (.ref a2), .val (.ref a3), .val (.int (0 : Int32))] [(.ref a1)])) rfl rfl (hb hby d14_11)
  obtain ⟨cl299, Ar299, q299, S299, N299n, H299, G299⟩ := id (V_nm)
  have hin299 : ¬ ((0 : Int32) < 0 ∨ cl299.slots.size ≤ ((0 : Int32)).toNatClampNeg) := inb_of S299 ⟨by decide, by decide⟩
  have hat299 : cl299.slots[((0 : Int32)).toNatClampNeg]? = some (.ref s0) := H299.at hin299 rfl
  obtain ⟨cq300, kq300, q300a, q300b, q300c⟩ := isOf hZ e298 (E_s0)
  obtain ⟨_, _, ⟨T300, L300, k300, n300⟩, -, X300, ⟨Lc300, hQ300, l300, y300, z300⟩, st300⟩ := X298.virtualBack hx (y := (⟨"java/lang/String", "equals", "(Ljava/lang/Object;)Z"⟩ : MethodName)) (z := (⟨"java/lang/String", "equals", "(Ljava/lang/Object;)Z"⟩ : MethodName)) hown (mvT hZ (wd_71 hw)) (mvT hZ (wd_59 hw)) (notFace_of_selects (args := #[]) (mvT hZ (wd_61 hw))) (mvT hZ (wd_61 hw)) (mvT hZ (wd_60 hw)) (by decide) (backOf (W := 0) (rmeq11eq l Z a0 hw [] s0 a2 t0 tq wz k0 kq x0 y0 h0 n0 Z0 E_s0 E_a2 F_value_s0 F_value_a2 F_coder_s0 F_coder_a2 V_t0 V_tq Old0 S_COMPACT_STRINGS hz ne_s0_a2 he0) hZ (wd_62 hw) (wd_2 hw) (by decide) (by decide)) q300a q300c (g := (mkF m 17 #[.val (.ref a1), .val (.ref a2), .val (.ref a3), .val (.int (0 : Int32))] [(.ref a2), (.ref s0)])) rfl (by rw [hml]; rfl) (Steps.refl _) (argsL := [(.ref a2)]) (rest := []) (lenOf pd__Ljava_lang_Object__Z rfl) rfl (by show 2 * 0 + _ ≤ _; exact Nat.le_of_eq rfl) (hb hby d14_17) (fun _ _ => ⟨rfl, e298, (by decide : 0 + 0 ≤ _), (by decide : 0 + 0 ≤ _)⟩)
  dsimp only [Pt.U, Pt.locs, Pt.cells, Pt.slots] at X300 l300 y300 z300 st300 hQ300
  rw [l300, y300, z300] at X300
  obtain ⟨rfl, N300q, e300⟩ := hQ300
  have N300 := Fr.app N0 N300q
  obtain ⟨T301, X301, e301, st301⟩ := getF X300 hx hZ hown (host := "") (Or.inl (wd_54 hw)) Via.refl e300 F_values_a1 (g := (mkF m 24 #[.val (.ref a1), .val (.ref a2), .val (.ref a3), .val (.int (0 : Int32))] [(.ref a1)])) rfl rfl (hb hby d14_24)
  obtain ⟨cl302, Ar302, q302, S302, N302n, H302, G302⟩ := id (V_vl)
  have hin302 : ¬ ((0 : Int32) < 0 ∨ cl302.slots.size ≤ ((0 : Int32)).toNatClampNeg) := inb_of S302 ⟨by decide, by decide⟩
  have hat302 : cl302.slots[((0 : Int32)).toNatClampNeg]? = some (.ref v0) := H302.at hin302 rfl
  obtain ⟨fs, hr, hrun, hended, hW, hsame⟩ := X301.leave (v := some (.ref v0)) (fun h => by rw [Bd.returns] at h; cases h)
  refine ⟨_, _, pre0 _ ?_, hrun, hended, _, _, rfl, ?_, ⟨_, rfl⟩, hW, hsame.mono (by decide) (by decide)⟩
  · show Steps p.tables e below (s₁.setTop (mkF m 0 #[.val (.ref a1), .val (.ref a2), .val (.ref a3), .unset] [])) _
    refine XS.iconst X0.here hx rfl (hb hby d14_0) ?_
    refine XS.istoreN X0.here hx rfl (hb hby d14_1) rfl (l' := #[.val (.ref a1), .val (.ref a2), .val (.ref a3), .val (.int (0 : Int32))]) rfl ?_
    refine XS.iloadN X0.here hx rfl (hb hby d14_2) rfl ?_
    refine XS.aloadN X0.here hx rfl (hb hby d14_3) rfl rfl ?_
    refine st297 _ ?_
    refine XS.icmpNo X297.here hx rfl (hb hby d14_7) rfl (tlt (by decide)).2.1 ?_
    refine XS.aloadN X297.here hx rfl (hb hby d14_10) rfl rfl ?_
    refine st298 _ ?_
    refine XS.iloadN X298.here hx rfl (hb hby d14_14) rfl ?_
    refine X298.aaload hx (j := (0 : Int32)) (v := (.ref s0)) (by rw [e298]; exact Ar299.1) (State.isArrayOf_alike hZ.alike Ar299.2.1) rfl Ar299.2.2 hin299 hat299 (g := (mkF m 15 #[.val (.ref a1), .val (.ref a2), .val (.ref a3), .val (.int (0 : Int32))] [(.int (0 : Int32)), (.ref nm)])) rfl rfl (hb hby d14_15) _ ?_
    show Steps p.tables e below (T298.setTop (mkF m 16 #[.val (.ref a1), .val (.ref a2), .val (.ref a3), .val (.int (0 : Int32))] [(.ref s0)])) _
    refine XS.aloadN X298.here hx rfl (hb hby d14_16) rfl rfl ?_
    refine st300.trans ?_
    refine XS.ifNo X300.here hx rfl (hb hby d14_20) rfl ((if0 _ _).trans (feq (by decide)).1) ?_
    refine XS.aloadN X300.here hx rfl (hb hby d14_23) rfl rfl ?_
    refine st301 _ ?_
    refine XS.iloadN X301.here hx rfl (hb hby d14_27) rfl ?_
    refine X301.aaload hx (j := (0 : Int32)) (v := (.ref v0)) (by rw [e301]; exact Ar302.1) (State.isArrayOf_alike hZ.alike Ar302.2.1) rfl Ar302.2.2 hin302 hat302 (g := (mkF m 28 #[.val (.ref a1), .val (.ref a2), .val (.ref a3), .val (.int (0 : Int32))] [(.int (0 : Int32)), (.ref vl)])) rfl rfl (hb hby d14_28) _ ?_
    exact X301.areturnOut hx rfl Bd.returns rfl (hb hby d14_29) hr
  · show Q_rmg201 Z a1 a2 a3 nm vl kn kv s0 s1 s2 v0 v1 v2 t0 k0 x0 y0 tq kq wz h0 n0 _ T301.heap _
    rw [e301]
    exact ⟨rfl, N300, rfl⟩
def Q_rmg211 (Z : State) (a1 : Addr) (a2 : Addr) (a3 : Addr) (nm : Addr) (vl : Addr) (kn : ClassId) (kv : ClassId) (s0 : Addr) (s1 : Addr) (s2 : Addr) (v0 : Addr) (v1 : Addr) (v2 : Addr) (t0 : Addr) (t1 : Addr) (k0 : ClassId) (k1 : ClassId) (x0 : Int32) (x1 : Int32) (y0 : Int32) (tq : Addr) (kq : ClassId) (wz : Int32) (h0 : Heap) (n0 : Nat) (v : Option Value) (h : Heap) (L : List Loc) : Prop := v = some (.ref v1) ∧ Fr n0 L ∧ h = h0
set_option maxRecDepth 65536 in
set_option maxHeartbeats 40000000 in
theorem rmg211 (l : Launch) (Z : State) (a0 : Array Value) (hw : ∀ d ∈ tables_1, d.before a0 Z = true) (ws : List Jvm.Cond) (a1 : Addr) (a2 : Addr) (a3 : Addr) (nm : Addr) (vl : Addr) (kn : ClassId) (kv : ClassId) (s0 : Addr) (s1 : Addr) (s2 : Addr) (v0 : Addr) (v1 : Addr) (v2 : Addr) (t0 : Addr) (t1 : Addr) (k0 : ClassId) (k1 : ClassId) (x0 : Int32) (x1 : Int32) (y0 : Int32) (tq : Addr) (kq : ClassId) (wz : Int32) (h0 : Heap) (n0 : Nat) (Z0 : n0 ≤ h0.size) (F_names_a1 : Fld Z h0 a1 "com/example/kawi/kawi/xml/Attributes" "names" "[Ljava/lang/String;" (.ref nm)) (F_values_a1 : Fld Z h0 a1 "com/example/kawi/kawi/xml/Attributes" "values" "[Ljava/lang/String;" (.ref vl)) (F_size_a1 : Fld Z h0 a1 "com/example/kawi/kawi/xml/Attributes" "size" "I" (.int (2 : Int32))) (V_nm : Arv Z h0 nm kn (.object "java/lang/String") (3 : Int32) [(.ref s0), (.ref s1), (.ref s2)] .null) (V_vl : Arv Z h0 vl kv (.object "java/lang/String") (3 : Int32) [(.ref v0), (.ref v1), (.ref v2)] .null) (E_s0 : Exa Z h0 s0 "java/lang/String") (F_value_s0 : Fld Z h0 s0 "java/lang/String" "value" "[B" (.ref t0)) (F_coder_s0 : Fld Z h0 s0 "java/lang/String" "coder" "B" (.int (0 : Int32))) (V_t0 : Arv Z h0 t0 k0 .byte (1 : Int32) [(.int x0)] (.int (0 : Int32))) (ne_s0_a2 : s0 ≠ a2) (E_s1 : Exa Z h0 s1 "java/lang/String") (F_value_s1 : Fld Z h0 s1 "java/lang/String" "value" "[B" (.ref t1)) (F_coder_s1 : Fld Z h0 s1 "java/lang/String" "coder" "B" (.int (0 : Int32))) (V_t1 : Arv Z h0 t1 k1 .byte (1 : Int32) [(.int x1)] (.int (0 : Int32))) (ne_s1_a2 : s1 ≠ a2) (E_a2 : Exa Z h0 a2 "java/lang/String") (F_value_a2 : Fld Z h0 a2 "java/lang/String" "value" "[B" (.ref tq)) (F_coder_a2 : Fld Z h0 a2 "java/lang/String" "coder" "B" (.int (0 : Int32))) (V_tq : Arv Z h0 tq kq .byte (1 : Int32) [(.int y0)] (.int (0 : Int32))) (Old0 : Old Z n0 h0) (S_COMPACT_STRINGS : Sta Z Z.heap "java/lang/String" "COMPACT_STRINGS" "Z" (.int wz)) (hz : ¬ (wz = (0 : Int32))) (he0 : ¬ (x0 = y0)) (he1 : x1 = y0) :
    MetFree l (⟨"com/example/kawi/kawi/xml/Attributes", "getOrDefault", "(Ljava/lang/String;Ljava/lang/String;)Ljava/lang/String;"⟩ : MethodName) (head1 (Jvm.Cond.code (⟨"com/example/kawi/kawi/xml/Attributes", "getOrDefault", "(Ljava/lang/String;Ljava/lang/String;)Ljava/lang/String;"⟩ : MethodName) prog_112_method_5_code 4 (some (.object "java/lang/String")) :: ws) ({ frames := 2, cells := 0, slots := 0, locals := 28 } : Room)) (fun a U => a = #[(.ref a1), (.ref a2), (.ref a3)] ∧ Z.Warmed39 U.vm ∧ U.heap = h0) (fun _ _ _ _ _ => True) (fun _ U o U' => ∃ v L, o = .returned v ∧ Q_rmg211 Z a1 a2 a3 nm vl kn kv s0 s1 s2 v0 v1 v2 t0 t1 k0 k1 x0 x1 y0 tq kq wz h0 n0 v U'.heap L ∧ FrameEnd U o U' L ({ frames := 2, cells := 0, slots := 0, locals := 28 } : Room).cells ({ frames := 2, cells := 0, slots := 0, locals := 28 } : Room).slots) := by
  refine MetFree.of_bodySF (plainFor_of_name pn_com_example_kawi_kawi_xml_Attributes) hisR ?_
  intro p e s m args below meth c s₁ Bd hml0 hP hK
  obtain ⟨rfl, hZ, hh⟩ := hP
  have hx := Bd.exec
  have hby := Bd.bytes
  have hml : c.maxLocals = 4 := hml0
  have hown : s.vm.findClass "com/example/kawi/kawi/xml/Attributes" = some m.cls := findClass_of_methodNamed Bd.named
  have hnm := (name_of_methodNamed Bd.named Bd.method).1
  have X0 : Stand p l e ({ frames := 2, cells := 0, slots := 0, locals := 28 } : Room) s m #[(.ref a1), (.ref a2), (.ref a3)] below meth c s₁ [] 0 0 := Stand.of_body Bd
  have e0 : s₁.heap = h0 := by rw [← hh, Bd.state]; rfl
  have N0 := Fr.nil n0
  have pre0 : ∀ t, Steps p.tables e below (s₁.setTop (mkF m 0 #[.val (.ref a1), .val (.ref a2), .val (.ref a3), .unset] [])) t → Steps p.tables e below (s₁.setTop (entryFrame m #[(.ref a1), (.ref a2), (.ref a3)] 4)) t := fun t k => castTop (ef_14 m a1 a2 a3) k
  obtain ⟨T308, X308, e308, st308⟩ := getF X0 hx hZ hown (host := "") (Or.inl (wd_56 hw)) Via.refl e0 F_size_a1 (g := (mkF m 4 #[.val (.ref a1), .val (.ref a2), .val (.ref a3), .val (.int (0 : Int32))] [(.ref a1), (.int (0 : Int32))])) rfl rfl (hb hby d14_4)
  obtain ⟨T309, X309, e309, st309⟩ := getF X308 hx hZ hown (host := "") (Or.inl (wd_52 hw)) Via.refl e308 F_names_a1 (g := (mkF m 11 #[.val (.ref a1), .val (.ref a2), .val (.ref a3), .val (.int (0 : Int32))] [(.ref a1)])) rfl rfl (hb hby d14_11)
  obtain ⟨cl310, Ar310, q310, S310, N310n, H310, G310⟩ := id (V_nm)
  have hin310 : ¬ ((0 : Int32) < 0 ∨ cl310.slots.size ≤ ((0 : Int32)).toNatClampNeg) := inb_of S310 ⟨by decide, by decide⟩
  have hat310 : cl310.slots[((0 : Int32)).toNatClampNeg]? = some (.ref s0) := H310.at hin310 rfl
  obtain ⟨cq311, kq311, q311a, q311b, q311c⟩ := isOf hZ e309 (E_s0)
  obtain ⟨_, _, ⟨T311, L311, k311, n311⟩, -, X311, ⟨Lc311, hQ311, l311, y311, z311⟩, st311⟩ := X309.virtualBack hx (y := (⟨"java/lang/String", "equals", "(Ljava/lang/Object;)Z"⟩ : MethodName)) (z := (⟨"java/lang/String", "equals", "(Ljava/lang/Object;)Z"⟩ : MethodName)) hown (mvT hZ (wd_71 hw)) (mvT hZ (wd_59 hw)) (notFace_of_selects (args := #[]) (mvT hZ (wd_61 hw))) (mvT hZ (wd_61 hw)) (mvT hZ (wd_60 hw)) (by decide) (backOf (W := 0) (rmeq110 l Z a0 hw [] s0 a2 t0 tq wz k0 kq x0 y0 h0 n0 Z0 E_s0 E_a2 F_value_s0 F_value_a2 F_coder_s0 F_coder_a2 V_t0 V_tq Old0 S_COMPACT_STRINGS hz ne_s0_a2 he0) hZ (wd_62 hw) (wd_2 hw) (by decide) (by decide)) q311a q311c (g := (mkF m 17 #[.val (.ref a1), .val (.ref a2), .val (.ref a3), .val (.int (0 : Int32))] [(.ref a2), (.ref s0)])) rfl (by rw [hml]; rfl) (Steps.refl _) (argsL := [(.ref a2)]) (rest := []) (lenOf pd__Ljava_lang_Object__Z rfl) rfl (by show 2 * 0 + _ ≤ _; exact Nat.le_of_eq rfl) (hb hby d14_17) (fun _ _ => ⟨rfl, e309, (by decide : 0 + 0 ≤ _), (by decide : 0 + 0 ≤ _)⟩)
  dsimp only [Pt.U, Pt.locs, Pt.cells, Pt.slots] at X311 l311 y311 z311 st311 hQ311
  rw [l311, y311, z311] at X311
  obtain ⟨rfl, N311q, e311⟩ := hQ311
  have N311 := Fr.app N0 N311q
  obtain ⟨T312, X312, e312, st312⟩ := getF X311 hx hZ hown (host := "") (Or.inl (wd_56 hw)) Via.refl e311 F_size_a1 (g := (mkF m 4 #[.val (.ref a1), .val (.ref a2), .val (.ref a3), .val (.int (1 : Int32))] [(.ref a1), (.int (1 : Int32))])) rfl rfl (hb hby d14_4)
  obtain ⟨T313, X313, e313, st313⟩ := getF X312 hx hZ hown (host := "") (Or.inl (wd_52 hw)) Via.refl e312 F_names_a1 (g := (mkF m 11 #[.val (.ref a1), .val (.ref a2), .val (.ref a3), .val (.int (1 : Int32))] [(.ref a1)])) rfl rfl (hb hby d14_11)
  obtain ⟨cl314, Ar314, q314, S314, N314n, H314, G314⟩ := id (V_nm)
  have hin314 : ¬ ((1 : Int32) < 0 ∨ cl314.slots.size ≤ ((1 : Int32)).toNatClampNeg) := inb_of S314 ⟨by decide, by decide⟩
  have hat314 : cl314.slots[((1 : Int32)).toNatClampNeg]? = some (.ref s1) := H314.at hin314 rfl
  obtain ⟨cq315, kq315, q315a, q315b, q315c⟩ := isOf hZ e313 (E_s1)
  obtain ⟨_, _, ⟨T315, L315, k315, n315⟩, -, X315, ⟨Lc315, hQ315, l315, y315, z315⟩, st315⟩ := X313.virtualBack hx (y := (⟨"java/lang/String", "equals", "(Ljava/lang/Object;)Z"⟩ : MethodName)) (z := (⟨"java/lang/String", "equals", "(Ljava/lang/Object;)Z"⟩ : MethodName)) hown (mvT hZ (wd_71 hw)) (mvT hZ (wd_59 hw)) (notFace_of_selects (args := #[]) (mvT hZ (wd_61 hw))) (mvT hZ (wd_61 hw)) (mvT hZ (wd_60 hw)) (by decide) (backOf (W := 0) (rmeq11eq l Z a0 hw [] s1 a2 t1 tq wz k1 kq x1 y0 h0 n0 Z0 E_s1 E_a2 F_value_s1 F_value_a2 F_coder_s1 F_coder_a2 V_t1 V_tq Old0 S_COMPACT_STRINGS hz ne_s1_a2 he1) hZ (wd_62 hw) (wd_2 hw) (by decide) (by decide)) q315a q315c (g := (mkF m 17 #[.val (.ref a1), .val (.ref a2), .val (.ref a3), .val (.int (1 : Int32))] [(.ref a2), (.ref s1)])) rfl (by rw [hml]; rfl) (Steps.refl _) (argsL := [(.ref a2)]) (rest := []) (lenOf pd__Ljava_lang_Object__Z rfl) rfl (by show 2 * 0 + _ ≤ _; exact Nat.le_of_eq rfl) (hb hby d14_17) (fun _ _ => ⟨rfl, e313, (by decide : 0 + 0 ≤ _), (by decide : 0 + 0 ≤ _)⟩)
  dsimp only [Pt.U, Pt.locs, Pt.cells, Pt.slots] at X315 l315 y315 z315 st315 hQ315
  rw [l315, y315, z315] at X315
  obtain ⟨rfl, N315q, e315⟩ := hQ315
  have N315 := Fr.app N311 N315q
  obtain ⟨T316, X316, e316, st316⟩ := getF X315 hx hZ hown (host := "") (Or.inl (wd_54 hw)) Via.refl e315 F_values_a1 (g := (mkF m 24 #[.val (.ref a1), .val (.ref a2), .val (.ref a3), .val (.int (1 : Int32))] [(.ref a1)])) rfl rfl (hb hby d14_24)
  obtain ⟨cl317, Ar317, q317, S317, N317n, H317, G317⟩ := id (V_vl)
  have hin317 : ¬ ((1 : Int32) < 0 ∨ cl317.slots.size ≤ ((1 : Int32)).toNatClampNeg) := inb_of S317 ⟨by decide, by decide⟩
  have hat317 : cl317.slots[((1 : Int32)).toNatClampNeg]? = some (.ref v1) := H317.at hin317 rfl
  obtain ⟨fs, hr, hrun, hended, hW, hsame⟩ := X316.leave (v := some (.ref v1)) (fun h => by rw [Bd.returns] at h; cases h)
  refine ⟨_, _, pre0 _ ?_, hrun, hended, _, _, rfl, ?_, ⟨_, rfl⟩, hW, hsame.mono (by decide) (by decide)⟩
  · show Steps p.tables e below (s₁.setTop (mkF m 0 #[.val (.ref a1), .val (.ref a2), .val (.ref a3), .unset] [])) _
    refine XS.iconst X0.here hx rfl (hb hby d14_0) ?_
    refine XS.istoreN X0.here hx rfl (hb hby d14_1) rfl (l' := #[.val (.ref a1), .val (.ref a2), .val (.ref a3), .val (.int (0 : Int32))]) rfl ?_
    refine XS.iloadN X0.here hx rfl (hb hby d14_2) rfl ?_
    refine XS.aloadN X0.here hx rfl (hb hby d14_3) rfl rfl ?_
    refine st308 _ ?_
    refine XS.icmpNo X308.here hx rfl (hb hby d14_7) rfl (tlt (by decide)).2.1 ?_
    refine XS.aloadN X308.here hx rfl (hb hby d14_10) rfl rfl ?_
    refine st309 _ ?_
    refine XS.iloadN X309.here hx rfl (hb hby d14_14) rfl ?_
    refine X309.aaload hx (j := (0 : Int32)) (v := (.ref s0)) (by rw [e309]; exact Ar310.1) (State.isArrayOf_alike hZ.alike Ar310.2.1) rfl Ar310.2.2 hin310 hat310 (g := (mkF m 15 #[.val (.ref a1), .val (.ref a2), .val (.ref a3), .val (.int (0 : Int32))] [(.int (0 : Int32)), (.ref nm)])) rfl rfl (hb hby d14_15) _ ?_
    show Steps p.tables e below (T309.setTop (mkF m 16 #[.val (.ref a1), .val (.ref a2), .val (.ref a3), .val (.int (0 : Int32))] [(.ref s0)])) _
    refine XS.aloadN X309.here hx rfl (hb hby d14_16) rfl rfl ?_
    refine st311.trans ?_
    refine XS.ifYes X311.here hx rfl (pc0 := 20) (pc' := 30) rfl (hb hby d14_20) rfl ((if0 _ _).trans (teq (rfl : (0 : Int32) = (0 : Int32))).1) (by decide) (by decide) ?_
    refine XS.iinc X311.here hx rfl (hb hby d14_30) rfl (l' := #[.val (.ref a1), .val (.ref a2), .val (.ref a3), .val (.int (1 : Int32))]) rfl ?_
    refine XS.goto X311.here hx rfl (pc0 := 33) (pc' := 2) rfl (hb hby d14_33) (by decide) (by decide) ?_
    refine XS.iloadN X311.here hx rfl (hb hby d14_2) rfl ?_
    refine XS.aloadN X311.here hx rfl (hb hby d14_3) rfl rfl ?_
    refine st312 _ ?_
    refine XS.icmpNo X312.here hx rfl (hb hby d14_7) rfl (tlt (by decide)).2.1 ?_
    refine XS.aloadN X312.here hx rfl (hb hby d14_10) rfl rfl ?_
    show Steps p.tables e below (T312.setTop (mkF m 11 #[.val (.ref a1), .val (.ref a2), .val (.ref a3), .val (.int (1 : Int32))] [(.ref a1)])) _
    refine st313 _ ?_
    refine XS.iloadN X313.here hx rfl (hb hby d14_14) rfl ?_
    refine X313.aaload hx (j := (1 : Int32)) (v := (.ref s1)) (by rw [e313]; exact Ar314.1) (State.isArrayOf_alike hZ.alike Ar314.2.1) rfl Ar314.2.2 hin314 hat314 (g := (mkF m 15 #[.val (.ref a1), .val (.ref a2), .val (.ref a3), .val (.int (1 : Int32))] [(.int (1 : Int32)), (.ref nm)])) rfl rfl (hb hby d14_15) _ ?_
    refine XS.aloadN X313.here hx rfl (hb hby d14_16) rfl rfl ?_
    refine st315.trans ?_
    refine XS.ifNo X315.here hx rfl (hb hby d14_20) rfl ((if0 _ _).trans (feq (by decide)).1) ?_
    refine XS.aloadN X315.here hx rfl (hb hby d14_23) rfl rfl ?_
    refine st316 _ ?_
    refine XS.iloadN X316.here hx rfl (hb hby d14_27) rfl ?_
    refine X316.aaload hx (j := (1 : Int32)) (v := (.ref v1)) (by rw [e316]; exact Ar317.1) (State.isArrayOf_alike hZ.alike Ar317.2.1) rfl Ar317.2.2 hin317 hat317 (g := (mkF m 28 #[.val (.ref a1), .val (.ref a2), .val (.ref a3), .val (.int (1 : Int32))] [(.int (1 : Int32)), (.ref vl)])) rfl rfl (hb hby d14_28) _ ?_
    show Steps p.tables e below (T316.setTop (mkF m 29 #[.val (.ref a1), .val (.ref a2), .val (.ref a3), .val (.int (1 : Int32))] [(.ref v1)])) _
    exact X316.areturnOut hx rfl Bd.returns rfl (hb hby d14_29) hr
  · show Q_rmg211 Z a1 a2 a3 nm vl kn kv s0 s1 s2 v0 v1 v2 t0 t1 k0 k1 x0 x1 y0 tq kq wz h0 n0 _ T316.heap _
    rw [e316]
    exact ⟨rfl, N315, rfl⟩
def Q_rmg2x1 (Z : State) (a1 : Addr) (a2 : Addr) (a3 : Addr) (nm : Addr) (vl : Addr) (kn : ClassId) (kv : ClassId) (s0 : Addr) (s1 : Addr) (s2 : Addr) (v0 : Addr) (v1 : Addr) (v2 : Addr) (t0 : Addr) (t1 : Addr) (k0 : ClassId) (k1 : ClassId) (x0 : Int32) (x1 : Int32) (y0 : Int32) (tq : Addr) (kq : ClassId) (wz : Int32) (h0 : Heap) (n0 : Nat) (v : Option Value) (h : Heap) (L : List Loc) : Prop := v = some (.ref a3) ∧ Fr n0 L ∧ h = h0
set_option maxRecDepth 65536 in
set_option maxHeartbeats 40000000 in
theorem rmg2x1 (l : Launch) (Z : State) (a0 : Array Value) (hw : ∀ d ∈ tables_1, d.before a0 Z = true) (ws : List Jvm.Cond) (a1 : Addr) (a2 : Addr) (a3 : Addr) (nm : Addr) (vl : Addr) (kn : ClassId) (kv : ClassId) (s0 : Addr) (s1 : Addr) (s2 : Addr) (v0 : Addr) (v1 : Addr) (v2 : Addr) (t0 : Addr) (t1 : Addr) (k0 : ClassId) (k1 : ClassId) (x0 : Int32) (x1 : Int32) (y0 : Int32) (tq : Addr) (kq : ClassId) (wz : Int32) (h0 : Heap) (n0 : Nat) (Z0 : n0 ≤ h0.size) (F_names_a1 : Fld Z h0 a1 "com/example/kawi/kawi/xml/Attributes" "names" "[Ljava/lang/String;" (.ref nm)) (F_values_a1 : Fld Z h0 a1 "com/example/kawi/kawi/xml/Attributes" "values" "[Ljava/lang/String;" (.ref vl)) (F_size_a1 : Fld Z h0 a1 "com/example/kawi/kawi/xml/Attributes" "size" "I" (.int (2 : Int32))) (V_nm : Arv Z h0 nm kn (.object "java/lang/String") (3 : Int32) [(.ref s0), (.ref s1), (.ref s2)] .null) (V_vl : Arv Z h0 vl kv (.object "java/lang/String") (3 : Int32) [(.ref v0), (.ref v1), (.ref v2)] .null) (E_s0 : Exa Z h0 s0 "java/lang/String") (F_value_s0 : Fld Z h0 s0 "java/lang/String" "value" "[B" (.ref t0)) (F_coder_s0 : Fld Z h0 s0 "java/lang/String" "coder" "B" (.int (0 : Int32))) (V_t0 : Arv Z h0 t0 k0 .byte (1 : Int32) [(.int x0)] (.int (0 : Int32))) (ne_s0_a2 : s0 ≠ a2) (E_s1 : Exa Z h0 s1 "java/lang/String") (F_value_s1 : Fld Z h0 s1 "java/lang/String" "value" "[B" (.ref t1)) (F_coder_s1 : Fld Z h0 s1 "java/lang/String" "coder" "B" (.int (0 : Int32))) (V_t1 : Arv Z h0 t1 k1 .byte (1 : Int32) [(.int x1)] (.int (0 : Int32))) (ne_s1_a2 : s1 ≠ a2) (E_a2 : Exa Z h0 a2 "java/lang/String") (F_value_a2 : Fld Z h0 a2 "java/lang/String" "value" "[B" (.ref tq)) (F_coder_a2 : Fld Z h0 a2 "java/lang/String" "coder" "B" (.int (0 : Int32))) (V_tq : Arv Z h0 tq kq .byte (1 : Int32) [(.int y0)] (.int (0 : Int32))) (Old0 : Old Z n0 h0) (S_COMPACT_STRINGS : Sta Z Z.heap "java/lang/String" "COMPACT_STRINGS" "Z" (.int wz)) (hz : ¬ (wz = (0 : Int32))) (he0 : ¬ (x0 = y0)) (he1 : ¬ (x1 = y0)) :
    MetFree l (⟨"com/example/kawi/kawi/xml/Attributes", "getOrDefault", "(Ljava/lang/String;Ljava/lang/String;)Ljava/lang/String;"⟩ : MethodName) (head1 (Jvm.Cond.code (⟨"com/example/kawi/kawi/xml/Attributes", "getOrDefault", "(Ljava/lang/String;Ljava/lang/String;)Ljava/lang/String;"⟩ : MethodName) prog_112_method_5_code 4 (some (.object "java/lang/String")) :: ws) ({ frames := 2, cells := 0, slots := 0, locals := 28 } : Room)) (fun a U => a = #[(.ref a1), (.ref a2), (.ref a3)] ∧ Z.Warmed39 U.vm ∧ U.heap = h0) (fun _ _ _ _ _ => True) (fun _ U o U' => ∃ v L, o = .returned v ∧ Q_rmg2x1 Z a1 a2 a3 nm vl kn kv s0 s1 s2 v0 v1 v2 t0 t1 k0 k1 x0 x1 y0 tq kq wz h0 n0 v U'.heap L ∧ FrameEnd U o U' L ({ frames := 2, cells := 0, slots := 0, locals := 28 } : Room).cells ({ frames := 2, cells := 0, slots := 0, locals := 28 } : Room).slots) := by
  refine MetFree.of_bodySF (plainFor_of_name pn_com_example_kawi_kawi_xml_Attributes) hisR ?_
  intro p e s m args below meth c s₁ Bd hml0 hP hK
  obtain ⟨rfl, hZ, hh⟩ := hP
  have hx := Bd.exec
  have hby := Bd.bytes
  have hml : c.maxLocals = 4 := hml0
  have hown : s.vm.findClass "com/example/kawi/kawi/xml/Attributes" = some m.cls := findClass_of_methodNamed Bd.named
  have hnm := (name_of_methodNamed Bd.named Bd.method).1
  have X0 : Stand p l e ({ frames := 2, cells := 0, slots := 0, locals := 28 } : Room) s m #[(.ref a1), (.ref a2), (.ref a3)] below meth c s₁ [] 0 0 := Stand.of_body Bd
  have e0 : s₁.heap = h0 := by rw [← hh, Bd.state]; rfl
  have N0 := Fr.nil n0
  have pre0 : ∀ t, Steps p.tables e below (s₁.setTop (mkF m 0 #[.val (.ref a1), .val (.ref a2), .val (.ref a3), .unset] [])) t → Steps p.tables e below (s₁.setTop (entryFrame m #[(.ref a1), (.ref a2), (.ref a3)] 4)) t := fun t k => castTop (ef_14 m a1 a2 a3) k
  obtain ⟨T320, X320, e320, st320⟩ := getF X0 hx hZ hown (host := "") (Or.inl (wd_56 hw)) Via.refl e0 F_size_a1 (g := (mkF m 4 #[.val (.ref a1), .val (.ref a2), .val (.ref a3), .val (.int (0 : Int32))] [(.ref a1), (.int (0 : Int32))])) rfl rfl (hb hby d14_4)
  obtain ⟨T321, X321, e321, st321⟩ := getF X320 hx hZ hown (host := "") (Or.inl (wd_52 hw)) Via.refl e320 F_names_a1 (g := (mkF m 11 #[.val (.ref a1), .val (.ref a2), .val (.ref a3), .val (.int (0 : Int32))] [(.ref a1)])) rfl rfl (hb hby d14_11)
  obtain ⟨cl322, Ar322, q322, S322, N322n, H322, G322⟩ := id (V_nm)
  have hin322 : ¬ ((0 : Int32) < 0 ∨ cl322.slots.size ≤ ((0 : Int32)).toNatClampNeg) := inb_of S322 ⟨by decide, by decide⟩
  have hat322 : cl322.slots[((0 : Int32)).toNatClampNeg]? = some (.ref s0) := H322.at hin322 rfl
  obtain ⟨cq323, kq323, q323a, q323b, q323c⟩ := isOf hZ e321 (E_s0)
  obtain ⟨_, _, ⟨T323, L323, k323, n323⟩, -, X323, ⟨Lc323, hQ323, l323, y323, z323⟩, st323⟩ := X321.virtualBack hx (y := (⟨"java/lang/String", "equals", "(Ljava/lang/Object;)Z"⟩ : MethodName)) (z := (⟨"java/lang/String", "equals", "(Ljava/lang/Object;)Z"⟩ : MethodName)) hown (mvT hZ (wd_71 hw)) (mvT hZ (wd_59 hw)) (notFace_of_selects (args := #[]) (mvT hZ (wd_61 hw))) (mvT hZ (wd_61 hw)) (mvT hZ (wd_60 hw)) (by decide) (backOf (W := 0) (rmeq110 l Z a0 hw [] s0 a2 t0 tq wz k0 kq x0 y0 h0 n0 Z0 E_s0 E_a2 F_value_s0 F_value_a2 F_coder_s0 F_coder_a2 V_t0 V_tq Old0 S_COMPACT_STRINGS hz ne_s0_a2 he0) hZ (wd_62 hw) (wd_2 hw) (by decide) (by decide)) q323a q323c (g := (mkF m 17 #[.val (.ref a1), .val (.ref a2), .val (.ref a3), .val (.int (0 : Int32))] [(.ref a2), (.ref s0)])) rfl (by rw [hml]; rfl) (Steps.refl _) (argsL := [(.ref a2)]) (rest := []) (lenOf pd__Ljava_lang_Object__Z rfl) rfl (by show 2 * 0 + _ ≤ _; exact Nat.le_of_eq rfl) (hb hby d14_17) (fun _ _ => ⟨rfl, e321, (by decide : 0 + 0 ≤ _), (by decide : 0 + 0 ≤ _)⟩)
  dsimp only [Pt.U, Pt.locs, Pt.cells, Pt.slots] at X323 l323 y323 z323 st323 hQ323
  rw [l323, y323, z323] at X323
  obtain ⟨rfl, N323q, e323⟩ := hQ323
  have N323 := Fr.app N0 N323q
  obtain ⟨T324, X324, e324, st324⟩ := getF X323 hx hZ hown (host := "") (Or.inl (wd_56 hw)) Via.refl e323 F_size_a1 (g := (mkF m 4 #[.val (.ref a1), .val (.ref a2), .val (.ref a3), .val (.int (1 : Int32))] [(.ref a1), (.int (1 : Int32))])) rfl rfl (hb hby d14_4)
  obtain ⟨T325, X325, e325, st325⟩ := getF X324 hx hZ hown (host := "") (Or.inl (wd_52 hw)) Via.refl e324 F_names_a1 (g := (mkF m 11 #[.val (.ref a1), .val (.ref a2), .val (.ref a3), .val (.int (1 : Int32))] [(.ref a1)])) rfl rfl (hb hby d14_11)
  obtain ⟨cl326, Ar326, q326, S326, N326n, H326, G326⟩ := id (V_nm)
  have hin326 : ¬ ((1 : Int32) < 0 ∨ cl326.slots.size ≤ ((1 : Int32)).toNatClampNeg) := inb_of S326 ⟨by decide, by decide⟩
  have hat326 : cl326.slots[((1 : Int32)).toNatClampNeg]? = some (.ref s1) := H326.at hin326 rfl
  obtain ⟨cq327, kq327, q327a, q327b, q327c⟩ := isOf hZ e325 (E_s1)
  obtain ⟨_, _, ⟨T327, L327, k327, n327⟩, -, X327, ⟨Lc327, hQ327, l327, y327, z327⟩, st327⟩ := X325.virtualBack hx (y := (⟨"java/lang/String", "equals", "(Ljava/lang/Object;)Z"⟩ : MethodName)) (z := (⟨"java/lang/String", "equals", "(Ljava/lang/Object;)Z"⟩ : MethodName)) hown (mvT hZ (wd_71 hw)) (mvT hZ (wd_59 hw)) (notFace_of_selects (args := #[]) (mvT hZ (wd_61 hw))) (mvT hZ (wd_61 hw)) (mvT hZ (wd_60 hw)) (by decide) (backOf (W := 0) (rmeq110 l Z a0 hw [] s1 a2 t1 tq wz k1 kq x1 y0 h0 n0 Z0 E_s1 E_a2 F_value_s1 F_value_a2 F_coder_s1 F_coder_a2 V_t1 V_tq Old0 S_COMPACT_STRINGS hz ne_s1_a2 he1) hZ (wd_62 hw) (wd_2 hw) (by decide) (by decide)) q327a q327c (g := (mkF m 17 #[.val (.ref a1), .val (.ref a2), .val (.ref a3), .val (.int (1 : Int32))] [(.ref a2), (.ref s1)])) rfl (by rw [hml]; rfl) (Steps.refl _) (argsL := [(.ref a2)]) (rest := []) (lenOf pd__Ljava_lang_Object__Z rfl) rfl (by show 2 * 0 + _ ≤ _; exact Nat.le_of_eq rfl) (hb hby d14_17) (fun _ _ => ⟨rfl, e325, (by decide : 0 + 0 ≤ _), (by decide : 0 + 0 ≤ _)⟩)
  dsimp only [Pt.U, Pt.locs, Pt.cells, Pt.slots] at X327 l327 y327 z327 st327 hQ327
  rw [l327, y327, z327] at X327
  obtain ⟨rfl, N327q, e327⟩ := hQ327
  have N327 := Fr.app N323 N327q
  obtain ⟨T328, X328, e328, st328⟩ := getF X327 hx hZ hown (host := "") (Or.inl (wd_56 hw)) Via.refl e327 F_size_a1 (g := (mkF m 4 #[.val (.ref a1), .val (.ref a2), .val (.ref a3), .val (.int (2 : Int32))] [(.ref a1), (.int (2 : Int32))])) rfl rfl (hb hby d14_4)
  obtain ⟨fs, hr, hrun, hended, hW, hsame⟩ := X328.leave (v := some (.ref a3)) (fun h => by rw [Bd.returns] at h; cases h)
  refine ⟨_, _, pre0 _ ?_, hrun, hended, _, _, rfl, ?_, ⟨_, rfl⟩, hW, hsame.mono (by decide) (by decide)⟩
  · show Steps p.tables e below (s₁.setTop (mkF m 0 #[.val (.ref a1), .val (.ref a2), .val (.ref a3), .unset] [])) _
    refine XS.iconst X0.here hx rfl (hb hby d14_0) ?_
    refine XS.istoreN X0.here hx rfl (hb hby d14_1) rfl (l' := #[.val (.ref a1), .val (.ref a2), .val (.ref a3), .val (.int (0 : Int32))]) rfl ?_
    refine XS.iloadN X0.here hx rfl (hb hby d14_2) rfl ?_
    refine XS.aloadN X0.here hx rfl (hb hby d14_3) rfl rfl ?_
    refine st320 _ ?_
    refine XS.icmpNo X320.here hx rfl (hb hby d14_7) rfl (tlt (by decide)).2.1 ?_
    refine XS.aloadN X320.here hx rfl (hb hby d14_10) rfl rfl ?_
    refine st321 _ ?_
    refine XS.iloadN X321.here hx rfl (hb hby d14_14) rfl ?_
    refine X321.aaload hx (j := (0 : Int32)) (v := (.ref s0)) (by rw [e321]; exact Ar322.1) (State.isArrayOf_alike hZ.alike Ar322.2.1) rfl Ar322.2.2 hin322 hat322 (g := (mkF m 15 #[.val (.ref a1), .val (.ref a2), .val (.ref a3), .val (.int (0 : Int32))] [(.int (0 : Int32)), (.ref nm)])) rfl rfl (hb hby d14_15) _ ?_
    show Steps p.tables e below (T321.setTop (mkF m 16 #[.val (.ref a1), .val (.ref a2), .val (.ref a3), .val (.int (0 : Int32))] [(.ref s0)])) _
    refine XS.aloadN X321.here hx rfl (hb hby d14_16) rfl rfl ?_
    refine st323.trans ?_
    refine XS.ifYes X323.here hx rfl (pc0 := 20) (pc' := 30) rfl (hb hby d14_20) rfl ((if0 _ _).trans (teq (rfl : (0 : Int32) = (0 : Int32))).1) (by decide) (by decide) ?_
    refine XS.iinc X323.here hx rfl (hb hby d14_30) rfl (l' := #[.val (.ref a1), .val (.ref a2), .val (.ref a3), .val (.int (1 : Int32))]) rfl ?_
    refine XS.goto X323.here hx rfl (pc0 := 33) (pc' := 2) rfl (hb hby d14_33) (by decide) (by decide) ?_
    refine XS.iloadN X323.here hx rfl (hb hby d14_2) rfl ?_
    refine XS.aloadN X323.here hx rfl (hb hby d14_3) rfl rfl ?_
    refine st324 _ ?_
    refine XS.icmpNo X324.here hx rfl (hb hby d14_7) rfl (tlt (by decide)).2.1 ?_
    refine XS.aloadN X324.here hx rfl (hb hby d14_10) rfl rfl ?_
    show Steps p.tables e below (T324.setTop (mkF m 11 #[.val (.ref a1), .val (.ref a2), .val (.ref a3), .val (.int (1 : Int32))] [(.ref a1)])) _
    refine st325 _ ?_
    refine XS.iloadN X325.here hx rfl (hb hby d14_14) rfl ?_
    refine X325.aaload hx (j := (1 : Int32)) (v := (.ref s1)) (by rw [e325]; exact Ar326.1) (State.isArrayOf_alike hZ.alike Ar326.2.1) rfl Ar326.2.2 hin326 hat326 (g := (mkF m 15 #[.val (.ref a1), .val (.ref a2), .val (.ref a3), .val (.int (1 : Int32))] [(.int (1 : Int32)), (.ref nm)])) rfl rfl (hb hby d14_15) _ ?_
    refine XS.aloadN X325.here hx rfl (hb hby d14_16) rfl rfl ?_
    refine st327.trans ?_
    refine XS.ifYes X327.here hx rfl (pc0 := 20) (pc' := 30) rfl (hb hby d14_20) rfl ((if0 _ _).trans (teq (rfl : (0 : Int32) = (0 : Int32))).1) (by decide) (by decide) ?_
    refine XS.iinc X327.here hx rfl (hb hby d14_30) rfl (l' := #[.val (.ref a1), .val (.ref a2), .val (.ref a3), .val (.int (2 : Int32))]) rfl ?_
    refine XS.goto X327.here hx rfl (pc0 := 33) (pc' := 2) rfl (hb hby d14_33) (by decide) (by decide) ?_
    refine XS.iloadN X327.here hx rfl (hb hby d14_2) rfl ?_
    refine XS.aloadN X327.here hx rfl (hb hby d14_3) rfl rfl ?_
    show Steps p.tables e below (T327.setTop (mkF m 4 #[.val (.ref a1), .val (.ref a2), .val (.ref a3), .val (.int (2 : Int32))] [(.ref a1), (.int (2 : Int32))])) _
    refine st328 _ ?_
    refine XS.icmpYes X328.here hx rfl (pc0 := 7) (pc' := 36) rfl (hb hby d14_7) rfl (flt (by decide)).2.1 (by decide) (by decide) ?_
    refine XS.aloadN X328.here hx rfl (hb hby d14_36) rfl rfl ?_
    exact X328.areturnOut hx rfl Bd.returns rfl (hb hby d14_37) hr
  · show Q_rmg2x1 Z a1 a2 a3 nm vl kn kv s0 s1 s2 v0 v1 v2 t0 t1 k0 k1 x0 x1 y0 tq kq wz h0 n0 _ T328.heap _
    rw [e328]
    exact ⟨rfl, N327, rfl⟩
def Q_rmg301 (Z : State) (a1 : Addr) (a2 : Addr) (a3 : Addr) (nm : Addr) (vl : Addr) (kn : ClassId) (kv : ClassId) (s0 : Addr) (s1 : Addr) (s2 : Addr) (v0 : Addr) (v1 : Addr) (v2 : Addr) (t0 : Addr) (k0 : ClassId) (x0 : Int32) (y0 : Int32) (tq : Addr) (kq : ClassId) (wz : Int32) (h0 : Heap) (n0 : Nat) (v : Option Value) (h : Heap) (L : List Loc) : Prop := v = some (.ref v0) ∧ Fr n0 L ∧ h = h0
set_option maxRecDepth 65536 in
set_option maxHeartbeats 40000000 in
theorem rmg301 (l : Launch) (Z : State) (a0 : Array Value) (hw : ∀ d ∈ tables_1, d.before a0 Z = true) (ws : List Jvm.Cond) (a1 : Addr) (a2 : Addr) (a3 : Addr) (nm : Addr) (vl : Addr) (kn : ClassId) (kv : ClassId) (s0 : Addr) (s1 : Addr) (s2 : Addr) (v0 : Addr) (v1 : Addr) (v2 : Addr) (t0 : Addr) (k0 : ClassId) (x0 : Int32) (y0 : Int32) (tq : Addr) (kq : ClassId) (wz : Int32) (h0 : Heap) (n0 : Nat) (Z0 : n0 ≤ h0.size) (F_names_a1 : Fld Z h0 a1 "com/example/kawi/kawi/xml/Attributes" "names" "[Ljava/lang/String;" (.ref nm)) (F_values_a1 : Fld Z h0 a1 "com/example/kawi/kawi/xml/Attributes" "values" "[Ljava/lang/String;" (.ref vl)) (F_size_a1 : Fld Z h0 a1 "com/example/kawi/kawi/xml/Attributes" "size" "I" (.int (3 : Int32))) (V_nm : Arv Z h0 nm kn (.object "java/lang/String") (3 : Int32) [(.ref s0), (.ref s1), (.ref s2)] .null) (V_vl : Arv Z h0 vl kv (.object "java/lang/String") (3 : Int32) [(.ref v0), (.ref v1), (.ref v2)] .null) (E_s0 : Exa Z h0 s0 "java/lang/String") (F_value_s0 : Fld Z h0 s0 "java/lang/String" "value" "[B" (.ref t0)) (F_coder_s0 : Fld Z h0 s0 "java/lang/String" "coder" "B" (.int (0 : Int32))) (V_t0 : Arv Z h0 t0 k0 .byte (1 : Int32) [(.int x0)] (.int (0 : Int32))) (ne_s0_a2 : s0 ≠ a2) (E_a2 : Exa Z h0 a2 "java/lang/String") (F_value_a2 : Fld Z h0 a2 "java/lang/String" "value" "[B" (.ref tq)) (F_coder_a2 : Fld Z h0 a2 "java/lang/String" "coder" "B" (.int (0 : Int32))) (V_tq : Arv Z h0 tq kq .byte (1 : Int32) [(.int y0)] (.int (0 : Int32))) (Old0 : Old Z n0 h0) (S_COMPACT_STRINGS : Sta Z Z.heap "java/lang/String" "COMPACT_STRINGS" "Z" (.int wz)) (hz : ¬ (wz = (0 : Int32))) (he0 : x0 = y0) :
    MetFree l (⟨"com/example/kawi/kawi/xml/Attributes", "getOrDefault", "(Ljava/lang/String;Ljava/lang/String;)Ljava/lang/String;"⟩ : MethodName) (head1 (Jvm.Cond.code (⟨"com/example/kawi/kawi/xml/Attributes", "getOrDefault", "(Ljava/lang/String;Ljava/lang/String;)Ljava/lang/String;"⟩ : MethodName) prog_112_method_5_code 4 (some (.object "java/lang/String")) :: ws) ({ frames := 2, cells := 0, slots := 0, locals := 28 } : Room)) (fun a U => a = #[(.ref a1), (.ref a2), (.ref a3)] ∧ Z.Warmed39 U.vm ∧ U.heap = h0) (fun _ _ _ _ _ => True) (fun _ U o U' => ∃ v L, o = .returned v ∧ Q_rmg301 Z a1 a2 a3 nm vl kn kv s0 s1 s2 v0 v1 v2 t0 k0 x0 y0 tq kq wz h0 n0 v U'.heap L ∧ FrameEnd U o U' L ({ frames := 2, cells := 0, slots := 0, locals := 28 } : Room).cells ({ frames := 2, cells := 0, slots := 0, locals := 28 } : Room).slots) := by
  refine MetFree.of_bodySF (plainFor_of_name pn_com_example_kawi_kawi_xml_Attributes) hisR ?_
  intro p e s m args below meth c s₁ Bd hml0 hP hK
  obtain ⟨rfl, hZ, hh⟩ := hP
  have hx := Bd.exec
  have hby := Bd.bytes
  have hml : c.maxLocals = 4 := hml0
  have hown : s.vm.findClass "com/example/kawi/kawi/xml/Attributes" = some m.cls := findClass_of_methodNamed Bd.named
  have hnm := (name_of_methodNamed Bd.named Bd.method).1
  have X0 : Stand p l e ({ frames := 2, cells := 0, slots := 0, locals := 28 } : Room) s m #[(.ref a1), (.ref a2), (.ref a3)] below meth c s₁ [] 0 0 := Stand.of_body Bd
  have e0 : s₁.heap = h0 := by rw [← hh, Bd.state]; rfl
  have N0 := Fr.nil n0
  have pre0 : ∀ t, Steps p.tables e below (s₁.setTop (mkF m 0 #[.val (.ref a1), .val (.ref a2), .val (.ref a3), .unset] [])) t → Steps p.tables e below (s₁.setTop (entryFrame m #[(.ref a1), (.ref a2), (.ref a3)] 4)) t := fun t k => castTop (ef_14 m a1 a2 a3) k
  obtain ⟨T333, X333, e333, st333⟩ := getF X0 hx hZ hown (host := "") (Or.inl (wd_56 hw)) Via.refl e0 F_size_a1 (g := (mkF m 4 #[.val (.ref a1), .val (.ref a2), .val (.ref a3), .val (.int (0 : Int32))] [(.ref a1), (.int (0 : Int32))])) rfl rfl (hb hby d14_4)
  obtain ⟨T334, X334, e334, st334⟩ := getF X333 hx hZ hown (host := "") (Or.inl (wd_52 hw)) Via.refl e333 F_names_a1 (g := (mkF m 11 #[.val (.ref a1), .val (.ref a2), .val (.ref a3), .val (.int (0 : Int32))] [(.ref a1)])) rfl rfl (hb hby d14_11)
  obtain ⟨cl335, Ar335, q335, S335, N335n, H335, G335⟩ := id (V_nm)
  have hin335 : ¬ ((0 : Int32) < 0 ∨ cl335.slots.size ≤ ((0 : Int32)).toNatClampNeg) := inb_of S335 ⟨by decide, by decide⟩
  have hat335 : cl335.slots[((0 : Int32)).toNatClampNeg]? = some (.ref s0) := H335.at hin335 rfl
  obtain ⟨cq336, kq336, q336a, q336b, q336c⟩ := isOf hZ e334 (E_s0)
  obtain ⟨_, _, ⟨T336, L336, k336, n336⟩, -, X336, ⟨Lc336, hQ336, l336, y336, z336⟩, st336⟩ := X334.virtualBack hx (y := (⟨"java/lang/String", "equals", "(Ljava/lang/Object;)Z"⟩ : MethodName)) (z := (⟨"java/lang/String", "equals", "(Ljava/lang/Object;)Z"⟩ : MethodName)) hown (mvT hZ (wd_71 hw)) (mvT hZ (wd_59 hw)) (notFace_of_selects (args := #[]) (mvT hZ (wd_61 hw))) (mvT hZ (wd_61 hw)) (mvT hZ (wd_60 hw)) (by decide) (backOf (W := 0) (rmeq11eq l Z a0 hw [] s0 a2 t0 tq wz k0 kq x0 y0 h0 n0 Z0 E_s0 E_a2 F_value_s0 F_value_a2 F_coder_s0 F_coder_a2 V_t0 V_tq Old0 S_COMPACT_STRINGS hz ne_s0_a2 he0) hZ (wd_62 hw) (wd_2 hw) (by decide) (by decide)) q336a q336c (g := (mkF m 17 #[.val (.ref a1), .val (.ref a2), .val (.ref a3), .val (.int (0 : Int32))] [(.ref a2), (.ref s0)])) rfl (by rw [hml]; rfl) (Steps.refl _) (argsL := [(.ref a2)]) (rest := []) (lenOf pd__Ljava_lang_Object__Z rfl) rfl (by show 2 * 0 + _ ≤ _; exact Nat.le_of_eq rfl) (hb hby d14_17) (fun _ _ => ⟨rfl, e334, (by decide : 0 + 0 ≤ _), (by decide : 0 + 0 ≤ _)⟩)
  dsimp only [Pt.U, Pt.locs, Pt.cells, Pt.slots] at X336 l336 y336 z336 st336 hQ336
  rw [l336, y336, z336] at X336
  obtain ⟨rfl, N336q, e336⟩ := hQ336
  have N336 := Fr.app N0 N336q
  obtain ⟨T337, X337, e337, st337⟩ := getF X336 hx hZ hown (host := "") (Or.inl (wd_54 hw)) Via.refl e336 F_values_a1 (g := (mkF m 24 #[.val (.ref a1), .val (.ref a2), .val (.ref a3), .val (.int (0 : Int32))] [(.ref a1)])) rfl rfl (hb hby d14_24)
  obtain ⟨cl338, Ar338, q338, S338, N338n, H338, G338⟩ := id (V_vl)
  have hin338 : ¬ ((0 : Int32) < 0 ∨ cl338.slots.size ≤ ((0 : Int32)).toNatClampNeg) := inb_of S338 ⟨by decide, by decide⟩
  have hat338 : cl338.slots[((0 : Int32)).toNatClampNeg]? = some (.ref v0) := H338.at hin338 rfl
  obtain ⟨fs, hr, hrun, hended, hW, hsame⟩ := X337.leave (v := some (.ref v0)) (fun h => by rw [Bd.returns] at h; cases h)
  refine ⟨_, _, pre0 _ ?_, hrun, hended, _, _, rfl, ?_, ⟨_, rfl⟩, hW, hsame.mono (by decide) (by decide)⟩
  · show Steps p.tables e below (s₁.setTop (mkF m 0 #[.val (.ref a1), .val (.ref a2), .val (.ref a3), .unset] [])) _
    refine XS.iconst X0.here hx rfl (hb hby d14_0) ?_
    refine XS.istoreN X0.here hx rfl (hb hby d14_1) rfl (l' := #[.val (.ref a1), .val (.ref a2), .val (.ref a3), .val (.int (0 : Int32))]) rfl ?_
    refine XS.iloadN X0.here hx rfl (hb hby d14_2) rfl ?_
    refine XS.aloadN X0.here hx rfl (hb hby d14_3) rfl rfl ?_
    refine st333 _ ?_
    refine XS.icmpNo X333.here hx rfl (hb hby d14_7) rfl (tlt (by decide)).2.1 ?_
    refine XS.aloadN X333.here hx rfl (hb hby d14_10) rfl rfl ?_
    refine st334 _ ?_
    refine XS.iloadN X334.here hx rfl (hb hby d14_14) rfl ?_
    refine X334.aaload hx (j := (0 : Int32)) (v := (.ref s0)) (by rw [e334]; exact Ar335.1) (State.isArrayOf_alike hZ.alike Ar335.2.1) rfl Ar335.2.2 hin335 hat335 (g := (mkF m 15 #[.val (.ref a1), .val (.ref a2), .val (.ref a3), .val (.int (0 : Int32))] [(.int (0 : Int32)), (.ref nm)])) rfl rfl (hb hby d14_15) _ ?_
    show Steps p.tables e below (T334.setTop (mkF m 16 #[.val (.ref a1), .val (.ref a2), .val (.ref a3), .val (.int (0 : Int32))] [(.ref s0)])) _
    refine XS.aloadN X334.here hx rfl (hb hby d14_16) rfl rfl ?_
    refine st336.trans ?_
    refine XS.ifNo X336.here hx rfl (hb hby d14_20) rfl ((if0 _ _).trans (feq (by decide)).1) ?_
    refine XS.aloadN X336.here hx rfl (hb hby d14_23) rfl rfl ?_
    refine st337 _ ?_
    refine XS.iloadN X337.here hx rfl (hb hby d14_27) rfl ?_
    refine X337.aaload hx (j := (0 : Int32)) (v := (.ref v0)) (by rw [e337]; exact Ar338.1) (State.isArrayOf_alike hZ.alike Ar338.2.1) rfl Ar338.2.2 hin338 hat338 (g := (mkF m 28 #[.val (.ref a1), .val (.ref a2), .val (.ref a3), .val (.int (0 : Int32))] [(.int (0 : Int32)), (.ref vl)])) rfl rfl (hb hby d14_28) _ ?_
    exact X337.areturnOut hx rfl Bd.returns rfl (hb hby d14_29) hr
  · show Q_rmg301 Z a1 a2 a3 nm vl kn kv s0 s1 s2 v0 v1 v2 t0 k0 x0 y0 tq kq wz h0 n0 _ T337.heap _
    rw [e337]
    exact ⟨rfl, N336, rfl⟩
def Q_rmg311 (Z : State) (a1 : Addr) (a2 : Addr) (a3 : Addr) (nm : Addr) (vl : Addr) (kn : ClassId) (kv : ClassId) (s0 : Addr) (s1 : Addr) (s2 : Addr) (v0 : Addr) (v1 : Addr) (v2 : Addr) (t0 : Addr) (t1 : Addr) (k0 : ClassId) (k1 : ClassId) (x0 : Int32) (x1 : Int32) (y0 : Int32) (tq : Addr) (kq : ClassId) (wz : Int32) (h0 : Heap) (n0 : Nat) (v : Option Value) (h : Heap) (L : List Loc) : Prop := v = some (.ref v1) ∧ Fr n0 L ∧ h = h0
set_option maxRecDepth 65536 in
set_option maxHeartbeats 40000000 in
theorem rmg311 (l : Launch) (Z : State) (a0 : Array Value) (hw : ∀ d ∈ tables_1, d.before a0 Z = true) (ws : List Jvm.Cond) (a1 : Addr) (a2 : Addr) (a3 : Addr) (nm : Addr) (vl : Addr) (kn : ClassId) (kv : ClassId) (s0 : Addr) (s1 : Addr) (s2 : Addr) (v0 : Addr) (v1 : Addr) (v2 : Addr) (t0 : Addr) (t1 : Addr) (k0 : ClassId) (k1 : ClassId) (x0 : Int32) (x1 : Int32) (y0 : Int32) (tq : Addr) (kq : ClassId) (wz : Int32) (h0 : Heap) (n0 : Nat) (Z0 : n0 ≤ h0.size) (F_names_a1 : Fld Z h0 a1 "com/example/kawi/kawi/xml/Attributes" "names" "[Ljava/lang/String;" (.ref nm)) (F_values_a1 : Fld Z h0 a1 "com/example/kawi/kawi/xml/Attributes" "values" "[Ljava/lang/String;" (.ref vl)) (F_size_a1 : Fld Z h0 a1 "com/example/kawi/kawi/xml/Attributes" "size" "I" (.int (3 : Int32))) (V_nm : Arv Z h0 nm kn (.object "java/lang/String") (3 : Int32) [(.ref s0), (.ref s1), (.ref s2)] .null) (V_vl : Arv Z h0 vl kv (.object "java/lang/String") (3 : Int32) [(.ref v0), (.ref v1), (.ref v2)] .null) (E_s0 : Exa Z h0 s0 "java/lang/String") (F_value_s0 : Fld Z h0 s0 "java/lang/String" "value" "[B" (.ref t0)) (F_coder_s0 : Fld Z h0 s0 "java/lang/String" "coder" "B" (.int (0 : Int32))) (V_t0 : Arv Z h0 t0 k0 .byte (1 : Int32) [(.int x0)] (.int (0 : Int32))) (ne_s0_a2 : s0 ≠ a2) (E_s1 : Exa Z h0 s1 "java/lang/String") (F_value_s1 : Fld Z h0 s1 "java/lang/String" "value" "[B" (.ref t1)) (F_coder_s1 : Fld Z h0 s1 "java/lang/String" "coder" "B" (.int (0 : Int32))) (V_t1 : Arv Z h0 t1 k1 .byte (1 : Int32) [(.int x1)] (.int (0 : Int32))) (ne_s1_a2 : s1 ≠ a2) (E_a2 : Exa Z h0 a2 "java/lang/String") (F_value_a2 : Fld Z h0 a2 "java/lang/String" "value" "[B" (.ref tq)) (F_coder_a2 : Fld Z h0 a2 "java/lang/String" "coder" "B" (.int (0 : Int32))) (V_tq : Arv Z h0 tq kq .byte (1 : Int32) [(.int y0)] (.int (0 : Int32))) (Old0 : Old Z n0 h0) (S_COMPACT_STRINGS : Sta Z Z.heap "java/lang/String" "COMPACT_STRINGS" "Z" (.int wz)) (hz : ¬ (wz = (0 : Int32))) (he0 : ¬ (x0 = y0)) (he1 : x1 = y0) :
    MetFree l (⟨"com/example/kawi/kawi/xml/Attributes", "getOrDefault", "(Ljava/lang/String;Ljava/lang/String;)Ljava/lang/String;"⟩ : MethodName) (head1 (Jvm.Cond.code (⟨"com/example/kawi/kawi/xml/Attributes", "getOrDefault", "(Ljava/lang/String;Ljava/lang/String;)Ljava/lang/String;"⟩ : MethodName) prog_112_method_5_code 4 (some (.object "java/lang/String")) :: ws) ({ frames := 2, cells := 0, slots := 0, locals := 28 } : Room)) (fun a U => a = #[(.ref a1), (.ref a2), (.ref a3)] ∧ Z.Warmed39 U.vm ∧ U.heap = h0) (fun _ _ _ _ _ => True) (fun _ U o U' => ∃ v L, o = .returned v ∧ Q_rmg311 Z a1 a2 a3 nm vl kn kv s0 s1 s2 v0 v1 v2 t0 t1 k0 k1 x0 x1 y0 tq kq wz h0 n0 v U'.heap L ∧ FrameEnd U o U' L ({ frames := 2, cells := 0, slots := 0, locals := 28 } : Room).cells ({ frames := 2, cells := 0, slots := 0, locals := 28 } : Room).slots) := by
  refine MetFree.of_bodySF (plainFor_of_name pn_com_example_kawi_kawi_xml_Attributes) hisR ?_
  intro p e s m args below meth c s₁ Bd hml0 hP hK
  obtain ⟨rfl, hZ, hh⟩ := hP
  have hx := Bd.exec
  have hby := Bd.bytes
  have hml : c.maxLocals = 4 := hml0
  have hown : s.vm.findClass "com/example/kawi/kawi/xml/Attributes" = some m.cls := findClass_of_methodNamed Bd.named
  have hnm := (name_of_methodNamed Bd.named Bd.method).1
  have X0 : Stand p l e ({ frames := 2, cells := 0, slots := 0, locals := 28 } : Room) s m #[(.ref a1), (.ref a2), (.ref a3)] below meth c s₁ [] 0 0 := Stand.of_body Bd
  have e0 : s₁.heap = h0 := by rw [← hh, Bd.state]; rfl
  have N0 := Fr.nil n0
  have pre0 : ∀ t, Steps p.tables e below (s₁.setTop (mkF m 0 #[.val (.ref a1), .val (.ref a2), .val (.ref a3), .unset] [])) t → Steps p.tables e below (s₁.setTop (entryFrame m #[(.ref a1), (.ref a2), (.ref a3)] 4)) t := fun t k => castTop (ef_14 m a1 a2 a3) k
  obtain ⟨T344, X344, e344, st344⟩ := getF X0 hx hZ hown (host := "") (Or.inl (wd_56 hw)) Via.refl e0 F_size_a1 (g := (mkF m 4 #[.val (.ref a1), .val (.ref a2), .val (.ref a3), .val (.int (0 : Int32))] [(.ref a1), (.int (0 : Int32))])) rfl rfl (hb hby d14_4)
  obtain ⟨T345, X345, e345, st345⟩ := getF X344 hx hZ hown (host := "") (Or.inl (wd_52 hw)) Via.refl e344 F_names_a1 (g := (mkF m 11 #[.val (.ref a1), .val (.ref a2), .val (.ref a3), .val (.int (0 : Int32))] [(.ref a1)])) rfl rfl (hb hby d14_11)
  obtain ⟨cl346, Ar346, q346, S346, N346n, H346, G346⟩ := id (V_nm)
  have hin346 : ¬ ((0 : Int32) < 0 ∨ cl346.slots.size ≤ ((0 : Int32)).toNatClampNeg) := inb_of S346 ⟨by decide, by decide⟩
  have hat346 : cl346.slots[((0 : Int32)).toNatClampNeg]? = some (.ref s0) := H346.at hin346 rfl
  obtain ⟨cq347, kq347, q347a, q347b, q347c⟩ := isOf hZ e345 (E_s0)
  obtain ⟨_, _, ⟨T347, L347, k347, n347⟩, -, X347, ⟨Lc347, hQ347, l347, y347, z347⟩, st347⟩ := X345.virtualBack hx (y := (⟨"java/lang/String", "equals", "(Ljava/lang/Object;)Z"⟩ : MethodName)) (z := (⟨"java/lang/String", "equals", "(Ljava/lang/Object;)Z"⟩ : MethodName)) hown (mvT hZ (wd_71 hw)) (mvT hZ (wd_59 hw)) (notFace_of_selects (args := #[]) (mvT hZ (wd_61 hw))) (mvT hZ (wd_61 hw)) (mvT hZ (wd_60 hw)) (by decide) (backOf (W := 0) (rmeq110 l Z a0 hw [] s0 a2 t0 tq wz k0 kq x0 y0 h0 n0 Z0 E_s0 E_a2 F_value_s0 F_value_a2 F_coder_s0 F_coder_a2 V_t0 V_tq Old0 S_COMPACT_STRINGS hz ne_s0_a2 he0) hZ (wd_62 hw) (wd_2 hw) (by decide) (by decide)) q347a q347c (g := (mkF m 17 #[.val (.ref a1), .val (.ref a2), .val (.ref a3), .val (.int (0 : Int32))] [(.ref a2), (.ref s0)])) rfl (by rw [hml]; rfl) (Steps.refl _) (argsL := [(.ref a2)]) (rest := []) (lenOf pd__Ljava_lang_Object__Z rfl) rfl (by show 2 * 0 + _ ≤ _; exact Nat.le_of_eq rfl) (hb hby d14_17) (fun _ _ => ⟨rfl, e345, (by decide : 0 + 0 ≤ _), (by decide : 0 + 0 ≤ _)⟩)
  dsimp only [Pt.U, Pt.locs, Pt.cells, Pt.slots] at X347 l347 y347 z347 st347 hQ347
  rw [l347, y347, z347] at X347
  obtain ⟨rfl, N347q, e347⟩ := hQ347
  have N347 := Fr.app N0 N347q
  obtain ⟨T348, X348, e348, st348⟩ := getF X347 hx hZ hown (host := "") (Or.inl (wd_56 hw)) Via.refl e347 F_size_a1 (g := (mkF m 4 #[.val (.ref a1), .val (.ref a2), .val (.ref a3), .val (.int (1 : Int32))] [(.ref a1), (.int (1 : Int32))])) rfl rfl (hb hby d14_4)
  obtain ⟨T349, X349, e349, st349⟩ := getF X348 hx hZ hown (host := "") (Or.inl (wd_52 hw)) Via.refl e348 F_names_a1 (g := (mkF m 11 #[.val (.ref a1), .val (.ref a2), .val (.ref a3), .val (.int (1 : Int32))] [(.ref a1)])) rfl rfl (hb hby d14_11)
  obtain ⟨cl350, Ar350, q350, S350, N350n, H350, G350⟩ := id (V_nm)
  have hin350 : ¬ ((1 : Int32) < 0 ∨ cl350.slots.size ≤ ((1 : Int32)).toNatClampNeg) := inb_of S350 ⟨by decide, by decide⟩
  have hat350 : cl350.slots[((1 : Int32)).toNatClampNeg]? = some (.ref s1) := H350.at hin350 rfl
  obtain ⟨cq351, kq351, q351a, q351b, q351c⟩ := isOf hZ e349 (E_s1)
  obtain ⟨_, _, ⟨T351, L351, k351, n351⟩, -, X351, ⟨Lc351, hQ351, l351, y351, z351⟩, st351⟩ := X349.virtualBack hx (y := (⟨"java/lang/String", "equals", "(Ljava/lang/Object;)Z"⟩ : MethodName)) (z := (⟨"java/lang/String", "equals", "(Ljava/lang/Object;)Z"⟩ : MethodName)) hown (mvT hZ (wd_71 hw)) (mvT hZ (wd_59 hw)) (notFace_of_selects (args := #[]) (mvT hZ (wd_61 hw))) (mvT hZ (wd_61 hw)) (mvT hZ (wd_60 hw)) (by decide) (backOf (W := 0) (rmeq11eq l Z a0 hw [] s1 a2 t1 tq wz k1 kq x1 y0 h0 n0 Z0 E_s1 E_a2 F_value_s1 F_value_a2 F_coder_s1 F_coder_a2 V_t1 V_tq Old0 S_COMPACT_STRINGS hz ne_s1_a2 he1) hZ (wd_62 hw) (wd_2 hw) (by decide) (by decide)) q351a q351c (g := (mkF m 17 #[.val (.ref a1), .val (.ref a2), .val (.ref a3), .val (.int (1 : Int32))] [(.ref a2), (.ref s1)])) rfl (by rw [hml]; rfl) (Steps.refl _) (argsL := [(.ref a2)]) (rest := []) (lenOf pd__Ljava_lang_Object__Z rfl) rfl (by show 2 * 0 + _ ≤ _; exact Nat.le_of_eq rfl) (hb hby d14_17) (fun _ _ => ⟨rfl, e349, (by decide : 0 + 0 ≤ _), (by decide : 0 + 0 ≤ _)⟩)
  dsimp only [Pt.U, Pt.locs, Pt.cells, Pt.slots] at X351 l351 y351 z351 st351 hQ351
  rw [l351, y351, z351] at X351
  obtain ⟨rfl, N351q, e351⟩ := hQ351
  have N351 := Fr.app N347 N351q
  obtain ⟨T352, X352, e352, st352⟩ := getF X351 hx hZ hown (host := "") (Or.inl (wd_54 hw)) Via.refl e351 F_values_a1 (g := (mkF m 24 #[.val (.ref a1), .val (.ref a2), .val (.ref a3), .val (.int (1 : Int32))] [(.ref a1)])) rfl rfl (hb hby d14_24)
  obtain ⟨cl353, Ar353, q353, S353, N353n, H353, G353⟩ := id (V_vl)
  have hin353 : ¬ ((1 : Int32) < 0 ∨ cl353.slots.size ≤ ((1 : Int32)).toNatClampNeg) := inb_of S353 ⟨by decide, by decide⟩
  have hat353 : cl353.slots[((1 : Int32)).toNatClampNeg]? = some (.ref v1) := H353.at hin353 rfl
  obtain ⟨fs, hr, hrun, hended, hW, hsame⟩ := X352.leave (v := some (.ref v1)) (fun h => by rw [Bd.returns] at h; cases h)
  refine ⟨_, _, pre0 _ ?_, hrun, hended, _, _, rfl, ?_, ⟨_, rfl⟩, hW, hsame.mono (by decide) (by decide)⟩
  · show Steps p.tables e below (s₁.setTop (mkF m 0 #[.val (.ref a1), .val (.ref a2), .val (.ref a3), .unset] [])) _
    refine XS.iconst X0.here hx rfl (hb hby d14_0) ?_
    refine XS.istoreN X0.here hx rfl (hb hby d14_1) rfl (l' := #[.val (.ref a1), .val (.ref a2), .val (.ref a3), .val (.int (0 : Int32))]) rfl ?_
    refine XS.iloadN X0.here hx rfl (hb hby d14_2) rfl ?_
    refine XS.aloadN X0.here hx rfl (hb hby d14_3) rfl rfl ?_
    refine st344 _ ?_
    refine XS.icmpNo X344.here hx rfl (hb hby d14_7) rfl (tlt (by decide)).2.1 ?_
    refine XS.aloadN X344.here hx rfl (hb hby d14_10) rfl rfl ?_
    refine st345 _ ?_
    refine XS.iloadN X345.here hx rfl (hb hby d14_14) rfl ?_
    refine X345.aaload hx (j := (0 : Int32)) (v := (.ref s0)) (by rw [e345]; exact Ar346.1) (State.isArrayOf_alike hZ.alike Ar346.2.1) rfl Ar346.2.2 hin346 hat346 (g := (mkF m 15 #[.val (.ref a1), .val (.ref a2), .val (.ref a3), .val (.int (0 : Int32))] [(.int (0 : Int32)), (.ref nm)])) rfl rfl (hb hby d14_15) _ ?_
    show Steps p.tables e below (T345.setTop (mkF m 16 #[.val (.ref a1), .val (.ref a2), .val (.ref a3), .val (.int (0 : Int32))] [(.ref s0)])) _
    refine XS.aloadN X345.here hx rfl (hb hby d14_16) rfl rfl ?_
    refine st347.trans ?_
    refine XS.ifYes X347.here hx rfl (pc0 := 20) (pc' := 30) rfl (hb hby d14_20) rfl ((if0 _ _).trans (teq (rfl : (0 : Int32) = (0 : Int32))).1) (by decide) (by decide) ?_
    refine XS.iinc X347.here hx rfl (hb hby d14_30) rfl (l' := #[.val (.ref a1), .val (.ref a2), .val (.ref a3), .val (.int (1 : Int32))]) rfl ?_
    refine XS.goto X347.here hx rfl (pc0 := 33) (pc' := 2) rfl (hb hby d14_33) (by decide) (by decide) ?_
    refine XS.iloadN X347.here hx rfl (hb hby d14_2) rfl ?_
    refine XS.aloadN X347.here hx rfl (hb hby d14_3) rfl rfl ?_
    refine st348 _ ?_
    refine XS.icmpNo X348.here hx rfl (hb hby d14_7) rfl (tlt (by decide)).2.1 ?_
    refine XS.aloadN X348.here hx rfl (hb hby d14_10) rfl rfl ?_
    show Steps p.tables e below (T348.setTop (mkF m 11 #[.val (.ref a1), .val (.ref a2), .val (.ref a3), .val (.int (1 : Int32))] [(.ref a1)])) _
    refine st349 _ ?_
    refine XS.iloadN X349.here hx rfl (hb hby d14_14) rfl ?_
    refine X349.aaload hx (j := (1 : Int32)) (v := (.ref s1)) (by rw [e349]; exact Ar350.1) (State.isArrayOf_alike hZ.alike Ar350.2.1) rfl Ar350.2.2 hin350 hat350 (g := (mkF m 15 #[.val (.ref a1), .val (.ref a2), .val (.ref a3), .val (.int (1 : Int32))] [(.int (1 : Int32)), (.ref nm)])) rfl rfl (hb hby d14_15) _ ?_
    refine XS.aloadN X349.here hx rfl (hb hby d14_16) rfl rfl ?_
    refine st351.trans ?_
    refine XS.ifNo X351.here hx rfl (hb hby d14_20) rfl ((if0 _ _).trans (feq (by decide)).1) ?_
    refine XS.aloadN X351.here hx rfl (hb hby d14_23) rfl rfl ?_
    refine st352 _ ?_
    refine XS.iloadN X352.here hx rfl (hb hby d14_27) rfl ?_
    refine X352.aaload hx (j := (1 : Int32)) (v := (.ref v1)) (by rw [e352]; exact Ar353.1) (State.isArrayOf_alike hZ.alike Ar353.2.1) rfl Ar353.2.2 hin353 hat353 (g := (mkF m 28 #[.val (.ref a1), .val (.ref a2), .val (.ref a3), .val (.int (1 : Int32))] [(.int (1 : Int32)), (.ref vl)])) rfl rfl (hb hby d14_28) _ ?_
    show Steps p.tables e below (T352.setTop (mkF m 29 #[.val (.ref a1), .val (.ref a2), .val (.ref a3), .val (.int (1 : Int32))] [(.ref v1)])) _
    exact X352.areturnOut hx rfl Bd.returns rfl (hb hby d14_29) hr
  · show Q_rmg311 Z a1 a2 a3 nm vl kn kv s0 s1 s2 v0 v1 v2 t0 t1 k0 k1 x0 x1 y0 tq kq wz h0 n0 _ T352.heap _
    rw [e352]
    exact ⟨rfl, N351, rfl⟩
def Q_rmg321 (Z : State) (a1 : Addr) (a2 : Addr) (a3 : Addr) (nm : Addr) (vl : Addr) (kn : ClassId) (kv : ClassId) (s0 : Addr) (s1 : Addr) (s2 : Addr) (v0 : Addr) (v1 : Addr) (v2 : Addr) (t0 : Addr) (t1 : Addr) (t2 : Addr) (k0 : ClassId) (k1 : ClassId) (k2 : ClassId) (x0 : Int32) (x1 : Int32) (x2 : Int32) (y0 : Int32) (tq : Addr) (kq : ClassId) (wz : Int32) (h0 : Heap) (n0 : Nat) (v : Option Value) (h : Heap) (L : List Loc) : Prop := v = some (.ref v2) ∧ Fr n0 L ∧ h = h0
set_option maxRecDepth 65536 in
set_option maxHeartbeats 40000000 in
theorem rmg321 (l : Launch) (Z : State) (a0 : Array Value) (hw : ∀ d ∈ tables_1, d.before a0 Z = true) (ws : List Jvm.Cond) (a1 : Addr) (a2 : Addr) (a3 : Addr) (nm : Addr) (vl : Addr) (kn : ClassId) (kv : ClassId) (s0 : Addr) (s1 : Addr) (s2 : Addr) (v0 : Addr) (v1 : Addr) (v2 : Addr) (t0 : Addr) (t1 : Addr) (t2 : Addr) (k0 : ClassId) (k1 : ClassId) (k2 : ClassId) (x0 : Int32) (x1 : Int32) (x2 : Int32) (y0 : Int32) (tq : Addr) (kq : ClassId) (wz : Int32) (h0 : Heap) (n0 : Nat) (Z0 : n0 ≤ h0.size) (F_names_a1 : Fld Z h0 a1 "com/example/kawi/kawi/xml/Attributes" "names" "[Ljava/lang/String;" (.ref nm)) (F_values_a1 : Fld Z h0 a1 "com/example/kawi/kawi/xml/Attributes" "values" "[Ljava/lang/String;" (.ref vl)) (F_size_a1 : Fld Z h0 a1 "com/example/kawi/kawi/xml/Attributes" "size" "I" (.int (3 : Int32))) (V_nm : Arv Z h0 nm kn (.object "java/lang/String") (3 : Int32) [(.ref s0), (.ref s1), (.ref s2)] .null) (V_vl : Arv Z h0 vl kv (.object "java/lang/String") (3 : Int32) [(.ref v0), (.ref v1), (.ref v2)] .null) (E_s0 : Exa Z h0 s0 "java/lang/String") (F_value_s0 : Fld Z h0 s0 "java/lang/String" "value" "[B" (.ref t0)) (F_coder_s0 : Fld Z h0 s0 "java/lang/String" "coder" "B" (.int (0 : Int32))) (V_t0 : Arv Z h0 t0 k0 .byte (1 : Int32) [(.int x0)] (.int (0 : Int32))) (ne_s0_a2 : s0 ≠ a2) (E_s1 : Exa Z h0 s1 "java/lang/String") (F_value_s1 : Fld Z h0 s1 "java/lang/String" "value" "[B" (.ref t1)) (F_coder_s1 : Fld Z h0 s1 "java/lang/String" "coder" "B" (.int (0 : Int32))) (V_t1 : Arv Z h0 t1 k1 .byte (1 : Int32) [(.int x1)] (.int (0 : Int32))) (ne_s1_a2 : s1 ≠ a2) (E_s2 : Exa Z h0 s2 "java/lang/String") (F_value_s2 : Fld Z h0 s2 "java/lang/String" "value" "[B" (.ref t2)) (F_coder_s2 : Fld Z h0 s2 "java/lang/String" "coder" "B" (.int (0 : Int32))) (V_t2 : Arv Z h0 t2 k2 .byte (1 : Int32) [(.int x2)] (.int (0 : Int32))) (ne_s2_a2 : s2 ≠ a2) (E_a2 : Exa Z h0 a2 "java/lang/String") (F_value_a2 : Fld Z h0 a2 "java/lang/String" "value" "[B" (.ref tq)) (F_coder_a2 : Fld Z h0 a2 "java/lang/String" "coder" "B" (.int (0 : Int32))) (V_tq : Arv Z h0 tq kq .byte (1 : Int32) [(.int y0)] (.int (0 : Int32))) (Old0 : Old Z n0 h0) (S_COMPACT_STRINGS : Sta Z Z.heap "java/lang/String" "COMPACT_STRINGS" "Z" (.int wz)) (hz : ¬ (wz = (0 : Int32))) (he0 : ¬ (x0 = y0)) (he1 : ¬ (x1 = y0)) (he2 : x2 = y0) :
    MetFree l (⟨"com/example/kawi/kawi/xml/Attributes", "getOrDefault", "(Ljava/lang/String;Ljava/lang/String;)Ljava/lang/String;"⟩ : MethodName) (head1 (Jvm.Cond.code (⟨"com/example/kawi/kawi/xml/Attributes", "getOrDefault", "(Ljava/lang/String;Ljava/lang/String;)Ljava/lang/String;"⟩ : MethodName) prog_112_method_5_code 4 (some (.object "java/lang/String")) :: ws) ({ frames := 2, cells := 0, slots := 0, locals := 28 } : Room)) (fun a U => a = #[(.ref a1), (.ref a2), (.ref a3)] ∧ Z.Warmed39 U.vm ∧ U.heap = h0) (fun _ _ _ _ _ => True) (fun _ U o U' => ∃ v L, o = .returned v ∧ Q_rmg321 Z a1 a2 a3 nm vl kn kv s0 s1 s2 v0 v1 v2 t0 t1 t2 k0 k1 k2 x0 x1 x2 y0 tq kq wz h0 n0 v U'.heap L ∧ FrameEnd U o U' L ({ frames := 2, cells := 0, slots := 0, locals := 28 } : Room).cells ({ frames := 2, cells := 0, slots := 0, locals := 28 } : Room).slots) := by
  refine MetFree.of_bodySF (plainFor_of_name pn_com_example_kawi_kawi_xml_Attributes) hisR ?_
  intro p e s m args below meth c s₁ Bd hml0 hP hK
  obtain ⟨rfl, hZ, hh⟩ := hP
  have hx := Bd.exec
  have hby := Bd.bytes
  have hml : c.maxLocals = 4 := hml0
  have hown : s.vm.findClass "com/example/kawi/kawi/xml/Attributes" = some m.cls := findClass_of_methodNamed Bd.named
  have hnm := (name_of_methodNamed Bd.named Bd.method).1
  have X0 : Stand p l e ({ frames := 2, cells := 0, slots := 0, locals := 28 } : Room) s m #[(.ref a1), (.ref a2), (.ref a3)] below meth c s₁ [] 0 0 := Stand.of_body Bd
  have e0 : s₁.heap = h0 := by rw [← hh, Bd.state]; rfl
  have N0 := Fr.nil n0
  have pre0 : ∀ t, Steps p.tables e below (s₁.setTop (mkF m 0 #[.val (.ref a1), .val (.ref a2), .val (.ref a3), .unset] [])) t → Steps p.tables e below (s₁.setTop (entryFrame m #[(.ref a1), (.ref a2), (.ref a3)] 4)) t := fun t k => castTop (ef_14 m a1 a2 a3) k
  obtain ⟨T359, X359, e359, st359⟩ := getF X0 hx hZ hown (host := "") (Or.inl (wd_56 hw)) Via.refl e0 F_size_a1 (g := (mkF m 4 #[.val (.ref a1), .val (.ref a2), .val (.ref a3), .val (.int (0 : Int32))] [(.ref a1), (.int (0 : Int32))])) rfl rfl (hb hby d14_4)
  obtain ⟨T360, X360, e360, st360⟩ := getF X359 hx hZ hown (host := "") (Or.inl (wd_52 hw)) Via.refl e359 F_names_a1 (g := (mkF m 11 #[.val (.ref a1), .val (.ref a2), .val (.ref a3), .val (.int (0 : Int32))] [(.ref a1)])) rfl rfl (hb hby d14_11)
  obtain ⟨cl361, Ar361, q361, S361, N361n, H361, G361⟩ := id (V_nm)
  have hin361 : ¬ ((0 : Int32) < 0 ∨ cl361.slots.size ≤ ((0 : Int32)).toNatClampNeg) := inb_of S361 ⟨by decide, by decide⟩
  have hat361 : cl361.slots[((0 : Int32)).toNatClampNeg]? = some (.ref s0) := H361.at hin361 rfl
  obtain ⟨cq362, kq362, q362a, q362b, q362c⟩ := isOf hZ e360 (E_s0)
  obtain ⟨_, _, ⟨T362, L362, k362, n362⟩, -, X362, ⟨Lc362, hQ362, l362, y362, z362⟩, st362⟩ := X360.virtualBack hx (y := (⟨"java/lang/String", "equals", "(Ljava/lang/Object;)Z"⟩ : MethodName)) (z := (⟨"java/lang/String", "equals", "(Ljava/lang/Object;)Z"⟩ : MethodName)) hown (mvT hZ (wd_71 hw)) (mvT hZ (wd_59 hw)) (notFace_of_selects (args := #[]) (mvT hZ (wd_61 hw))) (mvT hZ (wd_61 hw)) (mvT hZ (wd_60 hw)) (by decide) (backOf (W := 0) (rmeq110 l Z a0 hw [] s0 a2 t0 tq wz k0 kq x0 y0 h0 n0 Z0 E_s0 E_a2 F_value_s0 F_value_a2 F_coder_s0 F_coder_a2 V_t0 V_tq Old0 S_COMPACT_STRINGS hz ne_s0_a2 he0) hZ (wd_62 hw) (wd_2 hw) (by decide) (by decide)) q362a q362c (g := (mkF m 17 #[.val (.ref a1), .val (.ref a2), .val (.ref a3), .val (.int (0 : Int32))] [(.ref a2), (.ref s0)])) rfl (by rw [hml]; rfl) (Steps.refl _) (argsL := [(.ref a2)]) (rest := []) (lenOf pd__Ljava_lang_Object__Z rfl) rfl (by show 2 * 0 + _ ≤ _; exact Nat.le_of_eq rfl) (hb hby d14_17) (fun _ _ => ⟨rfl, e360, (by decide : 0 + 0 ≤ _), (by decide : 0 + 0 ≤ _)⟩)
  dsimp only [Pt.U, Pt.locs, Pt.cells, Pt.slots] at X362 l362 y362 z362 st362 hQ362
  rw [l362, y362, z362] at X362
  obtain ⟨rfl, N362q, e362⟩ := hQ362
  have N362 := Fr.app N0 N362q
  obtain ⟨T363, X363, e363, st363⟩ := getF X362 hx hZ hown (host := "") (Or.inl (wd_56 hw)) Via.refl e362 F_size_a1 (g := (mkF m 4 #[.val (.ref a1), .val (.ref a2), .val (.ref a3), .val (.int (1 : Int32))] [(.ref a1), (.int (1 : Int32))])) rfl rfl (hb hby d14_4)
  obtain ⟨T364, X364, e364, st364⟩ := getF X363 hx hZ hown (host := "") (Or.inl (wd_52 hw)) Via.refl e363 F_names_a1 (g := (mkF m 11 #[.val (.ref a1), .val (.ref a2), .val (.ref a3), .val (.int (1 : Int32))] [(.ref a1)])) rfl rfl (hb hby d14_11)
  obtain ⟨cl365, Ar365, q365, S365, N365n, H365, G365⟩ := id (V_nm)
  have hin365 : ¬ ((1 : Int32) < 0 ∨ cl365.slots.size ≤ ((1 : Int32)).toNatClampNeg) := inb_of S365 ⟨by decide, by decide⟩
  have hat365 : cl365.slots[((1 : Int32)).toNatClampNeg]? = some (.ref s1) := H365.at hin365 rfl
  obtain ⟨cq366, kq366, q366a, q366b, q366c⟩ := isOf hZ e364 (E_s1)
  obtain ⟨_, _, ⟨T366, L366, k366, n366⟩, -, X366, ⟨Lc366, hQ366, l366, y366, z366⟩, st366⟩ := X364.virtualBack hx (y := (⟨"java/lang/String", "equals", "(Ljava/lang/Object;)Z"⟩ : MethodName)) (z := (⟨"java/lang/String", "equals", "(Ljava/lang/Object;)Z"⟩ : MethodName)) hown (mvT hZ (wd_71 hw)) (mvT hZ (wd_59 hw)) (notFace_of_selects (args := #[]) (mvT hZ (wd_61 hw))) (mvT hZ (wd_61 hw)) (mvT hZ (wd_60 hw)) (by decide) (backOf (W := 0) (rmeq110 l Z a0 hw [] s1 a2 t1 tq wz k1 kq x1 y0 h0 n0 Z0 E_s1 E_a2 F_value_s1 F_value_a2 F_coder_s1 F_coder_a2 V_t1 V_tq Old0 S_COMPACT_STRINGS hz ne_s1_a2 he1) hZ (wd_62 hw) (wd_2 hw) (by decide) (by decide)) q366a q366c (g := (mkF m 17 #[.val (.ref a1), .val (.ref a2), .val (.ref a3), .val (.int (1 : Int32))] [(.ref a2), (.ref s1)])) rfl (by rw [hml]; rfl) (Steps.refl _) (argsL := [(.ref a2)]) (rest := []) (lenOf pd__Ljava_lang_Object__Z rfl) rfl (by show 2 * 0 + _ ≤ _; exact Nat.le_of_eq rfl) (hb hby d14_17) (fun _ _ => ⟨rfl, e364, (by decide : 0 + 0 ≤ _), (by decide : 0 + 0 ≤ _)⟩)
  dsimp only [Pt.U, Pt.locs, Pt.cells, Pt.slots] at X366 l366 y366 z366 st366 hQ366
  rw [l366, y366, z366] at X366
  obtain ⟨rfl, N366q, e366⟩ := hQ366
  have N366 := Fr.app N362 N366q
  obtain ⟨T367, X367, e367, st367⟩ := getF X366 hx hZ hown (host := "") (Or.inl (wd_56 hw)) Via.refl e366 F_size_a1 (g := (mkF m 4 #[.val (.ref a1), .val (.ref a2), .val (.ref a3), .val (.int (2 : Int32))] [(.ref a1), (.int (2 : Int32))])) rfl rfl (hb hby d14_4)
  obtain ⟨T368, X368, e368, st368⟩ := getF X367 hx hZ hown (host := "") (Or.inl (wd_52 hw)) Via.refl e367 F_names_a1 (g := (mkF m 11 #[.val (.ref a1), .val (.ref a2), .val (.ref a3), .val (.int (2 : Int32))] [(.ref a1)])) rfl rfl (hb hby d14_11)
  obtain ⟨cl369, Ar369, q369, S369, N369n, H369, G369⟩ := id (V_nm)
  have hin369 : ¬ ((2 : Int32) < 0 ∨ cl369.slots.size ≤ ((2 : Int32)).toNatClampNeg) := inb_of S369 ⟨by decide, by decide⟩
  have hat369 : cl369.slots[((2 : Int32)).toNatClampNeg]? = some (.ref s2) := H369.at hin369 rfl
  obtain ⟨cq370, kq370, q370a, q370b, q370c⟩ := isOf hZ e368 (E_s2)
  obtain ⟨_, _, ⟨T370, L370, k370, n370⟩, -, X370, ⟨Lc370, hQ370, l370, y370, z370⟩, st370⟩ := X368.virtualBack hx (y := (⟨"java/lang/String", "equals", "(Ljava/lang/Object;)Z"⟩ : MethodName)) (z := (⟨"java/lang/String", "equals", "(Ljava/lang/Object;)Z"⟩ : MethodName)) hown (mvT hZ (wd_71 hw)) (mvT hZ (wd_59 hw)) (notFace_of_selects (args := #[]) (mvT hZ (wd_61 hw))) (mvT hZ (wd_61 hw)) (mvT hZ (wd_60 hw)) (by decide) (backOf (W := 0) (rmeq11eq l Z a0 hw [] s2 a2 t2 tq wz k2 kq x2 y0 h0 n0 Z0 E_s2 E_a2 F_value_s2 F_value_a2 F_coder_s2 F_coder_a2 V_t2 V_tq Old0 S_COMPACT_STRINGS hz ne_s2_a2 he2) hZ (wd_62 hw) (wd_2 hw) (by decide) (by decide)) q370a q370c (g := (mkF m 17 #[.val (.ref a1), .val (.ref a2), .val (.ref a3), .val (.int (2 : Int32))] [(.ref a2), (.ref s2)])) rfl (by rw [hml]; rfl) (Steps.refl _) (argsL := [(.ref a2)]) (rest := []) (lenOf pd__Ljava_lang_Object__Z rfl) rfl (by show 2 * 0 + _ ≤ _; exact Nat.le_of_eq rfl) (hb hby d14_17) (fun _ _ => ⟨rfl, e368, (by decide : 0 + 0 ≤ _), (by decide : 0 + 0 ≤ _)⟩)
  dsimp only [Pt.U, Pt.locs, Pt.cells, Pt.slots] at X370 l370 y370 z370 st370 hQ370
  rw [l370, y370, z370] at X370
  obtain ⟨rfl, N370q, e370⟩ := hQ370
  have N370 := Fr.app N366 N370q
  obtain ⟨T371, X371, e371, st371⟩ := getF X370 hx hZ hown (host := "") (Or.inl (wd_54 hw)) Via.refl e370 F_values_a1 (g := (mkF m 24 #[.val (.ref a1), .val (.ref a2), .val (.ref a3), .val (.int (2 : Int32))] [(.ref a1)])) rfl rfl (hb hby d14_24)
  obtain ⟨cl372, Ar372, q372, S372, N372n, H372, G372⟩ := id (V_vl)
  have hin372 : ¬ ((2 : Int32) < 0 ∨ cl372.slots.size ≤ ((2 : Int32)).toNatClampNeg) := inb_of S372 ⟨by decide, by decide⟩
  have hat372 : cl372.slots[((2 : Int32)).toNatClampNeg]? = some (.ref v2) := H372.at hin372 rfl
  obtain ⟨fs, hr, hrun, hended, hW, hsame⟩ := X371.leave (v := some (.ref v2)) (fun h => by rw [Bd.returns] at h; cases h)
  refine ⟨_, _, pre0 _ ?_, hrun, hended, _, _, rfl, ?_, ⟨_, rfl⟩, hW, hsame.mono (by decide) (by decide)⟩
  · show Steps p.tables e below (s₁.setTop (mkF m 0 #[.val (.ref a1), .val (.ref a2), .val (.ref a3), .unset] [])) _
    refine XS.iconst X0.here hx rfl (hb hby d14_0) ?_
    refine XS.istoreN X0.here hx rfl (hb hby d14_1) rfl (l' := #[.val (.ref a1), .val (.ref a2), .val (.ref a3), .val (.int (0 : Int32))]) rfl ?_
    refine XS.iloadN X0.here hx rfl (hb hby d14_2) rfl ?_
    refine XS.aloadN X0.here hx rfl (hb hby d14_3) rfl rfl ?_
    refine st359 _ ?_
    refine XS.icmpNo X359.here hx rfl (hb hby d14_7) rfl (tlt (by decide)).2.1 ?_
    refine XS.aloadN X359.here hx rfl (hb hby d14_10) rfl rfl ?_
    refine st360 _ ?_
    refine XS.iloadN X360.here hx rfl (hb hby d14_14) rfl ?_
    refine X360.aaload hx (j := (0 : Int32)) (v := (.ref s0)) (by rw [e360]; exact Ar361.1) (State.isArrayOf_alike hZ.alike Ar361.2.1) rfl Ar361.2.2 hin361 hat361 (g := (mkF m 15 #[.val (.ref a1), .val (.ref a2), .val (.ref a3), .val (.int (0 : Int32))] [(.int (0 : Int32)), (.ref nm)])) rfl rfl (hb hby d14_15) _ ?_
    show Steps p.tables e below (T360.setTop (mkF m 16 #[.val (.ref a1), .val (.ref a2), .val (.ref a3), .val (.int (0 : Int32))] [(.ref s0)])) _
    refine XS.aloadN X360.here hx rfl (hb hby d14_16) rfl rfl ?_
    refine st362.trans ?_
    refine XS.ifYes X362.here hx rfl (pc0 := 20) (pc' := 30) rfl (hb hby d14_20) rfl ((if0 _ _).trans (teq (rfl : (0 : Int32) = (0 : Int32))).1) (by decide) (by decide) ?_
    refine XS.iinc X362.here hx rfl (hb hby d14_30) rfl (l' := #[.val (.ref a1), .val (.ref a2), .val (.ref a3), .val (.int (1 : Int32))]) rfl ?_
    refine XS.goto X362.here hx rfl (pc0 := 33) (pc' := 2) rfl (hb hby d14_33) (by decide) (by decide) ?_
    refine XS.iloadN X362.here hx rfl (hb hby d14_2) rfl ?_
    refine XS.aloadN X362.here hx rfl (hb hby d14_3) rfl rfl ?_
    refine st363 _ ?_
    refine XS.icmpNo X363.here hx rfl (hb hby d14_7) rfl (tlt (by decide)).2.1 ?_
    refine XS.aloadN X363.here hx rfl (hb hby d14_10) rfl rfl ?_
    show Steps p.tables e below (T363.setTop (mkF m 11 #[.val (.ref a1), .val (.ref a2), .val (.ref a3), .val (.int (1 : Int32))] [(.ref a1)])) _
    refine st364 _ ?_
    refine XS.iloadN X364.here hx rfl (hb hby d14_14) rfl ?_
    refine X364.aaload hx (j := (1 : Int32)) (v := (.ref s1)) (by rw [e364]; exact Ar365.1) (State.isArrayOf_alike hZ.alike Ar365.2.1) rfl Ar365.2.2 hin365 hat365 (g := (mkF m 15 #[.val (.ref a1), .val (.ref a2), .val (.ref a3), .val (.int (1 : Int32))] [(.int (1 : Int32)), (.ref nm)])) rfl rfl (hb hby d14_15) _ ?_
    refine XS.aloadN X364.here hx rfl (hb hby d14_16) rfl rfl ?_
    refine st366.trans ?_
    refine XS.ifYes X366.here hx rfl (pc0 := 20) (pc' := 30) rfl (hb hby d14_20) rfl ((if0 _ _).trans (teq (rfl : (0 : Int32) = (0 : Int32))).1) (by decide) (by decide) ?_
    refine XS.iinc X366.here hx rfl (hb hby d14_30) rfl (l' := #[.val (.ref a1), .val (.ref a2), .val (.ref a3), .val (.int (2 : Int32))]) rfl ?_
    refine XS.goto X366.here hx rfl (pc0 := 33) (pc' := 2) rfl (hb hby d14_33) (by decide) (by decide) ?_
    refine XS.iloadN X366.here hx rfl (hb hby d14_2) rfl ?_
    refine XS.aloadN X366.here hx rfl (hb hby d14_3) rfl rfl ?_
    show Steps p.tables e below (T366.setTop (mkF m 4 #[.val (.ref a1), .val (.ref a2), .val (.ref a3), .val (.int (2 : Int32))] [(.ref a1), (.int (2 : Int32))])) _
    refine st367 _ ?_
    refine XS.icmpNo X367.here hx rfl (hb hby d14_7) rfl (tlt (by decide)).2.1 ?_
    refine XS.aloadN X367.here hx rfl (hb hby d14_10) rfl rfl ?_
    refine st368 _ ?_
    refine XS.iloadN X368.here hx rfl (hb hby d14_14) rfl ?_
    refine X368.aaload hx (j := (2 : Int32)) (v := (.ref s2)) (by rw [e368]; exact Ar369.1) (State.isArrayOf_alike hZ.alike Ar369.2.1) rfl Ar369.2.2 hin369 hat369 (g := (mkF m 15 #[.val (.ref a1), .val (.ref a2), .val (.ref a3), .val (.int (2 : Int32))] [(.int (2 : Int32)), (.ref nm)])) rfl rfl (hb hby d14_15) _ ?_
    refine XS.aloadN X368.here hx rfl (hb hby d14_16) rfl rfl ?_
    refine st370.trans ?_
    refine XS.ifNo X370.here hx rfl (hb hby d14_20) rfl ((if0 _ _).trans (feq (by decide)).1) ?_
    refine XS.aloadN X370.here hx rfl (hb hby d14_23) rfl rfl ?_
    show Steps p.tables e below (T370.setTop (mkF m 24 #[.val (.ref a1), .val (.ref a2), .val (.ref a3), .val (.int (2 : Int32))] [(.ref a1)])) _
    refine st371 _ ?_
    refine XS.iloadN X371.here hx rfl (hb hby d14_27) rfl ?_
    refine X371.aaload hx (j := (2 : Int32)) (v := (.ref v2)) (by rw [e371]; exact Ar372.1) (State.isArrayOf_alike hZ.alike Ar372.2.1) rfl Ar372.2.2 hin372 hat372 (g := (mkF m 28 #[.val (.ref a1), .val (.ref a2), .val (.ref a3), .val (.int (2 : Int32))] [(.int (2 : Int32)), (.ref vl)])) rfl rfl (hb hby d14_28) _ ?_
    exact X371.areturnOut hx rfl Bd.returns rfl (hb hby d14_29) hr
  · show Q_rmg321 Z a1 a2 a3 nm vl kn kv s0 s1 s2 v0 v1 v2 t0 t1 t2 k0 k1 k2 x0 x1 x2 y0 tq kq wz h0 n0 _ T371.heap _
    rw [e371]
    exact ⟨rfl, N370, rfl⟩
def Q_rmg3x1 (Z : State) (a1 : Addr) (a2 : Addr) (a3 : Addr) (nm : Addr) (vl : Addr) (kn : ClassId) (kv : ClassId) (s0 : Addr) (s1 : Addr) (s2 : Addr) (v0 : Addr) (v1 : Addr) (v2 : Addr) (t0 : Addr) (t1 : Addr) (t2 : Addr) (k0 : ClassId) (k1 : ClassId) (k2 : ClassId) (x0 : Int32) (x1 : Int32) (x2 : Int32) (y0 : Int32) (tq : Addr) (kq : ClassId) (wz : Int32) (h0 : Heap) (n0 : Nat) (v : Option Value) (h : Heap) (L : List Loc) : Prop := v = some (.ref a3) ∧ Fr n0 L ∧ h = h0
set_option maxRecDepth 65536 in
set_option maxHeartbeats 40000000 in
theorem rmg3x1 (l : Launch) (Z : State) (a0 : Array Value) (hw : ∀ d ∈ tables_1, d.before a0 Z = true) (ws : List Jvm.Cond) (a1 : Addr) (a2 : Addr) (a3 : Addr) (nm : Addr) (vl : Addr) (kn : ClassId) (kv : ClassId) (s0 : Addr) (s1 : Addr) (s2 : Addr) (v0 : Addr) (v1 : Addr) (v2 : Addr) (t0 : Addr) (t1 : Addr) (t2 : Addr) (k0 : ClassId) (k1 : ClassId) (k2 : ClassId) (x0 : Int32) (x1 : Int32) (x2 : Int32) (y0 : Int32) (tq : Addr) (kq : ClassId) (wz : Int32) (h0 : Heap) (n0 : Nat) (Z0 : n0 ≤ h0.size) (F_names_a1 : Fld Z h0 a1 "com/example/kawi/kawi/xml/Attributes" "names" "[Ljava/lang/String;" (.ref nm)) (F_values_a1 : Fld Z h0 a1 "com/example/kawi/kawi/xml/Attributes" "values" "[Ljava/lang/String;" (.ref vl)) (F_size_a1 : Fld Z h0 a1 "com/example/kawi/kawi/xml/Attributes" "size" "I" (.int (3 : Int32))) (V_nm : Arv Z h0 nm kn (.object "java/lang/String") (3 : Int32) [(.ref s0), (.ref s1), (.ref s2)] .null) (V_vl : Arv Z h0 vl kv (.object "java/lang/String") (3 : Int32) [(.ref v0), (.ref v1), (.ref v2)] .null) (E_s0 : Exa Z h0 s0 "java/lang/String") (F_value_s0 : Fld Z h0 s0 "java/lang/String" "value" "[B" (.ref t0)) (F_coder_s0 : Fld Z h0 s0 "java/lang/String" "coder" "B" (.int (0 : Int32))) (V_t0 : Arv Z h0 t0 k0 .byte (1 : Int32) [(.int x0)] (.int (0 : Int32))) (ne_s0_a2 : s0 ≠ a2) (E_s1 : Exa Z h0 s1 "java/lang/String") (F_value_s1 : Fld Z h0 s1 "java/lang/String" "value" "[B" (.ref t1)) (F_coder_s1 : Fld Z h0 s1 "java/lang/String" "coder" "B" (.int (0 : Int32))) (V_t1 : Arv Z h0 t1 k1 .byte (1 : Int32) [(.int x1)] (.int (0 : Int32))) (ne_s1_a2 : s1 ≠ a2) (E_s2 : Exa Z h0 s2 "java/lang/String") (F_value_s2 : Fld Z h0 s2 "java/lang/String" "value" "[B" (.ref t2)) (F_coder_s2 : Fld Z h0 s2 "java/lang/String" "coder" "B" (.int (0 : Int32))) (V_t2 : Arv Z h0 t2 k2 .byte (1 : Int32) [(.int x2)] (.int (0 : Int32))) (ne_s2_a2 : s2 ≠ a2) (E_a2 : Exa Z h0 a2 "java/lang/String") (F_value_a2 : Fld Z h0 a2 "java/lang/String" "value" "[B" (.ref tq)) (F_coder_a2 : Fld Z h0 a2 "java/lang/String" "coder" "B" (.int (0 : Int32))) (V_tq : Arv Z h0 tq kq .byte (1 : Int32) [(.int y0)] (.int (0 : Int32))) (Old0 : Old Z n0 h0) (S_COMPACT_STRINGS : Sta Z Z.heap "java/lang/String" "COMPACT_STRINGS" "Z" (.int wz)) (hz : ¬ (wz = (0 : Int32))) (he0 : ¬ (x0 = y0)) (he1 : ¬ (x1 = y0)) (he2 : ¬ (x2 = y0)) :
    MetFree l (⟨"com/example/kawi/kawi/xml/Attributes", "getOrDefault", "(Ljava/lang/String;Ljava/lang/String;)Ljava/lang/String;"⟩ : MethodName) (head1 (Jvm.Cond.code (⟨"com/example/kawi/kawi/xml/Attributes", "getOrDefault", "(Ljava/lang/String;Ljava/lang/String;)Ljava/lang/String;"⟩ : MethodName) prog_112_method_5_code 4 (some (.object "java/lang/String")) :: ws) ({ frames := 2, cells := 0, slots := 0, locals := 28 } : Room)) (fun a U => a = #[(.ref a1), (.ref a2), (.ref a3)] ∧ Z.Warmed39 U.vm ∧ U.heap = h0) (fun _ _ _ _ _ => True) (fun _ U o U' => ∃ v L, o = .returned v ∧ Q_rmg3x1 Z a1 a2 a3 nm vl kn kv s0 s1 s2 v0 v1 v2 t0 t1 t2 k0 k1 k2 x0 x1 x2 y0 tq kq wz h0 n0 v U'.heap L ∧ FrameEnd U o U' L ({ frames := 2, cells := 0, slots := 0, locals := 28 } : Room).cells ({ frames := 2, cells := 0, slots := 0, locals := 28 } : Room).slots) := by
  refine MetFree.of_bodySF (plainFor_of_name pn_com_example_kawi_kawi_xml_Attributes) hisR ?_
  intro p e s m args below meth c s₁ Bd hml0 hP hK
  obtain ⟨rfl, hZ, hh⟩ := hP
  have hx := Bd.exec
  have hby := Bd.bytes
  have hml : c.maxLocals = 4 := hml0
  have hown : s.vm.findClass "com/example/kawi/kawi/xml/Attributes" = some m.cls := findClass_of_methodNamed Bd.named
  have hnm := (name_of_methodNamed Bd.named Bd.method).1
  have X0 : Stand p l e ({ frames := 2, cells := 0, slots := 0, locals := 28 } : Room) s m #[(.ref a1), (.ref a2), (.ref a3)] below meth c s₁ [] 0 0 := Stand.of_body Bd
  have e0 : s₁.heap = h0 := by rw [← hh, Bd.state]; rfl
  have N0 := Fr.nil n0
  have pre0 : ∀ t, Steps p.tables e below (s₁.setTop (mkF m 0 #[.val (.ref a1), .val (.ref a2), .val (.ref a3), .unset] [])) t → Steps p.tables e below (s₁.setTop (entryFrame m #[(.ref a1), (.ref a2), (.ref a3)] 4)) t := fun t k => castTop (ef_14 m a1 a2 a3) k
  obtain ⟨T375, X375, e375, st375⟩ := getF X0 hx hZ hown (host := "") (Or.inl (wd_56 hw)) Via.refl e0 F_size_a1 (g := (mkF m 4 #[.val (.ref a1), .val (.ref a2), .val (.ref a3), .val (.int (0 : Int32))] [(.ref a1), (.int (0 : Int32))])) rfl rfl (hb hby d14_4)
  obtain ⟨T376, X376, e376, st376⟩ := getF X375 hx hZ hown (host := "") (Or.inl (wd_52 hw)) Via.refl e375 F_names_a1 (g := (mkF m 11 #[.val (.ref a1), .val (.ref a2), .val (.ref a3), .val (.int (0 : Int32))] [(.ref a1)])) rfl rfl (hb hby d14_11)
  obtain ⟨cl377, Ar377, q377, S377, N377n, H377, G377⟩ := id (V_nm)
  have hin377 : ¬ ((0 : Int32) < 0 ∨ cl377.slots.size ≤ ((0 : Int32)).toNatClampNeg) := inb_of S377 ⟨by decide, by decide⟩
  have hat377 : cl377.slots[((0 : Int32)).toNatClampNeg]? = some (.ref s0) := H377.at hin377 rfl
  obtain ⟨cq378, kq378, q378a, q378b, q378c⟩ := isOf hZ e376 (E_s0)
  obtain ⟨_, _, ⟨T378, L378, k378, n378⟩, -, X378, ⟨Lc378, hQ378, l378, y378, z378⟩, st378⟩ := X376.virtualBack hx (y := (⟨"java/lang/String", "equals", "(Ljava/lang/Object;)Z"⟩ : MethodName)) (z := (⟨"java/lang/String", "equals", "(Ljava/lang/Object;)Z"⟩ : MethodName)) hown (mvT hZ (wd_71 hw)) (mvT hZ (wd_59 hw)) (notFace_of_selects (args := #[]) (mvT hZ (wd_61 hw))) (mvT hZ (wd_61 hw)) (mvT hZ (wd_60 hw)) (by decide) (backOf (W := 0) (rmeq110 l Z a0 hw [] s0 a2 t0 tq wz k0 kq x0 y0 h0 n0 Z0 E_s0 E_a2 F_value_s0 F_value_a2 F_coder_s0 F_coder_a2 V_t0 V_tq Old0 S_COMPACT_STRINGS hz ne_s0_a2 he0) hZ (wd_62 hw) (wd_2 hw) (by decide) (by decide)) q378a q378c (g := (mkF m 17 #[.val (.ref a1), .val (.ref a2), .val (.ref a3), .val (.int (0 : Int32))] [(.ref a2), (.ref s0)])) rfl (by rw [hml]; rfl) (Steps.refl _) (argsL := [(.ref a2)]) (rest := []) (lenOf pd__Ljava_lang_Object__Z rfl) rfl (by show 2 * 0 + _ ≤ _; exact Nat.le_of_eq rfl) (hb hby d14_17) (fun _ _ => ⟨rfl, e376, (by decide : 0 + 0 ≤ _), (by decide : 0 + 0 ≤ _)⟩)
  dsimp only [Pt.U, Pt.locs, Pt.cells, Pt.slots] at X378 l378 y378 z378 st378 hQ378
  rw [l378, y378, z378] at X378
  obtain ⟨rfl, N378q, e378⟩ := hQ378
  have N378 := Fr.app N0 N378q
  obtain ⟨T379, X379, e379, st379⟩ := getF X378 hx hZ hown (host := "") (Or.inl (wd_56 hw)) Via.refl e378 F_size_a1 (g := (mkF m 4 #[.val (.ref a1), .val (.ref a2), .val (.ref a3), .val (.int (1 : Int32))] [(.ref a1), (.int (1 : Int32))])) rfl rfl (hb hby d14_4)
  obtain ⟨T380, X380, e380, st380⟩ := getF X379 hx hZ hown (host := "") (Or.inl (wd_52 hw)) Via.refl e379 F_names_a1 (g := (mkF m 11 #[.val (.ref a1), .val (.ref a2), .val (.ref a3), .val (.int (1 : Int32))] [(.ref a1)])) rfl rfl (hb hby d14_11)
  obtain ⟨cl381, Ar381, q381, S381, N381n, H381, G381⟩ := id (V_nm)
  have hin381 : ¬ ((1 : Int32) < 0 ∨ cl381.slots.size ≤ ((1 : Int32)).toNatClampNeg) := inb_of S381 ⟨by decide, by decide⟩
  have hat381 : cl381.slots[((1 : Int32)).toNatClampNeg]? = some (.ref s1) := H381.at hin381 rfl
  obtain ⟨cq382, kq382, q382a, q382b, q382c⟩ := isOf hZ e380 (E_s1)
  obtain ⟨_, _, ⟨T382, L382, k382, n382⟩, -, X382, ⟨Lc382, hQ382, l382, y382, z382⟩, st382⟩ := X380.virtualBack hx (y := (⟨"java/lang/String", "equals", "(Ljava/lang/Object;)Z"⟩ : MethodName)) (z := (⟨"java/lang/String", "equals", "(Ljava/lang/Object;)Z"⟩ : MethodName)) hown (mvT hZ (wd_71 hw)) (mvT hZ (wd_59 hw)) (notFace_of_selects (args := #[]) (mvT hZ (wd_61 hw))) (mvT hZ (wd_61 hw)) (mvT hZ (wd_60 hw)) (by decide) (backOf (W := 0) (rmeq110 l Z a0 hw [] s1 a2 t1 tq wz k1 kq x1 y0 h0 n0 Z0 E_s1 E_a2 F_value_s1 F_value_a2 F_coder_s1 F_coder_a2 V_t1 V_tq Old0 S_COMPACT_STRINGS hz ne_s1_a2 he1) hZ (wd_62 hw) (wd_2 hw) (by decide) (by decide)) q382a q382c (g := (mkF m 17 #[.val (.ref a1), .val (.ref a2), .val (.ref a3), .val (.int (1 : Int32))] [(.ref a2), (.ref s1)])) rfl (by rw [hml]; rfl) (Steps.refl _) (argsL := [(.ref a2)]) (rest := []) (lenOf pd__Ljava_lang_Object__Z rfl) rfl (by show 2 * 0 + _ ≤ _; exact Nat.le_of_eq rfl) (hb hby d14_17) (fun _ _ => ⟨rfl, e380, (by decide : 0 + 0 ≤ _), (by decide : 0 + 0 ≤ _)⟩)
  dsimp only [Pt.U, Pt.locs, Pt.cells, Pt.slots] at X382 l382 y382 z382 st382 hQ382
  rw [l382, y382, z382] at X382
  obtain ⟨rfl, N382q, e382⟩ := hQ382
  have N382 := Fr.app N378 N382q
  obtain ⟨T383, X383, e383, st383⟩ := getF X382 hx hZ hown (host := "") (Or.inl (wd_56 hw)) Via.refl e382 F_size_a1 (g := (mkF m 4 #[.val (.ref a1), .val (.ref a2), .val (.ref a3), .val (.int (2 : Int32))] [(.ref a1), (.int (2 : Int32))])) rfl rfl (hb hby d14_4)
  obtain ⟨T384, X384, e384, st384⟩ := getF X383 hx hZ hown (host := "") (Or.inl (wd_52 hw)) Via.refl e383 F_names_a1 (g := (mkF m 11 #[.val (.ref a1), .val (.ref a2), .val (.ref a3), .val (.int (2 : Int32))] [(.ref a1)])) rfl rfl (hb hby d14_11)
  obtain ⟨cl385, Ar385, q385, S385, N385n, H385, G385⟩ := id (V_nm)
  have hin385 : ¬ ((2 : Int32) < 0 ∨ cl385.slots.size ≤ ((2 : Int32)).toNatClampNeg) := inb_of S385 ⟨by decide, by decide⟩
  have hat385 : cl385.slots[((2 : Int32)).toNatClampNeg]? = some (.ref s2) := H385.at hin385 rfl
  obtain ⟨cq386, kq386, q386a, q386b, q386c⟩ := isOf hZ e384 (E_s2)
  obtain ⟨_, _, ⟨T386, L386, k386, n386⟩, -, X386, ⟨Lc386, hQ386, l386, y386, z386⟩, st386⟩ := X384.virtualBack hx (y := (⟨"java/lang/String", "equals", "(Ljava/lang/Object;)Z"⟩ : MethodName)) (z := (⟨"java/lang/String", "equals", "(Ljava/lang/Object;)Z"⟩ : MethodName)) hown (mvT hZ (wd_71 hw)) (mvT hZ (wd_59 hw)) (notFace_of_selects (args := #[]) (mvT hZ (wd_61 hw))) (mvT hZ (wd_61 hw)) (mvT hZ (wd_60 hw)) (by decide) (backOf (W := 0) (rmeq110 l Z a0 hw [] s2 a2 t2 tq wz k2 kq x2 y0 h0 n0 Z0 E_s2 E_a2 F_value_s2 F_value_a2 F_coder_s2 F_coder_a2 V_t2 V_tq Old0 S_COMPACT_STRINGS hz ne_s2_a2 he2) hZ (wd_62 hw) (wd_2 hw) (by decide) (by decide)) q386a q386c (g := (mkF m 17 #[.val (.ref a1), .val (.ref a2), .val (.ref a3), .val (.int (2 : Int32))] [(.ref a2), (.ref s2)])) rfl (by rw [hml]; rfl) (Steps.refl _) (argsL := [(.ref a2)]) (rest := []) (lenOf pd__Ljava_lang_Object__Z rfl) rfl (by show 2 * 0 + _ ≤ _; exact Nat.le_of_eq rfl) (hb hby d14_17) (fun _ _ => ⟨rfl, e384, (by decide : 0 + 0 ≤ _), (by decide : 0 + 0 ≤ _)⟩)
  dsimp only [Pt.U, Pt.locs, Pt.cells, Pt.slots] at X386 l386 y386 z386 st386 hQ386
  rw [l386, y386, z386] at X386
  obtain ⟨rfl, N386q, e386⟩ := hQ386
  have N386 := Fr.app N382 N386q
  obtain ⟨T387, X387, e387, st387⟩ := getF X386 hx hZ hown (host := "") (Or.inl (wd_56 hw)) Via.refl e386 F_size_a1 (g := (mkF m 4 #[.val (.ref a1), .val (.ref a2), .val (.ref a3), .val (.int (3 : Int32))] [(.ref a1), (.int (3 : Int32))])) rfl rfl (hb hby d14_4)
  obtain ⟨fs, hr, hrun, hended, hW, hsame⟩ := X387.leave (v := some (.ref a3)) (fun h => by rw [Bd.returns] at h; cases h)
  refine ⟨_, _, pre0 _ ?_, hrun, hended, _, _, rfl, ?_, ⟨_, rfl⟩, hW, hsame.mono (by decide) (by decide)⟩
  · show Steps p.tables e below (s₁.setTop (mkF m 0 #[.val (.ref a1), .val (.ref a2), .val (.ref a3), .unset] [])) _
    refine XS.iconst X0.here hx rfl (hb hby d14_0) ?_
    refine XS.istoreN X0.here hx rfl (hb hby d14_1) rfl (l' := #[.val (.ref a1), .val (.ref a2), .val (.ref a3), .val (.int (0 : Int32))]) rfl ?_
    refine XS.iloadN X0.here hx rfl (hb hby d14_2) rfl ?_
    refine XS.aloadN X0.here hx rfl (hb hby d14_3) rfl rfl ?_
    refine st375 _ ?_
    refine XS.icmpNo X375.here hx rfl (hb hby d14_7) rfl (tlt (by decide)).2.1 ?_
    refine XS.aloadN X375.here hx rfl (hb hby d14_10) rfl rfl ?_
    refine st376 _ ?_
    refine XS.iloadN X376.here hx rfl (hb hby d14_14) rfl ?_
    refine X376.aaload hx (j := (0 : Int32)) (v := (.ref s0)) (by rw [e376]; exact Ar377.1) (State.isArrayOf_alike hZ.alike Ar377.2.1) rfl Ar377.2.2 hin377 hat377 (g := (mkF m 15 #[.val (.ref a1), .val (.ref a2), .val (.ref a3), .val (.int (0 : Int32))] [(.int (0 : Int32)), (.ref nm)])) rfl rfl (hb hby d14_15) _ ?_
    show Steps p.tables e below (T376.setTop (mkF m 16 #[.val (.ref a1), .val (.ref a2), .val (.ref a3), .val (.int (0 : Int32))] [(.ref s0)])) _
    refine XS.aloadN X376.here hx rfl (hb hby d14_16) rfl rfl ?_
    refine st378.trans ?_
    refine XS.ifYes X378.here hx rfl (pc0 := 20) (pc' := 30) rfl (hb hby d14_20) rfl ((if0 _ _).trans (teq (rfl : (0 : Int32) = (0 : Int32))).1) (by decide) (by decide) ?_
    refine XS.iinc X378.here hx rfl (hb hby d14_30) rfl (l' := #[.val (.ref a1), .val (.ref a2), .val (.ref a3), .val (.int (1 : Int32))]) rfl ?_
    refine XS.goto X378.here hx rfl (pc0 := 33) (pc' := 2) rfl (hb hby d14_33) (by decide) (by decide) ?_
    refine XS.iloadN X378.here hx rfl (hb hby d14_2) rfl ?_
    refine XS.aloadN X378.here hx rfl (hb hby d14_3) rfl rfl ?_
    refine st379 _ ?_
    refine XS.icmpNo X379.here hx rfl (hb hby d14_7) rfl (tlt (by decide)).2.1 ?_
    refine XS.aloadN X379.here hx rfl (hb hby d14_10) rfl rfl ?_
    show Steps p.tables e below (T379.setTop (mkF m 11 #[.val (.ref a1), .val (.ref a2), .val (.ref a3), .val (.int (1 : Int32))] [(.ref a1)])) _
    refine st380 _ ?_
    refine XS.iloadN X380.here hx rfl (hb hby d14_14) rfl ?_
    refine X380.aaload hx (j := (1 : Int32)) (v := (.ref s1)) (by rw [e380]; exact Ar381.1) (State.isArrayOf_alike hZ.alike Ar381.2.1) rfl Ar381.2.2 hin381 hat381 (g := (mkF m 15 #[.val (.ref a1), .val (.ref a2), .val (.ref a3), .val (.int (1 : Int32))] [(.int (1 : Int32)), (.ref nm)])) rfl rfl (hb hby d14_15) _ ?_
    refine XS.aloadN X380.here hx rfl (hb hby d14_16) rfl rfl ?_
    refine st382.trans ?_
    refine XS.ifYes X382.here hx rfl (pc0 := 20) (pc' := 30) rfl (hb hby d14_20) rfl ((if0 _ _).trans (teq (rfl : (0 : Int32) = (0 : Int32))).1) (by decide) (by decide) ?_
    refine XS.iinc X382.here hx rfl (hb hby d14_30) rfl (l' := #[.val (.ref a1), .val (.ref a2), .val (.ref a3), .val (.int (2 : Int32))]) rfl ?_
    refine XS.goto X382.here hx rfl (pc0 := 33) (pc' := 2) rfl (hb hby d14_33) (by decide) (by decide) ?_
    refine XS.iloadN X382.here hx rfl (hb hby d14_2) rfl ?_
    refine XS.aloadN X382.here hx rfl (hb hby d14_3) rfl rfl ?_
    show Steps p.tables e below (T382.setTop (mkF m 4 #[.val (.ref a1), .val (.ref a2), .val (.ref a3), .val (.int (2 : Int32))] [(.ref a1), (.int (2 : Int32))])) _
    refine st383 _ ?_
    refine XS.icmpNo X383.here hx rfl (hb hby d14_7) rfl (tlt (by decide)).2.1 ?_
    refine XS.aloadN X383.here hx rfl (hb hby d14_10) rfl rfl ?_
    refine st384 _ ?_
    refine XS.iloadN X384.here hx rfl (hb hby d14_14) rfl ?_
    refine X384.aaload hx (j := (2 : Int32)) (v := (.ref s2)) (by rw [e384]; exact Ar385.1) (State.isArrayOf_alike hZ.alike Ar385.2.1) rfl Ar385.2.2 hin385 hat385 (g := (mkF m 15 #[.val (.ref a1), .val (.ref a2), .val (.ref a3), .val (.int (2 : Int32))] [(.int (2 : Int32)), (.ref nm)])) rfl rfl (hb hby d14_15) _ ?_
    refine XS.aloadN X384.here hx rfl (hb hby d14_16) rfl rfl ?_
    refine st386.trans ?_
    refine XS.ifYes X386.here hx rfl (pc0 := 20) (pc' := 30) rfl (hb hby d14_20) rfl ((if0 _ _).trans (teq (rfl : (0 : Int32) = (0 : Int32))).1) (by decide) (by decide) ?_
    refine XS.iinc X386.here hx rfl (hb hby d14_30) rfl (l' := #[.val (.ref a1), .val (.ref a2), .val (.ref a3), .val (.int (3 : Int32))]) rfl ?_
    show Steps p.tables e below (T386.setTop (mkF m 33 #[.val (.ref a1), .val (.ref a2), .val (.ref a3), .val (.int (3 : Int32))] [])) _
    refine XS.goto X386.here hx rfl (pc0 := 33) (pc' := 2) rfl (hb hby d14_33) (by decide) (by decide) ?_
    refine XS.iloadN X386.here hx rfl (hb hby d14_2) rfl ?_
    refine XS.aloadN X386.here hx rfl (hb hby d14_3) rfl rfl ?_
    refine st387 _ ?_
    refine XS.icmpYes X387.here hx rfl (pc0 := 7) (pc' := 36) rfl (hb hby d14_7) rfl (flt (by decide)).2.1 (by decide) (by decide) ?_
    refine XS.aloadN X387.here hx rfl (hb hby d14_36) rfl rfl ?_
    exact X387.areturnOut hx rfl Bd.returns rfl (hb hby d14_37) hr
  · show Q_rmg3x1 Z a1 a2 a3 nm vl kn kv s0 s1 s2 v0 v1 v2 t0 t1 t2 k0 k1 k2 x0 x1 x2 y0 tq kq wz h0 n0 _ T387.heap _
    rw [e387]
    exact ⟨rfl, N386, rfl⟩
theorem efn_14 (m : MethodId) (x0 : Addr) (x1 : Addr) : entryFrame m #[(.ref x0), (.ref x1), .null] 4 = mkF m 0 #[.val (.ref x0), .val (.ref x1), .val .null, .unset] [] := by first | (simp [entryFrame, mkF, argsToLocals, Value.category]; done) | rfl
def Q_rmg0x1n (Z : State) (a1 : Addr) (a2 : Addr) (nm : Addr) (vl : Addr) (kn : ClassId) (kv : ClassId) (s0 : Addr) (s1 : Addr) (s2 : Addr) (v0 : Addr) (v1 : Addr) (v2 : Addr) (y0 : Int32) (tq : Addr) (kq : ClassId) (wz : Int32) (h0 : Heap) (n0 : Nat) (v : Option Value) (h : Heap) (L : List Loc) : Prop := v = some .null ∧ Fr n0 L ∧ h = h0
set_option maxRecDepth 65536 in
set_option maxHeartbeats 40000000 in
theorem rmg0x1n (l : Launch) (Z : State) (a0 : Array Value) (hw : ∀ d ∈ tables_1, d.before a0 Z = true) (ws : List Jvm.Cond) (a1 : Addr) (a2 : Addr) (nm : Addr) (vl : Addr) (kn : ClassId) (kv : ClassId) (s0 : Addr) (s1 : Addr) (s2 : Addr) (v0 : Addr) (v1 : Addr) (v2 : Addr) (y0 : Int32) (tq : Addr) (kq : ClassId) (wz : Int32) (h0 : Heap) (n0 : Nat) (Z0 : n0 ≤ h0.size) (F_names_a1 : Fld Z h0 a1 "com/example/kawi/kawi/xml/Attributes" "names" "[Ljava/lang/String;" (.ref nm)) (F_values_a1 : Fld Z h0 a1 "com/example/kawi/kawi/xml/Attributes" "values" "[Ljava/lang/String;" (.ref vl)) (F_size_a1 : Fld Z h0 a1 "com/example/kawi/kawi/xml/Attributes" "size" "I" (.int (0 : Int32))) (V_nm : Arv Z h0 nm kn (.object "java/lang/String") (3 : Int32) [(.ref s0), (.ref s1), (.ref s2)] .null) (V_vl : Arv Z h0 vl kv (.object "java/lang/String") (3 : Int32) [(.ref v0), (.ref v1), (.ref v2)] .null) (E_a2 : Exa Z h0 a2 "java/lang/String") (F_value_a2 : Fld Z h0 a2 "java/lang/String" "value" "[B" (.ref tq)) (F_coder_a2 : Fld Z h0 a2 "java/lang/String" "coder" "B" (.int (0 : Int32))) (V_tq : Arv Z h0 tq kq .byte (1 : Int32) [(.int y0)] (.int (0 : Int32))) (Old0 : Old Z n0 h0) (S_COMPACT_STRINGS : Sta Z Z.heap "java/lang/String" "COMPACT_STRINGS" "Z" (.int wz)) (hz : ¬ (wz = (0 : Int32))) :
    MetFree l (⟨"com/example/kawi/kawi/xml/Attributes", "getOrDefault", "(Ljava/lang/String;Ljava/lang/String;)Ljava/lang/String;"⟩ : MethodName) (head1 (Jvm.Cond.code (⟨"com/example/kawi/kawi/xml/Attributes", "getOrDefault", "(Ljava/lang/String;Ljava/lang/String;)Ljava/lang/String;"⟩ : MethodName) prog_112_method_5_code 4 (some (.object "java/lang/String")) :: ws) ({ frames := 0, cells := 0, slots := 0, locals := 0 } : Room)) (fun a U => a = #[(.ref a1), (.ref a2), .null] ∧ Z.Warmed39 U.vm ∧ U.heap = h0) (fun _ _ _ _ _ => True) (fun _ U o U' => ∃ v L, o = .returned v ∧ Q_rmg0x1n Z a1 a2 nm vl kn kv s0 s1 s2 v0 v1 v2 y0 tq kq wz h0 n0 v U'.heap L ∧ FrameEnd U o U' L ({ frames := 0, cells := 0, slots := 0, locals := 0 } : Room).cells ({ frames := 0, cells := 0, slots := 0, locals := 0 } : Room).slots) := by
  refine MetFree.of_bodySF (plainFor_of_name pn_com_example_kawi_kawi_xml_Attributes) hisR ?_
  intro p e s m args below meth c s₁ Bd hml0 hP hK
  obtain ⟨rfl, hZ, hh⟩ := hP
  have hx := Bd.exec
  have hby := Bd.bytes
  have hml : c.maxLocals = 4 := hml0
  have hown : s.vm.findClass "com/example/kawi/kawi/xml/Attributes" = some m.cls := findClass_of_methodNamed Bd.named
  have hnm := (name_of_methodNamed Bd.named Bd.method).1
  have X0 : Stand p l e ({ frames := 0, cells := 0, slots := 0, locals := 0 } : Room) s m #[(.ref a1), (.ref a2), .null] below meth c s₁ [] 0 0 := Stand.of_body Bd
  have e0 : s₁.heap = h0 := by rw [← hh, Bd.state]; rfl
  have N0 := Fr.nil n0
  have pre0 : ∀ t, Steps p.tables e below (s₁.setTop (mkF m 0 #[.val (.ref a1), .val (.ref a2), .val .null, .unset] [])) t → Steps p.tables e below (s₁.setTop (entryFrame m #[(.ref a1), (.ref a2), .null] 4)) t := fun t k => castTop (efn_14 m a1 a2) k
  obtain ⟨T414, X414, e414, st414⟩ := getF X0 hx hZ hown (host := "") (Or.inl (wd_56 hw)) Via.refl e0 F_size_a1 (g := (mkF m 4 #[.val (.ref a1), .val (.ref a2), .val .null, .val (.int (0 : Int32))] [(.ref a1), (.int (0 : Int32))])) rfl rfl (hb hby d14_4)
  obtain ⟨fs, hr, hrun, hended, hW, hsame⟩ := X414.leave (v := some .null) (fun h => by rw [Bd.returns] at h; cases h)
  refine ⟨_, _, pre0 _ ?_, hrun, hended, _, _, rfl, ?_, ⟨_, rfl⟩, hW, hsame.mono (by decide) (by decide)⟩
  · show Steps p.tables e below (s₁.setTop (mkF m 0 #[.val (.ref a1), .val (.ref a2), .val .null, .unset] [])) _
    refine XS.iconst X0.here hx rfl (hb hby d14_0) ?_
    refine XS.istoreN X0.here hx rfl (hb hby d14_1) rfl (l' := #[.val (.ref a1), .val (.ref a2), .val .null, .val (.int (0 : Int32))]) rfl ?_
    refine XS.iloadN X0.here hx rfl (hb hby d14_2) rfl ?_
    refine XS.aloadN X0.here hx rfl (hb hby d14_3) rfl rfl ?_
    refine st414 _ ?_
    refine XS.icmpYes X414.here hx rfl (pc0 := 7) (pc' := 36) rfl (hb hby d14_7) rfl (flt (by decide)).2.1 (by decide) (by decide) ?_
    refine XS.aloadN X414.here hx rfl (hb hby d14_36) rfl rfl ?_
    exact X414.areturnOut hx rfl Bd.returns rfl (hb hby d14_37) hr
  · show Q_rmg0x1n Z a1 a2 nm vl kn kv s0 s1 s2 v0 v1 v2 y0 tq kq wz h0 n0 _ T414.heap _
    rw [e414]
    exact ⟨rfl, N0, rfl⟩
def Q_rmg101n (Z : State) (a1 : Addr) (a2 : Addr) (nm : Addr) (vl : Addr) (kn : ClassId) (kv : ClassId) (s0 : Addr) (s1 : Addr) (s2 : Addr) (v0 : Addr) (v1 : Addr) (v2 : Addr) (t0 : Addr) (k0 : ClassId) (x0 : Int32) (y0 : Int32) (tq : Addr) (kq : ClassId) (wz : Int32) (h0 : Heap) (n0 : Nat) (v : Option Value) (h : Heap) (L : List Loc) : Prop := v = some (.ref v0) ∧ Fr n0 L ∧ h = h0
set_option maxRecDepth 65536 in
set_option maxHeartbeats 40000000 in
theorem rmg101n (l : Launch) (Z : State) (a0 : Array Value) (hw : ∀ d ∈ tables_1, d.before a0 Z = true) (ws : List Jvm.Cond) (a1 : Addr) (a2 : Addr) (nm : Addr) (vl : Addr) (kn : ClassId) (kv : ClassId) (s0 : Addr) (s1 : Addr) (s2 : Addr) (v0 : Addr) (v1 : Addr) (v2 : Addr) (t0 : Addr) (k0 : ClassId) (x0 : Int32) (y0 : Int32) (tq : Addr) (kq : ClassId) (wz : Int32) (h0 : Heap) (n0 : Nat) (Z0 : n0 ≤ h0.size) (F_names_a1 : Fld Z h0 a1 "com/example/kawi/kawi/xml/Attributes" "names" "[Ljava/lang/String;" (.ref nm)) (F_values_a1 : Fld Z h0 a1 "com/example/kawi/kawi/xml/Attributes" "values" "[Ljava/lang/String;" (.ref vl)) (F_size_a1 : Fld Z h0 a1 "com/example/kawi/kawi/xml/Attributes" "size" "I" (.int (1 : Int32))) (V_nm : Arv Z h0 nm kn (.object "java/lang/String") (3 : Int32) [(.ref s0), (.ref s1), (.ref s2)] .null) (V_vl : Arv Z h0 vl kv (.object "java/lang/String") (3 : Int32) [(.ref v0), (.ref v1), (.ref v2)] .null) (E_s0 : Exa Z h0 s0 "java/lang/String") (F_value_s0 : Fld Z h0 s0 "java/lang/String" "value" "[B" (.ref t0)) (F_coder_s0 : Fld Z h0 s0 "java/lang/String" "coder" "B" (.int (0 : Int32))) (V_t0 : Arv Z h0 t0 k0 .byte (1 : Int32) [(.int x0)] (.int (0 : Int32))) (ne_s0_a2 : s0 ≠ a2) (E_a2 : Exa Z h0 a2 "java/lang/String") (F_value_a2 : Fld Z h0 a2 "java/lang/String" "value" "[B" (.ref tq)) (F_coder_a2 : Fld Z h0 a2 "java/lang/String" "coder" "B" (.int (0 : Int32))) (V_tq : Arv Z h0 tq kq .byte (1 : Int32) [(.int y0)] (.int (0 : Int32))) (Old0 : Old Z n0 h0) (S_COMPACT_STRINGS : Sta Z Z.heap "java/lang/String" "COMPACT_STRINGS" "Z" (.int wz)) (hz : ¬ (wz = (0 : Int32))) (he0 : x0 = y0) :
    MetFree l (⟨"com/example/kawi/kawi/xml/Attributes", "getOrDefault", "(Ljava/lang/String;Ljava/lang/String;)Ljava/lang/String;"⟩ : MethodName) (head1 (Jvm.Cond.code (⟨"com/example/kawi/kawi/xml/Attributes", "getOrDefault", "(Ljava/lang/String;Ljava/lang/String;)Ljava/lang/String;"⟩ : MethodName) prog_112_method_5_code 4 (some (.object "java/lang/String")) :: ws) ({ frames := 2, cells := 0, slots := 0, locals := 28 } : Room)) (fun a U => a = #[(.ref a1), (.ref a2), .null] ∧ Z.Warmed39 U.vm ∧ U.heap = h0) (fun _ _ _ _ _ => True) (fun _ U o U' => ∃ v L, o = .returned v ∧ Q_rmg101n Z a1 a2 nm vl kn kv s0 s1 s2 v0 v1 v2 t0 k0 x0 y0 tq kq wz h0 n0 v U'.heap L ∧ FrameEnd U o U' L ({ frames := 2, cells := 0, slots := 0, locals := 28 } : Room).cells ({ frames := 2, cells := 0, slots := 0, locals := 28 } : Room).slots) := by
  refine MetFree.of_bodySF (plainFor_of_name pn_com_example_kawi_kawi_xml_Attributes) hisR ?_
  intro p e s m args below meth c s₁ Bd hml0 hP hK
  obtain ⟨rfl, hZ, hh⟩ := hP
  have hx := Bd.exec
  have hby := Bd.bytes
  have hml : c.maxLocals = 4 := hml0
  have hown : s.vm.findClass "com/example/kawi/kawi/xml/Attributes" = some m.cls := findClass_of_methodNamed Bd.named
  have hnm := (name_of_methodNamed Bd.named Bd.method).1
  have X0 : Stand p l e ({ frames := 2, cells := 0, slots := 0, locals := 28 } : Room) s m #[(.ref a1), (.ref a2), .null] below meth c s₁ [] 0 0 := Stand.of_body Bd
  have e0 : s₁.heap = h0 := by rw [← hh, Bd.state]; rfl
  have N0 := Fr.nil n0
  have pre0 : ∀ t, Steps p.tables e below (s₁.setTop (mkF m 0 #[.val (.ref a1), .val (.ref a2), .val .null, .unset] [])) t → Steps p.tables e below (s₁.setTop (entryFrame m #[(.ref a1), (.ref a2), .null] 4)) t := fun t k => castTop (efn_14 m a1 a2) k
  obtain ⟨T419, X419, e419, st419⟩ := getF X0 hx hZ hown (host := "") (Or.inl (wd_56 hw)) Via.refl e0 F_size_a1 (g := (mkF m 4 #[.val (.ref a1), .val (.ref a2), .val .null, .val (.int (0 : Int32))] [(.ref a1), (.int (0 : Int32))])) rfl rfl (hb hby d14_4)
  obtain ⟨T420, X420, e420, st420⟩ := getF X419 hx hZ hown (host := "") (Or.inl (wd_52 hw)) Via.refl e419 F_names_a1 (g := (mkF m 11 #[.val (.ref a1), .val (.ref a2), .val .null, .val (.int (0 : Int32))] [(.ref a1)])) rfl rfl (hb hby d14_11)
  obtain ⟨cl421, Ar421, q421, S421, N421n, H421, G421⟩ := id (V_nm)
  have hin421 : ¬ ((0 : Int32) < 0 ∨ cl421.slots.size ≤ ((0 : Int32)).toNatClampNeg) := inb_of S421 ⟨by decide, by decide⟩
  have hat421 : cl421.slots[((0 : Int32)).toNatClampNeg]? = some (.ref s0) := H421.at hin421 rfl
  obtain ⟨cq422, kq422, q422a, q422b, q422c⟩ := isOf hZ e420 (E_s0)
  obtain ⟨_, _, ⟨T422, L422, k422, n422⟩, -, X422, ⟨Lc422, hQ422, l422, y422, z422⟩, st422⟩ := X420.virtualBack hx (y := (⟨"java/lang/String", "equals", "(Ljava/lang/Object;)Z"⟩ : MethodName)) (z := (⟨"java/lang/String", "equals", "(Ljava/lang/Object;)Z"⟩ : MethodName)) hown (mvT hZ (wd_71 hw)) (mvT hZ (wd_59 hw)) (notFace_of_selects (args := #[]) (mvT hZ (wd_61 hw))) (mvT hZ (wd_61 hw)) (mvT hZ (wd_60 hw)) (by decide) (backOf (W := 0) (rmeq11eq l Z a0 hw [] s0 a2 t0 tq wz k0 kq x0 y0 h0 n0 Z0 E_s0 E_a2 F_value_s0 F_value_a2 F_coder_s0 F_coder_a2 V_t0 V_tq Old0 S_COMPACT_STRINGS hz ne_s0_a2 he0) hZ (wd_62 hw) (wd_2 hw) (by decide) (by decide)) q422a q422c (g := (mkF m 17 #[.val (.ref a1), .val (.ref a2), .val .null, .val (.int (0 : Int32))] [(.ref a2), (.ref s0)])) rfl (by rw [hml]; rfl) (Steps.refl _) (argsL := [(.ref a2)]) (rest := []) (lenOf pd__Ljava_lang_Object__Z rfl) rfl (by show 2 * 0 + _ ≤ _; exact Nat.le_of_eq rfl) (hb hby d14_17) (fun _ _ => ⟨rfl, e420, (by decide : 0 + 0 ≤ _), (by decide : 0 + 0 ≤ _)⟩)
  dsimp only [Pt.U, Pt.locs, Pt.cells, Pt.slots] at X422 l422 y422 z422 st422 hQ422
  rw [l422, y422, z422] at X422
  obtain ⟨rfl, N422q, e422⟩ := hQ422
  have N422 := Fr.app N0 N422q
  obtain ⟨T423, X423, e423, st423⟩ := getF X422 hx hZ hown (host := "") (Or.inl (wd_54 hw)) Via.refl e422 F_values_a1 (g := (mkF m 24 #[.val (.ref a1), .val (.ref a2), .val .null, .val (.int (0 : Int32))] [(.ref a1)])) rfl rfl (hb hby d14_24)
  obtain ⟨cl424, Ar424, q424, S424, N424n, H424, G424⟩ := id (V_vl)
  have hin424 : ¬ ((0 : Int32) < 0 ∨ cl424.slots.size ≤ ((0 : Int32)).toNatClampNeg) := inb_of S424 ⟨by decide, by decide⟩
  have hat424 : cl424.slots[((0 : Int32)).toNatClampNeg]? = some (.ref v0) := H424.at hin424 rfl
  obtain ⟨fs, hr, hrun, hended, hW, hsame⟩ := X423.leave (v := some (.ref v0)) (fun h => by rw [Bd.returns] at h; cases h)
  refine ⟨_, _, pre0 _ ?_, hrun, hended, _, _, rfl, ?_, ⟨_, rfl⟩, hW, hsame.mono (by decide) (by decide)⟩
  · show Steps p.tables e below (s₁.setTop (mkF m 0 #[.val (.ref a1), .val (.ref a2), .val .null, .unset] [])) _
    refine XS.iconst X0.here hx rfl (hb hby d14_0) ?_
    refine XS.istoreN X0.here hx rfl (hb hby d14_1) rfl (l' := #[.val (.ref a1), .val (.ref a2), .val .null, .val (.int (0 : Int32))]) rfl ?_
    refine XS.iloadN X0.here hx rfl (hb hby d14_2) rfl ?_
    refine XS.aloadN X0.here hx rfl (hb hby d14_3) rfl rfl ?_
    refine st419 _ ?_
    refine XS.icmpNo X419.here hx rfl (hb hby d14_7) rfl (tlt (by decide)).2.1 ?_
    refine XS.aloadN X419.here hx rfl (hb hby d14_10) rfl rfl ?_
    refine st420 _ ?_
    refine XS.iloadN X420.here hx rfl (hb hby d14_14) rfl ?_
    refine X420.aaload hx (j := (0 : Int32)) (v := (.ref s0)) (by rw [e420]; exact Ar421.1) (State.isArrayOf_alike hZ.alike Ar421.2.1) rfl Ar421.2.2 hin421 hat421 (g := (mkF m 15 #[.val (.ref a1), .val (.ref a2), .val .null, .val (.int (0 : Int32))] [(.int (0 : Int32)), (.ref nm)])) rfl rfl (hb hby d14_15) _ ?_
    show Steps p.tables e below (T420.setTop (mkF m 16 #[.val (.ref a1), .val (.ref a2), .val .null, .val (.int (0 : Int32))] [(.ref s0)])) _
    refine XS.aloadN X420.here hx rfl (hb hby d14_16) rfl rfl ?_
    refine st422.trans ?_
    refine XS.ifNo X422.here hx rfl (hb hby d14_20) rfl ((if0 _ _).trans (feq (by decide)).1) ?_
    refine XS.aloadN X422.here hx rfl (hb hby d14_23) rfl rfl ?_
    refine st423 _ ?_
    refine XS.iloadN X423.here hx rfl (hb hby d14_27) rfl ?_
    refine X423.aaload hx (j := (0 : Int32)) (v := (.ref v0)) (by rw [e423]; exact Ar424.1) (State.isArrayOf_alike hZ.alike Ar424.2.1) rfl Ar424.2.2 hin424 hat424 (g := (mkF m 28 #[.val (.ref a1), .val (.ref a2), .val .null, .val (.int (0 : Int32))] [(.int (0 : Int32)), (.ref vl)])) rfl rfl (hb hby d14_28) _ ?_
    exact X423.areturnOut hx rfl Bd.returns rfl (hb hby d14_29) hr
  · show Q_rmg101n Z a1 a2 nm vl kn kv s0 s1 s2 v0 v1 v2 t0 k0 x0 y0 tq kq wz h0 n0 _ T423.heap _
    rw [e423]
    exact ⟨rfl, N422, rfl⟩
def Q_rmg1x1n (Z : State) (a1 : Addr) (a2 : Addr) (nm : Addr) (vl : Addr) (kn : ClassId) (kv : ClassId) (s0 : Addr) (s1 : Addr) (s2 : Addr) (v0 : Addr) (v1 : Addr) (v2 : Addr) (t0 : Addr) (k0 : ClassId) (x0 : Int32) (y0 : Int32) (tq : Addr) (kq : ClassId) (wz : Int32) (h0 : Heap) (n0 : Nat) (v : Option Value) (h : Heap) (L : List Loc) : Prop := v = some .null ∧ Fr n0 L ∧ h = h0
set_option maxRecDepth 65536 in
set_option maxHeartbeats 40000000 in
theorem rmg1x1n (l : Launch) (Z : State) (a0 : Array Value) (hw : ∀ d ∈ tables_1, d.before a0 Z = true) (ws : List Jvm.Cond) (a1 : Addr) (a2 : Addr) (nm : Addr) (vl : Addr) (kn : ClassId) (kv : ClassId) (s0 : Addr) (s1 : Addr) (s2 : Addr) (v0 : Addr) (v1 : Addr) (v2 : Addr) (t0 : Addr) (k0 : ClassId) (x0 : Int32) (y0 : Int32) (tq : Addr) (kq : ClassId) (wz : Int32) (h0 : Heap) (n0 : Nat) (Z0 : n0 ≤ h0.size) (F_names_a1 : Fld Z h0 a1 "com/example/kawi/kawi/xml/Attributes" "names" "[Ljava/lang/String;" (.ref nm)) (F_values_a1 : Fld Z h0 a1 "com/example/kawi/kawi/xml/Attributes" "values" "[Ljava/lang/String;" (.ref vl)) (F_size_a1 : Fld Z h0 a1 "com/example/kawi/kawi/xml/Attributes" "size" "I" (.int (1 : Int32))) (V_nm : Arv Z h0 nm kn (.object "java/lang/String") (3 : Int32) [(.ref s0), (.ref s1), (.ref s2)] .null) (V_vl : Arv Z h0 vl kv (.object "java/lang/String") (3 : Int32) [(.ref v0), (.ref v1), (.ref v2)] .null) (E_s0 : Exa Z h0 s0 "java/lang/String") (F_value_s0 : Fld Z h0 s0 "java/lang/String" "value" "[B" (.ref t0)) (F_coder_s0 : Fld Z h0 s0 "java/lang/String" "coder" "B" (.int (0 : Int32))) (V_t0 : Arv Z h0 t0 k0 .byte (1 : Int32) [(.int x0)] (.int (0 : Int32))) (ne_s0_a2 : s0 ≠ a2) (E_a2 : Exa Z h0 a2 "java/lang/String") (F_value_a2 : Fld Z h0 a2 "java/lang/String" "value" "[B" (.ref tq)) (F_coder_a2 : Fld Z h0 a2 "java/lang/String" "coder" "B" (.int (0 : Int32))) (V_tq : Arv Z h0 tq kq .byte (1 : Int32) [(.int y0)] (.int (0 : Int32))) (Old0 : Old Z n0 h0) (S_COMPACT_STRINGS : Sta Z Z.heap "java/lang/String" "COMPACT_STRINGS" "Z" (.int wz)) (hz : ¬ (wz = (0 : Int32))) (he0 : ¬ (x0 = y0)) :
    MetFree l (⟨"com/example/kawi/kawi/xml/Attributes", "getOrDefault", "(Ljava/lang/String;Ljava/lang/String;)Ljava/lang/String;"⟩ : MethodName) (head1 (Jvm.Cond.code (⟨"com/example/kawi/kawi/xml/Attributes", "getOrDefault", "(Ljava/lang/String;Ljava/lang/String;)Ljava/lang/String;"⟩ : MethodName) prog_112_method_5_code 4 (some (.object "java/lang/String")) :: ws) ({ frames := 2, cells := 0, slots := 0, locals := 28 } : Room)) (fun a U => a = #[(.ref a1), (.ref a2), .null] ∧ Z.Warmed39 U.vm ∧ U.heap = h0) (fun _ _ _ _ _ => True) (fun _ U o U' => ∃ v L, o = .returned v ∧ Q_rmg1x1n Z a1 a2 nm vl kn kv s0 s1 s2 v0 v1 v2 t0 k0 x0 y0 tq kq wz h0 n0 v U'.heap L ∧ FrameEnd U o U' L ({ frames := 2, cells := 0, slots := 0, locals := 28 } : Room).cells ({ frames := 2, cells := 0, slots := 0, locals := 28 } : Room).slots) := by
  refine MetFree.of_bodySF (plainFor_of_name pn_com_example_kawi_kawi_xml_Attributes) hisR ?_
  intro p e s m args below meth c s₁ Bd hml0 hP hK
  obtain ⟨rfl, hZ, hh⟩ := hP
  have hx := Bd.exec
  have hby := Bd.bytes
  have hml : c.maxLocals = 4 := hml0
  have hown : s.vm.findClass "com/example/kawi/kawi/xml/Attributes" = some m.cls := findClass_of_methodNamed Bd.named
  have hnm := (name_of_methodNamed Bd.named Bd.method).1
  have X0 : Stand p l e ({ frames := 2, cells := 0, slots := 0, locals := 28 } : Room) s m #[(.ref a1), (.ref a2), .null] below meth c s₁ [] 0 0 := Stand.of_body Bd
  have e0 : s₁.heap = h0 := by rw [← hh, Bd.state]; rfl
  have N0 := Fr.nil n0
  have pre0 : ∀ t, Steps p.tables e below (s₁.setTop (mkF m 0 #[.val (.ref a1), .val (.ref a2), .val .null, .unset] [])) t → Steps p.tables e below (s₁.setTop (entryFrame m #[(.ref a1), (.ref a2), .null] 4)) t := fun t k => castTop (efn_14 m a1 a2) k
  obtain ⟨T427, X427, e427, st427⟩ := getF X0 hx hZ hown (host := "") (Or.inl (wd_56 hw)) Via.refl e0 F_size_a1 (g := (mkF m 4 #[.val (.ref a1), .val (.ref a2), .val .null, .val (.int (0 : Int32))] [(.ref a1), (.int (0 : Int32))])) rfl rfl (hb hby d14_4)
  obtain ⟨T428, X428, e428, st428⟩ := getF X427 hx hZ hown (host := "") (Or.inl (wd_52 hw)) Via.refl e427 F_names_a1 (g := (mkF m 11 #[.val (.ref a1), .val (.ref a2), .val .null, .val (.int (0 : Int32))] [(.ref a1)])) rfl rfl (hb hby d14_11)
  obtain ⟨cl429, Ar429, q429, S429, N429n, H429, G429⟩ := id (V_nm)
  have hin429 : ¬ ((0 : Int32) < 0 ∨ cl429.slots.size ≤ ((0 : Int32)).toNatClampNeg) := inb_of S429 ⟨by decide, by decide⟩
  have hat429 : cl429.slots[((0 : Int32)).toNatClampNeg]? = some (.ref s0) := H429.at hin429 rfl
  obtain ⟨cq430, kq430, q430a, q430b, q430c⟩ := isOf hZ e428 (E_s0)
  obtain ⟨_, _, ⟨T430, L430, k430, n430⟩, -, X430, ⟨Lc430, hQ430, l430, y430, z430⟩, st430⟩ := X428.virtualBack hx (y := (⟨"java/lang/String", "equals", "(Ljava/lang/Object;)Z"⟩ : MethodName)) (z := (⟨"java/lang/String", "equals", "(Ljava/lang/Object;)Z"⟩ : MethodName)) hown (mvT hZ (wd_71 hw)) (mvT hZ (wd_59 hw)) (notFace_of_selects (args := #[]) (mvT hZ (wd_61 hw))) (mvT hZ (wd_61 hw)) (mvT hZ (wd_60 hw)) (by decide) (backOf (W := 0) (rmeq110 l Z a0 hw [] s0 a2 t0 tq wz k0 kq x0 y0 h0 n0 Z0 E_s0 E_a2 F_value_s0 F_value_a2 F_coder_s0 F_coder_a2 V_t0 V_tq Old0 S_COMPACT_STRINGS hz ne_s0_a2 he0) hZ (wd_62 hw) (wd_2 hw) (by decide) (by decide)) q430a q430c (g := (mkF m 17 #[.val (.ref a1), .val (.ref a2), .val .null, .val (.int (0 : Int32))] [(.ref a2), (.ref s0)])) rfl (by rw [hml]; rfl) (Steps.refl _) (argsL := [(.ref a2)]) (rest := []) (lenOf pd__Ljava_lang_Object__Z rfl) rfl (by show 2 * 0 + _ ≤ _; exact Nat.le_of_eq rfl) (hb hby d14_17) (fun _ _ => ⟨rfl, e428, (by decide : 0 + 0 ≤ _), (by decide : 0 + 0 ≤ _)⟩)
  dsimp only [Pt.U, Pt.locs, Pt.cells, Pt.slots] at X430 l430 y430 z430 st430 hQ430
  rw [l430, y430, z430] at X430
  obtain ⟨rfl, N430q, e430⟩ := hQ430
  have N430 := Fr.app N0 N430q
  obtain ⟨T431, X431, e431, st431⟩ := getF X430 hx hZ hown (host := "") (Or.inl (wd_56 hw)) Via.refl e430 F_size_a1 (g := (mkF m 4 #[.val (.ref a1), .val (.ref a2), .val .null, .val (.int (1 : Int32))] [(.ref a1), (.int (1 : Int32))])) rfl rfl (hb hby d14_4)
  obtain ⟨fs, hr, hrun, hended, hW, hsame⟩ := X431.leave (v := some .null) (fun h => by rw [Bd.returns] at h; cases h)
  refine ⟨_, _, pre0 _ ?_, hrun, hended, _, _, rfl, ?_, ⟨_, rfl⟩, hW, hsame.mono (by decide) (by decide)⟩
  · show Steps p.tables e below (s₁.setTop (mkF m 0 #[.val (.ref a1), .val (.ref a2), .val .null, .unset] [])) _
    refine XS.iconst X0.here hx rfl (hb hby d14_0) ?_
    refine XS.istoreN X0.here hx rfl (hb hby d14_1) rfl (l' := #[.val (.ref a1), .val (.ref a2), .val .null, .val (.int (0 : Int32))]) rfl ?_
    refine XS.iloadN X0.here hx rfl (hb hby d14_2) rfl ?_
    refine XS.aloadN X0.here hx rfl (hb hby d14_3) rfl rfl ?_
    refine st427 _ ?_
    refine XS.icmpNo X427.here hx rfl (hb hby d14_7) rfl (tlt (by decide)).2.1 ?_
    refine XS.aloadN X427.here hx rfl (hb hby d14_10) rfl rfl ?_
    refine st428 _ ?_
    refine XS.iloadN X428.here hx rfl (hb hby d14_14) rfl ?_
    refine X428.aaload hx (j := (0 : Int32)) (v := (.ref s0)) (by rw [e428]; exact Ar429.1) (State.isArrayOf_alike hZ.alike Ar429.2.1) rfl Ar429.2.2 hin429 hat429 (g := (mkF m 15 #[.val (.ref a1), .val (.ref a2), .val .null, .val (.int (0 : Int32))] [(.int (0 : Int32)), (.ref nm)])) rfl rfl (hb hby d14_15) _ ?_
    show Steps p.tables e below (T428.setTop (mkF m 16 #[.val (.ref a1), .val (.ref a2), .val .null, .val (.int (0 : Int32))] [(.ref s0)])) _
    refine XS.aloadN X428.here hx rfl (hb hby d14_16) rfl rfl ?_
    refine st430.trans ?_
    refine XS.ifYes X430.here hx rfl (pc0 := 20) (pc' := 30) rfl (hb hby d14_20) rfl ((if0 _ _).trans (teq (rfl : (0 : Int32) = (0 : Int32))).1) (by decide) (by decide) ?_
    refine XS.iinc X430.here hx rfl (hb hby d14_30) rfl (l' := #[.val (.ref a1), .val (.ref a2), .val .null, .val (.int (1 : Int32))]) rfl ?_
    refine XS.goto X430.here hx rfl (pc0 := 33) (pc' := 2) rfl (hb hby d14_33) (by decide) (by decide) ?_
    refine XS.iloadN X430.here hx rfl (hb hby d14_2) rfl ?_
    refine XS.aloadN X430.here hx rfl (hb hby d14_3) rfl rfl ?_
    refine st431 _ ?_
    refine XS.icmpYes X431.here hx rfl (pc0 := 7) (pc' := 36) rfl (hb hby d14_7) rfl (flt (by decide)).2.1 (by decide) (by decide) ?_
    refine XS.aloadN X431.here hx rfl (hb hby d14_36) rfl rfl ?_
    show Steps p.tables e below (T431.setTop (mkF m 37 #[.val (.ref a1), .val (.ref a2), .val .null, .val (.int (1 : Int32))] [.null])) _
    exact X431.areturnOut hx rfl Bd.returns rfl (hb hby d14_37) hr
  · show Q_rmg1x1n Z a1 a2 nm vl kn kv s0 s1 s2 v0 v1 v2 t0 k0 x0 y0 tq kq wz h0 n0 _ T431.heap _
    rw [e431]
    exact ⟨rfl, N430, rfl⟩
def Q_rmg201n (Z : State) (a1 : Addr) (a2 : Addr) (nm : Addr) (vl : Addr) (kn : ClassId) (kv : ClassId) (s0 : Addr) (s1 : Addr) (s2 : Addr) (v0 : Addr) (v1 : Addr) (v2 : Addr) (t0 : Addr) (k0 : ClassId) (x0 : Int32) (y0 : Int32) (tq : Addr) (kq : ClassId) (wz : Int32) (h0 : Heap) (n0 : Nat) (v : Option Value) (h : Heap) (L : List Loc) : Prop := v = some (.ref v0) ∧ Fr n0 L ∧ h = h0
set_option maxRecDepth 65536 in
set_option maxHeartbeats 40000000 in
theorem rmg201n (l : Launch) (Z : State) (a0 : Array Value) (hw : ∀ d ∈ tables_1, d.before a0 Z = true) (ws : List Jvm.Cond) (a1 : Addr) (a2 : Addr) (nm : Addr) (vl : Addr) (kn : ClassId) (kv : ClassId) (s0 : Addr) (s1 : Addr) (s2 : Addr) (v0 : Addr) (v1 : Addr) (v2 : Addr) (t0 : Addr) (k0 : ClassId) (x0 : Int32) (y0 : Int32) (tq : Addr) (kq : ClassId) (wz : Int32) (h0 : Heap) (n0 : Nat) (Z0 : n0 ≤ h0.size) (F_names_a1 : Fld Z h0 a1 "com/example/kawi/kawi/xml/Attributes" "names" "[Ljava/lang/String;" (.ref nm)) (F_values_a1 : Fld Z h0 a1 "com/example/kawi/kawi/xml/Attributes" "values" "[Ljava/lang/String;" (.ref vl)) (F_size_a1 : Fld Z h0 a1 "com/example/kawi/kawi/xml/Attributes" "size" "I" (.int (2 : Int32))) (V_nm : Arv Z h0 nm kn (.object "java/lang/String") (3 : Int32) [(.ref s0), (.ref s1), (.ref s2)] .null) (V_vl : Arv Z h0 vl kv (.object "java/lang/String") (3 : Int32) [(.ref v0), (.ref v1), (.ref v2)] .null) (E_s0 : Exa Z h0 s0 "java/lang/String") (F_value_s0 : Fld Z h0 s0 "java/lang/String" "value" "[B" (.ref t0)) (F_coder_s0 : Fld Z h0 s0 "java/lang/String" "coder" "B" (.int (0 : Int32))) (V_t0 : Arv Z h0 t0 k0 .byte (1 : Int32) [(.int x0)] (.int (0 : Int32))) (ne_s0_a2 : s0 ≠ a2) (E_a2 : Exa Z h0 a2 "java/lang/String") (F_value_a2 : Fld Z h0 a2 "java/lang/String" "value" "[B" (.ref tq)) (F_coder_a2 : Fld Z h0 a2 "java/lang/String" "coder" "B" (.int (0 : Int32))) (V_tq : Arv Z h0 tq kq .byte (1 : Int32) [(.int y0)] (.int (0 : Int32))) (Old0 : Old Z n0 h0) (S_COMPACT_STRINGS : Sta Z Z.heap "java/lang/String" "COMPACT_STRINGS" "Z" (.int wz)) (hz : ¬ (wz = (0 : Int32))) (he0 : x0 = y0) :
    MetFree l (⟨"com/example/kawi/kawi/xml/Attributes", "getOrDefault", "(Ljava/lang/String;Ljava/lang/String;)Ljava/lang/String;"⟩ : MethodName) (head1 (Jvm.Cond.code (⟨"com/example/kawi/kawi/xml/Attributes", "getOrDefault", "(Ljava/lang/String;Ljava/lang/String;)Ljava/lang/String;"⟩ : MethodName) prog_112_method_5_code 4 (some (.object "java/lang/String")) :: ws) ({ frames := 2, cells := 0, slots := 0, locals := 28 } : Room)) (fun a U => a = #[(.ref a1), (.ref a2), .null] ∧ Z.Warmed39 U.vm ∧ U.heap = h0) (fun _ _ _ _ _ => True) (fun _ U o U' => ∃ v L, o = .returned v ∧ Q_rmg201n Z a1 a2 nm vl kn kv s0 s1 s2 v0 v1 v2 t0 k0 x0 y0 tq kq wz h0 n0 v U'.heap L ∧ FrameEnd U o U' L ({ frames := 2, cells := 0, slots := 0, locals := 28 } : Room).cells ({ frames := 2, cells := 0, slots := 0, locals := 28 } : Room).slots) := by
  refine MetFree.of_bodySF (plainFor_of_name pn_com_example_kawi_kawi_xml_Attributes) hisR ?_
  intro p e s m args below meth c s₁ Bd hml0 hP hK
  obtain ⟨rfl, hZ, hh⟩ := hP
  have hx := Bd.exec
  have hby := Bd.bytes
  have hml : c.maxLocals = 4 := hml0
  have hown : s.vm.findClass "com/example/kawi/kawi/xml/Attributes" = some m.cls := findClass_of_methodNamed Bd.named
  have hnm := (name_of_methodNamed Bd.named Bd.method).1
  have X0 : Stand p l e ({ frames := 2, cells := 0, slots := 0, locals := 28 } : Room) s m #[(.ref a1), (.ref a2), .null] below meth c s₁ [] 0 0 := Stand.of_body Bd
  have e0 : s₁.heap = h0 := by rw [← hh, Bd.state]; rfl
  have N0 := Fr.nil n0
  have pre0 : ∀ t, Steps p.tables e below (s₁.setTop (mkF m 0 #[.val (.ref a1), .val (.ref a2), .val .null, .unset] [])) t → Steps p.tables e below (s₁.setTop (entryFrame m #[(.ref a1), (.ref a2), .null] 4)) t := fun t k => castTop (efn_14 m a1 a2) k
  obtain ⟨T436, X436, e436, st436⟩ := getF X0 hx hZ hown (host := "") (Or.inl (wd_56 hw)) Via.refl e0 F_size_a1 (g := (mkF m 4 #[.val (.ref a1), .val (.ref a2), .val .null, .val (.int (0 : Int32))] [(.ref a1), (.int (0 : Int32))])) rfl rfl (hb hby d14_4)
  obtain ⟨T437, X437, e437, st437⟩ := getF X436 hx hZ hown (host := "") (Or.inl (wd_52 hw)) Via.refl e436 F_names_a1 (g := (mkF m 11 #[.val (.ref a1), .val (.ref a2), .val .null, .val (.int (0 : Int32))] [(.ref a1)])) rfl rfl (hb hby d14_11)
  obtain ⟨cl438, Ar438, q438, S438, N438n, H438, G438⟩ := id (V_nm)
  have hin438 : ¬ ((0 : Int32) < 0 ∨ cl438.slots.size ≤ ((0 : Int32)).toNatClampNeg) := inb_of S438 ⟨by decide, by decide⟩
  have hat438 : cl438.slots[((0 : Int32)).toNatClampNeg]? = some (.ref s0) := H438.at hin438 rfl
  obtain ⟨cq439, kq439, q439a, q439b, q439c⟩ := isOf hZ e437 (E_s0)
  obtain ⟨_, _, ⟨T439, L439, k439, n439⟩, -, X439, ⟨Lc439, hQ439, l439, y439, z439⟩, st439⟩ := X437.virtualBack hx (y := (⟨"java/lang/String", "equals", "(Ljava/lang/Object;)Z"⟩ : MethodName)) (z := (⟨"java/lang/String", "equals", "(Ljava/lang/Object;)Z"⟩ : MethodName)) hown (mvT hZ (wd_71 hw)) (mvT hZ (wd_59 hw)) (notFace_of_selects (args := #[]) (mvT hZ (wd_61 hw))) (mvT hZ (wd_61 hw)) (mvT hZ (wd_60 hw)) (by decide) (backOf (W := 0) (rmeq11eq l Z a0 hw [] s0 a2 t0 tq wz k0 kq x0 y0 h0 n0 Z0 E_s0 E_a2 F_value_s0 F_value_a2 F_coder_s0 F_coder_a2 V_t0 V_tq Old0 S_COMPACT_STRINGS hz ne_s0_a2 he0) hZ (wd_62 hw) (wd_2 hw) (by decide) (by decide)) q439a q439c (g := (mkF m 17 #[.val (.ref a1), .val (.ref a2), .val .null, .val (.int (0 : Int32))] [(.ref a2), (.ref s0)])) rfl (by rw [hml]; rfl) (Steps.refl _) (argsL := [(.ref a2)]) (rest := []) (lenOf pd__Ljava_lang_Object__Z rfl) rfl (by show 2 * 0 + _ ≤ _; exact Nat.le_of_eq rfl) (hb hby d14_17) (fun _ _ => ⟨rfl, e437, (by decide : 0 + 0 ≤ _), (by decide : 0 + 0 ≤ _)⟩)
  dsimp only [Pt.U, Pt.locs, Pt.cells, Pt.slots] at X439 l439 y439 z439 st439 hQ439
  rw [l439, y439, z439] at X439
  obtain ⟨rfl, N439q, e439⟩ := hQ439
  have N439 := Fr.app N0 N439q
  obtain ⟨T440, X440, e440, st440⟩ := getF X439 hx hZ hown (host := "") (Or.inl (wd_54 hw)) Via.refl e439 F_values_a1 (g := (mkF m 24 #[.val (.ref a1), .val (.ref a2), .val .null, .val (.int (0 : Int32))] [(.ref a1)])) rfl rfl (hb hby d14_24)
  obtain ⟨cl441, Ar441, q441, S441, N441n, H441, G441⟩ := id (V_vl)
  have hin441 : ¬ ((0 : Int32) < 0 ∨ cl441.slots.size ≤ ((0 : Int32)).toNatClampNeg) := inb_of S441 ⟨by decide, by decide⟩
  have hat441 : cl441.slots[((0 : Int32)).toNatClampNeg]? = some (.ref v0) := H441.at hin441 rfl
  obtain ⟨fs, hr, hrun, hended, hW, hsame⟩ := X440.leave (v := some (.ref v0)) (fun h => by rw [Bd.returns] at h; cases h)
  refine ⟨_, _, pre0 _ ?_, hrun, hended, _, _, rfl, ?_, ⟨_, rfl⟩, hW, hsame.mono (by decide) (by decide)⟩
  · show Steps p.tables e below (s₁.setTop (mkF m 0 #[.val (.ref a1), .val (.ref a2), .val .null, .unset] [])) _
    refine XS.iconst X0.here hx rfl (hb hby d14_0) ?_
    refine XS.istoreN X0.here hx rfl (hb hby d14_1) rfl (l' := #[.val (.ref a1), .val (.ref a2), .val .null, .val (.int (0 : Int32))]) rfl ?_
    refine XS.iloadN X0.here hx rfl (hb hby d14_2) rfl ?_
    refine XS.aloadN X0.here hx rfl (hb hby d14_3) rfl rfl ?_
    refine st436 _ ?_
    refine XS.icmpNo X436.here hx rfl (hb hby d14_7) rfl (tlt (by decide)).2.1 ?_
    refine XS.aloadN X436.here hx rfl (hb hby d14_10) rfl rfl ?_
    refine st437 _ ?_
    refine XS.iloadN X437.here hx rfl (hb hby d14_14) rfl ?_
    refine X437.aaload hx (j := (0 : Int32)) (v := (.ref s0)) (by rw [e437]; exact Ar438.1) (State.isArrayOf_alike hZ.alike Ar438.2.1) rfl Ar438.2.2 hin438 hat438 (g := (mkF m 15 #[.val (.ref a1), .val (.ref a2), .val .null, .val (.int (0 : Int32))] [(.int (0 : Int32)), (.ref nm)])) rfl rfl (hb hby d14_15) _ ?_
    show Steps p.tables e below (T437.setTop (mkF m 16 #[.val (.ref a1), .val (.ref a2), .val .null, .val (.int (0 : Int32))] [(.ref s0)])) _
    refine XS.aloadN X437.here hx rfl (hb hby d14_16) rfl rfl ?_
    refine st439.trans ?_
    refine XS.ifNo X439.here hx rfl (hb hby d14_20) rfl ((if0 _ _).trans (feq (by decide)).1) ?_
    refine XS.aloadN X439.here hx rfl (hb hby d14_23) rfl rfl ?_
    refine st440 _ ?_
    refine XS.iloadN X440.here hx rfl (hb hby d14_27) rfl ?_
    refine X440.aaload hx (j := (0 : Int32)) (v := (.ref v0)) (by rw [e440]; exact Ar441.1) (State.isArrayOf_alike hZ.alike Ar441.2.1) rfl Ar441.2.2 hin441 hat441 (g := (mkF m 28 #[.val (.ref a1), .val (.ref a2), .val .null, .val (.int (0 : Int32))] [(.int (0 : Int32)), (.ref vl)])) rfl rfl (hb hby d14_28) _ ?_
    exact X440.areturnOut hx rfl Bd.returns rfl (hb hby d14_29) hr
  · show Q_rmg201n Z a1 a2 nm vl kn kv s0 s1 s2 v0 v1 v2 t0 k0 x0 y0 tq kq wz h0 n0 _ T440.heap _
    rw [e440]
    exact ⟨rfl, N439, rfl⟩
def Q_rmg211n (Z : State) (a1 : Addr) (a2 : Addr) (nm : Addr) (vl : Addr) (kn : ClassId) (kv : ClassId) (s0 : Addr) (s1 : Addr) (s2 : Addr) (v0 : Addr) (v1 : Addr) (v2 : Addr) (t0 : Addr) (t1 : Addr) (k0 : ClassId) (k1 : ClassId) (x0 : Int32) (x1 : Int32) (y0 : Int32) (tq : Addr) (kq : ClassId) (wz : Int32) (h0 : Heap) (n0 : Nat) (v : Option Value) (h : Heap) (L : List Loc) : Prop := v = some (.ref v1) ∧ Fr n0 L ∧ h = h0
set_option maxRecDepth 65536 in
set_option maxHeartbeats 40000000 in
theorem rmg211n (l : Launch) (Z : State) (a0 : Array Value) (hw : ∀ d ∈ tables_1, d.before a0 Z = true) (ws : List Jvm.Cond) (a1 : Addr) (a2 : Addr) (nm : Addr) (vl : Addr) (kn : ClassId) (kv : ClassId) (s0 : Addr) (s1 : Addr) (s2 : Addr) (v0 : Addr) (v1 : Addr) (v2 : Addr) (t0 : Addr) (t1 : Addr) (k0 : ClassId) (k1 : ClassId) (x0 : Int32) (x1 : Int32) (y0 : Int32) (tq : Addr) (kq : ClassId) (wz : Int32) (h0 : Heap) (n0 : Nat) (Z0 : n0 ≤ h0.size) (F_names_a1 : Fld Z h0 a1 "com/example/kawi/kawi/xml/Attributes" "names" "[Ljava/lang/String;" (.ref nm)) (F_values_a1 : Fld Z h0 a1 "com/example/kawi/kawi/xml/Attributes" "values" "[Ljava/lang/String;" (.ref vl)) (F_size_a1 : Fld Z h0 a1 "com/example/kawi/kawi/xml/Attributes" "size" "I" (.int (2 : Int32))) (V_nm : Arv Z h0 nm kn (.object "java/lang/String") (3 : Int32) [(.ref s0), (.ref s1), (.ref s2)] .null) (V_vl : Arv Z h0 vl kv (.object "java/lang/String") (3 : Int32) [(.ref v0), (.ref v1), (.ref v2)] .null) (E_s0 : Exa Z h0 s0 "java/lang/String") (F_value_s0 : Fld Z h0 s0 "java/lang/String" "value" "[B" (.ref t0)) (F_coder_s0 : Fld Z h0 s0 "java/lang/String" "coder" "B" (.int (0 : Int32))) (V_t0 : Arv Z h0 t0 k0 .byte (1 : Int32) [(.int x0)] (.int (0 : Int32))) (ne_s0_a2 : s0 ≠ a2) (E_s1 : Exa Z h0 s1 "java/lang/String") (F_value_s1 : Fld Z h0 s1 "java/lang/String" "value" "[B" (.ref t1)) (F_coder_s1 : Fld Z h0 s1 "java/lang/String" "coder" "B" (.int (0 : Int32))) (V_t1 : Arv Z h0 t1 k1 .byte (1 : Int32) [(.int x1)] (.int (0 : Int32))) (ne_s1_a2 : s1 ≠ a2) (E_a2 : Exa Z h0 a2 "java/lang/String") (F_value_a2 : Fld Z h0 a2 "java/lang/String" "value" "[B" (.ref tq)) (F_coder_a2 : Fld Z h0 a2 "java/lang/String" "coder" "B" (.int (0 : Int32))) (V_tq : Arv Z h0 tq kq .byte (1 : Int32) [(.int y0)] (.int (0 : Int32))) (Old0 : Old Z n0 h0) (S_COMPACT_STRINGS : Sta Z Z.heap "java/lang/String" "COMPACT_STRINGS" "Z" (.int wz)) (hz : ¬ (wz = (0 : Int32))) (he0 : ¬ (x0 = y0)) (he1 : x1 = y0) :
    MetFree l (⟨"com/example/kawi/kawi/xml/Attributes", "getOrDefault", "(Ljava/lang/String;Ljava/lang/String;)Ljava/lang/String;"⟩ : MethodName) (head1 (Jvm.Cond.code (⟨"com/example/kawi/kawi/xml/Attributes", "getOrDefault", "(Ljava/lang/String;Ljava/lang/String;)Ljava/lang/String;"⟩ : MethodName) prog_112_method_5_code 4 (some (.object "java/lang/String")) :: ws) ({ frames := 2, cells := 0, slots := 0, locals := 28 } : Room)) (fun a U => a = #[(.ref a1), (.ref a2), .null] ∧ Z.Warmed39 U.vm ∧ U.heap = h0) (fun _ _ _ _ _ => True) (fun _ U o U' => ∃ v L, o = .returned v ∧ Q_rmg211n Z a1 a2 nm vl kn kv s0 s1 s2 v0 v1 v2 t0 t1 k0 k1 x0 x1 y0 tq kq wz h0 n0 v U'.heap L ∧ FrameEnd U o U' L ({ frames := 2, cells := 0, slots := 0, locals := 28 } : Room).cells ({ frames := 2, cells := 0, slots := 0, locals := 28 } : Room).slots) := by
  refine MetFree.of_bodySF (plainFor_of_name pn_com_example_kawi_kawi_xml_Attributes) hisR ?_
  intro p e s m args below meth c s₁ Bd hml0 hP hK
  obtain ⟨rfl, hZ, hh⟩ := hP
  have hx := Bd.exec
  have hby := Bd.bytes
  have hml : c.maxLocals = 4 := hml0
  have hown : s.vm.findClass "com/example/kawi/kawi/xml/Attributes" = some m.cls := findClass_of_methodNamed Bd.named
  have hnm := (name_of_methodNamed Bd.named Bd.method).1
  have X0 : Stand p l e ({ frames := 2, cells := 0, slots := 0, locals := 28 } : Room) s m #[(.ref a1), (.ref a2), .null] below meth c s₁ [] 0 0 := Stand.of_body Bd
  have e0 : s₁.heap = h0 := by rw [← hh, Bd.state]; rfl
  have N0 := Fr.nil n0
  have pre0 : ∀ t, Steps p.tables e below (s₁.setTop (mkF m 0 #[.val (.ref a1), .val (.ref a2), .val .null, .unset] [])) t → Steps p.tables e below (s₁.setTop (entryFrame m #[(.ref a1), (.ref a2), .null] 4)) t := fun t k => castTop (efn_14 m a1 a2) k
  obtain ⟨T447, X447, e447, st447⟩ := getF X0 hx hZ hown (host := "") (Or.inl (wd_56 hw)) Via.refl e0 F_size_a1 (g := (mkF m 4 #[.val (.ref a1), .val (.ref a2), .val .null, .val (.int (0 : Int32))] [(.ref a1), (.int (0 : Int32))])) rfl rfl (hb hby d14_4)
  obtain ⟨T448, X448, e448, st448⟩ := getF X447 hx hZ hown (host := "") (Or.inl (wd_52 hw)) Via.refl e447 F_names_a1 (g := (mkF m 11 #[.val (.ref a1), .val (.ref a2), .val .null, .val (.int (0 : Int32))] [(.ref a1)])) rfl rfl (hb hby d14_11)
  obtain ⟨cl449, Ar449, q449, S449, N449n, H449, G449⟩ := id (V_nm)
  have hin449 : ¬ ((0 : Int32) < 0 ∨ cl449.slots.size ≤ ((0 : Int32)).toNatClampNeg) := inb_of S449 ⟨by decide, by decide⟩
  have hat449 : cl449.slots[((0 : Int32)).toNatClampNeg]? = some (.ref s0) := H449.at hin449 rfl
  obtain ⟨cq450, kq450, q450a, q450b, q450c⟩ := isOf hZ e448 (E_s0)
  obtain ⟨_, _, ⟨T450, L450, k450, n450⟩, -, X450, ⟨Lc450, hQ450, l450, y450, z450⟩, st450⟩ := X448.virtualBack hx (y := (⟨"java/lang/String", "equals", "(Ljava/lang/Object;)Z"⟩ : MethodName)) (z := (⟨"java/lang/String", "equals", "(Ljava/lang/Object;)Z"⟩ : MethodName)) hown (mvT hZ (wd_71 hw)) (mvT hZ (wd_59 hw)) (notFace_of_selects (args := #[]) (mvT hZ (wd_61 hw))) (mvT hZ (wd_61 hw)) (mvT hZ (wd_60 hw)) (by decide) (backOf (W := 0) (rmeq110 l Z a0 hw [] s0 a2 t0 tq wz k0 kq x0 y0 h0 n0 Z0 E_s0 E_a2 F_value_s0 F_value_a2 F_coder_s0 F_coder_a2 V_t0 V_tq Old0 S_COMPACT_STRINGS hz ne_s0_a2 he0) hZ (wd_62 hw) (wd_2 hw) (by decide) (by decide)) q450a q450c (g := (mkF m 17 #[.val (.ref a1), .val (.ref a2), .val .null, .val (.int (0 : Int32))] [(.ref a2), (.ref s0)])) rfl (by rw [hml]; rfl) (Steps.refl _) (argsL := [(.ref a2)]) (rest := []) (lenOf pd__Ljava_lang_Object__Z rfl) rfl (by show 2 * 0 + _ ≤ _; exact Nat.le_of_eq rfl) (hb hby d14_17) (fun _ _ => ⟨rfl, e448, (by decide : 0 + 0 ≤ _), (by decide : 0 + 0 ≤ _)⟩)
  dsimp only [Pt.U, Pt.locs, Pt.cells, Pt.slots] at X450 l450 y450 z450 st450 hQ450
  rw [l450, y450, z450] at X450
  obtain ⟨rfl, N450q, e450⟩ := hQ450
  have N450 := Fr.app N0 N450q
  obtain ⟨T451, X451, e451, st451⟩ := getF X450 hx hZ hown (host := "") (Or.inl (wd_56 hw)) Via.refl e450 F_size_a1 (g := (mkF m 4 #[.val (.ref a1), .val (.ref a2), .val .null, .val (.int (1 : Int32))] [(.ref a1), (.int (1 : Int32))])) rfl rfl (hb hby d14_4)
  obtain ⟨T452, X452, e452, st452⟩ := getF X451 hx hZ hown (host := "") (Or.inl (wd_52 hw)) Via.refl e451 F_names_a1 (g := (mkF m 11 #[.val (.ref a1), .val (.ref a2), .val .null, .val (.int (1 : Int32))] [(.ref a1)])) rfl rfl (hb hby d14_11)
  obtain ⟨cl453, Ar453, q453, S453, N453n, H453, G453⟩ := id (V_nm)
  have hin453 : ¬ ((1 : Int32) < 0 ∨ cl453.slots.size ≤ ((1 : Int32)).toNatClampNeg) := inb_of S453 ⟨by decide, by decide⟩
  have hat453 : cl453.slots[((1 : Int32)).toNatClampNeg]? = some (.ref s1) := H453.at hin453 rfl
  obtain ⟨cq454, kq454, q454a, q454b, q454c⟩ := isOf hZ e452 (E_s1)
  obtain ⟨_, _, ⟨T454, L454, k454, n454⟩, -, X454, ⟨Lc454, hQ454, l454, y454, z454⟩, st454⟩ := X452.virtualBack hx (y := (⟨"java/lang/String", "equals", "(Ljava/lang/Object;)Z"⟩ : MethodName)) (z := (⟨"java/lang/String", "equals", "(Ljava/lang/Object;)Z"⟩ : MethodName)) hown (mvT hZ (wd_71 hw)) (mvT hZ (wd_59 hw)) (notFace_of_selects (args := #[]) (mvT hZ (wd_61 hw))) (mvT hZ (wd_61 hw)) (mvT hZ (wd_60 hw)) (by decide) (backOf (W := 0) (rmeq11eq l Z a0 hw [] s1 a2 t1 tq wz k1 kq x1 y0 h0 n0 Z0 E_s1 E_a2 F_value_s1 F_value_a2 F_coder_s1 F_coder_a2 V_t1 V_tq Old0 S_COMPACT_STRINGS hz ne_s1_a2 he1) hZ (wd_62 hw) (wd_2 hw) (by decide) (by decide)) q454a q454c (g := (mkF m 17 #[.val (.ref a1), .val (.ref a2), .val .null, .val (.int (1 : Int32))] [(.ref a2), (.ref s1)])) rfl (by rw [hml]; rfl) (Steps.refl _) (argsL := [(.ref a2)]) (rest := []) (lenOf pd__Ljava_lang_Object__Z rfl) rfl (by show 2 * 0 + _ ≤ _; exact Nat.le_of_eq rfl) (hb hby d14_17) (fun _ _ => ⟨rfl, e452, (by decide : 0 + 0 ≤ _), (by decide : 0 + 0 ≤ _)⟩)
  dsimp only [Pt.U, Pt.locs, Pt.cells, Pt.slots] at X454 l454 y454 z454 st454 hQ454
  rw [l454, y454, z454] at X454
  obtain ⟨rfl, N454q, e454⟩ := hQ454
  have N454 := Fr.app N450 N454q
  obtain ⟨T455, X455, e455, st455⟩ := getF X454 hx hZ hown (host := "") (Or.inl (wd_54 hw)) Via.refl e454 F_values_a1 (g := (mkF m 24 #[.val (.ref a1), .val (.ref a2), .val .null, .val (.int (1 : Int32))] [(.ref a1)])) rfl rfl (hb hby d14_24)
  obtain ⟨cl456, Ar456, q456, S456, N456n, H456, G456⟩ := id (V_vl)
  have hin456 : ¬ ((1 : Int32) < 0 ∨ cl456.slots.size ≤ ((1 : Int32)).toNatClampNeg) := inb_of S456 ⟨by decide, by decide⟩
  have hat456 : cl456.slots[((1 : Int32)).toNatClampNeg]? = some (.ref v1) := H456.at hin456 rfl
  obtain ⟨fs, hr, hrun, hended, hW, hsame⟩ := X455.leave (v := some (.ref v1)) (fun h => by rw [Bd.returns] at h; cases h)
  refine ⟨_, _, pre0 _ ?_, hrun, hended, _, _, rfl, ?_, ⟨_, rfl⟩, hW, hsame.mono (by decide) (by decide)⟩
  · show Steps p.tables e below (s₁.setTop (mkF m 0 #[.val (.ref a1), .val (.ref a2), .val .null, .unset] [])) _
    refine XS.iconst X0.here hx rfl (hb hby d14_0) ?_
    refine XS.istoreN X0.here hx rfl (hb hby d14_1) rfl (l' := #[.val (.ref a1), .val (.ref a2), .val .null, .val (.int (0 : Int32))]) rfl ?_
    refine XS.iloadN X0.here hx rfl (hb hby d14_2) rfl ?_
    refine XS.aloadN X0.here hx rfl (hb hby d14_3) rfl rfl ?_
    refine st447 _ ?_
    refine XS.icmpNo X447.here hx rfl (hb hby d14_7) rfl (tlt (by decide)).2.1 ?_
    refine XS.aloadN X447.here hx rfl (hb hby d14_10) rfl rfl ?_
    refine st448 _ ?_
    refine XS.iloadN X448.here hx rfl (hb hby d14_14) rfl ?_
    refine X448.aaload hx (j := (0 : Int32)) (v := (.ref s0)) (by rw [e448]; exact Ar449.1) (State.isArrayOf_alike hZ.alike Ar449.2.1) rfl Ar449.2.2 hin449 hat449 (g := (mkF m 15 #[.val (.ref a1), .val (.ref a2), .val .null, .val (.int (0 : Int32))] [(.int (0 : Int32)), (.ref nm)])) rfl rfl (hb hby d14_15) _ ?_
    show Steps p.tables e below (T448.setTop (mkF m 16 #[.val (.ref a1), .val (.ref a2), .val .null, .val (.int (0 : Int32))] [(.ref s0)])) _
    refine XS.aloadN X448.here hx rfl (hb hby d14_16) rfl rfl ?_
    refine st450.trans ?_
    refine XS.ifYes X450.here hx rfl (pc0 := 20) (pc' := 30) rfl (hb hby d14_20) rfl ((if0 _ _).trans (teq (rfl : (0 : Int32) = (0 : Int32))).1) (by decide) (by decide) ?_
    refine XS.iinc X450.here hx rfl (hb hby d14_30) rfl (l' := #[.val (.ref a1), .val (.ref a2), .val .null, .val (.int (1 : Int32))]) rfl ?_
    refine XS.goto X450.here hx rfl (pc0 := 33) (pc' := 2) rfl (hb hby d14_33) (by decide) (by decide) ?_
    refine XS.iloadN X450.here hx rfl (hb hby d14_2) rfl ?_
    refine XS.aloadN X450.here hx rfl (hb hby d14_3) rfl rfl ?_
    refine st451 _ ?_
    refine XS.icmpNo X451.here hx rfl (hb hby d14_7) rfl (tlt (by decide)).2.1 ?_
    refine XS.aloadN X451.here hx rfl (hb hby d14_10) rfl rfl ?_
    show Steps p.tables e below (T451.setTop (mkF m 11 #[.val (.ref a1), .val (.ref a2), .val .null, .val (.int (1 : Int32))] [(.ref a1)])) _
    refine st452 _ ?_
    refine XS.iloadN X452.here hx rfl (hb hby d14_14) rfl ?_
    refine X452.aaload hx (j := (1 : Int32)) (v := (.ref s1)) (by rw [e452]; exact Ar453.1) (State.isArrayOf_alike hZ.alike Ar453.2.1) rfl Ar453.2.2 hin453 hat453 (g := (mkF m 15 #[.val (.ref a1), .val (.ref a2), .val .null, .val (.int (1 : Int32))] [(.int (1 : Int32)), (.ref nm)])) rfl rfl (hb hby d14_15) _ ?_
    refine XS.aloadN X452.here hx rfl (hb hby d14_16) rfl rfl ?_
    refine st454.trans ?_
    refine XS.ifNo X454.here hx rfl (hb hby d14_20) rfl ((if0 _ _).trans (feq (by decide)).1) ?_
    refine XS.aloadN X454.here hx rfl (hb hby d14_23) rfl rfl ?_
    refine st455 _ ?_
    refine XS.iloadN X455.here hx rfl (hb hby d14_27) rfl ?_
    refine X455.aaload hx (j := (1 : Int32)) (v := (.ref v1)) (by rw [e455]; exact Ar456.1) (State.isArrayOf_alike hZ.alike Ar456.2.1) rfl Ar456.2.2 hin456 hat456 (g := (mkF m 28 #[.val (.ref a1), .val (.ref a2), .val .null, .val (.int (1 : Int32))] [(.int (1 : Int32)), (.ref vl)])) rfl rfl (hb hby d14_28) _ ?_
    show Steps p.tables e below (T455.setTop (mkF m 29 #[.val (.ref a1), .val (.ref a2), .val .null, .val (.int (1 : Int32))] [(.ref v1)])) _
    exact X455.areturnOut hx rfl Bd.returns rfl (hb hby d14_29) hr
  · show Q_rmg211n Z a1 a2 nm vl kn kv s0 s1 s2 v0 v1 v2 t0 t1 k0 k1 x0 x1 y0 tq kq wz h0 n0 _ T455.heap _
    rw [e455]
    exact ⟨rfl, N454, rfl⟩
def Q_rmg2x1n (Z : State) (a1 : Addr) (a2 : Addr) (nm : Addr) (vl : Addr) (kn : ClassId) (kv : ClassId) (s0 : Addr) (s1 : Addr) (s2 : Addr) (v0 : Addr) (v1 : Addr) (v2 : Addr) (t0 : Addr) (t1 : Addr) (k0 : ClassId) (k1 : ClassId) (x0 : Int32) (x1 : Int32) (y0 : Int32) (tq : Addr) (kq : ClassId) (wz : Int32) (h0 : Heap) (n0 : Nat) (v : Option Value) (h : Heap) (L : List Loc) : Prop := v = some .null ∧ Fr n0 L ∧ h = h0
set_option maxRecDepth 65536 in
set_option maxHeartbeats 40000000 in
theorem rmg2x1n (l : Launch) (Z : State) (a0 : Array Value) (hw : ∀ d ∈ tables_1, d.before a0 Z = true) (ws : List Jvm.Cond) (a1 : Addr) (a2 : Addr) (nm : Addr) (vl : Addr) (kn : ClassId) (kv : ClassId) (s0 : Addr) (s1 : Addr) (s2 : Addr) (v0 : Addr) (v1 : Addr) (v2 : Addr) (t0 : Addr) (t1 : Addr) (k0 : ClassId) (k1 : ClassId) (x0 : Int32) (x1 : Int32) (y0 : Int32) (tq : Addr) (kq : ClassId) (wz : Int32) (h0 : Heap) (n0 : Nat) (Z0 : n0 ≤ h0.size) (F_names_a1 : Fld Z h0 a1 "com/example/kawi/kawi/xml/Attributes" "names" "[Ljava/lang/String;" (.ref nm)) (F_values_a1 : Fld Z h0 a1 "com/example/kawi/kawi/xml/Attributes" "values" "[Ljava/lang/String;" (.ref vl)) (F_size_a1 : Fld Z h0 a1 "com/example/kawi/kawi/xml/Attributes" "size" "I" (.int (2 : Int32))) (V_nm : Arv Z h0 nm kn (.object "java/lang/String") (3 : Int32) [(.ref s0), (.ref s1), (.ref s2)] .null) (V_vl : Arv Z h0 vl kv (.object "java/lang/String") (3 : Int32) [(.ref v0), (.ref v1), (.ref v2)] .null) (E_s0 : Exa Z h0 s0 "java/lang/String") (F_value_s0 : Fld Z h0 s0 "java/lang/String" "value" "[B" (.ref t0)) (F_coder_s0 : Fld Z h0 s0 "java/lang/String" "coder" "B" (.int (0 : Int32))) (V_t0 : Arv Z h0 t0 k0 .byte (1 : Int32) [(.int x0)] (.int (0 : Int32))) (ne_s0_a2 : s0 ≠ a2) (E_s1 : Exa Z h0 s1 "java/lang/String") (F_value_s1 : Fld Z h0 s1 "java/lang/String" "value" "[B" (.ref t1)) (F_coder_s1 : Fld Z h0 s1 "java/lang/String" "coder" "B" (.int (0 : Int32))) (V_t1 : Arv Z h0 t1 k1 .byte (1 : Int32) [(.int x1)] (.int (0 : Int32))) (ne_s1_a2 : s1 ≠ a2) (E_a2 : Exa Z h0 a2 "java/lang/String") (F_value_a2 : Fld Z h0 a2 "java/lang/String" "value" "[B" (.ref tq)) (F_coder_a2 : Fld Z h0 a2 "java/lang/String" "coder" "B" (.int (0 : Int32))) (V_tq : Arv Z h0 tq kq .byte (1 : Int32) [(.int y0)] (.int (0 : Int32))) (Old0 : Old Z n0 h0) (S_COMPACT_STRINGS : Sta Z Z.heap "java/lang/String" "COMPACT_STRINGS" "Z" (.int wz)) (hz : ¬ (wz = (0 : Int32))) (he0 : ¬ (x0 = y0)) (he1 : ¬ (x1 = y0)) :
    MetFree l (⟨"com/example/kawi/kawi/xml/Attributes", "getOrDefault", "(Ljava/lang/String;Ljava/lang/String;)Ljava/lang/String;"⟩ : MethodName) (head1 (Jvm.Cond.code (⟨"com/example/kawi/kawi/xml/Attributes", "getOrDefault", "(Ljava/lang/String;Ljava/lang/String;)Ljava/lang/String;"⟩ : MethodName) prog_112_method_5_code 4 (some (.object "java/lang/String")) :: ws) ({ frames := 2, cells := 0, slots := 0, locals := 28 } : Room)) (fun a U => a = #[(.ref a1), (.ref a2), .null] ∧ Z.Warmed39 U.vm ∧ U.heap = h0) (fun _ _ _ _ _ => True) (fun _ U o U' => ∃ v L, o = .returned v ∧ Q_rmg2x1n Z a1 a2 nm vl kn kv s0 s1 s2 v0 v1 v2 t0 t1 k0 k1 x0 x1 y0 tq kq wz h0 n0 v U'.heap L ∧ FrameEnd U o U' L ({ frames := 2, cells := 0, slots := 0, locals := 28 } : Room).cells ({ frames := 2, cells := 0, slots := 0, locals := 28 } : Room).slots) := by
  refine MetFree.of_bodySF (plainFor_of_name pn_com_example_kawi_kawi_xml_Attributes) hisR ?_
  intro p e s m args below meth c s₁ Bd hml0 hP hK
  obtain ⟨rfl, hZ, hh⟩ := hP
  have hx := Bd.exec
  have hby := Bd.bytes
  have hml : c.maxLocals = 4 := hml0
  have hown : s.vm.findClass "com/example/kawi/kawi/xml/Attributes" = some m.cls := findClass_of_methodNamed Bd.named
  have hnm := (name_of_methodNamed Bd.named Bd.method).1
  have X0 : Stand p l e ({ frames := 2, cells := 0, slots := 0, locals := 28 } : Room) s m #[(.ref a1), (.ref a2), .null] below meth c s₁ [] 0 0 := Stand.of_body Bd
  have e0 : s₁.heap = h0 := by rw [← hh, Bd.state]; rfl
  have N0 := Fr.nil n0
  have pre0 : ∀ t, Steps p.tables e below (s₁.setTop (mkF m 0 #[.val (.ref a1), .val (.ref a2), .val .null, .unset] [])) t → Steps p.tables e below (s₁.setTop (entryFrame m #[(.ref a1), (.ref a2), .null] 4)) t := fun t k => castTop (efn_14 m a1 a2) k
  obtain ⟨T459, X459, e459, st459⟩ := getF X0 hx hZ hown (host := "") (Or.inl (wd_56 hw)) Via.refl e0 F_size_a1 (g := (mkF m 4 #[.val (.ref a1), .val (.ref a2), .val .null, .val (.int (0 : Int32))] [(.ref a1), (.int (0 : Int32))])) rfl rfl (hb hby d14_4)
  obtain ⟨T460, X460, e460, st460⟩ := getF X459 hx hZ hown (host := "") (Or.inl (wd_52 hw)) Via.refl e459 F_names_a1 (g := (mkF m 11 #[.val (.ref a1), .val (.ref a2), .val .null, .val (.int (0 : Int32))] [(.ref a1)])) rfl rfl (hb hby d14_11)
  obtain ⟨cl461, Ar461, q461, S461, N461n, H461, G461⟩ := id (V_nm)
  have hin461 : ¬ ((0 : Int32) < 0 ∨ cl461.slots.size ≤ ((0 : Int32)).toNatClampNeg) := inb_of S461 ⟨by decide, by decide⟩
  have hat461 : cl461.slots[((0 : Int32)).toNatClampNeg]? = some (.ref s0) := H461.at hin461 rfl
  obtain ⟨cq462, kq462, q462a, q462b, q462c⟩ := isOf hZ e460 (E_s0)
  obtain ⟨_, _, ⟨T462, L462, k462, n462⟩, -, X462, ⟨Lc462, hQ462, l462, y462, z462⟩, st462⟩ := X460.virtualBack hx (y := (⟨"java/lang/String", "equals", "(Ljava/lang/Object;)Z"⟩ : MethodName)) (z := (⟨"java/lang/String", "equals", "(Ljava/lang/Object;)Z"⟩ : MethodName)) hown (mvT hZ (wd_71 hw)) (mvT hZ (wd_59 hw)) (notFace_of_selects (args := #[]) (mvT hZ (wd_61 hw))) (mvT hZ (wd_61 hw)) (mvT hZ (wd_60 hw)) (by decide) (backOf (W := 0) (rmeq110 l Z a0 hw [] s0 a2 t0 tq wz k0 kq x0 y0 h0 n0 Z0 E_s0 E_a2 F_value_s0 F_value_a2 F_coder_s0 F_coder_a2 V_t0 V_tq Old0 S_COMPACT_STRINGS hz ne_s0_a2 he0) hZ (wd_62 hw) (wd_2 hw) (by decide) (by decide)) q462a q462c (g := (mkF m 17 #[.val (.ref a1), .val (.ref a2), .val .null, .val (.int (0 : Int32))] [(.ref a2), (.ref s0)])) rfl (by rw [hml]; rfl) (Steps.refl _) (argsL := [(.ref a2)]) (rest := []) (lenOf pd__Ljava_lang_Object__Z rfl) rfl (by show 2 * 0 + _ ≤ _; exact Nat.le_of_eq rfl) (hb hby d14_17) (fun _ _ => ⟨rfl, e460, (by decide : 0 + 0 ≤ _), (by decide : 0 + 0 ≤ _)⟩)
  dsimp only [Pt.U, Pt.locs, Pt.cells, Pt.slots] at X462 l462 y462 z462 st462 hQ462
  rw [l462, y462, z462] at X462
  obtain ⟨rfl, N462q, e462⟩ := hQ462
  have N462 := Fr.app N0 N462q
  obtain ⟨T463, X463, e463, st463⟩ := getF X462 hx hZ hown (host := "") (Or.inl (wd_56 hw)) Via.refl e462 F_size_a1 (g := (mkF m 4 #[.val (.ref a1), .val (.ref a2), .val .null, .val (.int (1 : Int32))] [(.ref a1), (.int (1 : Int32))])) rfl rfl (hb hby d14_4)
  obtain ⟨T464, X464, e464, st464⟩ := getF X463 hx hZ hown (host := "") (Or.inl (wd_52 hw)) Via.refl e463 F_names_a1 (g := (mkF m 11 #[.val (.ref a1), .val (.ref a2), .val .null, .val (.int (1 : Int32))] [(.ref a1)])) rfl rfl (hb hby d14_11)
  obtain ⟨cl465, Ar465, q465, S465, N465n, H465, G465⟩ := id (V_nm)
  have hin465 : ¬ ((1 : Int32) < 0 ∨ cl465.slots.size ≤ ((1 : Int32)).toNatClampNeg) := inb_of S465 ⟨by decide, by decide⟩
  have hat465 : cl465.slots[((1 : Int32)).toNatClampNeg]? = some (.ref s1) := H465.at hin465 rfl
  obtain ⟨cq466, kq466, q466a, q466b, q466c⟩ := isOf hZ e464 (E_s1)
  obtain ⟨_, _, ⟨T466, L466, k466, n466⟩, -, X466, ⟨Lc466, hQ466, l466, y466, z466⟩, st466⟩ := X464.virtualBack hx (y := (⟨"java/lang/String", "equals", "(Ljava/lang/Object;)Z"⟩ : MethodName)) (z := (⟨"java/lang/String", "equals", "(Ljava/lang/Object;)Z"⟩ : MethodName)) hown (mvT hZ (wd_71 hw)) (mvT hZ (wd_59 hw)) (notFace_of_selects (args := #[]) (mvT hZ (wd_61 hw))) (mvT hZ (wd_61 hw)) (mvT hZ (wd_60 hw)) (by decide) (backOf (W := 0) (rmeq110 l Z a0 hw [] s1 a2 t1 tq wz k1 kq x1 y0 h0 n0 Z0 E_s1 E_a2 F_value_s1 F_value_a2 F_coder_s1 F_coder_a2 V_t1 V_tq Old0 S_COMPACT_STRINGS hz ne_s1_a2 he1) hZ (wd_62 hw) (wd_2 hw) (by decide) (by decide)) q466a q466c (g := (mkF m 17 #[.val (.ref a1), .val (.ref a2), .val .null, .val (.int (1 : Int32))] [(.ref a2), (.ref s1)])) rfl (by rw [hml]; rfl) (Steps.refl _) (argsL := [(.ref a2)]) (rest := []) (lenOf pd__Ljava_lang_Object__Z rfl) rfl (by show 2 * 0 + _ ≤ _; exact Nat.le_of_eq rfl) (hb hby d14_17) (fun _ _ => ⟨rfl, e464, (by decide : 0 + 0 ≤ _), (by decide : 0 + 0 ≤ _)⟩)
  dsimp only [Pt.U, Pt.locs, Pt.cells, Pt.slots] at X466 l466 y466 z466 st466 hQ466
  rw [l466, y466, z466] at X466
  obtain ⟨rfl, N466q, e466⟩ := hQ466
  have N466 := Fr.app N462 N466q
  obtain ⟨T467, X467, e467, st467⟩ := getF X466 hx hZ hown (host := "") (Or.inl (wd_56 hw)) Via.refl e466 F_size_a1 (g := (mkF m 4 #[.val (.ref a1), .val (.ref a2), .val .null, .val (.int (2 : Int32))] [(.ref a1), (.int (2 : Int32))])) rfl rfl (hb hby d14_4)
  obtain ⟨fs, hr, hrun, hended, hW, hsame⟩ := X467.leave (v := some .null) (fun h => by rw [Bd.returns] at h; cases h)
  refine ⟨_, _, pre0 _ ?_, hrun, hended, _, _, rfl, ?_, ⟨_, rfl⟩, hW, hsame.mono (by decide) (by decide)⟩
  · show Steps p.tables e below (s₁.setTop (mkF m 0 #[.val (.ref a1), .val (.ref a2), .val .null, .unset] [])) _
    refine XS.iconst X0.here hx rfl (hb hby d14_0) ?_
    refine XS.istoreN X0.here hx rfl (hb hby d14_1) rfl (l' := #[.val (.ref a1), .val (.ref a2), .val .null, .val (.int (0 : Int32))]) rfl ?_
    refine XS.iloadN X0.here hx rfl (hb hby d14_2) rfl ?_
    refine XS.aloadN X0.here hx rfl (hb hby d14_3) rfl rfl ?_
    refine st459 _ ?_
    refine XS.icmpNo X459.here hx rfl (hb hby d14_7) rfl (tlt (by decide)).2.1 ?_
    refine XS.aloadN X459.here hx rfl (hb hby d14_10) rfl rfl ?_
    refine st460 _ ?_
    refine XS.iloadN X460.here hx rfl (hb hby d14_14) rfl ?_
    refine X460.aaload hx (j := (0 : Int32)) (v := (.ref s0)) (by rw [e460]; exact Ar461.1) (State.isArrayOf_alike hZ.alike Ar461.2.1) rfl Ar461.2.2 hin461 hat461 (g := (mkF m 15 #[.val (.ref a1), .val (.ref a2), .val .null, .val (.int (0 : Int32))] [(.int (0 : Int32)), (.ref nm)])) rfl rfl (hb hby d14_15) _ ?_
    show Steps p.tables e below (T460.setTop (mkF m 16 #[.val (.ref a1), .val (.ref a2), .val .null, .val (.int (0 : Int32))] [(.ref s0)])) _
    refine XS.aloadN X460.here hx rfl (hb hby d14_16) rfl rfl ?_
    refine st462.trans ?_
    refine XS.ifYes X462.here hx rfl (pc0 := 20) (pc' := 30) rfl (hb hby d14_20) rfl ((if0 _ _).trans (teq (rfl : (0 : Int32) = (0 : Int32))).1) (by decide) (by decide) ?_
    refine XS.iinc X462.here hx rfl (hb hby d14_30) rfl (l' := #[.val (.ref a1), .val (.ref a2), .val .null, .val (.int (1 : Int32))]) rfl ?_
    refine XS.goto X462.here hx rfl (pc0 := 33) (pc' := 2) rfl (hb hby d14_33) (by decide) (by decide) ?_
    refine XS.iloadN X462.here hx rfl (hb hby d14_2) rfl ?_
    refine XS.aloadN X462.here hx rfl (hb hby d14_3) rfl rfl ?_
    refine st463 _ ?_
    refine XS.icmpNo X463.here hx rfl (hb hby d14_7) rfl (tlt (by decide)).2.1 ?_
    refine XS.aloadN X463.here hx rfl (hb hby d14_10) rfl rfl ?_
    show Steps p.tables e below (T463.setTop (mkF m 11 #[.val (.ref a1), .val (.ref a2), .val .null, .val (.int (1 : Int32))] [(.ref a1)])) _
    refine st464 _ ?_
    refine XS.iloadN X464.here hx rfl (hb hby d14_14) rfl ?_
    refine X464.aaload hx (j := (1 : Int32)) (v := (.ref s1)) (by rw [e464]; exact Ar465.1) (State.isArrayOf_alike hZ.alike Ar465.2.1) rfl Ar465.2.2 hin465 hat465 (g := (mkF m 15 #[.val (.ref a1), .val (.ref a2), .val .null, .val (.int (1 : Int32))] [(.int (1 : Int32)), (.ref nm)])) rfl rfl (hb hby d14_15) _ ?_
    refine XS.aloadN X464.here hx rfl (hb hby d14_16) rfl rfl ?_
    refine st466.trans ?_
    refine XS.ifYes X466.here hx rfl (pc0 := 20) (pc' := 30) rfl (hb hby d14_20) rfl ((if0 _ _).trans (teq (rfl : (0 : Int32) = (0 : Int32))).1) (by decide) (by decide) ?_
    refine XS.iinc X466.here hx rfl (hb hby d14_30) rfl (l' := #[.val (.ref a1), .val (.ref a2), .val .null, .val (.int (2 : Int32))]) rfl ?_
    refine XS.goto X466.here hx rfl (pc0 := 33) (pc' := 2) rfl (hb hby d14_33) (by decide) (by decide) ?_
    refine XS.iloadN X466.here hx rfl (hb hby d14_2) rfl ?_
    refine XS.aloadN X466.here hx rfl (hb hby d14_3) rfl rfl ?_
    show Steps p.tables e below (T466.setTop (mkF m 4 #[.val (.ref a1), .val (.ref a2), .val .null, .val (.int (2 : Int32))] [(.ref a1), (.int (2 : Int32))])) _
    refine st467 _ ?_
    refine XS.icmpYes X467.here hx rfl (pc0 := 7) (pc' := 36) rfl (hb hby d14_7) rfl (flt (by decide)).2.1 (by decide) (by decide) ?_
    refine XS.aloadN X467.here hx rfl (hb hby d14_36) rfl rfl ?_
    exact X467.areturnOut hx rfl Bd.returns rfl (hb hby d14_37) hr
  · show Q_rmg2x1n Z a1 a2 nm vl kn kv s0 s1 s2 v0 v1 v2 t0 t1 k0 k1 x0 x1 y0 tq kq wz h0 n0 _ T467.heap _
    rw [e467]
    exact ⟨rfl, N466, rfl⟩
def Q_rmg301n (Z : State) (a1 : Addr) (a2 : Addr) (nm : Addr) (vl : Addr) (kn : ClassId) (kv : ClassId) (s0 : Addr) (s1 : Addr) (s2 : Addr) (v0 : Addr) (v1 : Addr) (v2 : Addr) (t0 : Addr) (k0 : ClassId) (x0 : Int32) (y0 : Int32) (tq : Addr) (kq : ClassId) (wz : Int32) (h0 : Heap) (n0 : Nat) (v : Option Value) (h : Heap) (L : List Loc) : Prop := v = some (.ref v0) ∧ Fr n0 L ∧ h = h0
set_option maxRecDepth 65536 in
set_option maxHeartbeats 40000000 in
theorem rmg301n (l : Launch) (Z : State) (a0 : Array Value) (hw : ∀ d ∈ tables_1, d.before a0 Z = true) (ws : List Jvm.Cond) (a1 : Addr) (a2 : Addr) (nm : Addr) (vl : Addr) (kn : ClassId) (kv : ClassId) (s0 : Addr) (s1 : Addr) (s2 : Addr) (v0 : Addr) (v1 : Addr) (v2 : Addr) (t0 : Addr) (k0 : ClassId) (x0 : Int32) (y0 : Int32) (tq : Addr) (kq : ClassId) (wz : Int32) (h0 : Heap) (n0 : Nat) (Z0 : n0 ≤ h0.size) (F_names_a1 : Fld Z h0 a1 "com/example/kawi/kawi/xml/Attributes" "names" "[Ljava/lang/String;" (.ref nm)) (F_values_a1 : Fld Z h0 a1 "com/example/kawi/kawi/xml/Attributes" "values" "[Ljava/lang/String;" (.ref vl)) (F_size_a1 : Fld Z h0 a1 "com/example/kawi/kawi/xml/Attributes" "size" "I" (.int (3 : Int32))) (V_nm : Arv Z h0 nm kn (.object "java/lang/String") (3 : Int32) [(.ref s0), (.ref s1), (.ref s2)] .null) (V_vl : Arv Z h0 vl kv (.object "java/lang/String") (3 : Int32) [(.ref v0), (.ref v1), (.ref v2)] .null) (E_s0 : Exa Z h0 s0 "java/lang/String") (F_value_s0 : Fld Z h0 s0 "java/lang/String" "value" "[B" (.ref t0)) (F_coder_s0 : Fld Z h0 s0 "java/lang/String" "coder" "B" (.int (0 : Int32))) (V_t0 : Arv Z h0 t0 k0 .byte (1 : Int32) [(.int x0)] (.int (0 : Int32))) (ne_s0_a2 : s0 ≠ a2) (E_a2 : Exa Z h0 a2 "java/lang/String") (F_value_a2 : Fld Z h0 a2 "java/lang/String" "value" "[B" (.ref tq)) (F_coder_a2 : Fld Z h0 a2 "java/lang/String" "coder" "B" (.int (0 : Int32))) (V_tq : Arv Z h0 tq kq .byte (1 : Int32) [(.int y0)] (.int (0 : Int32))) (Old0 : Old Z n0 h0) (S_COMPACT_STRINGS : Sta Z Z.heap "java/lang/String" "COMPACT_STRINGS" "Z" (.int wz)) (hz : ¬ (wz = (0 : Int32))) (he0 : x0 = y0) :
    MetFree l (⟨"com/example/kawi/kawi/xml/Attributes", "getOrDefault", "(Ljava/lang/String;Ljava/lang/String;)Ljava/lang/String;"⟩ : MethodName) (head1 (Jvm.Cond.code (⟨"com/example/kawi/kawi/xml/Attributes", "getOrDefault", "(Ljava/lang/String;Ljava/lang/String;)Ljava/lang/String;"⟩ : MethodName) prog_112_method_5_code 4 (some (.object "java/lang/String")) :: ws) ({ frames := 2, cells := 0, slots := 0, locals := 28 } : Room)) (fun a U => a = #[(.ref a1), (.ref a2), .null] ∧ Z.Warmed39 U.vm ∧ U.heap = h0) (fun _ _ _ _ _ => True) (fun _ U o U' => ∃ v L, o = .returned v ∧ Q_rmg301n Z a1 a2 nm vl kn kv s0 s1 s2 v0 v1 v2 t0 k0 x0 y0 tq kq wz h0 n0 v U'.heap L ∧ FrameEnd U o U' L ({ frames := 2, cells := 0, slots := 0, locals := 28 } : Room).cells ({ frames := 2, cells := 0, slots := 0, locals := 28 } : Room).slots) := by
  refine MetFree.of_bodySF (plainFor_of_name pn_com_example_kawi_kawi_xml_Attributes) hisR ?_
  intro p e s m args below meth c s₁ Bd hml0 hP hK
  obtain ⟨rfl, hZ, hh⟩ := hP
  have hx := Bd.exec
  have hby := Bd.bytes
  have hml : c.maxLocals = 4 := hml0
  have hown : s.vm.findClass "com/example/kawi/kawi/xml/Attributes" = some m.cls := findClass_of_methodNamed Bd.named
  have hnm := (name_of_methodNamed Bd.named Bd.method).1
  have X0 : Stand p l e ({ frames := 2, cells := 0, slots := 0, locals := 28 } : Room) s m #[(.ref a1), (.ref a2), .null] below meth c s₁ [] 0 0 := Stand.of_body Bd
  have e0 : s₁.heap = h0 := by rw [← hh, Bd.state]; rfl
  have N0 := Fr.nil n0
  have pre0 : ∀ t, Steps p.tables e below (s₁.setTop (mkF m 0 #[.val (.ref a1), .val (.ref a2), .val .null, .unset] [])) t → Steps p.tables e below (s₁.setTop (entryFrame m #[(.ref a1), (.ref a2), .null] 4)) t := fun t k => castTop (efn_14 m a1 a2) k
  obtain ⟨T472, X472, e472, st472⟩ := getF X0 hx hZ hown (host := "") (Or.inl (wd_56 hw)) Via.refl e0 F_size_a1 (g := (mkF m 4 #[.val (.ref a1), .val (.ref a2), .val .null, .val (.int (0 : Int32))] [(.ref a1), (.int (0 : Int32))])) rfl rfl (hb hby d14_4)
  obtain ⟨T473, X473, e473, st473⟩ := getF X472 hx hZ hown (host := "") (Or.inl (wd_52 hw)) Via.refl e472 F_names_a1 (g := (mkF m 11 #[.val (.ref a1), .val (.ref a2), .val .null, .val (.int (0 : Int32))] [(.ref a1)])) rfl rfl (hb hby d14_11)
  obtain ⟨cl474, Ar474, q474, S474, N474n, H474, G474⟩ := id (V_nm)
  have hin474 : ¬ ((0 : Int32) < 0 ∨ cl474.slots.size ≤ ((0 : Int32)).toNatClampNeg) := inb_of S474 ⟨by decide, by decide⟩
  have hat474 : cl474.slots[((0 : Int32)).toNatClampNeg]? = some (.ref s0) := H474.at hin474 rfl
  obtain ⟨cq475, kq475, q475a, q475b, q475c⟩ := isOf hZ e473 (E_s0)
  obtain ⟨_, _, ⟨T475, L475, k475, n475⟩, -, X475, ⟨Lc475, hQ475, l475, y475, z475⟩, st475⟩ := X473.virtualBack hx (y := (⟨"java/lang/String", "equals", "(Ljava/lang/Object;)Z"⟩ : MethodName)) (z := (⟨"java/lang/String", "equals", "(Ljava/lang/Object;)Z"⟩ : MethodName)) hown (mvT hZ (wd_71 hw)) (mvT hZ (wd_59 hw)) (notFace_of_selects (args := #[]) (mvT hZ (wd_61 hw))) (mvT hZ (wd_61 hw)) (mvT hZ (wd_60 hw)) (by decide) (backOf (W := 0) (rmeq11eq l Z a0 hw [] s0 a2 t0 tq wz k0 kq x0 y0 h0 n0 Z0 E_s0 E_a2 F_value_s0 F_value_a2 F_coder_s0 F_coder_a2 V_t0 V_tq Old0 S_COMPACT_STRINGS hz ne_s0_a2 he0) hZ (wd_62 hw) (wd_2 hw) (by decide) (by decide)) q475a q475c (g := (mkF m 17 #[.val (.ref a1), .val (.ref a2), .val .null, .val (.int (0 : Int32))] [(.ref a2), (.ref s0)])) rfl (by rw [hml]; rfl) (Steps.refl _) (argsL := [(.ref a2)]) (rest := []) (lenOf pd__Ljava_lang_Object__Z rfl) rfl (by show 2 * 0 + _ ≤ _; exact Nat.le_of_eq rfl) (hb hby d14_17) (fun _ _ => ⟨rfl, e473, (by decide : 0 + 0 ≤ _), (by decide : 0 + 0 ≤ _)⟩)
  dsimp only [Pt.U, Pt.locs, Pt.cells, Pt.slots] at X475 l475 y475 z475 st475 hQ475
  rw [l475, y475, z475] at X475
  obtain ⟨rfl, N475q, e475⟩ := hQ475
  have N475 := Fr.app N0 N475q
  obtain ⟨T476, X476, e476, st476⟩ := getF X475 hx hZ hown (host := "") (Or.inl (wd_54 hw)) Via.refl e475 F_values_a1 (g := (mkF m 24 #[.val (.ref a1), .val (.ref a2), .val .null, .val (.int (0 : Int32))] [(.ref a1)])) rfl rfl (hb hby d14_24)
  obtain ⟨cl477, Ar477, q477, S477, N477n, H477, G477⟩ := id (V_vl)
  have hin477 : ¬ ((0 : Int32) < 0 ∨ cl477.slots.size ≤ ((0 : Int32)).toNatClampNeg) := inb_of S477 ⟨by decide, by decide⟩
  have hat477 : cl477.slots[((0 : Int32)).toNatClampNeg]? = some (.ref v0) := H477.at hin477 rfl
  obtain ⟨fs, hr, hrun, hended, hW, hsame⟩ := X476.leave (v := some (.ref v0)) (fun h => by rw [Bd.returns] at h; cases h)
  refine ⟨_, _, pre0 _ ?_, hrun, hended, _, _, rfl, ?_, ⟨_, rfl⟩, hW, hsame.mono (by decide) (by decide)⟩
  · show Steps p.tables e below (s₁.setTop (mkF m 0 #[.val (.ref a1), .val (.ref a2), .val .null, .unset] [])) _
    refine XS.iconst X0.here hx rfl (hb hby d14_0) ?_
    refine XS.istoreN X0.here hx rfl (hb hby d14_1) rfl (l' := #[.val (.ref a1), .val (.ref a2), .val .null, .val (.int (0 : Int32))]) rfl ?_
    refine XS.iloadN X0.here hx rfl (hb hby d14_2) rfl ?_
    refine XS.aloadN X0.here hx rfl (hb hby d14_3) rfl rfl ?_
    refine st472 _ ?_
    refine XS.icmpNo X472.here hx rfl (hb hby d14_7) rfl (tlt (by decide)).2.1 ?_
    refine XS.aloadN X472.here hx rfl (hb hby d14_10) rfl rfl ?_
    refine st473 _ ?_
    refine XS.iloadN X473.here hx rfl (hb hby d14_14) rfl ?_
    refine X473.aaload hx (j := (0 : Int32)) (v := (.ref s0)) (by rw [e473]; exact Ar474.1) (State.isArrayOf_alike hZ.alike Ar474.2.1) rfl Ar474.2.2 hin474 hat474 (g := (mkF m 15 #[.val (.ref a1), .val (.ref a2), .val .null, .val (.int (0 : Int32))] [(.int (0 : Int32)), (.ref nm)])) rfl rfl (hb hby d14_15) _ ?_
    show Steps p.tables e below (T473.setTop (mkF m 16 #[.val (.ref a1), .val (.ref a2), .val .null, .val (.int (0 : Int32))] [(.ref s0)])) _
    refine XS.aloadN X473.here hx rfl (hb hby d14_16) rfl rfl ?_
    refine st475.trans ?_
    refine XS.ifNo X475.here hx rfl (hb hby d14_20) rfl ((if0 _ _).trans (feq (by decide)).1) ?_
    refine XS.aloadN X475.here hx rfl (hb hby d14_23) rfl rfl ?_
    refine st476 _ ?_
    refine XS.iloadN X476.here hx rfl (hb hby d14_27) rfl ?_
    refine X476.aaload hx (j := (0 : Int32)) (v := (.ref v0)) (by rw [e476]; exact Ar477.1) (State.isArrayOf_alike hZ.alike Ar477.2.1) rfl Ar477.2.2 hin477 hat477 (g := (mkF m 28 #[.val (.ref a1), .val (.ref a2), .val .null, .val (.int (0 : Int32))] [(.int (0 : Int32)), (.ref vl)])) rfl rfl (hb hby d14_28) _ ?_
    exact X476.areturnOut hx rfl Bd.returns rfl (hb hby d14_29) hr
  · show Q_rmg301n Z a1 a2 nm vl kn kv s0 s1 s2 v0 v1 v2 t0 k0 x0 y0 tq kq wz h0 n0 _ T476.heap _
    rw [e476]
    exact ⟨rfl, N475, rfl⟩
def Q_rmg311n (Z : State) (a1 : Addr) (a2 : Addr) (nm : Addr) (vl : Addr) (kn : ClassId) (kv : ClassId) (s0 : Addr) (s1 : Addr) (s2 : Addr) (v0 : Addr) (v1 : Addr) (v2 : Addr) (t0 : Addr) (t1 : Addr) (k0 : ClassId) (k1 : ClassId) (x0 : Int32) (x1 : Int32) (y0 : Int32) (tq : Addr) (kq : ClassId) (wz : Int32) (h0 : Heap) (n0 : Nat) (v : Option Value) (h : Heap) (L : List Loc) : Prop := v = some (.ref v1) ∧ Fr n0 L ∧ h = h0
set_option maxRecDepth 65536 in
set_option maxHeartbeats 40000000 in
theorem rmg311n (l : Launch) (Z : State) (a0 : Array Value) (hw : ∀ d ∈ tables_1, d.before a0 Z = true) (ws : List Jvm.Cond) (a1 : Addr) (a2 : Addr) (nm : Addr) (vl : Addr) (kn : ClassId) (kv : ClassId) (s0 : Addr) (s1 : Addr) (s2 : Addr) (v0 : Addr) (v1 : Addr) (v2 : Addr) (t0 : Addr) (t1 : Addr) (k0 : ClassId) (k1 : ClassId) (x0 : Int32) (x1 : Int32) (y0 : Int32) (tq : Addr) (kq : ClassId) (wz : Int32) (h0 : Heap) (n0 : Nat) (Z0 : n0 ≤ h0.size) (F_names_a1 : Fld Z h0 a1 "com/example/kawi/kawi/xml/Attributes" "names" "[Ljava/lang/String;" (.ref nm)) (F_values_a1 : Fld Z h0 a1 "com/example/kawi/kawi/xml/Attributes" "values" "[Ljava/lang/String;" (.ref vl)) (F_size_a1 : Fld Z h0 a1 "com/example/kawi/kawi/xml/Attributes" "size" "I" (.int (3 : Int32))) (V_nm : Arv Z h0 nm kn (.object "java/lang/String") (3 : Int32) [(.ref s0), (.ref s1), (.ref s2)] .null) (V_vl : Arv Z h0 vl kv (.object "java/lang/String") (3 : Int32) [(.ref v0), (.ref v1), (.ref v2)] .null) (E_s0 : Exa Z h0 s0 "java/lang/String") (F_value_s0 : Fld Z h0 s0 "java/lang/String" "value" "[B" (.ref t0)) (F_coder_s0 : Fld Z h0 s0 "java/lang/String" "coder" "B" (.int (0 : Int32))) (V_t0 : Arv Z h0 t0 k0 .byte (1 : Int32) [(.int x0)] (.int (0 : Int32))) (ne_s0_a2 : s0 ≠ a2) (E_s1 : Exa Z h0 s1 "java/lang/String") (F_value_s1 : Fld Z h0 s1 "java/lang/String" "value" "[B" (.ref t1)) (F_coder_s1 : Fld Z h0 s1 "java/lang/String" "coder" "B" (.int (0 : Int32))) (V_t1 : Arv Z h0 t1 k1 .byte (1 : Int32) [(.int x1)] (.int (0 : Int32))) (ne_s1_a2 : s1 ≠ a2) (E_a2 : Exa Z h0 a2 "java/lang/String") (F_value_a2 : Fld Z h0 a2 "java/lang/String" "value" "[B" (.ref tq)) (F_coder_a2 : Fld Z h0 a2 "java/lang/String" "coder" "B" (.int (0 : Int32))) (V_tq : Arv Z h0 tq kq .byte (1 : Int32) [(.int y0)] (.int (0 : Int32))) (Old0 : Old Z n0 h0) (S_COMPACT_STRINGS : Sta Z Z.heap "java/lang/String" "COMPACT_STRINGS" "Z" (.int wz)) (hz : ¬ (wz = (0 : Int32))) (he0 : ¬ (x0 = y0)) (he1 : x1 = y0) :
    MetFree l (⟨"com/example/kawi/kawi/xml/Attributes", "getOrDefault", "(Ljava/lang/String;Ljava/lang/String;)Ljava/lang/String;"⟩ : MethodName) (head1 (Jvm.Cond.code (⟨"com/example/kawi/kawi/xml/Attributes", "getOrDefault", "(Ljava/lang/String;Ljava/lang/String;)Ljava/lang/String;"⟩ : MethodName) prog_112_method_5_code 4 (some (.object "java/lang/String")) :: ws) ({ frames := 2, cells := 0, slots := 0, locals := 28 } : Room)) (fun a U => a = #[(.ref a1), (.ref a2), .null] ∧ Z.Warmed39 U.vm ∧ U.heap = h0) (fun _ _ _ _ _ => True) (fun _ U o U' => ∃ v L, o = .returned v ∧ Q_rmg311n Z a1 a2 nm vl kn kv s0 s1 s2 v0 v1 v2 t0 t1 k0 k1 x0 x1 y0 tq kq wz h0 n0 v U'.heap L ∧ FrameEnd U o U' L ({ frames := 2, cells := 0, slots := 0, locals := 28 } : Room).cells ({ frames := 2, cells := 0, slots := 0, locals := 28 } : Room).slots) := by
  refine MetFree.of_bodySF (plainFor_of_name pn_com_example_kawi_kawi_xml_Attributes) hisR ?_
  intro p e s m args below meth c s₁ Bd hml0 hP hK
  obtain ⟨rfl, hZ, hh⟩ := hP
  have hx := Bd.exec
  have hby := Bd.bytes
  have hml : c.maxLocals = 4 := hml0
  have hown : s.vm.findClass "com/example/kawi/kawi/xml/Attributes" = some m.cls := findClass_of_methodNamed Bd.named
  have hnm := (name_of_methodNamed Bd.named Bd.method).1
  have X0 : Stand p l e ({ frames := 2, cells := 0, slots := 0, locals := 28 } : Room) s m #[(.ref a1), (.ref a2), .null] below meth c s₁ [] 0 0 := Stand.of_body Bd
  have e0 : s₁.heap = h0 := by rw [← hh, Bd.state]; rfl
  have N0 := Fr.nil n0
  have pre0 : ∀ t, Steps p.tables e below (s₁.setTop (mkF m 0 #[.val (.ref a1), .val (.ref a2), .val .null, .unset] [])) t → Steps p.tables e below (s₁.setTop (entryFrame m #[(.ref a1), (.ref a2), .null] 4)) t := fun t k => castTop (efn_14 m a1 a2) k
  obtain ⟨T483, X483, e483, st483⟩ := getF X0 hx hZ hown (host := "") (Or.inl (wd_56 hw)) Via.refl e0 F_size_a1 (g := (mkF m 4 #[.val (.ref a1), .val (.ref a2), .val .null, .val (.int (0 : Int32))] [(.ref a1), (.int (0 : Int32))])) rfl rfl (hb hby d14_4)
  obtain ⟨T484, X484, e484, st484⟩ := getF X483 hx hZ hown (host := "") (Or.inl (wd_52 hw)) Via.refl e483 F_names_a1 (g := (mkF m 11 #[.val (.ref a1), .val (.ref a2), .val .null, .val (.int (0 : Int32))] [(.ref a1)])) rfl rfl (hb hby d14_11)
  obtain ⟨cl485, Ar485, q485, S485, N485n, H485, G485⟩ := id (V_nm)
  have hin485 : ¬ ((0 : Int32) < 0 ∨ cl485.slots.size ≤ ((0 : Int32)).toNatClampNeg) := inb_of S485 ⟨by decide, by decide⟩
  have hat485 : cl485.slots[((0 : Int32)).toNatClampNeg]? = some (.ref s0) := H485.at hin485 rfl
  obtain ⟨cq486, kq486, q486a, q486b, q486c⟩ := isOf hZ e484 (E_s0)
  obtain ⟨_, _, ⟨T486, L486, k486, n486⟩, -, X486, ⟨Lc486, hQ486, l486, y486, z486⟩, st486⟩ := X484.virtualBack hx (y := (⟨"java/lang/String", "equals", "(Ljava/lang/Object;)Z"⟩ : MethodName)) (z := (⟨"java/lang/String", "equals", "(Ljava/lang/Object;)Z"⟩ : MethodName)) hown (mvT hZ (wd_71 hw)) (mvT hZ (wd_59 hw)) (notFace_of_selects (args := #[]) (mvT hZ (wd_61 hw))) (mvT hZ (wd_61 hw)) (mvT hZ (wd_60 hw)) (by decide) (backOf (W := 0) (rmeq110 l Z a0 hw [] s0 a2 t0 tq wz k0 kq x0 y0 h0 n0 Z0 E_s0 E_a2 F_value_s0 F_value_a2 F_coder_s0 F_coder_a2 V_t0 V_tq Old0 S_COMPACT_STRINGS hz ne_s0_a2 he0) hZ (wd_62 hw) (wd_2 hw) (by decide) (by decide)) q486a q486c (g := (mkF m 17 #[.val (.ref a1), .val (.ref a2), .val .null, .val (.int (0 : Int32))] [(.ref a2), (.ref s0)])) rfl (by rw [hml]; rfl) (Steps.refl _) (argsL := [(.ref a2)]) (rest := []) (lenOf pd__Ljava_lang_Object__Z rfl) rfl (by show 2 * 0 + _ ≤ _; exact Nat.le_of_eq rfl) (hb hby d14_17) (fun _ _ => ⟨rfl, e484, (by decide : 0 + 0 ≤ _), (by decide : 0 + 0 ≤ _)⟩)
  dsimp only [Pt.U, Pt.locs, Pt.cells, Pt.slots] at X486 l486 y486 z486 st486 hQ486
  rw [l486, y486, z486] at X486
  obtain ⟨rfl, N486q, e486⟩ := hQ486
  have N486 := Fr.app N0 N486q
  obtain ⟨T487, X487, e487, st487⟩ := getF X486 hx hZ hown (host := "") (Or.inl (wd_56 hw)) Via.refl e486 F_size_a1 (g := (mkF m 4 #[.val (.ref a1), .val (.ref a2), .val .null, .val (.int (1 : Int32))] [(.ref a1), (.int (1 : Int32))])) rfl rfl (hb hby d14_4)
  obtain ⟨T488, X488, e488, st488⟩ := getF X487 hx hZ hown (host := "") (Or.inl (wd_52 hw)) Via.refl e487 F_names_a1 (g := (mkF m 11 #[.val (.ref a1), .val (.ref a2), .val .null, .val (.int (1 : Int32))] [(.ref a1)])) rfl rfl (hb hby d14_11)
  obtain ⟨cl489, Ar489, q489, S489, N489n, H489, G489⟩ := id (V_nm)
  have hin489 : ¬ ((1 : Int32) < 0 ∨ cl489.slots.size ≤ ((1 : Int32)).toNatClampNeg) := inb_of S489 ⟨by decide, by decide⟩
  have hat489 : cl489.slots[((1 : Int32)).toNatClampNeg]? = some (.ref s1) := H489.at hin489 rfl
  obtain ⟨cq490, kq490, q490a, q490b, q490c⟩ := isOf hZ e488 (E_s1)
  obtain ⟨_, _, ⟨T490, L490, k490, n490⟩, -, X490, ⟨Lc490, hQ490, l490, y490, z490⟩, st490⟩ := X488.virtualBack hx (y := (⟨"java/lang/String", "equals", "(Ljava/lang/Object;)Z"⟩ : MethodName)) (z := (⟨"java/lang/String", "equals", "(Ljava/lang/Object;)Z"⟩ : MethodName)) hown (mvT hZ (wd_71 hw)) (mvT hZ (wd_59 hw)) (notFace_of_selects (args := #[]) (mvT hZ (wd_61 hw))) (mvT hZ (wd_61 hw)) (mvT hZ (wd_60 hw)) (by decide) (backOf (W := 0) (rmeq11eq l Z a0 hw [] s1 a2 t1 tq wz k1 kq x1 y0 h0 n0 Z0 E_s1 E_a2 F_value_s1 F_value_a2 F_coder_s1 F_coder_a2 V_t1 V_tq Old0 S_COMPACT_STRINGS hz ne_s1_a2 he1) hZ (wd_62 hw) (wd_2 hw) (by decide) (by decide)) q490a q490c (g := (mkF m 17 #[.val (.ref a1), .val (.ref a2), .val .null, .val (.int (1 : Int32))] [(.ref a2), (.ref s1)])) rfl (by rw [hml]; rfl) (Steps.refl _) (argsL := [(.ref a2)]) (rest := []) (lenOf pd__Ljava_lang_Object__Z rfl) rfl (by show 2 * 0 + _ ≤ _; exact Nat.le_of_eq rfl) (hb hby d14_17) (fun _ _ => ⟨rfl, e488, (by decide : 0 + 0 ≤ _), (by decide : 0 + 0 ≤ _)⟩)
  dsimp only [Pt.U, Pt.locs, Pt.cells, Pt.slots] at X490 l490 y490 z490 st490 hQ490
  rw [l490, y490, z490] at X490
  obtain ⟨rfl, N490q, e490⟩ := hQ490
  have N490 := Fr.app N486 N490q
  obtain ⟨T491, X491, e491, st491⟩ := getF X490 hx hZ hown (host := "") (Or.inl (wd_54 hw)) Via.refl e490 F_values_a1 (g := (mkF m 24 #[.val (.ref a1), .val (.ref a2), .val .null, .val (.int (1 : Int32))] [(.ref a1)])) rfl rfl (hb hby d14_24)
  obtain ⟨cl492, Ar492, q492, S492, N492n, H492, G492⟩ := id (V_vl)
  have hin492 : ¬ ((1 : Int32) < 0 ∨ cl492.slots.size ≤ ((1 : Int32)).toNatClampNeg) := inb_of S492 ⟨by decide, by decide⟩
  have hat492 : cl492.slots[((1 : Int32)).toNatClampNeg]? = some (.ref v1) := H492.at hin492 rfl
  obtain ⟨fs, hr, hrun, hended, hW, hsame⟩ := X491.leave (v := some (.ref v1)) (fun h => by rw [Bd.returns] at h; cases h)
  refine ⟨_, _, pre0 _ ?_, hrun, hended, _, _, rfl, ?_, ⟨_, rfl⟩, hW, hsame.mono (by decide) (by decide)⟩
  · show Steps p.tables e below (s₁.setTop (mkF m 0 #[.val (.ref a1), .val (.ref a2), .val .null, .unset] [])) _
    refine XS.iconst X0.here hx rfl (hb hby d14_0) ?_
    refine XS.istoreN X0.here hx rfl (hb hby d14_1) rfl (l' := #[.val (.ref a1), .val (.ref a2), .val .null, .val (.int (0 : Int32))]) rfl ?_
    refine XS.iloadN X0.here hx rfl (hb hby d14_2) rfl ?_
    refine XS.aloadN X0.here hx rfl (hb hby d14_3) rfl rfl ?_
    refine st483 _ ?_
    refine XS.icmpNo X483.here hx rfl (hb hby d14_7) rfl (tlt (by decide)).2.1 ?_
    refine XS.aloadN X483.here hx rfl (hb hby d14_10) rfl rfl ?_
    refine st484 _ ?_
    refine XS.iloadN X484.here hx rfl (hb hby d14_14) rfl ?_
    refine X484.aaload hx (j := (0 : Int32)) (v := (.ref s0)) (by rw [e484]; exact Ar485.1) (State.isArrayOf_alike hZ.alike Ar485.2.1) rfl Ar485.2.2 hin485 hat485 (g := (mkF m 15 #[.val (.ref a1), .val (.ref a2), .val .null, .val (.int (0 : Int32))] [(.int (0 : Int32)), (.ref nm)])) rfl rfl (hb hby d14_15) _ ?_
    show Steps p.tables e below (T484.setTop (mkF m 16 #[.val (.ref a1), .val (.ref a2), .val .null, .val (.int (0 : Int32))] [(.ref s0)])) _
    refine XS.aloadN X484.here hx rfl (hb hby d14_16) rfl rfl ?_
    refine st486.trans ?_
    refine XS.ifYes X486.here hx rfl (pc0 := 20) (pc' := 30) rfl (hb hby d14_20) rfl ((if0 _ _).trans (teq (rfl : (0 : Int32) = (0 : Int32))).1) (by decide) (by decide) ?_
    refine XS.iinc X486.here hx rfl (hb hby d14_30) rfl (l' := #[.val (.ref a1), .val (.ref a2), .val .null, .val (.int (1 : Int32))]) rfl ?_
    refine XS.goto X486.here hx rfl (pc0 := 33) (pc' := 2) rfl (hb hby d14_33) (by decide) (by decide) ?_
    refine XS.iloadN X486.here hx rfl (hb hby d14_2) rfl ?_
    refine XS.aloadN X486.here hx rfl (hb hby d14_3) rfl rfl ?_
    refine st487 _ ?_
    refine XS.icmpNo X487.here hx rfl (hb hby d14_7) rfl (tlt (by decide)).2.1 ?_
    refine XS.aloadN X487.here hx rfl (hb hby d14_10) rfl rfl ?_
    show Steps p.tables e below (T487.setTop (mkF m 11 #[.val (.ref a1), .val (.ref a2), .val .null, .val (.int (1 : Int32))] [(.ref a1)])) _
    refine st488 _ ?_
    refine XS.iloadN X488.here hx rfl (hb hby d14_14) rfl ?_
    refine X488.aaload hx (j := (1 : Int32)) (v := (.ref s1)) (by rw [e488]; exact Ar489.1) (State.isArrayOf_alike hZ.alike Ar489.2.1) rfl Ar489.2.2 hin489 hat489 (g := (mkF m 15 #[.val (.ref a1), .val (.ref a2), .val .null, .val (.int (1 : Int32))] [(.int (1 : Int32)), (.ref nm)])) rfl rfl (hb hby d14_15) _ ?_
    refine XS.aloadN X488.here hx rfl (hb hby d14_16) rfl rfl ?_
    refine st490.trans ?_
    refine XS.ifNo X490.here hx rfl (hb hby d14_20) rfl ((if0 _ _).trans (feq (by decide)).1) ?_
    refine XS.aloadN X490.here hx rfl (hb hby d14_23) rfl rfl ?_
    refine st491 _ ?_
    refine XS.iloadN X491.here hx rfl (hb hby d14_27) rfl ?_
    refine X491.aaload hx (j := (1 : Int32)) (v := (.ref v1)) (by rw [e491]; exact Ar492.1) (State.isArrayOf_alike hZ.alike Ar492.2.1) rfl Ar492.2.2 hin492 hat492 (g := (mkF m 28 #[.val (.ref a1), .val (.ref a2), .val .null, .val (.int (1 : Int32))] [(.int (1 : Int32)), (.ref vl)])) rfl rfl (hb hby d14_28) _ ?_
    show Steps p.tables e below (T491.setTop (mkF m 29 #[.val (.ref a1), .val (.ref a2), .val .null, .val (.int (1 : Int32))] [(.ref v1)])) _
    exact X491.areturnOut hx rfl Bd.returns rfl (hb hby d14_29) hr
  · show Q_rmg311n Z a1 a2 nm vl kn kv s0 s1 s2 v0 v1 v2 t0 t1 k0 k1 x0 x1 y0 tq kq wz h0 n0 _ T491.heap _
    rw [e491]
    exact ⟨rfl, N490, rfl⟩
def Q_rmg321n (Z : State) (a1 : Addr) (a2 : Addr) (nm : Addr) (vl : Addr) (kn : ClassId) (kv : ClassId) (s0 : Addr) (s1 : Addr) (s2 : Addr) (v0 : Addr) (v1 : Addr) (v2 : Addr) (t0 : Addr) (t1 : Addr) (t2 : Addr) (k0 : ClassId) (k1 : ClassId) (k2 : ClassId) (x0 : Int32) (x1 : Int32) (x2 : Int32) (y0 : Int32) (tq : Addr) (kq : ClassId) (wz : Int32) (h0 : Heap) (n0 : Nat) (v : Option Value) (h : Heap) (L : List Loc) : Prop := v = some (.ref v2) ∧ Fr n0 L ∧ h = h0
set_option maxRecDepth 65536 in
set_option maxHeartbeats 40000000 in
theorem rmg321n (l : Launch) (Z : State) (a0 : Array Value) (hw : ∀ d ∈ tables_1, d.before a0 Z = true) (ws : List Jvm.Cond) (a1 : Addr) (a2 : Addr) (nm : Addr) (vl : Addr) (kn : ClassId) (kv : ClassId) (s0 : Addr) (s1 : Addr) (s2 : Addr) (v0 : Addr) (v1 : Addr) (v2 : Addr) (t0 : Addr) (t1 : Addr) (t2 : Addr) (k0 : ClassId) (k1 : ClassId) (k2 : ClassId) (x0 : Int32) (x1 : Int32) (x2 : Int32) (y0 : Int32) (tq : Addr) (kq : ClassId) (wz : Int32) (h0 : Heap) (n0 : Nat) (Z0 : n0 ≤ h0.size) (F_names_a1 : Fld Z h0 a1 "com/example/kawi/kawi/xml/Attributes" "names" "[Ljava/lang/String;" (.ref nm)) (F_values_a1 : Fld Z h0 a1 "com/example/kawi/kawi/xml/Attributes" "values" "[Ljava/lang/String;" (.ref vl)) (F_size_a1 : Fld Z h0 a1 "com/example/kawi/kawi/xml/Attributes" "size" "I" (.int (3 : Int32))) (V_nm : Arv Z h0 nm kn (.object "java/lang/String") (3 : Int32) [(.ref s0), (.ref s1), (.ref s2)] .null) (V_vl : Arv Z h0 vl kv (.object "java/lang/String") (3 : Int32) [(.ref v0), (.ref v1), (.ref v2)] .null) (E_s0 : Exa Z h0 s0 "java/lang/String") (F_value_s0 : Fld Z h0 s0 "java/lang/String" "value" "[B" (.ref t0)) (F_coder_s0 : Fld Z h0 s0 "java/lang/String" "coder" "B" (.int (0 : Int32))) (V_t0 : Arv Z h0 t0 k0 .byte (1 : Int32) [(.int x0)] (.int (0 : Int32))) (ne_s0_a2 : s0 ≠ a2) (E_s1 : Exa Z h0 s1 "java/lang/String") (F_value_s1 : Fld Z h0 s1 "java/lang/String" "value" "[B" (.ref t1)) (F_coder_s1 : Fld Z h0 s1 "java/lang/String" "coder" "B" (.int (0 : Int32))) (V_t1 : Arv Z h0 t1 k1 .byte (1 : Int32) [(.int x1)] (.int (0 : Int32))) (ne_s1_a2 : s1 ≠ a2) (E_s2 : Exa Z h0 s2 "java/lang/String") (F_value_s2 : Fld Z h0 s2 "java/lang/String" "value" "[B" (.ref t2)) (F_coder_s2 : Fld Z h0 s2 "java/lang/String" "coder" "B" (.int (0 : Int32))) (V_t2 : Arv Z h0 t2 k2 .byte (1 : Int32) [(.int x2)] (.int (0 : Int32))) (ne_s2_a2 : s2 ≠ a2) (E_a2 : Exa Z h0 a2 "java/lang/String") (F_value_a2 : Fld Z h0 a2 "java/lang/String" "value" "[B" (.ref tq)) (F_coder_a2 : Fld Z h0 a2 "java/lang/String" "coder" "B" (.int (0 : Int32))) (V_tq : Arv Z h0 tq kq .byte (1 : Int32) [(.int y0)] (.int (0 : Int32))) (Old0 : Old Z n0 h0) (S_COMPACT_STRINGS : Sta Z Z.heap "java/lang/String" "COMPACT_STRINGS" "Z" (.int wz)) (hz : ¬ (wz = (0 : Int32))) (he0 : ¬ (x0 = y0)) (he1 : ¬ (x1 = y0)) (he2 : x2 = y0) :
    MetFree l (⟨"com/example/kawi/kawi/xml/Attributes", "getOrDefault", "(Ljava/lang/String;Ljava/lang/String;)Ljava/lang/String;"⟩ : MethodName) (head1 (Jvm.Cond.code (⟨"com/example/kawi/kawi/xml/Attributes", "getOrDefault", "(Ljava/lang/String;Ljava/lang/String;)Ljava/lang/String;"⟩ : MethodName) prog_112_method_5_code 4 (some (.object "java/lang/String")) :: ws) ({ frames := 2, cells := 0, slots := 0, locals := 28 } : Room)) (fun a U => a = #[(.ref a1), (.ref a2), .null] ∧ Z.Warmed39 U.vm ∧ U.heap = h0) (fun _ _ _ _ _ => True) (fun _ U o U' => ∃ v L, o = .returned v ∧ Q_rmg321n Z a1 a2 nm vl kn kv s0 s1 s2 v0 v1 v2 t0 t1 t2 k0 k1 k2 x0 x1 x2 y0 tq kq wz h0 n0 v U'.heap L ∧ FrameEnd U o U' L ({ frames := 2, cells := 0, slots := 0, locals := 28 } : Room).cells ({ frames := 2, cells := 0, slots := 0, locals := 28 } : Room).slots) := by
  refine MetFree.of_bodySF (plainFor_of_name pn_com_example_kawi_kawi_xml_Attributes) hisR ?_
  intro p e s m args below meth c s₁ Bd hml0 hP hK
  obtain ⟨rfl, hZ, hh⟩ := hP
  have hx := Bd.exec
  have hby := Bd.bytes
  have hml : c.maxLocals = 4 := hml0
  have hown : s.vm.findClass "com/example/kawi/kawi/xml/Attributes" = some m.cls := findClass_of_methodNamed Bd.named
  have hnm := (name_of_methodNamed Bd.named Bd.method).1
  have X0 : Stand p l e ({ frames := 2, cells := 0, slots := 0, locals := 28 } : Room) s m #[(.ref a1), (.ref a2), .null] below meth c s₁ [] 0 0 := Stand.of_body Bd
  have e0 : s₁.heap = h0 := by rw [← hh, Bd.state]; rfl
  have N0 := Fr.nil n0
  have pre0 : ∀ t, Steps p.tables e below (s₁.setTop (mkF m 0 #[.val (.ref a1), .val (.ref a2), .val .null, .unset] [])) t → Steps p.tables e below (s₁.setTop (entryFrame m #[(.ref a1), (.ref a2), .null] 4)) t := fun t k => castTop (efn_14 m a1 a2) k
  obtain ⟨T498, X498, e498, st498⟩ := getF X0 hx hZ hown (host := "") (Or.inl (wd_56 hw)) Via.refl e0 F_size_a1 (g := (mkF m 4 #[.val (.ref a1), .val (.ref a2), .val .null, .val (.int (0 : Int32))] [(.ref a1), (.int (0 : Int32))])) rfl rfl (hb hby d14_4)
  obtain ⟨T499, X499, e499, st499⟩ := getF X498 hx hZ hown (host := "") (Or.inl (wd_52 hw)) Via.refl e498 F_names_a1 (g := (mkF m 11 #[.val (.ref a1), .val (.ref a2), .val .null, .val (.int (0 : Int32))] [(.ref a1)])) rfl rfl (hb hby d14_11)
  obtain ⟨cl500, Ar500, q500, S500, N500n, H500, G500⟩ := id (V_nm)
  have hin500 : ¬ ((0 : Int32) < 0 ∨ cl500.slots.size ≤ ((0 : Int32)).toNatClampNeg) := inb_of S500 ⟨by decide, by decide⟩
  have hat500 : cl500.slots[((0 : Int32)).toNatClampNeg]? = some (.ref s0) := H500.at hin500 rfl
  obtain ⟨cq501, kq501, q501a, q501b, q501c⟩ := isOf hZ e499 (E_s0)
  obtain ⟨_, _, ⟨T501, L501, k501, n501⟩, -, X501, ⟨Lc501, hQ501, l501, y501, z501⟩, st501⟩ := X499.virtualBack hx (y := (⟨"java/lang/String", "equals", "(Ljava/lang/Object;)Z"⟩ : MethodName)) (z := (⟨"java/lang/String", "equals", "(Ljava/lang/Object;)Z"⟩ : MethodName)) hown (mvT hZ (wd_71 hw)) (mvT hZ (wd_59 hw)) (notFace_of_selects (args := #[]) (mvT hZ (wd_61 hw))) (mvT hZ (wd_61 hw)) (mvT hZ (wd_60 hw)) (by decide) (backOf (W := 0) (rmeq110 l Z a0 hw [] s0 a2 t0 tq wz k0 kq x0 y0 h0 n0 Z0 E_s0 E_a2 F_value_s0 F_value_a2 F_coder_s0 F_coder_a2 V_t0 V_tq Old0 S_COMPACT_STRINGS hz ne_s0_a2 he0) hZ (wd_62 hw) (wd_2 hw) (by decide) (by decide)) q501a q501c (g := (mkF m 17 #[.val (.ref a1), .val (.ref a2), .val .null, .val (.int (0 : Int32))] [(.ref a2), (.ref s0)])) rfl (by rw [hml]; rfl) (Steps.refl _) (argsL := [(.ref a2)]) (rest := []) (lenOf pd__Ljava_lang_Object__Z rfl) rfl (by show 2 * 0 + _ ≤ _; exact Nat.le_of_eq rfl) (hb hby d14_17) (fun _ _ => ⟨rfl, e499, (by decide : 0 + 0 ≤ _), (by decide : 0 + 0 ≤ _)⟩)
  dsimp only [Pt.U, Pt.locs, Pt.cells, Pt.slots] at X501 l501 y501 z501 st501 hQ501
  rw [l501, y501, z501] at X501
  obtain ⟨rfl, N501q, e501⟩ := hQ501
  have N501 := Fr.app N0 N501q
  obtain ⟨T502, X502, e502, st502⟩ := getF X501 hx hZ hown (host := "") (Or.inl (wd_56 hw)) Via.refl e501 F_size_a1 (g := (mkF m 4 #[.val (.ref a1), .val (.ref a2), .val .null, .val (.int (1 : Int32))] [(.ref a1), (.int (1 : Int32))])) rfl rfl (hb hby d14_4)
  obtain ⟨T503, X503, e503, st503⟩ := getF X502 hx hZ hown (host := "") (Or.inl (wd_52 hw)) Via.refl e502 F_names_a1 (g := (mkF m 11 #[.val (.ref a1), .val (.ref a2), .val .null, .val (.int (1 : Int32))] [(.ref a1)])) rfl rfl (hb hby d14_11)
  obtain ⟨cl504, Ar504, q504, S504, N504n, H504, G504⟩ := id (V_nm)
  have hin504 : ¬ ((1 : Int32) < 0 ∨ cl504.slots.size ≤ ((1 : Int32)).toNatClampNeg) := inb_of S504 ⟨by decide, by decide⟩
  have hat504 : cl504.slots[((1 : Int32)).toNatClampNeg]? = some (.ref s1) := H504.at hin504 rfl
  obtain ⟨cq505, kq505, q505a, q505b, q505c⟩ := isOf hZ e503 (E_s1)
  obtain ⟨_, _, ⟨T505, L505, k505, n505⟩, -, X505, ⟨Lc505, hQ505, l505, y505, z505⟩, st505⟩ := X503.virtualBack hx (y := (⟨"java/lang/String", "equals", "(Ljava/lang/Object;)Z"⟩ : MethodName)) (z := (⟨"java/lang/String", "equals", "(Ljava/lang/Object;)Z"⟩ : MethodName)) hown (mvT hZ (wd_71 hw)) (mvT hZ (wd_59 hw)) (notFace_of_selects (args := #[]) (mvT hZ (wd_61 hw))) (mvT hZ (wd_61 hw)) (mvT hZ (wd_60 hw)) (by decide) (backOf (W := 0) (rmeq110 l Z a0 hw [] s1 a2 t1 tq wz k1 kq x1 y0 h0 n0 Z0 E_s1 E_a2 F_value_s1 F_value_a2 F_coder_s1 F_coder_a2 V_t1 V_tq Old0 S_COMPACT_STRINGS hz ne_s1_a2 he1) hZ (wd_62 hw) (wd_2 hw) (by decide) (by decide)) q505a q505c (g := (mkF m 17 #[.val (.ref a1), .val (.ref a2), .val .null, .val (.int (1 : Int32))] [(.ref a2), (.ref s1)])) rfl (by rw [hml]; rfl) (Steps.refl _) (argsL := [(.ref a2)]) (rest := []) (lenOf pd__Ljava_lang_Object__Z rfl) rfl (by show 2 * 0 + _ ≤ _; exact Nat.le_of_eq rfl) (hb hby d14_17) (fun _ _ => ⟨rfl, e503, (by decide : 0 + 0 ≤ _), (by decide : 0 + 0 ≤ _)⟩)
  dsimp only [Pt.U, Pt.locs, Pt.cells, Pt.slots] at X505 l505 y505 z505 st505 hQ505
  rw [l505, y505, z505] at X505
  obtain ⟨rfl, N505q, e505⟩ := hQ505
  have N505 := Fr.app N501 N505q
  obtain ⟨T506, X506, e506, st506⟩ := getF X505 hx hZ hown (host := "") (Or.inl (wd_56 hw)) Via.refl e505 F_size_a1 (g := (mkF m 4 #[.val (.ref a1), .val (.ref a2), .val .null, .val (.int (2 : Int32))] [(.ref a1), (.int (2 : Int32))])) rfl rfl (hb hby d14_4)
  obtain ⟨T507, X507, e507, st507⟩ := getF X506 hx hZ hown (host := "") (Or.inl (wd_52 hw)) Via.refl e506 F_names_a1 (g := (mkF m 11 #[.val (.ref a1), .val (.ref a2), .val .null, .val (.int (2 : Int32))] [(.ref a1)])) rfl rfl (hb hby d14_11)
  obtain ⟨cl508, Ar508, q508, S508, N508n, H508, G508⟩ := id (V_nm)
  have hin508 : ¬ ((2 : Int32) < 0 ∨ cl508.slots.size ≤ ((2 : Int32)).toNatClampNeg) := inb_of S508 ⟨by decide, by decide⟩
  have hat508 : cl508.slots[((2 : Int32)).toNatClampNeg]? = some (.ref s2) := H508.at hin508 rfl
  obtain ⟨cq509, kq509, q509a, q509b, q509c⟩ := isOf hZ e507 (E_s2)
  obtain ⟨_, _, ⟨T509, L509, k509, n509⟩, -, X509, ⟨Lc509, hQ509, l509, y509, z509⟩, st509⟩ := X507.virtualBack hx (y := (⟨"java/lang/String", "equals", "(Ljava/lang/Object;)Z"⟩ : MethodName)) (z := (⟨"java/lang/String", "equals", "(Ljava/lang/Object;)Z"⟩ : MethodName)) hown (mvT hZ (wd_71 hw)) (mvT hZ (wd_59 hw)) (notFace_of_selects (args := #[]) (mvT hZ (wd_61 hw))) (mvT hZ (wd_61 hw)) (mvT hZ (wd_60 hw)) (by decide) (backOf (W := 0) (rmeq11eq l Z a0 hw [] s2 a2 t2 tq wz k2 kq x2 y0 h0 n0 Z0 E_s2 E_a2 F_value_s2 F_value_a2 F_coder_s2 F_coder_a2 V_t2 V_tq Old0 S_COMPACT_STRINGS hz ne_s2_a2 he2) hZ (wd_62 hw) (wd_2 hw) (by decide) (by decide)) q509a q509c (g := (mkF m 17 #[.val (.ref a1), .val (.ref a2), .val .null, .val (.int (2 : Int32))] [(.ref a2), (.ref s2)])) rfl (by rw [hml]; rfl) (Steps.refl _) (argsL := [(.ref a2)]) (rest := []) (lenOf pd__Ljava_lang_Object__Z rfl) rfl (by show 2 * 0 + _ ≤ _; exact Nat.le_of_eq rfl) (hb hby d14_17) (fun _ _ => ⟨rfl, e507, (by decide : 0 + 0 ≤ _), (by decide : 0 + 0 ≤ _)⟩)
  dsimp only [Pt.U, Pt.locs, Pt.cells, Pt.slots] at X509 l509 y509 z509 st509 hQ509
  rw [l509, y509, z509] at X509
  obtain ⟨rfl, N509q, e509⟩ := hQ509
  have N509 := Fr.app N505 N509q
  obtain ⟨T510, X510, e510, st510⟩ := getF X509 hx hZ hown (host := "") (Or.inl (wd_54 hw)) Via.refl e509 F_values_a1 (g := (mkF m 24 #[.val (.ref a1), .val (.ref a2), .val .null, .val (.int (2 : Int32))] [(.ref a1)])) rfl rfl (hb hby d14_24)
  obtain ⟨cl511, Ar511, q511, S511, N511n, H511, G511⟩ := id (V_vl)
  have hin511 : ¬ ((2 : Int32) < 0 ∨ cl511.slots.size ≤ ((2 : Int32)).toNatClampNeg) := inb_of S511 ⟨by decide, by decide⟩
  have hat511 : cl511.slots[((2 : Int32)).toNatClampNeg]? = some (.ref v2) := H511.at hin511 rfl
  obtain ⟨fs, hr, hrun, hended, hW, hsame⟩ := X510.leave (v := some (.ref v2)) (fun h => by rw [Bd.returns] at h; cases h)
  refine ⟨_, _, pre0 _ ?_, hrun, hended, _, _, rfl, ?_, ⟨_, rfl⟩, hW, hsame.mono (by decide) (by decide)⟩
  · show Steps p.tables e below (s₁.setTop (mkF m 0 #[.val (.ref a1), .val (.ref a2), .val .null, .unset] [])) _
    refine XS.iconst X0.here hx rfl (hb hby d14_0) ?_
    refine XS.istoreN X0.here hx rfl (hb hby d14_1) rfl (l' := #[.val (.ref a1), .val (.ref a2), .val .null, .val (.int (0 : Int32))]) rfl ?_
    refine XS.iloadN X0.here hx rfl (hb hby d14_2) rfl ?_
    refine XS.aloadN X0.here hx rfl (hb hby d14_3) rfl rfl ?_
    refine st498 _ ?_
    refine XS.icmpNo X498.here hx rfl (hb hby d14_7) rfl (tlt (by decide)).2.1 ?_
    refine XS.aloadN X498.here hx rfl (hb hby d14_10) rfl rfl ?_
    refine st499 _ ?_
    refine XS.iloadN X499.here hx rfl (hb hby d14_14) rfl ?_
    refine X499.aaload hx (j := (0 : Int32)) (v := (.ref s0)) (by rw [e499]; exact Ar500.1) (State.isArrayOf_alike hZ.alike Ar500.2.1) rfl Ar500.2.2 hin500 hat500 (g := (mkF m 15 #[.val (.ref a1), .val (.ref a2), .val .null, .val (.int (0 : Int32))] [(.int (0 : Int32)), (.ref nm)])) rfl rfl (hb hby d14_15) _ ?_
    show Steps p.tables e below (T499.setTop (mkF m 16 #[.val (.ref a1), .val (.ref a2), .val .null, .val (.int (0 : Int32))] [(.ref s0)])) _
    refine XS.aloadN X499.here hx rfl (hb hby d14_16) rfl rfl ?_
    refine st501.trans ?_
    refine XS.ifYes X501.here hx rfl (pc0 := 20) (pc' := 30) rfl (hb hby d14_20) rfl ((if0 _ _).trans (teq (rfl : (0 : Int32) = (0 : Int32))).1) (by decide) (by decide) ?_
    refine XS.iinc X501.here hx rfl (hb hby d14_30) rfl (l' := #[.val (.ref a1), .val (.ref a2), .val .null, .val (.int (1 : Int32))]) rfl ?_
    refine XS.goto X501.here hx rfl (pc0 := 33) (pc' := 2) rfl (hb hby d14_33) (by decide) (by decide) ?_
    refine XS.iloadN X501.here hx rfl (hb hby d14_2) rfl ?_
    refine XS.aloadN X501.here hx rfl (hb hby d14_3) rfl rfl ?_
    refine st502 _ ?_
    refine XS.icmpNo X502.here hx rfl (hb hby d14_7) rfl (tlt (by decide)).2.1 ?_
    refine XS.aloadN X502.here hx rfl (hb hby d14_10) rfl rfl ?_
    show Steps p.tables e below (T502.setTop (mkF m 11 #[.val (.ref a1), .val (.ref a2), .val .null, .val (.int (1 : Int32))] [(.ref a1)])) _
    refine st503 _ ?_
    refine XS.iloadN X503.here hx rfl (hb hby d14_14) rfl ?_
    refine X503.aaload hx (j := (1 : Int32)) (v := (.ref s1)) (by rw [e503]; exact Ar504.1) (State.isArrayOf_alike hZ.alike Ar504.2.1) rfl Ar504.2.2 hin504 hat504 (g := (mkF m 15 #[.val (.ref a1), .val (.ref a2), .val .null, .val (.int (1 : Int32))] [(.int (1 : Int32)), (.ref nm)])) rfl rfl (hb hby d14_15) _ ?_
    refine XS.aloadN X503.here hx rfl (hb hby d14_16) rfl rfl ?_
    refine st505.trans ?_
    refine XS.ifYes X505.here hx rfl (pc0 := 20) (pc' := 30) rfl (hb hby d14_20) rfl ((if0 _ _).trans (teq (rfl : (0 : Int32) = (0 : Int32))).1) (by decide) (by decide) ?_
    refine XS.iinc X505.here hx rfl (hb hby d14_30) rfl (l' := #[.val (.ref a1), .val (.ref a2), .val .null, .val (.int (2 : Int32))]) rfl ?_
    refine XS.goto X505.here hx rfl (pc0 := 33) (pc' := 2) rfl (hb hby d14_33) (by decide) (by decide) ?_
    refine XS.iloadN X505.here hx rfl (hb hby d14_2) rfl ?_
    refine XS.aloadN X505.here hx rfl (hb hby d14_3) rfl rfl ?_
    show Steps p.tables e below (T505.setTop (mkF m 4 #[.val (.ref a1), .val (.ref a2), .val .null, .val (.int (2 : Int32))] [(.ref a1), (.int (2 : Int32))])) _
    refine st506 _ ?_
    refine XS.icmpNo X506.here hx rfl (hb hby d14_7) rfl (tlt (by decide)).2.1 ?_
    refine XS.aloadN X506.here hx rfl (hb hby d14_10) rfl rfl ?_
    refine st507 _ ?_
    refine XS.iloadN X507.here hx rfl (hb hby d14_14) rfl ?_
    refine X507.aaload hx (j := (2 : Int32)) (v := (.ref s2)) (by rw [e507]; exact Ar508.1) (State.isArrayOf_alike hZ.alike Ar508.2.1) rfl Ar508.2.2 hin508 hat508 (g := (mkF m 15 #[.val (.ref a1), .val (.ref a2), .val .null, .val (.int (2 : Int32))] [(.int (2 : Int32)), (.ref nm)])) rfl rfl (hb hby d14_15) _ ?_
    refine XS.aloadN X507.here hx rfl (hb hby d14_16) rfl rfl ?_
    refine st509.trans ?_
    refine XS.ifNo X509.here hx rfl (hb hby d14_20) rfl ((if0 _ _).trans (feq (by decide)).1) ?_
    refine XS.aloadN X509.here hx rfl (hb hby d14_23) rfl rfl ?_
    show Steps p.tables e below (T509.setTop (mkF m 24 #[.val (.ref a1), .val (.ref a2), .val .null, .val (.int (2 : Int32))] [(.ref a1)])) _
    refine st510 _ ?_
    refine XS.iloadN X510.here hx rfl (hb hby d14_27) rfl ?_
    refine X510.aaload hx (j := (2 : Int32)) (v := (.ref v2)) (by rw [e510]; exact Ar511.1) (State.isArrayOf_alike hZ.alike Ar511.2.1) rfl Ar511.2.2 hin511 hat511 (g := (mkF m 28 #[.val (.ref a1), .val (.ref a2), .val .null, .val (.int (2 : Int32))] [(.int (2 : Int32)), (.ref vl)])) rfl rfl (hb hby d14_28) _ ?_
    exact X510.areturnOut hx rfl Bd.returns rfl (hb hby d14_29) hr
  · show Q_rmg321n Z a1 a2 nm vl kn kv s0 s1 s2 v0 v1 v2 t0 t1 t2 k0 k1 k2 x0 x1 x2 y0 tq kq wz h0 n0 _ T510.heap _
    rw [e510]
    exact ⟨rfl, N509, rfl⟩
def Q_rmg3x1n (Z : State) (a1 : Addr) (a2 : Addr) (nm : Addr) (vl : Addr) (kn : ClassId) (kv : ClassId) (s0 : Addr) (s1 : Addr) (s2 : Addr) (v0 : Addr) (v1 : Addr) (v2 : Addr) (t0 : Addr) (t1 : Addr) (t2 : Addr) (k0 : ClassId) (k1 : ClassId) (k2 : ClassId) (x0 : Int32) (x1 : Int32) (x2 : Int32) (y0 : Int32) (tq : Addr) (kq : ClassId) (wz : Int32) (h0 : Heap) (n0 : Nat) (v : Option Value) (h : Heap) (L : List Loc) : Prop := v = some .null ∧ Fr n0 L ∧ h = h0
set_option maxRecDepth 65536 in
set_option maxHeartbeats 40000000 in
theorem rmg3x1n (l : Launch) (Z : State) (a0 : Array Value) (hw : ∀ d ∈ tables_1, d.before a0 Z = true) (ws : List Jvm.Cond) (a1 : Addr) (a2 : Addr) (nm : Addr) (vl : Addr) (kn : ClassId) (kv : ClassId) (s0 : Addr) (s1 : Addr) (s2 : Addr) (v0 : Addr) (v1 : Addr) (v2 : Addr) (t0 : Addr) (t1 : Addr) (t2 : Addr) (k0 : ClassId) (k1 : ClassId) (k2 : ClassId) (x0 : Int32) (x1 : Int32) (x2 : Int32) (y0 : Int32) (tq : Addr) (kq : ClassId) (wz : Int32) (h0 : Heap) (n0 : Nat) (Z0 : n0 ≤ h0.size) (F_names_a1 : Fld Z h0 a1 "com/example/kawi/kawi/xml/Attributes" "names" "[Ljava/lang/String;" (.ref nm)) (F_values_a1 : Fld Z h0 a1 "com/example/kawi/kawi/xml/Attributes" "values" "[Ljava/lang/String;" (.ref vl)) (F_size_a1 : Fld Z h0 a1 "com/example/kawi/kawi/xml/Attributes" "size" "I" (.int (3 : Int32))) (V_nm : Arv Z h0 nm kn (.object "java/lang/String") (3 : Int32) [(.ref s0), (.ref s1), (.ref s2)] .null) (V_vl : Arv Z h0 vl kv (.object "java/lang/String") (3 : Int32) [(.ref v0), (.ref v1), (.ref v2)] .null) (E_s0 : Exa Z h0 s0 "java/lang/String") (F_value_s0 : Fld Z h0 s0 "java/lang/String" "value" "[B" (.ref t0)) (F_coder_s0 : Fld Z h0 s0 "java/lang/String" "coder" "B" (.int (0 : Int32))) (V_t0 : Arv Z h0 t0 k0 .byte (1 : Int32) [(.int x0)] (.int (0 : Int32))) (ne_s0_a2 : s0 ≠ a2) (E_s1 : Exa Z h0 s1 "java/lang/String") (F_value_s1 : Fld Z h0 s1 "java/lang/String" "value" "[B" (.ref t1)) (F_coder_s1 : Fld Z h0 s1 "java/lang/String" "coder" "B" (.int (0 : Int32))) (V_t1 : Arv Z h0 t1 k1 .byte (1 : Int32) [(.int x1)] (.int (0 : Int32))) (ne_s1_a2 : s1 ≠ a2) (E_s2 : Exa Z h0 s2 "java/lang/String") (F_value_s2 : Fld Z h0 s2 "java/lang/String" "value" "[B" (.ref t2)) (F_coder_s2 : Fld Z h0 s2 "java/lang/String" "coder" "B" (.int (0 : Int32))) (V_t2 : Arv Z h0 t2 k2 .byte (1 : Int32) [(.int x2)] (.int (0 : Int32))) (ne_s2_a2 : s2 ≠ a2) (E_a2 : Exa Z h0 a2 "java/lang/String") (F_value_a2 : Fld Z h0 a2 "java/lang/String" "value" "[B" (.ref tq)) (F_coder_a2 : Fld Z h0 a2 "java/lang/String" "coder" "B" (.int (0 : Int32))) (V_tq : Arv Z h0 tq kq .byte (1 : Int32) [(.int y0)] (.int (0 : Int32))) (Old0 : Old Z n0 h0) (S_COMPACT_STRINGS : Sta Z Z.heap "java/lang/String" "COMPACT_STRINGS" "Z" (.int wz)) (hz : ¬ (wz = (0 : Int32))) (he0 : ¬ (x0 = y0)) (he1 : ¬ (x1 = y0)) (he2 : ¬ (x2 = y0)) :
    MetFree l (⟨"com/example/kawi/kawi/xml/Attributes", "getOrDefault", "(Ljava/lang/String;Ljava/lang/String;)Ljava/lang/String;"⟩ : MethodName) (head1 (Jvm.Cond.code (⟨"com/example/kawi/kawi/xml/Attributes", "getOrDefault", "(Ljava/lang/String;Ljava/lang/String;)Ljava/lang/String;"⟩ : MethodName) prog_112_method_5_code 4 (some (.object "java/lang/String")) :: ws) ({ frames := 2, cells := 0, slots := 0, locals := 28 } : Room)) (fun a U => a = #[(.ref a1), (.ref a2), .null] ∧ Z.Warmed39 U.vm ∧ U.heap = h0) (fun _ _ _ _ _ => True) (fun _ U o U' => ∃ v L, o = .returned v ∧ Q_rmg3x1n Z a1 a2 nm vl kn kv s0 s1 s2 v0 v1 v2 t0 t1 t2 k0 k1 k2 x0 x1 x2 y0 tq kq wz h0 n0 v U'.heap L ∧ FrameEnd U o U' L ({ frames := 2, cells := 0, slots := 0, locals := 28 } : Room).cells ({ frames := 2, cells := 0, slots := 0, locals := 28 } : Room).slots) := by
  refine MetFree.of_bodySF (plainFor_of_name pn_com_example_kawi_kawi_xml_Attributes) hisR ?_
  intro p e s m args below meth c s₁ Bd hml0 hP hK
  obtain ⟨rfl, hZ, hh⟩ := hP
  have hx := Bd.exec
  have hby := Bd.bytes
  have hml : c.maxLocals = 4 := hml0
  have hown : s.vm.findClass "com/example/kawi/kawi/xml/Attributes" = some m.cls := findClass_of_methodNamed Bd.named
  have hnm := (name_of_methodNamed Bd.named Bd.method).1
  have X0 : Stand p l e ({ frames := 2, cells := 0, slots := 0, locals := 28 } : Room) s m #[(.ref a1), (.ref a2), .null] below meth c s₁ [] 0 0 := Stand.of_body Bd
  have e0 : s₁.heap = h0 := by rw [← hh, Bd.state]; rfl
  have N0 := Fr.nil n0
  have pre0 : ∀ t, Steps p.tables e below (s₁.setTop (mkF m 0 #[.val (.ref a1), .val (.ref a2), .val .null, .unset] [])) t → Steps p.tables e below (s₁.setTop (entryFrame m #[(.ref a1), (.ref a2), .null] 4)) t := fun t k => castTop (efn_14 m a1 a2) k
  obtain ⟨T514, X514, e514, st514⟩ := getF X0 hx hZ hown (host := "") (Or.inl (wd_56 hw)) Via.refl e0 F_size_a1 (g := (mkF m 4 #[.val (.ref a1), .val (.ref a2), .val .null, .val (.int (0 : Int32))] [(.ref a1), (.int (0 : Int32))])) rfl rfl (hb hby d14_4)
  obtain ⟨T515, X515, e515, st515⟩ := getF X514 hx hZ hown (host := "") (Or.inl (wd_52 hw)) Via.refl e514 F_names_a1 (g := (mkF m 11 #[.val (.ref a1), .val (.ref a2), .val .null, .val (.int (0 : Int32))] [(.ref a1)])) rfl rfl (hb hby d14_11)
  obtain ⟨cl516, Ar516, q516, S516, N516n, H516, G516⟩ := id (V_nm)
  have hin516 : ¬ ((0 : Int32) < 0 ∨ cl516.slots.size ≤ ((0 : Int32)).toNatClampNeg) := inb_of S516 ⟨by decide, by decide⟩
  have hat516 : cl516.slots[((0 : Int32)).toNatClampNeg]? = some (.ref s0) := H516.at hin516 rfl
  obtain ⟨cq517, kq517, q517a, q517b, q517c⟩ := isOf hZ e515 (E_s0)
  obtain ⟨_, _, ⟨T517, L517, k517, n517⟩, -, X517, ⟨Lc517, hQ517, l517, y517, z517⟩, st517⟩ := X515.virtualBack hx (y := (⟨"java/lang/String", "equals", "(Ljava/lang/Object;)Z"⟩ : MethodName)) (z := (⟨"java/lang/String", "equals", "(Ljava/lang/Object;)Z"⟩ : MethodName)) hown (mvT hZ (wd_71 hw)) (mvT hZ (wd_59 hw)) (notFace_of_selects (args := #[]) (mvT hZ (wd_61 hw))) (mvT hZ (wd_61 hw)) (mvT hZ (wd_60 hw)) (by decide) (backOf (W := 0) (rmeq110 l Z a0 hw [] s0 a2 t0 tq wz k0 kq x0 y0 h0 n0 Z0 E_s0 E_a2 F_value_s0 F_value_a2 F_coder_s0 F_coder_a2 V_t0 V_tq Old0 S_COMPACT_STRINGS hz ne_s0_a2 he0) hZ (wd_62 hw) (wd_2 hw) (by decide) (by decide)) q517a q517c (g := (mkF m 17 #[.val (.ref a1), .val (.ref a2), .val .null, .val (.int (0 : Int32))] [(.ref a2), (.ref s0)])) rfl (by rw [hml]; rfl) (Steps.refl _) (argsL := [(.ref a2)]) (rest := []) (lenOf pd__Ljava_lang_Object__Z rfl) rfl (by show 2 * 0 + _ ≤ _; exact Nat.le_of_eq rfl) (hb hby d14_17) (fun _ _ => ⟨rfl, e515, (by decide : 0 + 0 ≤ _), (by decide : 0 + 0 ≤ _)⟩)
  dsimp only [Pt.U, Pt.locs, Pt.cells, Pt.slots] at X517 l517 y517 z517 st517 hQ517
  rw [l517, y517, z517] at X517
  obtain ⟨rfl, N517q, e517⟩ := hQ517
  have N517 := Fr.app N0 N517q
  obtain ⟨T518, X518, e518, st518⟩ := getF X517 hx hZ hown (host := "") (Or.inl (wd_56 hw)) Via.refl e517 F_size_a1 (g := (mkF m 4 #[.val (.ref a1), .val (.ref a2), .val .null, .val (.int (1 : Int32))] [(.ref a1), (.int (1 : Int32))])) rfl rfl (hb hby d14_4)
  obtain ⟨T519, X519, e519, st519⟩ := getF X518 hx hZ hown (host := "") (Or.inl (wd_52 hw)) Via.refl e518 F_names_a1 (g := (mkF m 11 #[.val (.ref a1), .val (.ref a2), .val .null, .val (.int (1 : Int32))] [(.ref a1)])) rfl rfl (hb hby d14_11)
  obtain ⟨cl520, Ar520, q520, S520, N520n, H520, G520⟩ := id (V_nm)
  have hin520 : ¬ ((1 : Int32) < 0 ∨ cl520.slots.size ≤ ((1 : Int32)).toNatClampNeg) := inb_of S520 ⟨by decide, by decide⟩
  have hat520 : cl520.slots[((1 : Int32)).toNatClampNeg]? = some (.ref s1) := H520.at hin520 rfl
  obtain ⟨cq521, kq521, q521a, q521b, q521c⟩ := isOf hZ e519 (E_s1)
  obtain ⟨_, _, ⟨T521, L521, k521, n521⟩, -, X521, ⟨Lc521, hQ521, l521, y521, z521⟩, st521⟩ := X519.virtualBack hx (y := (⟨"java/lang/String", "equals", "(Ljava/lang/Object;)Z"⟩ : MethodName)) (z := (⟨"java/lang/String", "equals", "(Ljava/lang/Object;)Z"⟩ : MethodName)) hown (mvT hZ (wd_71 hw)) (mvT hZ (wd_59 hw)) (notFace_of_selects (args := #[]) (mvT hZ (wd_61 hw))) (mvT hZ (wd_61 hw)) (mvT hZ (wd_60 hw)) (by decide) (backOf (W := 0) (rmeq110 l Z a0 hw [] s1 a2 t1 tq wz k1 kq x1 y0 h0 n0 Z0 E_s1 E_a2 F_value_s1 F_value_a2 F_coder_s1 F_coder_a2 V_t1 V_tq Old0 S_COMPACT_STRINGS hz ne_s1_a2 he1) hZ (wd_62 hw) (wd_2 hw) (by decide) (by decide)) q521a q521c (g := (mkF m 17 #[.val (.ref a1), .val (.ref a2), .val .null, .val (.int (1 : Int32))] [(.ref a2), (.ref s1)])) rfl (by rw [hml]; rfl) (Steps.refl _) (argsL := [(.ref a2)]) (rest := []) (lenOf pd__Ljava_lang_Object__Z rfl) rfl (by show 2 * 0 + _ ≤ _; exact Nat.le_of_eq rfl) (hb hby d14_17) (fun _ _ => ⟨rfl, e519, (by decide : 0 + 0 ≤ _), (by decide : 0 + 0 ≤ _)⟩)
  dsimp only [Pt.U, Pt.locs, Pt.cells, Pt.slots] at X521 l521 y521 z521 st521 hQ521
  rw [l521, y521, z521] at X521
  obtain ⟨rfl, N521q, e521⟩ := hQ521
  have N521 := Fr.app N517 N521q
  obtain ⟨T522, X522, e522, st522⟩ := getF X521 hx hZ hown (host := "") (Or.inl (wd_56 hw)) Via.refl e521 F_size_a1 (g := (mkF m 4 #[.val (.ref a1), .val (.ref a2), .val .null, .val (.int (2 : Int32))] [(.ref a1), (.int (2 : Int32))])) rfl rfl (hb hby d14_4)
  obtain ⟨T523, X523, e523, st523⟩ := getF X522 hx hZ hown (host := "") (Or.inl (wd_52 hw)) Via.refl e522 F_names_a1 (g := (mkF m 11 #[.val (.ref a1), .val (.ref a2), .val .null, .val (.int (2 : Int32))] [(.ref a1)])) rfl rfl (hb hby d14_11)
  obtain ⟨cl524, Ar524, q524, S524, N524n, H524, G524⟩ := id (V_nm)
  have hin524 : ¬ ((2 : Int32) < 0 ∨ cl524.slots.size ≤ ((2 : Int32)).toNatClampNeg) := inb_of S524 ⟨by decide, by decide⟩
  have hat524 : cl524.slots[((2 : Int32)).toNatClampNeg]? = some (.ref s2) := H524.at hin524 rfl
  obtain ⟨cq525, kq525, q525a, q525b, q525c⟩ := isOf hZ e523 (E_s2)
  obtain ⟨_, _, ⟨T525, L525, k525, n525⟩, -, X525, ⟨Lc525, hQ525, l525, y525, z525⟩, st525⟩ := X523.virtualBack hx (y := (⟨"java/lang/String", "equals", "(Ljava/lang/Object;)Z"⟩ : MethodName)) (z := (⟨"java/lang/String", "equals", "(Ljava/lang/Object;)Z"⟩ : MethodName)) hown (mvT hZ (wd_71 hw)) (mvT hZ (wd_59 hw)) (notFace_of_selects (args := #[]) (mvT hZ (wd_61 hw))) (mvT hZ (wd_61 hw)) (mvT hZ (wd_60 hw)) (by decide) (backOf (W := 0) (rmeq110 l Z a0 hw [] s2 a2 t2 tq wz k2 kq x2 y0 h0 n0 Z0 E_s2 E_a2 F_value_s2 F_value_a2 F_coder_s2 F_coder_a2 V_t2 V_tq Old0 S_COMPACT_STRINGS hz ne_s2_a2 he2) hZ (wd_62 hw) (wd_2 hw) (by decide) (by decide)) q525a q525c (g := (mkF m 17 #[.val (.ref a1), .val (.ref a2), .val .null, .val (.int (2 : Int32))] [(.ref a2), (.ref s2)])) rfl (by rw [hml]; rfl) (Steps.refl _) (argsL := [(.ref a2)]) (rest := []) (lenOf pd__Ljava_lang_Object__Z rfl) rfl (by show 2 * 0 + _ ≤ _; exact Nat.le_of_eq rfl) (hb hby d14_17) (fun _ _ => ⟨rfl, e523, (by decide : 0 + 0 ≤ _), (by decide : 0 + 0 ≤ _)⟩)
  dsimp only [Pt.U, Pt.locs, Pt.cells, Pt.slots] at X525 l525 y525 z525 st525 hQ525
  rw [l525, y525, z525] at X525
  obtain ⟨rfl, N525q, e525⟩ := hQ525
  have N525 := Fr.app N521 N525q
  obtain ⟨T526, X526, e526, st526⟩ := getF X525 hx hZ hown (host := "") (Or.inl (wd_56 hw)) Via.refl e525 F_size_a1 (g := (mkF m 4 #[.val (.ref a1), .val (.ref a2), .val .null, .val (.int (3 : Int32))] [(.ref a1), (.int (3 : Int32))])) rfl rfl (hb hby d14_4)
  obtain ⟨fs, hr, hrun, hended, hW, hsame⟩ := X526.leave (v := some .null) (fun h => by rw [Bd.returns] at h; cases h)
  refine ⟨_, _, pre0 _ ?_, hrun, hended, _, _, rfl, ?_, ⟨_, rfl⟩, hW, hsame.mono (by decide) (by decide)⟩
  · show Steps p.tables e below (s₁.setTop (mkF m 0 #[.val (.ref a1), .val (.ref a2), .val .null, .unset] [])) _
    refine XS.iconst X0.here hx rfl (hb hby d14_0) ?_
    refine XS.istoreN X0.here hx rfl (hb hby d14_1) rfl (l' := #[.val (.ref a1), .val (.ref a2), .val .null, .val (.int (0 : Int32))]) rfl ?_
    refine XS.iloadN X0.here hx rfl (hb hby d14_2) rfl ?_
    refine XS.aloadN X0.here hx rfl (hb hby d14_3) rfl rfl ?_
    refine st514 _ ?_
    refine XS.icmpNo X514.here hx rfl (hb hby d14_7) rfl (tlt (by decide)).2.1 ?_
    refine XS.aloadN X514.here hx rfl (hb hby d14_10) rfl rfl ?_
    refine st515 _ ?_
    refine XS.iloadN X515.here hx rfl (hb hby d14_14) rfl ?_
    refine X515.aaload hx (j := (0 : Int32)) (v := (.ref s0)) (by rw [e515]; exact Ar516.1) (State.isArrayOf_alike hZ.alike Ar516.2.1) rfl Ar516.2.2 hin516 hat516 (g := (mkF m 15 #[.val (.ref a1), .val (.ref a2), .val .null, .val (.int (0 : Int32))] [(.int (0 : Int32)), (.ref nm)])) rfl rfl (hb hby d14_15) _ ?_
    show Steps p.tables e below (T515.setTop (mkF m 16 #[.val (.ref a1), .val (.ref a2), .val .null, .val (.int (0 : Int32))] [(.ref s0)])) _
    refine XS.aloadN X515.here hx rfl (hb hby d14_16) rfl rfl ?_
    refine st517.trans ?_
    refine XS.ifYes X517.here hx rfl (pc0 := 20) (pc' := 30) rfl (hb hby d14_20) rfl ((if0 _ _).trans (teq (rfl : (0 : Int32) = (0 : Int32))).1) (by decide) (by decide) ?_
    refine XS.iinc X517.here hx rfl (hb hby d14_30) rfl (l' := #[.val (.ref a1), .val (.ref a2), .val .null, .val (.int (1 : Int32))]) rfl ?_
    refine XS.goto X517.here hx rfl (pc0 := 33) (pc' := 2) rfl (hb hby d14_33) (by decide) (by decide) ?_
    refine XS.iloadN X517.here hx rfl (hb hby d14_2) rfl ?_
    refine XS.aloadN X517.here hx rfl (hb hby d14_3) rfl rfl ?_
    refine st518 _ ?_
    refine XS.icmpNo X518.here hx rfl (hb hby d14_7) rfl (tlt (by decide)).2.1 ?_
    refine XS.aloadN X518.here hx rfl (hb hby d14_10) rfl rfl ?_
    show Steps p.tables e below (T518.setTop (mkF m 11 #[.val (.ref a1), .val (.ref a2), .val .null, .val (.int (1 : Int32))] [(.ref a1)])) _
    refine st519 _ ?_
    refine XS.iloadN X519.here hx rfl (hb hby d14_14) rfl ?_
    refine X519.aaload hx (j := (1 : Int32)) (v := (.ref s1)) (by rw [e519]; exact Ar520.1) (State.isArrayOf_alike hZ.alike Ar520.2.1) rfl Ar520.2.2 hin520 hat520 (g := (mkF m 15 #[.val (.ref a1), .val (.ref a2), .val .null, .val (.int (1 : Int32))] [(.int (1 : Int32)), (.ref nm)])) rfl rfl (hb hby d14_15) _ ?_
    refine XS.aloadN X519.here hx rfl (hb hby d14_16) rfl rfl ?_
    refine st521.trans ?_
    refine XS.ifYes X521.here hx rfl (pc0 := 20) (pc' := 30) rfl (hb hby d14_20) rfl ((if0 _ _).trans (teq (rfl : (0 : Int32) = (0 : Int32))).1) (by decide) (by decide) ?_
    refine XS.iinc X521.here hx rfl (hb hby d14_30) rfl (l' := #[.val (.ref a1), .val (.ref a2), .val .null, .val (.int (2 : Int32))]) rfl ?_
    refine XS.goto X521.here hx rfl (pc0 := 33) (pc' := 2) rfl (hb hby d14_33) (by decide) (by decide) ?_
    refine XS.iloadN X521.here hx rfl (hb hby d14_2) rfl ?_
    refine XS.aloadN X521.here hx rfl (hb hby d14_3) rfl rfl ?_
    show Steps p.tables e below (T521.setTop (mkF m 4 #[.val (.ref a1), .val (.ref a2), .val .null, .val (.int (2 : Int32))] [(.ref a1), (.int (2 : Int32))])) _
    refine st522 _ ?_
    refine XS.icmpNo X522.here hx rfl (hb hby d14_7) rfl (tlt (by decide)).2.1 ?_
    refine XS.aloadN X522.here hx rfl (hb hby d14_10) rfl rfl ?_
    refine st523 _ ?_
    refine XS.iloadN X523.here hx rfl (hb hby d14_14) rfl ?_
    refine X523.aaload hx (j := (2 : Int32)) (v := (.ref s2)) (by rw [e523]; exact Ar524.1) (State.isArrayOf_alike hZ.alike Ar524.2.1) rfl Ar524.2.2 hin524 hat524 (g := (mkF m 15 #[.val (.ref a1), .val (.ref a2), .val .null, .val (.int (2 : Int32))] [(.int (2 : Int32)), (.ref nm)])) rfl rfl (hb hby d14_15) _ ?_
    refine XS.aloadN X523.here hx rfl (hb hby d14_16) rfl rfl ?_
    refine st525.trans ?_
    refine XS.ifYes X525.here hx rfl (pc0 := 20) (pc' := 30) rfl (hb hby d14_20) rfl ((if0 _ _).trans (teq (rfl : (0 : Int32) = (0 : Int32))).1) (by decide) (by decide) ?_
    refine XS.iinc X525.here hx rfl (hb hby d14_30) rfl (l' := #[.val (.ref a1), .val (.ref a2), .val .null, .val (.int (3 : Int32))]) rfl ?_
    show Steps p.tables e below (T525.setTop (mkF m 33 #[.val (.ref a1), .val (.ref a2), .val .null, .val (.int (3 : Int32))] [])) _
    refine XS.goto X525.here hx rfl (pc0 := 33) (pc' := 2) rfl (hb hby d14_33) (by decide) (by decide) ?_
    refine XS.iloadN X525.here hx rfl (hb hby d14_2) rfl ?_
    refine XS.aloadN X525.here hx rfl (hb hby d14_3) rfl rfl ?_
    refine st526 _ ?_
    refine XS.icmpYes X526.here hx rfl (pc0 := 7) (pc' := 36) rfl (hb hby d14_7) rfl (flt (by decide)).2.1 (by decide) (by decide) ?_
    refine XS.aloadN X526.here hx rfl (hb hby d14_36) rfl rfl ?_
    exact X526.areturnOut hx rfl Bd.returns rfl (hb hby d14_37) hr
  · show Q_rmg3x1n Z a1 a2 nm vl kn kv s0 s1 s2 v0 v1 v2 t0 t1 t2 k0 k1 k2 x0 x1 x2 y0 tq kq wz h0 n0 _ T526.heap _
    rw [e526]
    exact ⟨rfl, N525, rfl⟩
def Q_rmg0x2 (Z : State) (a1 : Addr) (a2 : Addr) (a3 : Addr) (nm : Addr) (vl : Addr) (kn : ClassId) (kv : ClassId) (s0 : Addr) (s1 : Addr) (s2 : Addr) (v0 : Addr) (v1 : Addr) (v2 : Addr) (y0 : Int32) (y1 : Int32) (tq : Addr) (kq : ClassId) (wz : Int32) (h0 : Heap) (n0 : Nat) (v : Option Value) (h : Heap) (L : List Loc) : Prop := v = some (.ref a3) ∧ Fr n0 L ∧ h = h0
set_option maxRecDepth 65536 in
set_option maxHeartbeats 40000000 in
theorem rmg0x2 (l : Launch) (Z : State) (a0 : Array Value) (hw : ∀ d ∈ tables_1, d.before a0 Z = true) (ws : List Jvm.Cond) (a1 : Addr) (a2 : Addr) (a3 : Addr) (nm : Addr) (vl : Addr) (kn : ClassId) (kv : ClassId) (s0 : Addr) (s1 : Addr) (s2 : Addr) (v0 : Addr) (v1 : Addr) (v2 : Addr) (y0 : Int32) (y1 : Int32) (tq : Addr) (kq : ClassId) (wz : Int32) (h0 : Heap) (n0 : Nat) (Z0 : n0 ≤ h0.size) (F_names_a1 : Fld Z h0 a1 "com/example/kawi/kawi/xml/Attributes" "names" "[Ljava/lang/String;" (.ref nm)) (F_values_a1 : Fld Z h0 a1 "com/example/kawi/kawi/xml/Attributes" "values" "[Ljava/lang/String;" (.ref vl)) (F_size_a1 : Fld Z h0 a1 "com/example/kawi/kawi/xml/Attributes" "size" "I" (.int (0 : Int32))) (V_nm : Arv Z h0 nm kn (.object "java/lang/String") (3 : Int32) [(.ref s0), (.ref s1), (.ref s2)] .null) (V_vl : Arv Z h0 vl kv (.object "java/lang/String") (3 : Int32) [(.ref v0), (.ref v1), (.ref v2)] .null) (E_a2 : Exa Z h0 a2 "java/lang/String") (F_value_a2 : Fld Z h0 a2 "java/lang/String" "value" "[B" (.ref tq)) (F_coder_a2 : Fld Z h0 a2 "java/lang/String" "coder" "B" (.int (0 : Int32))) (V_tq : Arv Z h0 tq kq .byte (2 : Int32) [(.int y0), (.int y1)] (.int (0 : Int32))) (Old0 : Old Z n0 h0) (S_COMPACT_STRINGS : Sta Z Z.heap "java/lang/String" "COMPACT_STRINGS" "Z" (.int wz)) (hz : ¬ (wz = (0 : Int32))) :
    MetFree l (⟨"com/example/kawi/kawi/xml/Attributes", "getOrDefault", "(Ljava/lang/String;Ljava/lang/String;)Ljava/lang/String;"⟩ : MethodName) (head1 (Jvm.Cond.code (⟨"com/example/kawi/kawi/xml/Attributes", "getOrDefault", "(Ljava/lang/String;Ljava/lang/String;)Ljava/lang/String;"⟩ : MethodName) prog_112_method_5_code 4 (some (.object "java/lang/String")) :: ws) ({ frames := 0, cells := 0, slots := 0, locals := 0 } : Room)) (fun a U => a = #[(.ref a1), (.ref a2), (.ref a3)] ∧ Z.Warmed39 U.vm ∧ U.heap = h0) (fun _ _ _ _ _ => True) (fun _ U o U' => ∃ v L, o = .returned v ∧ Q_rmg0x2 Z a1 a2 a3 nm vl kn kv s0 s1 s2 v0 v1 v2 y0 y1 tq kq wz h0 n0 v U'.heap L ∧ FrameEnd U o U' L ({ frames := 0, cells := 0, slots := 0, locals := 0 } : Room).cells ({ frames := 0, cells := 0, slots := 0, locals := 0 } : Room).slots) := by
  refine MetFree.of_bodySF (plainFor_of_name pn_com_example_kawi_kawi_xml_Attributes) hisR ?_
  intro p e s m args below meth c s₁ Bd hml0 hP hK
  obtain ⟨rfl, hZ, hh⟩ := hP
  have hx := Bd.exec
  have hby := Bd.bytes
  have hml : c.maxLocals = 4 := hml0
  have hown : s.vm.findClass "com/example/kawi/kawi/xml/Attributes" = some m.cls := findClass_of_methodNamed Bd.named
  have hnm := (name_of_methodNamed Bd.named Bd.method).1
  have X0 : Stand p l e ({ frames := 0, cells := 0, slots := 0, locals := 0 } : Room) s m #[(.ref a1), (.ref a2), (.ref a3)] below meth c s₁ [] 0 0 := Stand.of_body Bd
  have e0 : s₁.heap = h0 := by rw [← hh, Bd.state]; rfl
  have N0 := Fr.nil n0
  have pre0 : ∀ t, Steps p.tables e below (s₁.setTop (mkF m 0 #[.val (.ref a1), .val (.ref a2), .val (.ref a3), .unset] [])) t → Steps p.tables e below (s₁.setTop (entryFrame m #[(.ref a1), (.ref a2), (.ref a3)] 4)) t := fun t k => castTop (ef_14 m a1 a2 a3) k
  obtain ⟨T594, X594, e594, st594⟩ := getF X0 hx hZ hown (host := "") (Or.inl (wd_56 hw)) Via.refl e0 F_size_a1 (g := (mkF m 4 #[.val (.ref a1), .val (.ref a2), .val (.ref a3), .val (.int (0 : Int32))] [(.ref a1), (.int (0 : Int32))])) rfl rfl (hb hby d14_4)
  obtain ⟨fs, hr, hrun, hended, hW, hsame⟩ := X594.leave (v := some (.ref a3)) (fun h => by rw [Bd.returns] at h; cases h)
  refine ⟨_, _, pre0 _ ?_, hrun, hended, _, _, rfl, ?_, ⟨_, rfl⟩, hW, hsame.mono (by decide) (by decide)⟩
  · show Steps p.tables e below (s₁.setTop (mkF m 0 #[.val (.ref a1), .val (.ref a2), .val (.ref a3), .unset] [])) _
    refine XS.iconst X0.here hx rfl (hb hby d14_0) ?_
    refine XS.istoreN X0.here hx rfl (hb hby d14_1) rfl (l' := #[.val (.ref a1), .val (.ref a2), .val (.ref a3), .val (.int (0 : Int32))]) rfl ?_
    refine XS.iloadN X0.here hx rfl (hb hby d14_2) rfl ?_
    refine XS.aloadN X0.here hx rfl (hb hby d14_3) rfl rfl ?_
    refine st594 _ ?_
    refine XS.icmpYes X594.here hx rfl (pc0 := 7) (pc' := 36) rfl (hb hby d14_7) rfl (flt (by decide)).2.1 (by decide) (by decide) ?_
    refine XS.aloadN X594.here hx rfl (hb hby d14_36) rfl rfl ?_
    exact X594.areturnOut hx rfl Bd.returns rfl (hb hby d14_37) hr
  · show Q_rmg0x2 Z a1 a2 a3 nm vl kn kv s0 s1 s2 v0 v1 v2 y0 y1 tq kq wz h0 n0 _ T594.heap _
    rw [e594]
    exact ⟨rfl, N0, rfl⟩
theorem d13_34 : decode jdk_43_method_13_code 34 = .ok (.iconst 0, 1) := by decide +kernel
theorem d13_35 : decode jdk_43_method_13_code 35 = .ok (.ireturn, 1) := by decide +kernel
def Q_rmle12 (Z : State) (a1 : Addr) (a2 : Addr) (k1 : ClassId) (k2 : ClassId) (x0 : Int32) (y0 : Int32) (y1 : Int32) (h0 : Heap) (n0 : Nat) (v : Option Value) (h : Heap) (L : List Loc) : Prop := v = some (.int (0 : Int32)) ∧ Fr n0 L ∧ h = h0
set_option maxRecDepth 65536 in
set_option maxHeartbeats 40000000 in
theorem rmle12 (l : Launch) (Z : State) (a0 : Array Value) (hw : ∀ d ∈ tables_1, d.before a0 Z = true) (ws : List Jvm.Cond) (a1 : Addr) (a2 : Addr) (k1 : ClassId) (k2 : ClassId) (x0 : Int32) (y0 : Int32) (y1 : Int32) (h0 : Heap) (n0 : Nat) (Z0 : n0 ≤ h0.size) (V_a1 : Arv Z h0 a1 k1 .byte (1 : Int32) [(.int x0)] (.int (0 : Int32))) (V_a2 : Arv Z h0 a2 k2 .byte (2 : Int32) [(.int y0), (.int y1)] (.int (0 : Int32))) :
    MetFree l (⟨"java/lang/StringLatin1", "equals", "([B[B)Z"⟩ : MethodName) (head1 (Jvm.Cond.code (⟨"java/lang/StringLatin1", "equals", "([B[B)Z"⟩ : MethodName) jdk_43_method_13_code 3 (some .boolean) :: ws) ({ frames := 0, cells := 0, slots := 0, locals := 0 } : Room)) (fun a U => a = #[(.ref a1), (.ref a2)] ∧ Z.Warmed39 U.vm ∧ U.heap = h0) (fun _ _ _ _ _ => True) (fun _ U o U' => ∃ v L, o = .returned v ∧ Q_rmle12 Z a1 a2 k1 k2 x0 y0 y1 h0 n0 v U'.heap L ∧ FrameEnd U o U' L ({ frames := 0, cells := 0, slots := 0, locals := 0 } : Room).cells ({ frames := 0, cells := 0, slots := 0, locals := 0 } : Room).slots) := by
  refine MetFree.of_bodySF (plainFor_of_name pn_java_lang_StringLatin1) hisR ?_
  intro p e s m args below meth c s₁ Bd hml0 hP hK
  obtain ⟨rfl, hZ, hh⟩ := hP
  have hx := Bd.exec
  have hby := Bd.bytes
  have hml : c.maxLocals = 3 := hml0
  have hown : s.vm.findClass "java/lang/StringLatin1" = some m.cls := findClass_of_methodNamed Bd.named
  have hnm := (name_of_methodNamed Bd.named Bd.method).1
  have X0 : Stand p l e ({ frames := 0, cells := 0, slots := 0, locals := 0 } : Room) s m #[(.ref a1), (.ref a2)] below meth c s₁ [] 0 0 := Stand.of_body Bd
  have e0 : s₁.heap = h0 := by rw [← hh, Bd.state]; rfl
  have N0 := Fr.nil n0
  have pre0 : ∀ t, Steps p.tables e below (s₁.setTop (mkF m 0 #[.val (.ref a1), .val (.ref a2), .unset] [])) t → Steps p.tables e below (s₁.setTop (entryFrame m #[(.ref a1), (.ref a2)] 3)) t := fun t k => castTop (ef_13 m a1 a2) k
  obtain ⟨cl596, Ar596, q596, S596, N596n, H596, G596⟩ := id (V_a1)
  obtain ⟨cl597, Ar597, q597, S597, N597n, H597, G597⟩ := id (V_a2)
  obtain ⟨fs, hr, hrun, hended, hW, hsame⟩ := X0.leave (v := some (.int (0 : Int32))) (fun h => by rw [Bd.returns] at h; cases h)
  refine ⟨_, _, pre0 _ ?_, hrun, hended, _, _, rfl, ?_, ⟨_, rfl⟩, hW, hsame.mono (by decide) (by decide)⟩
  · show Steps p.tables e below (s₁.setTop (mkF m 0 #[.val (.ref a1), .val (.ref a2), .unset] [])) _
    refine XS.aloadN X0.here hx rfl (hb hby d13_0) rfl rfl ?_
    refine X0.arraylength hx (by rw [e0]; exact Ar596.1) (State.isArrayOf_alike hZ.alike Ar596.2.1) (g := (mkF m 1 #[.val (.ref a1), .val (.ref a2), .unset] [(.ref a1)])) rfl rfl (hb hby d13_1) _ ?_
    rw [len_of S596 N596n]
    refine XS.aloadN X0.here hx rfl (hb hby d13_2) rfl rfl ?_
    refine X0.arraylength hx (by rw [e0]; exact Ar597.1) (State.isArrayOf_alike hZ.alike Ar597.2.1) (g := (mkF m 3 #[.val (.ref a1), .val (.ref a2), .unset] [(.ref a2), (.int (1 : Int32))])) rfl rfl (hb hby d13_3) _ ?_
    rw [len_of S597 N597n]
    refine XS.icmpYes X0.here hx rfl (pc0 := 4) (pc' := 34) rfl (hb hby d13_4) rfl (feq (by decide)).2 (by decide) (by decide) ?_
    refine XS.iconst X0.here hx rfl (hb hby d13_34) ?_
    exact retN X0 hx (t := .boolean) Bd.returns (by simp) (hb hby d13_35) hr
  · show Q_rmle12 Z a1 a2 k1 k2 x0 y0 y1 h0 n0 _ s₁.heap _
    rw [e0]
    exact ⟨rfl, N0, rfl⟩
def Q_rmeq12 (Z : State) (a1 : Addr) (a2 : Addr) (t1 : Addr) (t2 : Addr) (wz : Int32) (k1 : ClassId) (k2 : ClassId) (x0 : Int32) (y0 : Int32) (y1 : Int32) (h0 : Heap) (n0 : Nat) (v : Option Value) (h : Heap) (L : List Loc) : Prop := v = some (.int (0 : Int32)) ∧ Fr n0 L ∧ h = h0
set_option maxRecDepth 65536 in
set_option maxHeartbeats 40000000 in
theorem rmeq12 (l : Launch) (Z : State) (a0 : Array Value) (hw : ∀ d ∈ tables_1, d.before a0 Z = true) (ws : List Jvm.Cond) (a1 : Addr) (a2 : Addr) (t1 : Addr) (t2 : Addr) (wz : Int32) (k1 : ClassId) (k2 : ClassId) (x0 : Int32) (y0 : Int32) (y1 : Int32) (h0 : Heap) (n0 : Nat) (Z0 : n0 ≤ h0.size) (E_a1 : Exa Z h0 a1 "java/lang/String") (E_a2 : Exa Z h0 a2 "java/lang/String") (F_value_a1 : Fld Z h0 a1 "java/lang/String" "value" "[B" (.ref t1)) (F_value_a2 : Fld Z h0 a2 "java/lang/String" "value" "[B" (.ref t2)) (F_coder_a1 : Fld Z h0 a1 "java/lang/String" "coder" "B" (.int (0 : Int32))) (F_coder_a2 : Fld Z h0 a2 "java/lang/String" "coder" "B" (.int (0 : Int32))) (V_t1 : Arv Z h0 t1 k1 .byte (1 : Int32) [(.int x0)] (.int (0 : Int32))) (V_t2 : Arv Z h0 t2 k2 .byte (2 : Int32) [(.int y0), (.int y1)] (.int (0 : Int32))) (Old0 : Old Z n0 h0) (S_COMPACT_STRINGS : Sta Z Z.heap "java/lang/String" "COMPACT_STRINGS" "Z" (.int wz)) (hz : ¬ (wz = (0 : Int32))) (ne_a1_a2 : a1 ≠ a2) :
    MetFree l (⟨"java/lang/String", "equals", "(Ljava/lang/Object;)Z"⟩ : MethodName) (head1 (Jvm.Cond.code (⟨"java/lang/String", "equals", "(Ljava/lang/Object;)Z"⟩ : MethodName) jdk_42_method_66_code 3 (some .boolean) :: ws) ({ frames := 1, cells := 0, slots := 0, locals := 14 } : Room)) (fun a U => a = #[(.ref a1), (.ref a2)] ∧ Z.Warmed39 U.vm ∧ U.heap = h0) (fun _ _ _ _ _ => True) (fun _ U o U' => ∃ v L, o = .returned v ∧ Q_rmeq12 Z a1 a2 t1 t2 wz k1 k2 x0 y0 y1 h0 n0 v U'.heap L ∧ FrameEnd U o U' L ({ frames := 1, cells := 0, slots := 0, locals := 14 } : Room).cells ({ frames := 1, cells := 0, slots := 0, locals := 14 } : Room).slots) := by
  refine MetFree.of_bodySF (plainFor_of_name pn_java_lang_String) hisR ?_
  intro p e s m args below meth c s₁ Bd hml0 hP hK
  obtain ⟨rfl, hZ, hh⟩ := hP
  have hx := Bd.exec
  have hby := Bd.bytes
  have hml : c.maxLocals = 3 := hml0
  have hown : s.vm.findClass "java/lang/String" = some m.cls := findClass_of_methodNamed Bd.named
  have hnm := (name_of_methodNamed Bd.named Bd.method).1
  have X0 : Stand p l e ({ frames := 1, cells := 0, slots := 0, locals := 14 } : Room) s m #[(.ref a1), (.ref a2)] below meth c s₁ [] 0 0 := Stand.of_body Bd
  have e0 : s₁.heap = h0 := by rw [← hh, Bd.state]; rfl
  have N0 := Fr.nil n0
  have pre0 : ∀ t, Steps p.tables e below (s₁.setTop (mkF m 0 #[.val (.ref a1), .val (.ref a2), .unset] [])) t → Steps p.tables e below (s₁.setTop (entryFrame m #[(.ref a1), (.ref a2)] 3)) t := fun t k => castTop (ef_12 m a1 a2) k
  obtain ⟨T598, X598, e598, st598⟩ := instY X0 hx hZ hown (wd_9 hw) e0 (Ins.self E_a2) (g := (mkF m 8 #[.val (.ref a1), .val (.ref a2), .unset] [(.ref a2)])) rfl rfl (hb hby d12_8)
  obtain ⟨T599, X599, e599, st599⟩ := castY X598 hx hZ hown (wd_9 hw) e598 (Ins.self E_a2) (g := (mkF m 15 #[.val (.ref a1), .val (.ref a2), .unset] [(.ref a2)])) rfl rfl (hb hby d12_15)
  obtain ⟨T600, X600, e600, st600⟩ := getS2 X599 hx hZ hown (host := "") (Or.inl (wd_4 hw)) Via.refl e599 (S_COMPACT_STRINGS.ext (Old0).2) (g := (mkF m 19 #[.val (.ref a1), .val (.ref a2), .val (.ref a2)] [])) rfl (hb hby d12_19)
  obtain ⟨T601, X601, e601, st601⟩ := getF X600 hx hZ hown (host := "") (Or.inl (wd_24 hw)) Via.refl e600 F_coder_a1 (g := (mkF m 26 #[.val (.ref a1), .val (.ref a2), .val (.ref a2)] [(.ref a1)])) rfl rfl (hb hby d12_26)
  obtain ⟨T602, X602, e602, st602⟩ := getF X601 hx hZ hown (host := "") (Or.inl (wd_24 hw)) Via.refl e601 F_coder_a2 (g := (mkF m 30 #[.val (.ref a1), .val (.ref a2), .val (.ref a2)] [(.ref a2), (.int (0 : Int32))])) rfl rfl (hb hby d12_30)
  obtain ⟨T603, X603, e603, st603⟩ := getF X602 hx hZ hown (host := "") (Or.inl (wd_22 hw)) Via.refl e602 F_value_a1 (g := (mkF m 37 #[.val (.ref a1), .val (.ref a2), .val (.ref a2)] [(.ref a1)])) rfl rfl (hb hby d12_37)
  obtain ⟨T604, X604, e604, st604⟩ := getF X603 hx hZ hown (host := "") (Or.inl (wd_22 hw)) Via.refl e603 F_value_a2 (g := (mkF m 41 #[.val (.ref a1), .val (.ref a2), .val (.ref a2)] [(.ref a2), (.ref t1)])) rfl rfl (hb hby d12_41)
  obtain ⟨_, _, ⟨T605, L605, k605, n605⟩, -, X605, ⟨Lc605, hQ605, l605, y605, z605⟩, st605⟩ := Jvm.LawKit.callS X604 hx (y := (⟨"java/lang/StringLatin1", "equals", "([B[B)Z"⟩ : MethodName)) hown (mvT hZ (wd_63 hw)) (mvT hZ (wd_64 hw)) (mvT hZ (wd_7 hw)) (mvT hZ (wd_65 hw)) (by decide) (backOf (W := 0) (rmle12 l Z a0 hw [] t1 t2 k1 k2 x0 y0 y1 h0 n0 Z0 V_t1 V_t2) hZ (wd_65 hw) (wd_7 hw) (by decide) (by decide)) (g := (mkF m 44 #[.val (.ref a1), .val (.ref a2), .val (.ref a2)] [(.ref t2), (.ref t1)])) rfl (by rw [hml]; rfl) (argsL := [(.ref t1), (.ref t2)]) (rest := []) (lenOf pd___B_B_Z rfl) rfl (by show 2 * 0 + _ ≤ _; exact Nat.le_of_eq rfl) (hb hby d12_44) (fun _ _ => ⟨rfl, e604, (by decide : 0 + 0 ≤ _), (by decide : 0 + 0 ≤ _)⟩)
  dsimp only [Pt.U, Pt.locs, Pt.cells, Pt.slots] at X605 l605 y605 z605 st605 hQ605
  rw [l605, y605, z605] at X605
  obtain ⟨rfl, N605q, e605⟩ := hQ605
  have N605 := Fr.app N0 N605q
  obtain ⟨fs, hr, hrun, hended, hW, hsame⟩ := X605.leave (v := some (.int (0 : Int32))) (fun h => by rw [Bd.returns] at h; cases h)
  refine ⟨_, _, pre0 _ ?_, hrun, hended, _, _, rfl, ?_, ⟨_, rfl⟩, hW, hsame.mono (by decide) (by decide)⟩
  · show Steps p.tables e below (s₁.setTop (mkF m 0 #[.val (.ref a1), .val (.ref a2), .unset] [])) _
    refine XS.aloadN X0.here hx rfl (hb hby d12_0) rfl rfl ?_
    refine XS.aloadN X0.here hx rfl (hb hby d12_1) rfl rfl ?_
    refine Jvm.RoadKit.acmp (g := (mkF m 2 #[.val (.ref a1), .val (.ref a2), .unset] [(.ref a2), (.ref a1)])) X0 hx rfl rfl rfl (pc0 := 2) (pc' := 7) (same := false) rfl (hb hby d12_2) rfl (decide_eq_false fun q => ne_a1_a2 (Value.ref.inj q)) (by decide) (by decide) ?_
    refine XS.aloadN X0.here hx rfl (hb hby d12_7) rfl rfl ?_
    refine st598 _ ?_
    refine XS.ifNo X598.here hx rfl (hb hby d12_11) rfl ((if0 _ _).trans (feq (by decide)).1) ?_
    refine XS.aloadN X598.here hx rfl (hb hby d12_14) rfl rfl ?_
    refine st599 _ ?_
    refine XS.astoreN X599.here hx rfl (hb hby d12_18) rfl rfl (l' := #[.val (.ref a1), .val (.ref a2), .val (.ref a2)]) rfl ?_
    refine st600 _ ?_
    show Steps p.tables e below (T600.setTop (mkF m 22 #[.val (.ref a1), .val (.ref a2), .val (.ref a2)] [(.int wz)])) _
    refine XS.ifNo X600.here hx rfl (hb hby d12_22) rfl ((if0 _ _).trans (feq hz).1) ?_
    refine XS.aloadN X600.here hx rfl (hb hby d12_25) rfl rfl ?_
    refine st601 _ ?_
    refine XS.aloadN X601.here hx rfl (hb hby d12_29) rfl rfl ?_
    refine st602 _ ?_
    refine XS.icmpNo X602.here hx rfl (hb hby d12_33) rfl (teq (rfl : (0 : Int32) = (0 : Int32))).2 ?_
    refine XS.aloadN X602.here hx rfl (hb hby d12_36) rfl rfl ?_
    refine st603 _ ?_
    refine XS.aloadN X603.here hx rfl (hb hby d12_40) rfl rfl ?_
    refine st604 _ ?_
    show Steps p.tables e below (T604.setTop (mkF m 44 #[.val (.ref a1), .val (.ref a2), .val (.ref a2)] [(.ref t2), (.ref t1)])) _
    refine st605 _ ?_
    refine XS.ifYes X605.here hx rfl (pc0 := 47) (pc' := 54) rfl (hb hby d12_47) rfl ((if0 _ _).trans (teq (rfl : (0 : Int32) = (0 : Int32))).1) (by decide) (by decide) ?_
    refine XS.iconst X605.here hx rfl (hb hby d12_54) ?_
    exact retN X605 hx (t := .boolean) Bd.returns (by simp) (hb hby d12_55) hr
  · show Q_rmeq12 Z a1 a2 t1 t2 wz k1 k2 x0 y0 y1 h0 n0 _ T605.heap _
    rw [e605]
    exact ⟨rfl, N605, rfl⟩
def Q_rmg1x2 (Z : State) (a1 : Addr) (a2 : Addr) (a3 : Addr) (nm : Addr) (vl : Addr) (kn : ClassId) (kv : ClassId) (s0 : Addr) (s1 : Addr) (s2 : Addr) (v0 : Addr) (v1 : Addr) (v2 : Addr) (t0 : Addr) (k0 : ClassId) (x0 : Int32) (y0 : Int32) (y1 : Int32) (tq : Addr) (kq : ClassId) (wz : Int32) (h0 : Heap) (n0 : Nat) (v : Option Value) (h : Heap) (L : List Loc) : Prop := v = some (.ref a3) ∧ Fr n0 L ∧ h = h0
set_option maxRecDepth 65536 in
set_option maxHeartbeats 40000000 in
theorem rmg1x2 (l : Launch) (Z : State) (a0 : Array Value) (hw : ∀ d ∈ tables_1, d.before a0 Z = true) (ws : List Jvm.Cond) (a1 : Addr) (a2 : Addr) (a3 : Addr) (nm : Addr) (vl : Addr) (kn : ClassId) (kv : ClassId) (s0 : Addr) (s1 : Addr) (s2 : Addr) (v0 : Addr) (v1 : Addr) (v2 : Addr) (t0 : Addr) (k0 : ClassId) (x0 : Int32) (y0 : Int32) (y1 : Int32) (tq : Addr) (kq : ClassId) (wz : Int32) (h0 : Heap) (n0 : Nat) (Z0 : n0 ≤ h0.size) (F_names_a1 : Fld Z h0 a1 "com/example/kawi/kawi/xml/Attributes" "names" "[Ljava/lang/String;" (.ref nm)) (F_values_a1 : Fld Z h0 a1 "com/example/kawi/kawi/xml/Attributes" "values" "[Ljava/lang/String;" (.ref vl)) (F_size_a1 : Fld Z h0 a1 "com/example/kawi/kawi/xml/Attributes" "size" "I" (.int (1 : Int32))) (V_nm : Arv Z h0 nm kn (.object "java/lang/String") (3 : Int32) [(.ref s0), (.ref s1), (.ref s2)] .null) (V_vl : Arv Z h0 vl kv (.object "java/lang/String") (3 : Int32) [(.ref v0), (.ref v1), (.ref v2)] .null) (E_s0 : Exa Z h0 s0 "java/lang/String") (F_value_s0 : Fld Z h0 s0 "java/lang/String" "value" "[B" (.ref t0)) (F_coder_s0 : Fld Z h0 s0 "java/lang/String" "coder" "B" (.int (0 : Int32))) (V_t0 : Arv Z h0 t0 k0 .byte (1 : Int32) [(.int x0)] (.int (0 : Int32))) (ne_s0_a2 : s0 ≠ a2) (E_a2 : Exa Z h0 a2 "java/lang/String") (F_value_a2 : Fld Z h0 a2 "java/lang/String" "value" "[B" (.ref tq)) (F_coder_a2 : Fld Z h0 a2 "java/lang/String" "coder" "B" (.int (0 : Int32))) (V_tq : Arv Z h0 tq kq .byte (2 : Int32) [(.int y0), (.int y1)] (.int (0 : Int32))) (Old0 : Old Z n0 h0) (S_COMPACT_STRINGS : Sta Z Z.heap "java/lang/String" "COMPACT_STRINGS" "Z" (.int wz)) (hz : ¬ (wz = (0 : Int32))) :
    MetFree l (⟨"com/example/kawi/kawi/xml/Attributes", "getOrDefault", "(Ljava/lang/String;Ljava/lang/String;)Ljava/lang/String;"⟩ : MethodName) (head1 (Jvm.Cond.code (⟨"com/example/kawi/kawi/xml/Attributes", "getOrDefault", "(Ljava/lang/String;Ljava/lang/String;)Ljava/lang/String;"⟩ : MethodName) prog_112_method_5_code 4 (some (.object "java/lang/String")) :: ws) ({ frames := 2, cells := 0, slots := 0, locals := 28 } : Room)) (fun a U => a = #[(.ref a1), (.ref a2), (.ref a3)] ∧ Z.Warmed39 U.vm ∧ U.heap = h0) (fun _ _ _ _ _ => True) (fun _ U o U' => ∃ v L, o = .returned v ∧ Q_rmg1x2 Z a1 a2 a3 nm vl kn kv s0 s1 s2 v0 v1 v2 t0 k0 x0 y0 y1 tq kq wz h0 n0 v U'.heap L ∧ FrameEnd U o U' L ({ frames := 2, cells := 0, slots := 0, locals := 28 } : Room).cells ({ frames := 2, cells := 0, slots := 0, locals := 28 } : Room).slots) := by
  refine MetFree.of_bodySF (plainFor_of_name pn_com_example_kawi_kawi_xml_Attributes) hisR ?_
  intro p e s m args below meth c s₁ Bd hml0 hP hK
  obtain ⟨rfl, hZ, hh⟩ := hP
  have hx := Bd.exec
  have hby := Bd.bytes
  have hml : c.maxLocals = 4 := hml0
  have hown : s.vm.findClass "com/example/kawi/kawi/xml/Attributes" = some m.cls := findClass_of_methodNamed Bd.named
  have hnm := (name_of_methodNamed Bd.named Bd.method).1
  have X0 : Stand p l e ({ frames := 2, cells := 0, slots := 0, locals := 28 } : Room) s m #[(.ref a1), (.ref a2), (.ref a3)] below meth c s₁ [] 0 0 := Stand.of_body Bd
  have e0 : s₁.heap = h0 := by rw [← hh, Bd.state]; rfl
  have N0 := Fr.nil n0
  have pre0 : ∀ t, Steps p.tables e below (s₁.setTop (mkF m 0 #[.val (.ref a1), .val (.ref a2), .val (.ref a3), .unset] [])) t → Steps p.tables e below (s₁.setTop (entryFrame m #[(.ref a1), (.ref a2), (.ref a3)] 4)) t := fun t k => castTop (ef_14 m a1 a2 a3) k
  obtain ⟨T607, X607, e607, st607⟩ := getF X0 hx hZ hown (host := "") (Or.inl (wd_56 hw)) Via.refl e0 F_size_a1 (g := (mkF m 4 #[.val (.ref a1), .val (.ref a2), .val (.ref a3), .val (.int (0 : Int32))] [(.ref a1), (.int (0 : Int32))])) rfl rfl (hb hby d14_4)
  obtain ⟨T608, X608, e608, st608⟩ := getF X607 hx hZ hown (host := "") (Or.inl (wd_52 hw)) Via.refl e607 F_names_a1 (g := (mkF m 11 #[.val (.ref a1), .val (.ref a2), .val (.ref a3), .val (.int (0 : Int32))] [(.ref a1)])) rfl rfl (hb hby d14_11)
  obtain ⟨cl609, Ar609, q609, S609, N609n, H609, G609⟩ := id (V_nm)
  have hin609 : ¬ ((0 : Int32) < 0 ∨ cl609.slots.size ≤ ((0 : Int32)).toNatClampNeg) := inb_of S609 ⟨by decide, by decide⟩
  have hat609 : cl609.slots[((0 : Int32)).toNatClampNeg]? = some (.ref s0) := H609.at hin609 rfl
  obtain ⟨cq610, kq610, q610a, q610b, q610c⟩ := isOf hZ e608 (E_s0)
  obtain ⟨_, _, ⟨T610, L610, k610, n610⟩, -, X610, ⟨Lc610, hQ610, l610, y610, z610⟩, st610⟩ := X608.virtualBack hx (y := (⟨"java/lang/String", "equals", "(Ljava/lang/Object;)Z"⟩ : MethodName)) (z := (⟨"java/lang/String", "equals", "(Ljava/lang/Object;)Z"⟩ : MethodName)) hown (mvT hZ (wd_71 hw)) (mvT hZ (wd_59 hw)) (notFace_of_selects (args := #[]) (mvT hZ (wd_61 hw))) (mvT hZ (wd_61 hw)) (mvT hZ (wd_60 hw)) (by decide) (backOf (W := 0) (rmeq12 l Z a0 hw [] s0 a2 t0 tq wz k0 kq x0 y0 y1 h0 n0 Z0 E_s0 E_a2 F_value_s0 F_value_a2 F_coder_s0 F_coder_a2 V_t0 V_tq Old0 S_COMPACT_STRINGS hz ne_s0_a2) hZ (wd_62 hw) (wd_2 hw) (by decide) (by decide)) q610a q610c (g := (mkF m 17 #[.val (.ref a1), .val (.ref a2), .val (.ref a3), .val (.int (0 : Int32))] [(.ref a2), (.ref s0)])) rfl (by rw [hml]; rfl) (Steps.refl _) (argsL := [(.ref a2)]) (rest := []) (lenOf pd__Ljava_lang_Object__Z rfl) rfl (by show 2 * 0 + _ ≤ _; exact Nat.le_of_eq rfl) (hb hby d14_17) (fun _ _ => ⟨rfl, e608, (by decide : 0 + 0 ≤ _), (by decide : 0 + 0 ≤ _)⟩)
  dsimp only [Pt.U, Pt.locs, Pt.cells, Pt.slots] at X610 l610 y610 z610 st610 hQ610
  rw [l610, y610, z610] at X610
  obtain ⟨rfl, N610q, e610⟩ := hQ610
  have N610 := Fr.app N0 N610q
  obtain ⟨T611, X611, e611, st611⟩ := getF X610 hx hZ hown (host := "") (Or.inl (wd_56 hw)) Via.refl e610 F_size_a1 (g := (mkF m 4 #[.val (.ref a1), .val (.ref a2), .val (.ref a3), .val (.int (1 : Int32))] [(.ref a1), (.int (1 : Int32))])) rfl rfl (hb hby d14_4)
  obtain ⟨fs, hr, hrun, hended, hW, hsame⟩ := X611.leave (v := some (.ref a3)) (fun h => by rw [Bd.returns] at h; cases h)
  refine ⟨_, _, pre0 _ ?_, hrun, hended, _, _, rfl, ?_, ⟨_, rfl⟩, hW, hsame.mono (by decide) (by decide)⟩
  · show Steps p.tables e below (s₁.setTop (mkF m 0 #[.val (.ref a1), .val (.ref a2), .val (.ref a3), .unset] [])) _
    refine XS.iconst X0.here hx rfl (hb hby d14_0) ?_
    refine XS.istoreN X0.here hx rfl (hb hby d14_1) rfl (l' := #[.val (.ref a1), .val (.ref a2), .val (.ref a3), .val (.int (0 : Int32))]) rfl ?_
    refine XS.iloadN X0.here hx rfl (hb hby d14_2) rfl ?_
    refine XS.aloadN X0.here hx rfl (hb hby d14_3) rfl rfl ?_
    refine st607 _ ?_
    refine XS.icmpNo X607.here hx rfl (hb hby d14_7) rfl (tlt (by decide)).2.1 ?_
    refine XS.aloadN X607.here hx rfl (hb hby d14_10) rfl rfl ?_
    refine st608 _ ?_
    refine XS.iloadN X608.here hx rfl (hb hby d14_14) rfl ?_
    refine X608.aaload hx (j := (0 : Int32)) (v := (.ref s0)) (by rw [e608]; exact Ar609.1) (State.isArrayOf_alike hZ.alike Ar609.2.1) rfl Ar609.2.2 hin609 hat609 (g := (mkF m 15 #[.val (.ref a1), .val (.ref a2), .val (.ref a3), .val (.int (0 : Int32))] [(.int (0 : Int32)), (.ref nm)])) rfl rfl (hb hby d14_15) _ ?_
    show Steps p.tables e below (T608.setTop (mkF m 16 #[.val (.ref a1), .val (.ref a2), .val (.ref a3), .val (.int (0 : Int32))] [(.ref s0)])) _
    refine XS.aloadN X608.here hx rfl (hb hby d14_16) rfl rfl ?_
    refine st610.trans ?_
    refine XS.ifYes X610.here hx rfl (pc0 := 20) (pc' := 30) rfl (hb hby d14_20) rfl ((if0 _ _).trans (teq (rfl : (0 : Int32) = (0 : Int32))).1) (by decide) (by decide) ?_
    refine XS.iinc X610.here hx rfl (hb hby d14_30) rfl (l' := #[.val (.ref a1), .val (.ref a2), .val (.ref a3), .val (.int (1 : Int32))]) rfl ?_
    refine XS.goto X610.here hx rfl (pc0 := 33) (pc' := 2) rfl (hb hby d14_33) (by decide) (by decide) ?_
    refine XS.iloadN X610.here hx rfl (hb hby d14_2) rfl ?_
    refine XS.aloadN X610.here hx rfl (hb hby d14_3) rfl rfl ?_
    refine st611 _ ?_
    refine XS.icmpYes X611.here hx rfl (pc0 := 7) (pc' := 36) rfl (hb hby d14_7) rfl (flt (by decide)).2.1 (by decide) (by decide) ?_
    refine XS.aloadN X611.here hx rfl (hb hby d14_36) rfl rfl ?_
    show Steps p.tables e below (T611.setTop (mkF m 37 #[.val (.ref a1), .val (.ref a2), .val (.ref a3), .val (.int (1 : Int32))] [(.ref a3)])) _
    exact X611.areturnOut hx rfl Bd.returns rfl (hb hby d14_37) hr
  · show Q_rmg1x2 Z a1 a2 a3 nm vl kn kv s0 s1 s2 v0 v1 v2 t0 k0 x0 y0 y1 tq kq wz h0 n0 _ T611.heap _
    rw [e611]
    exact ⟨rfl, N610, rfl⟩
def Q_rmg2x2 (Z : State) (a1 : Addr) (a2 : Addr) (a3 : Addr) (nm : Addr) (vl : Addr) (kn : ClassId) (kv : ClassId) (s0 : Addr) (s1 : Addr) (s2 : Addr) (v0 : Addr) (v1 : Addr) (v2 : Addr) (t0 : Addr) (t1 : Addr) (k0 : ClassId) (k1 : ClassId) (x0 : Int32) (x1 : Int32) (y0 : Int32) (y1 : Int32) (tq : Addr) (kq : ClassId) (wz : Int32) (h0 : Heap) (n0 : Nat) (v : Option Value) (h : Heap) (L : List Loc) : Prop := v = some (.ref a3) ∧ Fr n0 L ∧ h = h0
set_option maxRecDepth 65536 in
set_option maxHeartbeats 40000000 in
theorem rmg2x2 (l : Launch) (Z : State) (a0 : Array Value) (hw : ∀ d ∈ tables_1, d.before a0 Z = true) (ws : List Jvm.Cond) (a1 : Addr) (a2 : Addr) (a3 : Addr) (nm : Addr) (vl : Addr) (kn : ClassId) (kv : ClassId) (s0 : Addr) (s1 : Addr) (s2 : Addr) (v0 : Addr) (v1 : Addr) (v2 : Addr) (t0 : Addr) (t1 : Addr) (k0 : ClassId) (k1 : ClassId) (x0 : Int32) (x1 : Int32) (y0 : Int32) (y1 : Int32) (tq : Addr) (kq : ClassId) (wz : Int32) (h0 : Heap) (n0 : Nat) (Z0 : n0 ≤ h0.size) (F_names_a1 : Fld Z h0 a1 "com/example/kawi/kawi/xml/Attributes" "names" "[Ljava/lang/String;" (.ref nm)) (F_values_a1 : Fld Z h0 a1 "com/example/kawi/kawi/xml/Attributes" "values" "[Ljava/lang/String;" (.ref vl)) (F_size_a1 : Fld Z h0 a1 "com/example/kawi/kawi/xml/Attributes" "size" "I" (.int (2 : Int32))) (V_nm : Arv Z h0 nm kn (.object "java/lang/String") (3 : Int32) [(.ref s0), (.ref s1), (.ref s2)] .null) (V_vl : Arv Z h0 vl kv (.object "java/lang/String") (3 : Int32) [(.ref v0), (.ref v1), (.ref v2)] .null) (E_s0 : Exa Z h0 s0 "java/lang/String") (F_value_s0 : Fld Z h0 s0 "java/lang/String" "value" "[B" (.ref t0)) (F_coder_s0 : Fld Z h0 s0 "java/lang/String" "coder" "B" (.int (0 : Int32))) (V_t0 : Arv Z h0 t0 k0 .byte (1 : Int32) [(.int x0)] (.int (0 : Int32))) (ne_s0_a2 : s0 ≠ a2) (E_s1 : Exa Z h0 s1 "java/lang/String") (F_value_s1 : Fld Z h0 s1 "java/lang/String" "value" "[B" (.ref t1)) (F_coder_s1 : Fld Z h0 s1 "java/lang/String" "coder" "B" (.int (0 : Int32))) (V_t1 : Arv Z h0 t1 k1 .byte (1 : Int32) [(.int x1)] (.int (0 : Int32))) (ne_s1_a2 : s1 ≠ a2) (E_a2 : Exa Z h0 a2 "java/lang/String") (F_value_a2 : Fld Z h0 a2 "java/lang/String" "value" "[B" (.ref tq)) (F_coder_a2 : Fld Z h0 a2 "java/lang/String" "coder" "B" (.int (0 : Int32))) (V_tq : Arv Z h0 tq kq .byte (2 : Int32) [(.int y0), (.int y1)] (.int (0 : Int32))) (Old0 : Old Z n0 h0) (S_COMPACT_STRINGS : Sta Z Z.heap "java/lang/String" "COMPACT_STRINGS" "Z" (.int wz)) (hz : ¬ (wz = (0 : Int32))) :
    MetFree l (⟨"com/example/kawi/kawi/xml/Attributes", "getOrDefault", "(Ljava/lang/String;Ljava/lang/String;)Ljava/lang/String;"⟩ : MethodName) (head1 (Jvm.Cond.code (⟨"com/example/kawi/kawi/xml/Attributes", "getOrDefault", "(Ljava/lang/String;Ljava/lang/String;)Ljava/lang/String;"⟩ : MethodName) prog_112_method_5_code 4 (some (.object "java/lang/String")) :: ws) ({ frames := 2, cells := 0, slots := 0, locals := 28 } : Room)) (fun a U => a = #[(.ref a1), (.ref a2), (.ref a3)] ∧ Z.Warmed39 U.vm ∧ U.heap = h0) (fun _ _ _ _ _ => True) (fun _ U o U' => ∃ v L, o = .returned v ∧ Q_rmg2x2 Z a1 a2 a3 nm vl kn kv s0 s1 s2 v0 v1 v2 t0 t1 k0 k1 x0 x1 y0 y1 tq kq wz h0 n0 v U'.heap L ∧ FrameEnd U o U' L ({ frames := 2, cells := 0, slots := 0, locals := 28 } : Room).cells ({ frames := 2, cells := 0, slots := 0, locals := 28 } : Room).slots) := by
  refine MetFree.of_bodySF (plainFor_of_name pn_com_example_kawi_kawi_xml_Attributes) hisR ?_
  intro p e s m args below meth c s₁ Bd hml0 hP hK
  obtain ⟨rfl, hZ, hh⟩ := hP
  have hx := Bd.exec
  have hby := Bd.bytes
  have hml : c.maxLocals = 4 := hml0
  have hown : s.vm.findClass "com/example/kawi/kawi/xml/Attributes" = some m.cls := findClass_of_methodNamed Bd.named
  have hnm := (name_of_methodNamed Bd.named Bd.method).1
  have X0 : Stand p l e ({ frames := 2, cells := 0, slots := 0, locals := 28 } : Room) s m #[(.ref a1), (.ref a2), (.ref a3)] below meth c s₁ [] 0 0 := Stand.of_body Bd
  have e0 : s₁.heap = h0 := by rw [← hh, Bd.state]; rfl
  have N0 := Fr.nil n0
  have pre0 : ∀ t, Steps p.tables e below (s₁.setTop (mkF m 0 #[.val (.ref a1), .val (.ref a2), .val (.ref a3), .unset] [])) t → Steps p.tables e below (s₁.setTop (entryFrame m #[(.ref a1), (.ref a2), (.ref a3)] 4)) t := fun t k => castTop (ef_14 m a1 a2 a3) k
  obtain ⟨T615, X615, e615, st615⟩ := getF X0 hx hZ hown (host := "") (Or.inl (wd_56 hw)) Via.refl e0 F_size_a1 (g := (mkF m 4 #[.val (.ref a1), .val (.ref a2), .val (.ref a3), .val (.int (0 : Int32))] [(.ref a1), (.int (0 : Int32))])) rfl rfl (hb hby d14_4)
  obtain ⟨T616, X616, e616, st616⟩ := getF X615 hx hZ hown (host := "") (Or.inl (wd_52 hw)) Via.refl e615 F_names_a1 (g := (mkF m 11 #[.val (.ref a1), .val (.ref a2), .val (.ref a3), .val (.int (0 : Int32))] [(.ref a1)])) rfl rfl (hb hby d14_11)
  obtain ⟨cl617, Ar617, q617, S617, N617n, H617, G617⟩ := id (V_nm)
  have hin617 : ¬ ((0 : Int32) < 0 ∨ cl617.slots.size ≤ ((0 : Int32)).toNatClampNeg) := inb_of S617 ⟨by decide, by decide⟩
  have hat617 : cl617.slots[((0 : Int32)).toNatClampNeg]? = some (.ref s0) := H617.at hin617 rfl
  obtain ⟨cq618, kq618, q618a, q618b, q618c⟩ := isOf hZ e616 (E_s0)
  obtain ⟨_, _, ⟨T618, L618, k618, n618⟩, -, X618, ⟨Lc618, hQ618, l618, y618, z618⟩, st618⟩ := X616.virtualBack hx (y := (⟨"java/lang/String", "equals", "(Ljava/lang/Object;)Z"⟩ : MethodName)) (z := (⟨"java/lang/String", "equals", "(Ljava/lang/Object;)Z"⟩ : MethodName)) hown (mvT hZ (wd_71 hw)) (mvT hZ (wd_59 hw)) (notFace_of_selects (args := #[]) (mvT hZ (wd_61 hw))) (mvT hZ (wd_61 hw)) (mvT hZ (wd_60 hw)) (by decide) (backOf (W := 0) (rmeq12 l Z a0 hw [] s0 a2 t0 tq wz k0 kq x0 y0 y1 h0 n0 Z0 E_s0 E_a2 F_value_s0 F_value_a2 F_coder_s0 F_coder_a2 V_t0 V_tq Old0 S_COMPACT_STRINGS hz ne_s0_a2) hZ (wd_62 hw) (wd_2 hw) (by decide) (by decide)) q618a q618c (g := (mkF m 17 #[.val (.ref a1), .val (.ref a2), .val (.ref a3), .val (.int (0 : Int32))] [(.ref a2), (.ref s0)])) rfl (by rw [hml]; rfl) (Steps.refl _) (argsL := [(.ref a2)]) (rest := []) (lenOf pd__Ljava_lang_Object__Z rfl) rfl (by show 2 * 0 + _ ≤ _; exact Nat.le_of_eq rfl) (hb hby d14_17) (fun _ _ => ⟨rfl, e616, (by decide : 0 + 0 ≤ _), (by decide : 0 + 0 ≤ _)⟩)
  dsimp only [Pt.U, Pt.locs, Pt.cells, Pt.slots] at X618 l618 y618 z618 st618 hQ618
  rw [l618, y618, z618] at X618
  obtain ⟨rfl, N618q, e618⟩ := hQ618
  have N618 := Fr.app N0 N618q
  obtain ⟨T619, X619, e619, st619⟩ := getF X618 hx hZ hown (host := "") (Or.inl (wd_56 hw)) Via.refl e618 F_size_a1 (g := (mkF m 4 #[.val (.ref a1), .val (.ref a2), .val (.ref a3), .val (.int (1 : Int32))] [(.ref a1), (.int (1 : Int32))])) rfl rfl (hb hby d14_4)
  obtain ⟨T620, X620, e620, st620⟩ := getF X619 hx hZ hown (host := "") (Or.inl (wd_52 hw)) Via.refl e619 F_names_a1 (g := (mkF m 11 #[.val (.ref a1), .val (.ref a2), .val (.ref a3), .val (.int (1 : Int32))] [(.ref a1)])) rfl rfl (hb hby d14_11)
  obtain ⟨cl621, Ar621, q621, S621, N621n, H621, G621⟩ := id (V_nm)
  have hin621 : ¬ ((1 : Int32) < 0 ∨ cl621.slots.size ≤ ((1 : Int32)).toNatClampNeg) := inb_of S621 ⟨by decide, by decide⟩
  have hat621 : cl621.slots[((1 : Int32)).toNatClampNeg]? = some (.ref s1) := H621.at hin621 rfl
  obtain ⟨cq622, kq622, q622a, q622b, q622c⟩ := isOf hZ e620 (E_s1)
  obtain ⟨_, _, ⟨T622, L622, k622, n622⟩, -, X622, ⟨Lc622, hQ622, l622, y622, z622⟩, st622⟩ := X620.virtualBack hx (y := (⟨"java/lang/String", "equals", "(Ljava/lang/Object;)Z"⟩ : MethodName)) (z := (⟨"java/lang/String", "equals", "(Ljava/lang/Object;)Z"⟩ : MethodName)) hown (mvT hZ (wd_71 hw)) (mvT hZ (wd_59 hw)) (notFace_of_selects (args := #[]) (mvT hZ (wd_61 hw))) (mvT hZ (wd_61 hw)) (mvT hZ (wd_60 hw)) (by decide) (backOf (W := 0) (rmeq12 l Z a0 hw [] s1 a2 t1 tq wz k1 kq x1 y0 y1 h0 n0 Z0 E_s1 E_a2 F_value_s1 F_value_a2 F_coder_s1 F_coder_a2 V_t1 V_tq Old0 S_COMPACT_STRINGS hz ne_s1_a2) hZ (wd_62 hw) (wd_2 hw) (by decide) (by decide)) q622a q622c (g := (mkF m 17 #[.val (.ref a1), .val (.ref a2), .val (.ref a3), .val (.int (1 : Int32))] [(.ref a2), (.ref s1)])) rfl (by rw [hml]; rfl) (Steps.refl _) (argsL := [(.ref a2)]) (rest := []) (lenOf pd__Ljava_lang_Object__Z rfl) rfl (by show 2 * 0 + _ ≤ _; exact Nat.le_of_eq rfl) (hb hby d14_17) (fun _ _ => ⟨rfl, e620, (by decide : 0 + 0 ≤ _), (by decide : 0 + 0 ≤ _)⟩)
  dsimp only [Pt.U, Pt.locs, Pt.cells, Pt.slots] at X622 l622 y622 z622 st622 hQ622
  rw [l622, y622, z622] at X622
  obtain ⟨rfl, N622q, e622⟩ := hQ622
  have N622 := Fr.app N618 N622q
  obtain ⟨T623, X623, e623, st623⟩ := getF X622 hx hZ hown (host := "") (Or.inl (wd_56 hw)) Via.refl e622 F_size_a1 (g := (mkF m 4 #[.val (.ref a1), .val (.ref a2), .val (.ref a3), .val (.int (2 : Int32))] [(.ref a1), (.int (2 : Int32))])) rfl rfl (hb hby d14_4)
  obtain ⟨fs, hr, hrun, hended, hW, hsame⟩ := X623.leave (v := some (.ref a3)) (fun h => by rw [Bd.returns] at h; cases h)
  refine ⟨_, _, pre0 _ ?_, hrun, hended, _, _, rfl, ?_, ⟨_, rfl⟩, hW, hsame.mono (by decide) (by decide)⟩
  · show Steps p.tables e below (s₁.setTop (mkF m 0 #[.val (.ref a1), .val (.ref a2), .val (.ref a3), .unset] [])) _
    refine XS.iconst X0.here hx rfl (hb hby d14_0) ?_
    refine XS.istoreN X0.here hx rfl (hb hby d14_1) rfl (l' := #[.val (.ref a1), .val (.ref a2), .val (.ref a3), .val (.int (0 : Int32))]) rfl ?_
    refine XS.iloadN X0.here hx rfl (hb hby d14_2) rfl ?_
    refine XS.aloadN X0.here hx rfl (hb hby d14_3) rfl rfl ?_
    refine st615 _ ?_
    refine XS.icmpNo X615.here hx rfl (hb hby d14_7) rfl (tlt (by decide)).2.1 ?_
    refine XS.aloadN X615.here hx rfl (hb hby d14_10) rfl rfl ?_
    refine st616 _ ?_
    refine XS.iloadN X616.here hx rfl (hb hby d14_14) rfl ?_
    refine X616.aaload hx (j := (0 : Int32)) (v := (.ref s0)) (by rw [e616]; exact Ar617.1) (State.isArrayOf_alike hZ.alike Ar617.2.1) rfl Ar617.2.2 hin617 hat617 (g := (mkF m 15 #[.val (.ref a1), .val (.ref a2), .val (.ref a3), .val (.int (0 : Int32))] [(.int (0 : Int32)), (.ref nm)])) rfl rfl (hb hby d14_15) _ ?_
    show Steps p.tables e below (T616.setTop (mkF m 16 #[.val (.ref a1), .val (.ref a2), .val (.ref a3), .val (.int (0 : Int32))] [(.ref s0)])) _
    refine XS.aloadN X616.here hx rfl (hb hby d14_16) rfl rfl ?_
    refine st618.trans ?_
    refine XS.ifYes X618.here hx rfl (pc0 := 20) (pc' := 30) rfl (hb hby d14_20) rfl ((if0 _ _).trans (teq (rfl : (0 : Int32) = (0 : Int32))).1) (by decide) (by decide) ?_
    refine XS.iinc X618.here hx rfl (hb hby d14_30) rfl (l' := #[.val (.ref a1), .val (.ref a2), .val (.ref a3), .val (.int (1 : Int32))]) rfl ?_
    refine XS.goto X618.here hx rfl (pc0 := 33) (pc' := 2) rfl (hb hby d14_33) (by decide) (by decide) ?_
    refine XS.iloadN X618.here hx rfl (hb hby d14_2) rfl ?_
    refine XS.aloadN X618.here hx rfl (hb hby d14_3) rfl rfl ?_
    refine st619 _ ?_
    refine XS.icmpNo X619.here hx rfl (hb hby d14_7) rfl (tlt (by decide)).2.1 ?_
    refine XS.aloadN X619.here hx rfl (hb hby d14_10) rfl rfl ?_
    show Steps p.tables e below (T619.setTop (mkF m 11 #[.val (.ref a1), .val (.ref a2), .val (.ref a3), .val (.int (1 : Int32))] [(.ref a1)])) _
    refine st620 _ ?_
    refine XS.iloadN X620.here hx rfl (hb hby d14_14) rfl ?_
    refine X620.aaload hx (j := (1 : Int32)) (v := (.ref s1)) (by rw [e620]; exact Ar621.1) (State.isArrayOf_alike hZ.alike Ar621.2.1) rfl Ar621.2.2 hin621 hat621 (g := (mkF m 15 #[.val (.ref a1), .val (.ref a2), .val (.ref a3), .val (.int (1 : Int32))] [(.int (1 : Int32)), (.ref nm)])) rfl rfl (hb hby d14_15) _ ?_
    refine XS.aloadN X620.here hx rfl (hb hby d14_16) rfl rfl ?_
    refine st622.trans ?_
    refine XS.ifYes X622.here hx rfl (pc0 := 20) (pc' := 30) rfl (hb hby d14_20) rfl ((if0 _ _).trans (teq (rfl : (0 : Int32) = (0 : Int32))).1) (by decide) (by decide) ?_
    refine XS.iinc X622.here hx rfl (hb hby d14_30) rfl (l' := #[.val (.ref a1), .val (.ref a2), .val (.ref a3), .val (.int (2 : Int32))]) rfl ?_
    refine XS.goto X622.here hx rfl (pc0 := 33) (pc' := 2) rfl (hb hby d14_33) (by decide) (by decide) ?_
    refine XS.iloadN X622.here hx rfl (hb hby d14_2) rfl ?_
    refine XS.aloadN X622.here hx rfl (hb hby d14_3) rfl rfl ?_
    show Steps p.tables e below (T622.setTop (mkF m 4 #[.val (.ref a1), .val (.ref a2), .val (.ref a3), .val (.int (2 : Int32))] [(.ref a1), (.int (2 : Int32))])) _
    refine st623 _ ?_
    refine XS.icmpYes X623.here hx rfl (pc0 := 7) (pc' := 36) rfl (hb hby d14_7) rfl (flt (by decide)).2.1 (by decide) (by decide) ?_
    refine XS.aloadN X623.here hx rfl (hb hby d14_36) rfl rfl ?_
    exact X623.areturnOut hx rfl Bd.returns rfl (hb hby d14_37) hr
  · show Q_rmg2x2 Z a1 a2 a3 nm vl kn kv s0 s1 s2 v0 v1 v2 t0 t1 k0 k1 x0 x1 y0 y1 tq kq wz h0 n0 _ T623.heap _
    rw [e623]
    exact ⟨rfl, N622, rfl⟩
def Q_rmg3x2 (Z : State) (a1 : Addr) (a2 : Addr) (a3 : Addr) (nm : Addr) (vl : Addr) (kn : ClassId) (kv : ClassId) (s0 : Addr) (s1 : Addr) (s2 : Addr) (v0 : Addr) (v1 : Addr) (v2 : Addr) (t0 : Addr) (t1 : Addr) (t2 : Addr) (k0 : ClassId) (k1 : ClassId) (k2 : ClassId) (x0 : Int32) (x1 : Int32) (x2 : Int32) (y0 : Int32) (y1 : Int32) (tq : Addr) (kq : ClassId) (wz : Int32) (h0 : Heap) (n0 : Nat) (v : Option Value) (h : Heap) (L : List Loc) : Prop := v = some (.ref a3) ∧ Fr n0 L ∧ h = h0
set_option maxRecDepth 65536 in
set_option maxHeartbeats 40000000 in
theorem rmg3x2 (l : Launch) (Z : State) (a0 : Array Value) (hw : ∀ d ∈ tables_1, d.before a0 Z = true) (ws : List Jvm.Cond) (a1 : Addr) (a2 : Addr) (a3 : Addr) (nm : Addr) (vl : Addr) (kn : ClassId) (kv : ClassId) (s0 : Addr) (s1 : Addr) (s2 : Addr) (v0 : Addr) (v1 : Addr) (v2 : Addr) (t0 : Addr) (t1 : Addr) (t2 : Addr) (k0 : ClassId) (k1 : ClassId) (k2 : ClassId) (x0 : Int32) (x1 : Int32) (x2 : Int32) (y0 : Int32) (y1 : Int32) (tq : Addr) (kq : ClassId) (wz : Int32) (h0 : Heap) (n0 : Nat) (Z0 : n0 ≤ h0.size) (F_names_a1 : Fld Z h0 a1 "com/example/kawi/kawi/xml/Attributes" "names" "[Ljava/lang/String;" (.ref nm)) (F_values_a1 : Fld Z h0 a1 "com/example/kawi/kawi/xml/Attributes" "values" "[Ljava/lang/String;" (.ref vl)) (F_size_a1 : Fld Z h0 a1 "com/example/kawi/kawi/xml/Attributes" "size" "I" (.int (3 : Int32))) (V_nm : Arv Z h0 nm kn (.object "java/lang/String") (3 : Int32) [(.ref s0), (.ref s1), (.ref s2)] .null) (V_vl : Arv Z h0 vl kv (.object "java/lang/String") (3 : Int32) [(.ref v0), (.ref v1), (.ref v2)] .null) (E_s0 : Exa Z h0 s0 "java/lang/String") (F_value_s0 : Fld Z h0 s0 "java/lang/String" "value" "[B" (.ref t0)) (F_coder_s0 : Fld Z h0 s0 "java/lang/String" "coder" "B" (.int (0 : Int32))) (V_t0 : Arv Z h0 t0 k0 .byte (1 : Int32) [(.int x0)] (.int (0 : Int32))) (ne_s0_a2 : s0 ≠ a2) (E_s1 : Exa Z h0 s1 "java/lang/String") (F_value_s1 : Fld Z h0 s1 "java/lang/String" "value" "[B" (.ref t1)) (F_coder_s1 : Fld Z h0 s1 "java/lang/String" "coder" "B" (.int (0 : Int32))) (V_t1 : Arv Z h0 t1 k1 .byte (1 : Int32) [(.int x1)] (.int (0 : Int32))) (ne_s1_a2 : s1 ≠ a2) (E_s2 : Exa Z h0 s2 "java/lang/String") (F_value_s2 : Fld Z h0 s2 "java/lang/String" "value" "[B" (.ref t2)) (F_coder_s2 : Fld Z h0 s2 "java/lang/String" "coder" "B" (.int (0 : Int32))) (V_t2 : Arv Z h0 t2 k2 .byte (1 : Int32) [(.int x2)] (.int (0 : Int32))) (ne_s2_a2 : s2 ≠ a2) (E_a2 : Exa Z h0 a2 "java/lang/String") (F_value_a2 : Fld Z h0 a2 "java/lang/String" "value" "[B" (.ref tq)) (F_coder_a2 : Fld Z h0 a2 "java/lang/String" "coder" "B" (.int (0 : Int32))) (V_tq : Arv Z h0 tq kq .byte (2 : Int32) [(.int y0), (.int y1)] (.int (0 : Int32))) (Old0 : Old Z n0 h0) (S_COMPACT_STRINGS : Sta Z Z.heap "java/lang/String" "COMPACT_STRINGS" "Z" (.int wz)) (hz : ¬ (wz = (0 : Int32))) :
    MetFree l (⟨"com/example/kawi/kawi/xml/Attributes", "getOrDefault", "(Ljava/lang/String;Ljava/lang/String;)Ljava/lang/String;"⟩ : MethodName) (head1 (Jvm.Cond.code (⟨"com/example/kawi/kawi/xml/Attributes", "getOrDefault", "(Ljava/lang/String;Ljava/lang/String;)Ljava/lang/String;"⟩ : MethodName) prog_112_method_5_code 4 (some (.object "java/lang/String")) :: ws) ({ frames := 2, cells := 0, slots := 0, locals := 28 } : Room)) (fun a U => a = #[(.ref a1), (.ref a2), (.ref a3)] ∧ Z.Warmed39 U.vm ∧ U.heap = h0) (fun _ _ _ _ _ => True) (fun _ U o U' => ∃ v L, o = .returned v ∧ Q_rmg3x2 Z a1 a2 a3 nm vl kn kv s0 s1 s2 v0 v1 v2 t0 t1 t2 k0 k1 k2 x0 x1 x2 y0 y1 tq kq wz h0 n0 v U'.heap L ∧ FrameEnd U o U' L ({ frames := 2, cells := 0, slots := 0, locals := 28 } : Room).cells ({ frames := 2, cells := 0, slots := 0, locals := 28 } : Room).slots) := by
  refine MetFree.of_bodySF (plainFor_of_name pn_com_example_kawi_kawi_xml_Attributes) hisR ?_
  intro p e s m args below meth c s₁ Bd hml0 hP hK
  obtain ⟨rfl, hZ, hh⟩ := hP
  have hx := Bd.exec
  have hby := Bd.bytes
  have hml : c.maxLocals = 4 := hml0
  have hown : s.vm.findClass "com/example/kawi/kawi/xml/Attributes" = some m.cls := findClass_of_methodNamed Bd.named
  have hnm := (name_of_methodNamed Bd.named Bd.method).1
  have X0 : Stand p l e ({ frames := 2, cells := 0, slots := 0, locals := 28 } : Room) s m #[(.ref a1), (.ref a2), (.ref a3)] below meth c s₁ [] 0 0 := Stand.of_body Bd
  have e0 : s₁.heap = h0 := by rw [← hh, Bd.state]; rfl
  have N0 := Fr.nil n0
  have pre0 : ∀ t, Steps p.tables e below (s₁.setTop (mkF m 0 #[.val (.ref a1), .val (.ref a2), .val (.ref a3), .unset] [])) t → Steps p.tables e below (s₁.setTop (entryFrame m #[(.ref a1), (.ref a2), (.ref a3)] 4)) t := fun t k => castTop (ef_14 m a1 a2 a3) k
  obtain ⟨T628, X628, e628, st628⟩ := getF X0 hx hZ hown (host := "") (Or.inl (wd_56 hw)) Via.refl e0 F_size_a1 (g := (mkF m 4 #[.val (.ref a1), .val (.ref a2), .val (.ref a3), .val (.int (0 : Int32))] [(.ref a1), (.int (0 : Int32))])) rfl rfl (hb hby d14_4)
  obtain ⟨T629, X629, e629, st629⟩ := getF X628 hx hZ hown (host := "") (Or.inl (wd_52 hw)) Via.refl e628 F_names_a1 (g := (mkF m 11 #[.val (.ref a1), .val (.ref a2), .val (.ref a3), .val (.int (0 : Int32))] [(.ref a1)])) rfl rfl (hb hby d14_11)
  obtain ⟨cl630, Ar630, q630, S630, N630n, H630, G630⟩ := id (V_nm)
  have hin630 : ¬ ((0 : Int32) < 0 ∨ cl630.slots.size ≤ ((0 : Int32)).toNatClampNeg) := inb_of S630 ⟨by decide, by decide⟩
  have hat630 : cl630.slots[((0 : Int32)).toNatClampNeg]? = some (.ref s0) := H630.at hin630 rfl
  obtain ⟨cq631, kq631, q631a, q631b, q631c⟩ := isOf hZ e629 (E_s0)
  obtain ⟨_, _, ⟨T631, L631, k631, n631⟩, -, X631, ⟨Lc631, hQ631, l631, y631, z631⟩, st631⟩ := X629.virtualBack hx (y := (⟨"java/lang/String", "equals", "(Ljava/lang/Object;)Z"⟩ : MethodName)) (z := (⟨"java/lang/String", "equals", "(Ljava/lang/Object;)Z"⟩ : MethodName)) hown (mvT hZ (wd_71 hw)) (mvT hZ (wd_59 hw)) (notFace_of_selects (args := #[]) (mvT hZ (wd_61 hw))) (mvT hZ (wd_61 hw)) (mvT hZ (wd_60 hw)) (by decide) (backOf (W := 0) (rmeq12 l Z a0 hw [] s0 a2 t0 tq wz k0 kq x0 y0 y1 h0 n0 Z0 E_s0 E_a2 F_value_s0 F_value_a2 F_coder_s0 F_coder_a2 V_t0 V_tq Old0 S_COMPACT_STRINGS hz ne_s0_a2) hZ (wd_62 hw) (wd_2 hw) (by decide) (by decide)) q631a q631c (g := (mkF m 17 #[.val (.ref a1), .val (.ref a2), .val (.ref a3), .val (.int (0 : Int32))] [(.ref a2), (.ref s0)])) rfl (by rw [hml]; rfl) (Steps.refl _) (argsL := [(.ref a2)]) (rest := []) (lenOf pd__Ljava_lang_Object__Z rfl) rfl (by show 2 * 0 + _ ≤ _; exact Nat.le_of_eq rfl) (hb hby d14_17) (fun _ _ => ⟨rfl, e629, (by decide : 0 + 0 ≤ _), (by decide : 0 + 0 ≤ _)⟩)
  dsimp only [Pt.U, Pt.locs, Pt.cells, Pt.slots] at X631 l631 y631 z631 st631 hQ631
  rw [l631, y631, z631] at X631
  obtain ⟨rfl, N631q, e631⟩ := hQ631
  have N631 := Fr.app N0 N631q
  obtain ⟨T632, X632, e632, st632⟩ := getF X631 hx hZ hown (host := "") (Or.inl (wd_56 hw)) Via.refl e631 F_size_a1 (g := (mkF m 4 #[.val (.ref a1), .val (.ref a2), .val (.ref a3), .val (.int (1 : Int32))] [(.ref a1), (.int (1 : Int32))])) rfl rfl (hb hby d14_4)
  obtain ⟨T633, X633, e633, st633⟩ := getF X632 hx hZ hown (host := "") (Or.inl (wd_52 hw)) Via.refl e632 F_names_a1 (g := (mkF m 11 #[.val (.ref a1), .val (.ref a2), .val (.ref a3), .val (.int (1 : Int32))] [(.ref a1)])) rfl rfl (hb hby d14_11)
  obtain ⟨cl634, Ar634, q634, S634, N634n, H634, G634⟩ := id (V_nm)
  have hin634 : ¬ ((1 : Int32) < 0 ∨ cl634.slots.size ≤ ((1 : Int32)).toNatClampNeg) := inb_of S634 ⟨by decide, by decide⟩
  have hat634 : cl634.slots[((1 : Int32)).toNatClampNeg]? = some (.ref s1) := H634.at hin634 rfl
  obtain ⟨cq635, kq635, q635a, q635b, q635c⟩ := isOf hZ e633 (E_s1)
  obtain ⟨_, _, ⟨T635, L635, k635, n635⟩, -, X635, ⟨Lc635, hQ635, l635, y635, z635⟩, st635⟩ := X633.virtualBack hx (y := (⟨"java/lang/String", "equals", "(Ljava/lang/Object;)Z"⟩ : MethodName)) (z := (⟨"java/lang/String", "equals", "(Ljava/lang/Object;)Z"⟩ : MethodName)) hown (mvT hZ (wd_71 hw)) (mvT hZ (wd_59 hw)) (notFace_of_selects (args := #[]) (mvT hZ (wd_61 hw))) (mvT hZ (wd_61 hw)) (mvT hZ (wd_60 hw)) (by decide) (backOf (W := 0) (rmeq12 l Z a0 hw [] s1 a2 t1 tq wz k1 kq x1 y0 y1 h0 n0 Z0 E_s1 E_a2 F_value_s1 F_value_a2 F_coder_s1 F_coder_a2 V_t1 V_tq Old0 S_COMPACT_STRINGS hz ne_s1_a2) hZ (wd_62 hw) (wd_2 hw) (by decide) (by decide)) q635a q635c (g := (mkF m 17 #[.val (.ref a1), .val (.ref a2), .val (.ref a3), .val (.int (1 : Int32))] [(.ref a2), (.ref s1)])) rfl (by rw [hml]; rfl) (Steps.refl _) (argsL := [(.ref a2)]) (rest := []) (lenOf pd__Ljava_lang_Object__Z rfl) rfl (by show 2 * 0 + _ ≤ _; exact Nat.le_of_eq rfl) (hb hby d14_17) (fun _ _ => ⟨rfl, e633, (by decide : 0 + 0 ≤ _), (by decide : 0 + 0 ≤ _)⟩)
  dsimp only [Pt.U, Pt.locs, Pt.cells, Pt.slots] at X635 l635 y635 z635 st635 hQ635
  rw [l635, y635, z635] at X635
  obtain ⟨rfl, N635q, e635⟩ := hQ635
  have N635 := Fr.app N631 N635q
  obtain ⟨T636, X636, e636, st636⟩ := getF X635 hx hZ hown (host := "") (Or.inl (wd_56 hw)) Via.refl e635 F_size_a1 (g := (mkF m 4 #[.val (.ref a1), .val (.ref a2), .val (.ref a3), .val (.int (2 : Int32))] [(.ref a1), (.int (2 : Int32))])) rfl rfl (hb hby d14_4)
  obtain ⟨T637, X637, e637, st637⟩ := getF X636 hx hZ hown (host := "") (Or.inl (wd_52 hw)) Via.refl e636 F_names_a1 (g := (mkF m 11 #[.val (.ref a1), .val (.ref a2), .val (.ref a3), .val (.int (2 : Int32))] [(.ref a1)])) rfl rfl (hb hby d14_11)
  obtain ⟨cl638, Ar638, q638, S638, N638n, H638, G638⟩ := id (V_nm)
  have hin638 : ¬ ((2 : Int32) < 0 ∨ cl638.slots.size ≤ ((2 : Int32)).toNatClampNeg) := inb_of S638 ⟨by decide, by decide⟩
  have hat638 : cl638.slots[((2 : Int32)).toNatClampNeg]? = some (.ref s2) := H638.at hin638 rfl
  obtain ⟨cq639, kq639, q639a, q639b, q639c⟩ := isOf hZ e637 (E_s2)
  obtain ⟨_, _, ⟨T639, L639, k639, n639⟩, -, X639, ⟨Lc639, hQ639, l639, y639, z639⟩, st639⟩ := X637.virtualBack hx (y := (⟨"java/lang/String", "equals", "(Ljava/lang/Object;)Z"⟩ : MethodName)) (z := (⟨"java/lang/String", "equals", "(Ljava/lang/Object;)Z"⟩ : MethodName)) hown (mvT hZ (wd_71 hw)) (mvT hZ (wd_59 hw)) (notFace_of_selects (args := #[]) (mvT hZ (wd_61 hw))) (mvT hZ (wd_61 hw)) (mvT hZ (wd_60 hw)) (by decide) (backOf (W := 0) (rmeq12 l Z a0 hw [] s2 a2 t2 tq wz k2 kq x2 y0 y1 h0 n0 Z0 E_s2 E_a2 F_value_s2 F_value_a2 F_coder_s2 F_coder_a2 V_t2 V_tq Old0 S_COMPACT_STRINGS hz ne_s2_a2) hZ (wd_62 hw) (wd_2 hw) (by decide) (by decide)) q639a q639c (g := (mkF m 17 #[.val (.ref a1), .val (.ref a2), .val (.ref a3), .val (.int (2 : Int32))] [(.ref a2), (.ref s2)])) rfl (by rw [hml]; rfl) (Steps.refl _) (argsL := [(.ref a2)]) (rest := []) (lenOf pd__Ljava_lang_Object__Z rfl) rfl (by show 2 * 0 + _ ≤ _; exact Nat.le_of_eq rfl) (hb hby d14_17) (fun _ _ => ⟨rfl, e637, (by decide : 0 + 0 ≤ _), (by decide : 0 + 0 ≤ _)⟩)
  dsimp only [Pt.U, Pt.locs, Pt.cells, Pt.slots] at X639 l639 y639 z639 st639 hQ639
  rw [l639, y639, z639] at X639
  obtain ⟨rfl, N639q, e639⟩ := hQ639
  have N639 := Fr.app N635 N639q
  obtain ⟨T640, X640, e640, st640⟩ := getF X639 hx hZ hown (host := "") (Or.inl (wd_56 hw)) Via.refl e639 F_size_a1 (g := (mkF m 4 #[.val (.ref a1), .val (.ref a2), .val (.ref a3), .val (.int (3 : Int32))] [(.ref a1), (.int (3 : Int32))])) rfl rfl (hb hby d14_4)
  obtain ⟨fs, hr, hrun, hended, hW, hsame⟩ := X640.leave (v := some (.ref a3)) (fun h => by rw [Bd.returns] at h; cases h)
  refine ⟨_, _, pre0 _ ?_, hrun, hended, _, _, rfl, ?_, ⟨_, rfl⟩, hW, hsame.mono (by decide) (by decide)⟩
  · show Steps p.tables e below (s₁.setTop (mkF m 0 #[.val (.ref a1), .val (.ref a2), .val (.ref a3), .unset] [])) _
    refine XS.iconst X0.here hx rfl (hb hby d14_0) ?_
    refine XS.istoreN X0.here hx rfl (hb hby d14_1) rfl (l' := #[.val (.ref a1), .val (.ref a2), .val (.ref a3), .val (.int (0 : Int32))]) rfl ?_
    refine XS.iloadN X0.here hx rfl (hb hby d14_2) rfl ?_
    refine XS.aloadN X0.here hx rfl (hb hby d14_3) rfl rfl ?_
    refine st628 _ ?_
    refine XS.icmpNo X628.here hx rfl (hb hby d14_7) rfl (tlt (by decide)).2.1 ?_
    refine XS.aloadN X628.here hx rfl (hb hby d14_10) rfl rfl ?_
    refine st629 _ ?_
    refine XS.iloadN X629.here hx rfl (hb hby d14_14) rfl ?_
    refine X629.aaload hx (j := (0 : Int32)) (v := (.ref s0)) (by rw [e629]; exact Ar630.1) (State.isArrayOf_alike hZ.alike Ar630.2.1) rfl Ar630.2.2 hin630 hat630 (g := (mkF m 15 #[.val (.ref a1), .val (.ref a2), .val (.ref a3), .val (.int (0 : Int32))] [(.int (0 : Int32)), (.ref nm)])) rfl rfl (hb hby d14_15) _ ?_
    show Steps p.tables e below (T629.setTop (mkF m 16 #[.val (.ref a1), .val (.ref a2), .val (.ref a3), .val (.int (0 : Int32))] [(.ref s0)])) _
    refine XS.aloadN X629.here hx rfl (hb hby d14_16) rfl rfl ?_
    refine st631.trans ?_
    refine XS.ifYes X631.here hx rfl (pc0 := 20) (pc' := 30) rfl (hb hby d14_20) rfl ((if0 _ _).trans (teq (rfl : (0 : Int32) = (0 : Int32))).1) (by decide) (by decide) ?_
    refine XS.iinc X631.here hx rfl (hb hby d14_30) rfl (l' := #[.val (.ref a1), .val (.ref a2), .val (.ref a3), .val (.int (1 : Int32))]) rfl ?_
    refine XS.goto X631.here hx rfl (pc0 := 33) (pc' := 2) rfl (hb hby d14_33) (by decide) (by decide) ?_
    refine XS.iloadN X631.here hx rfl (hb hby d14_2) rfl ?_
    refine XS.aloadN X631.here hx rfl (hb hby d14_3) rfl rfl ?_
    refine st632 _ ?_
    refine XS.icmpNo X632.here hx rfl (hb hby d14_7) rfl (tlt (by decide)).2.1 ?_
    refine XS.aloadN X632.here hx rfl (hb hby d14_10) rfl rfl ?_
    show Steps p.tables e below (T632.setTop (mkF m 11 #[.val (.ref a1), .val (.ref a2), .val (.ref a3), .val (.int (1 : Int32))] [(.ref a1)])) _
    refine st633 _ ?_
    refine XS.iloadN X633.here hx rfl (hb hby d14_14) rfl ?_
    refine X633.aaload hx (j := (1 : Int32)) (v := (.ref s1)) (by rw [e633]; exact Ar634.1) (State.isArrayOf_alike hZ.alike Ar634.2.1) rfl Ar634.2.2 hin634 hat634 (g := (mkF m 15 #[.val (.ref a1), .val (.ref a2), .val (.ref a3), .val (.int (1 : Int32))] [(.int (1 : Int32)), (.ref nm)])) rfl rfl (hb hby d14_15) _ ?_
    refine XS.aloadN X633.here hx rfl (hb hby d14_16) rfl rfl ?_
    refine st635.trans ?_
    refine XS.ifYes X635.here hx rfl (pc0 := 20) (pc' := 30) rfl (hb hby d14_20) rfl ((if0 _ _).trans (teq (rfl : (0 : Int32) = (0 : Int32))).1) (by decide) (by decide) ?_
    refine XS.iinc X635.here hx rfl (hb hby d14_30) rfl (l' := #[.val (.ref a1), .val (.ref a2), .val (.ref a3), .val (.int (2 : Int32))]) rfl ?_
    refine XS.goto X635.here hx rfl (pc0 := 33) (pc' := 2) rfl (hb hby d14_33) (by decide) (by decide) ?_
    refine XS.iloadN X635.here hx rfl (hb hby d14_2) rfl ?_
    refine XS.aloadN X635.here hx rfl (hb hby d14_3) rfl rfl ?_
    show Steps p.tables e below (T635.setTop (mkF m 4 #[.val (.ref a1), .val (.ref a2), .val (.ref a3), .val (.int (2 : Int32))] [(.ref a1), (.int (2 : Int32))])) _
    refine st636 _ ?_
    refine XS.icmpNo X636.here hx rfl (hb hby d14_7) rfl (tlt (by decide)).2.1 ?_
    refine XS.aloadN X636.here hx rfl (hb hby d14_10) rfl rfl ?_
    refine st637 _ ?_
    refine XS.iloadN X637.here hx rfl (hb hby d14_14) rfl ?_
    refine X637.aaload hx (j := (2 : Int32)) (v := (.ref s2)) (by rw [e637]; exact Ar638.1) (State.isArrayOf_alike hZ.alike Ar638.2.1) rfl Ar638.2.2 hin638 hat638 (g := (mkF m 15 #[.val (.ref a1), .val (.ref a2), .val (.ref a3), .val (.int (2 : Int32))] [(.int (2 : Int32)), (.ref nm)])) rfl rfl (hb hby d14_15) _ ?_
    refine XS.aloadN X637.here hx rfl (hb hby d14_16) rfl rfl ?_
    refine st639.trans ?_
    refine XS.ifYes X639.here hx rfl (pc0 := 20) (pc' := 30) rfl (hb hby d14_20) rfl ((if0 _ _).trans (teq (rfl : (0 : Int32) = (0 : Int32))).1) (by decide) (by decide) ?_
    refine XS.iinc X639.here hx rfl (hb hby d14_30) rfl (l' := #[.val (.ref a1), .val (.ref a2), .val (.ref a3), .val (.int (3 : Int32))]) rfl ?_
    show Steps p.tables e below (T639.setTop (mkF m 33 #[.val (.ref a1), .val (.ref a2), .val (.ref a3), .val (.int (3 : Int32))] [])) _
    refine XS.goto X639.here hx rfl (pc0 := 33) (pc' := 2) rfl (hb hby d14_33) (by decide) (by decide) ?_
    refine XS.iloadN X639.here hx rfl (hb hby d14_2) rfl ?_
    refine XS.aloadN X639.here hx rfl (hb hby d14_3) rfl rfl ?_
    refine st640 _ ?_
    refine XS.icmpYes X640.here hx rfl (pc0 := 7) (pc' := 36) rfl (hb hby d14_7) rfl (flt (by decide)).2.1 (by decide) (by decide) ?_
    refine XS.aloadN X640.here hx rfl (hb hby d14_36) rfl rfl ?_
    exact X640.areturnOut hx rfl Bd.returns rfl (hb hby d14_37) hr
  · show Q_rmg3x2 Z a1 a2 a3 nm vl kn kv s0 s1 s2 v0 v1 v2 t0 t1 t2 k0 k1 k2 x0 x1 x2 y0 y1 tq kq wz h0 n0 _ T640.heap _
    rw [e640]
    exact ⟨rfl, N639, rfl⟩
def Q_rmg0x2n (Z : State) (a1 : Addr) (a2 : Addr) (nm : Addr) (vl : Addr) (kn : ClassId) (kv : ClassId) (s0 : Addr) (s1 : Addr) (s2 : Addr) (v0 : Addr) (v1 : Addr) (v2 : Addr) (y0 : Int32) (y1 : Int32) (tq : Addr) (kq : ClassId) (wz : Int32) (h0 : Heap) (n0 : Nat) (v : Option Value) (h : Heap) (L : List Loc) : Prop := v = some .null ∧ Fr n0 L ∧ h = h0
set_option maxRecDepth 65536 in
set_option maxHeartbeats 40000000 in
theorem rmg0x2n (l : Launch) (Z : State) (a0 : Array Value) (hw : ∀ d ∈ tables_1, d.before a0 Z = true) (ws : List Jvm.Cond) (a1 : Addr) (a2 : Addr) (nm : Addr) (vl : Addr) (kn : ClassId) (kv : ClassId) (s0 : Addr) (s1 : Addr) (s2 : Addr) (v0 : Addr) (v1 : Addr) (v2 : Addr) (y0 : Int32) (y1 : Int32) (tq : Addr) (kq : ClassId) (wz : Int32) (h0 : Heap) (n0 : Nat) (Z0 : n0 ≤ h0.size) (F_names_a1 : Fld Z h0 a1 "com/example/kawi/kawi/xml/Attributes" "names" "[Ljava/lang/String;" (.ref nm)) (F_values_a1 : Fld Z h0 a1 "com/example/kawi/kawi/xml/Attributes" "values" "[Ljava/lang/String;" (.ref vl)) (F_size_a1 : Fld Z h0 a1 "com/example/kawi/kawi/xml/Attributes" "size" "I" (.int (0 : Int32))) (V_nm : Arv Z h0 nm kn (.object "java/lang/String") (3 : Int32) [(.ref s0), (.ref s1), (.ref s2)] .null) (V_vl : Arv Z h0 vl kv (.object "java/lang/String") (3 : Int32) [(.ref v0), (.ref v1), (.ref v2)] .null) (E_a2 : Exa Z h0 a2 "java/lang/String") (F_value_a2 : Fld Z h0 a2 "java/lang/String" "value" "[B" (.ref tq)) (F_coder_a2 : Fld Z h0 a2 "java/lang/String" "coder" "B" (.int (0 : Int32))) (V_tq : Arv Z h0 tq kq .byte (2 : Int32) [(.int y0), (.int y1)] (.int (0 : Int32))) (Old0 : Old Z n0 h0) (S_COMPACT_STRINGS : Sta Z Z.heap "java/lang/String" "COMPACT_STRINGS" "Z" (.int wz)) (hz : ¬ (wz = (0 : Int32))) :
    MetFree l (⟨"com/example/kawi/kawi/xml/Attributes", "getOrDefault", "(Ljava/lang/String;Ljava/lang/String;)Ljava/lang/String;"⟩ : MethodName) (head1 (Jvm.Cond.code (⟨"com/example/kawi/kawi/xml/Attributes", "getOrDefault", "(Ljava/lang/String;Ljava/lang/String;)Ljava/lang/String;"⟩ : MethodName) prog_112_method_5_code 4 (some (.object "java/lang/String")) :: ws) ({ frames := 0, cells := 0, slots := 0, locals := 0 } : Room)) (fun a U => a = #[(.ref a1), (.ref a2), .null] ∧ Z.Warmed39 U.vm ∧ U.heap = h0) (fun _ _ _ _ _ => True) (fun _ U o U' => ∃ v L, o = .returned v ∧ Q_rmg0x2n Z a1 a2 nm vl kn kv s0 s1 s2 v0 v1 v2 y0 y1 tq kq wz h0 n0 v U'.heap L ∧ FrameEnd U o U' L ({ frames := 0, cells := 0, slots := 0, locals := 0 } : Room).cells ({ frames := 0, cells := 0, slots := 0, locals := 0 } : Room).slots) := by
  refine MetFree.of_bodySF (plainFor_of_name pn_com_example_kawi_kawi_xml_Attributes) hisR ?_
  intro p e s m args below meth c s₁ Bd hml0 hP hK
  obtain ⟨rfl, hZ, hh⟩ := hP
  have hx := Bd.exec
  have hby := Bd.bytes
  have hml : c.maxLocals = 4 := hml0
  have hown : s.vm.findClass "com/example/kawi/kawi/xml/Attributes" = some m.cls := findClass_of_methodNamed Bd.named
  have hnm := (name_of_methodNamed Bd.named Bd.method).1
  have X0 : Stand p l e ({ frames := 0, cells := 0, slots := 0, locals := 0 } : Room) s m #[(.ref a1), (.ref a2), .null] below meth c s₁ [] 0 0 := Stand.of_body Bd
  have e0 : s₁.heap = h0 := by rw [← hh, Bd.state]; rfl
  have N0 := Fr.nil n0
  have pre0 : ∀ t, Steps p.tables e below (s₁.setTop (mkF m 0 #[.val (.ref a1), .val (.ref a2), .val .null, .unset] [])) t → Steps p.tables e below (s₁.setTop (entryFrame m #[(.ref a1), (.ref a2), .null] 4)) t := fun t k => castTop (efn_14 m a1 a2) k
  obtain ⟨T667, X667, e667, st667⟩ := getF X0 hx hZ hown (host := "") (Or.inl (wd_56 hw)) Via.refl e0 F_size_a1 (g := (mkF m 4 #[.val (.ref a1), .val (.ref a2), .val .null, .val (.int (0 : Int32))] [(.ref a1), (.int (0 : Int32))])) rfl rfl (hb hby d14_4)
  obtain ⟨fs, hr, hrun, hended, hW, hsame⟩ := X667.leave (v := some .null) (fun h => by rw [Bd.returns] at h; cases h)
  refine ⟨_, _, pre0 _ ?_, hrun, hended, _, _, rfl, ?_, ⟨_, rfl⟩, hW, hsame.mono (by decide) (by decide)⟩
  · show Steps p.tables e below (s₁.setTop (mkF m 0 #[.val (.ref a1), .val (.ref a2), .val .null, .unset] [])) _
    refine XS.iconst X0.here hx rfl (hb hby d14_0) ?_
    refine XS.istoreN X0.here hx rfl (hb hby d14_1) rfl (l' := #[.val (.ref a1), .val (.ref a2), .val .null, .val (.int (0 : Int32))]) rfl ?_
    refine XS.iloadN X0.here hx rfl (hb hby d14_2) rfl ?_
    refine XS.aloadN X0.here hx rfl (hb hby d14_3) rfl rfl ?_
    refine st667 _ ?_
    refine XS.icmpYes X667.here hx rfl (pc0 := 7) (pc' := 36) rfl (hb hby d14_7) rfl (flt (by decide)).2.1 (by decide) (by decide) ?_
    refine XS.aloadN X667.here hx rfl (hb hby d14_36) rfl rfl ?_
    exact X667.areturnOut hx rfl Bd.returns rfl (hb hby d14_37) hr
  · show Q_rmg0x2n Z a1 a2 nm vl kn kv s0 s1 s2 v0 v1 v2 y0 y1 tq kq wz h0 n0 _ T667.heap _
    rw [e667]
    exact ⟨rfl, N0, rfl⟩
def Q_rmg1x2n (Z : State) (a1 : Addr) (a2 : Addr) (nm : Addr) (vl : Addr) (kn : ClassId) (kv : ClassId) (s0 : Addr) (s1 : Addr) (s2 : Addr) (v0 : Addr) (v1 : Addr) (v2 : Addr) (t0 : Addr) (k0 : ClassId) (x0 : Int32) (y0 : Int32) (y1 : Int32) (tq : Addr) (kq : ClassId) (wz : Int32) (h0 : Heap) (n0 : Nat) (v : Option Value) (h : Heap) (L : List Loc) : Prop := v = some .null ∧ Fr n0 L ∧ h = h0
set_option maxRecDepth 65536 in
set_option maxHeartbeats 40000000 in
theorem rmg1x2n (l : Launch) (Z : State) (a0 : Array Value) (hw : ∀ d ∈ tables_1, d.before a0 Z = true) (ws : List Jvm.Cond) (a1 : Addr) (a2 : Addr) (nm : Addr) (vl : Addr) (kn : ClassId) (kv : ClassId) (s0 : Addr) (s1 : Addr) (s2 : Addr) (v0 : Addr) (v1 : Addr) (v2 : Addr) (t0 : Addr) (k0 : ClassId) (x0 : Int32) (y0 : Int32) (y1 : Int32) (tq : Addr) (kq : ClassId) (wz : Int32) (h0 : Heap) (n0 : Nat) (Z0 : n0 ≤ h0.size) (F_names_a1 : Fld Z h0 a1 "com/example/kawi/kawi/xml/Attributes" "names" "[Ljava/lang/String;" (.ref nm)) (F_values_a1 : Fld Z h0 a1 "com/example/kawi/kawi/xml/Attributes" "values" "[Ljava/lang/String;" (.ref vl)) (F_size_a1 : Fld Z h0 a1 "com/example/kawi/kawi/xml/Attributes" "size" "I" (.int (1 : Int32))) (V_nm : Arv Z h0 nm kn (.object "java/lang/String") (3 : Int32) [(.ref s0), (.ref s1), (.ref s2)] .null) (V_vl : Arv Z h0 vl kv (.object "java/lang/String") (3 : Int32) [(.ref v0), (.ref v1), (.ref v2)] .null) (E_s0 : Exa Z h0 s0 "java/lang/String") (F_value_s0 : Fld Z h0 s0 "java/lang/String" "value" "[B" (.ref t0)) (F_coder_s0 : Fld Z h0 s0 "java/lang/String" "coder" "B" (.int (0 : Int32))) (V_t0 : Arv Z h0 t0 k0 .byte (1 : Int32) [(.int x0)] (.int (0 : Int32))) (ne_s0_a2 : s0 ≠ a2) (E_a2 : Exa Z h0 a2 "java/lang/String") (F_value_a2 : Fld Z h0 a2 "java/lang/String" "value" "[B" (.ref tq)) (F_coder_a2 : Fld Z h0 a2 "java/lang/String" "coder" "B" (.int (0 : Int32))) (V_tq : Arv Z h0 tq kq .byte (2 : Int32) [(.int y0), (.int y1)] (.int (0 : Int32))) (Old0 : Old Z n0 h0) (S_COMPACT_STRINGS : Sta Z Z.heap "java/lang/String" "COMPACT_STRINGS" "Z" (.int wz)) (hz : ¬ (wz = (0 : Int32))) :
    MetFree l (⟨"com/example/kawi/kawi/xml/Attributes", "getOrDefault", "(Ljava/lang/String;Ljava/lang/String;)Ljava/lang/String;"⟩ : MethodName) (head1 (Jvm.Cond.code (⟨"com/example/kawi/kawi/xml/Attributes", "getOrDefault", "(Ljava/lang/String;Ljava/lang/String;)Ljava/lang/String;"⟩ : MethodName) prog_112_method_5_code 4 (some (.object "java/lang/String")) :: ws) ({ frames := 2, cells := 0, slots := 0, locals := 28 } : Room)) (fun a U => a = #[(.ref a1), (.ref a2), .null] ∧ Z.Warmed39 U.vm ∧ U.heap = h0) (fun _ _ _ _ _ => True) (fun _ U o U' => ∃ v L, o = .returned v ∧ Q_rmg1x2n Z a1 a2 nm vl kn kv s0 s1 s2 v0 v1 v2 t0 k0 x0 y0 y1 tq kq wz h0 n0 v U'.heap L ∧ FrameEnd U o U' L ({ frames := 2, cells := 0, slots := 0, locals := 28 } : Room).cells ({ frames := 2, cells := 0, slots := 0, locals := 28 } : Room).slots) := by
  refine MetFree.of_bodySF (plainFor_of_name pn_com_example_kawi_kawi_xml_Attributes) hisR ?_
  intro p e s m args below meth c s₁ Bd hml0 hP hK
  obtain ⟨rfl, hZ, hh⟩ := hP
  have hx := Bd.exec
  have hby := Bd.bytes
  have hml : c.maxLocals = 4 := hml0
  have hown : s.vm.findClass "com/example/kawi/kawi/xml/Attributes" = some m.cls := findClass_of_methodNamed Bd.named
  have hnm := (name_of_methodNamed Bd.named Bd.method).1
  have X0 : Stand p l e ({ frames := 2, cells := 0, slots := 0, locals := 28 } : Room) s m #[(.ref a1), (.ref a2), .null] below meth c s₁ [] 0 0 := Stand.of_body Bd
  have e0 : s₁.heap = h0 := by rw [← hh, Bd.state]; rfl
  have N0 := Fr.nil n0
  have pre0 : ∀ t, Steps p.tables e below (s₁.setTop (mkF m 0 #[.val (.ref a1), .val (.ref a2), .val .null, .unset] [])) t → Steps p.tables e below (s₁.setTop (entryFrame m #[(.ref a1), (.ref a2), .null] 4)) t := fun t k => castTop (efn_14 m a1 a2) k
  obtain ⟨T670, X670, e670, st670⟩ := getF X0 hx hZ hown (host := "") (Or.inl (wd_56 hw)) Via.refl e0 F_size_a1 (g := (mkF m 4 #[.val (.ref a1), .val (.ref a2), .val .null, .val (.int (0 : Int32))] [(.ref a1), (.int (0 : Int32))])) rfl rfl (hb hby d14_4)
  obtain ⟨T671, X671, e671, st671⟩ := getF X670 hx hZ hown (host := "") (Or.inl (wd_52 hw)) Via.refl e670 F_names_a1 (g := (mkF m 11 #[.val (.ref a1), .val (.ref a2), .val .null, .val (.int (0 : Int32))] [(.ref a1)])) rfl rfl (hb hby d14_11)
  obtain ⟨cl672, Ar672, q672, S672, N672n, H672, G672⟩ := id (V_nm)
  have hin672 : ¬ ((0 : Int32) < 0 ∨ cl672.slots.size ≤ ((0 : Int32)).toNatClampNeg) := inb_of S672 ⟨by decide, by decide⟩
  have hat672 : cl672.slots[((0 : Int32)).toNatClampNeg]? = some (.ref s0) := H672.at hin672 rfl
  obtain ⟨cq673, kq673, q673a, q673b, q673c⟩ := isOf hZ e671 (E_s0)
  obtain ⟨_, _, ⟨T673, L673, k673, n673⟩, -, X673, ⟨Lc673, hQ673, l673, y673, z673⟩, st673⟩ := X671.virtualBack hx (y := (⟨"java/lang/String", "equals", "(Ljava/lang/Object;)Z"⟩ : MethodName)) (z := (⟨"java/lang/String", "equals", "(Ljava/lang/Object;)Z"⟩ : MethodName)) hown (mvT hZ (wd_71 hw)) (mvT hZ (wd_59 hw)) (notFace_of_selects (args := #[]) (mvT hZ (wd_61 hw))) (mvT hZ (wd_61 hw)) (mvT hZ (wd_60 hw)) (by decide) (backOf (W := 0) (rmeq12 l Z a0 hw [] s0 a2 t0 tq wz k0 kq x0 y0 y1 h0 n0 Z0 E_s0 E_a2 F_value_s0 F_value_a2 F_coder_s0 F_coder_a2 V_t0 V_tq Old0 S_COMPACT_STRINGS hz ne_s0_a2) hZ (wd_62 hw) (wd_2 hw) (by decide) (by decide)) q673a q673c (g := (mkF m 17 #[.val (.ref a1), .val (.ref a2), .val .null, .val (.int (0 : Int32))] [(.ref a2), (.ref s0)])) rfl (by rw [hml]; rfl) (Steps.refl _) (argsL := [(.ref a2)]) (rest := []) (lenOf pd__Ljava_lang_Object__Z rfl) rfl (by show 2 * 0 + _ ≤ _; exact Nat.le_of_eq rfl) (hb hby d14_17) (fun _ _ => ⟨rfl, e671, (by decide : 0 + 0 ≤ _), (by decide : 0 + 0 ≤ _)⟩)
  dsimp only [Pt.U, Pt.locs, Pt.cells, Pt.slots] at X673 l673 y673 z673 st673 hQ673
  rw [l673, y673, z673] at X673
  obtain ⟨rfl, N673q, e673⟩ := hQ673
  have N673 := Fr.app N0 N673q
  obtain ⟨T674, X674, e674, st674⟩ := getF X673 hx hZ hown (host := "") (Or.inl (wd_56 hw)) Via.refl e673 F_size_a1 (g := (mkF m 4 #[.val (.ref a1), .val (.ref a2), .val .null, .val (.int (1 : Int32))] [(.ref a1), (.int (1 : Int32))])) rfl rfl (hb hby d14_4)
  obtain ⟨fs, hr, hrun, hended, hW, hsame⟩ := X674.leave (v := some .null) (fun h => by rw [Bd.returns] at h; cases h)
  refine ⟨_, _, pre0 _ ?_, hrun, hended, _, _, rfl, ?_, ⟨_, rfl⟩, hW, hsame.mono (by decide) (by decide)⟩
  · show Steps p.tables e below (s₁.setTop (mkF m 0 #[.val (.ref a1), .val (.ref a2), .val .null, .unset] [])) _
    refine XS.iconst X0.here hx rfl (hb hby d14_0) ?_
    refine XS.istoreN X0.here hx rfl (hb hby d14_1) rfl (l' := #[.val (.ref a1), .val (.ref a2), .val .null, .val (.int (0 : Int32))]) rfl ?_
    refine XS.iloadN X0.here hx rfl (hb hby d14_2) rfl ?_
    refine XS.aloadN X0.here hx rfl (hb hby d14_3) rfl rfl ?_
    refine st670 _ ?_
    refine XS.icmpNo X670.here hx rfl (hb hby d14_7) rfl (tlt (by decide)).2.1 ?_
    refine XS.aloadN X670.here hx rfl (hb hby d14_10) rfl rfl ?_
    refine st671 _ ?_
    refine XS.iloadN X671.here hx rfl (hb hby d14_14) rfl ?_
    refine X671.aaload hx (j := (0 : Int32)) (v := (.ref s0)) (by rw [e671]; exact Ar672.1) (State.isArrayOf_alike hZ.alike Ar672.2.1) rfl Ar672.2.2 hin672 hat672 (g := (mkF m 15 #[.val (.ref a1), .val (.ref a2), .val .null, .val (.int (0 : Int32))] [(.int (0 : Int32)), (.ref nm)])) rfl rfl (hb hby d14_15) _ ?_
    show Steps p.tables e below (T671.setTop (mkF m 16 #[.val (.ref a1), .val (.ref a2), .val .null, .val (.int (0 : Int32))] [(.ref s0)])) _
    refine XS.aloadN X671.here hx rfl (hb hby d14_16) rfl rfl ?_
    refine st673.trans ?_
    refine XS.ifYes X673.here hx rfl (pc0 := 20) (pc' := 30) rfl (hb hby d14_20) rfl ((if0 _ _).trans (teq (rfl : (0 : Int32) = (0 : Int32))).1) (by decide) (by decide) ?_
    refine XS.iinc X673.here hx rfl (hb hby d14_30) rfl (l' := #[.val (.ref a1), .val (.ref a2), .val .null, .val (.int (1 : Int32))]) rfl ?_
    refine XS.goto X673.here hx rfl (pc0 := 33) (pc' := 2) rfl (hb hby d14_33) (by decide) (by decide) ?_
    refine XS.iloadN X673.here hx rfl (hb hby d14_2) rfl ?_
    refine XS.aloadN X673.here hx rfl (hb hby d14_3) rfl rfl ?_
    refine st674 _ ?_
    refine XS.icmpYes X674.here hx rfl (pc0 := 7) (pc' := 36) rfl (hb hby d14_7) rfl (flt (by decide)).2.1 (by decide) (by decide) ?_
    refine XS.aloadN X674.here hx rfl (hb hby d14_36) rfl rfl ?_
    show Steps p.tables e below (T674.setTop (mkF m 37 #[.val (.ref a1), .val (.ref a2), .val .null, .val (.int (1 : Int32))] [.null])) _
    exact X674.areturnOut hx rfl Bd.returns rfl (hb hby d14_37) hr
  · show Q_rmg1x2n Z a1 a2 nm vl kn kv s0 s1 s2 v0 v1 v2 t0 k0 x0 y0 y1 tq kq wz h0 n0 _ T674.heap _
    rw [e674]
    exact ⟨rfl, N673, rfl⟩
def Q_rmg2x2n (Z : State) (a1 : Addr) (a2 : Addr) (nm : Addr) (vl : Addr) (kn : ClassId) (kv : ClassId) (s0 : Addr) (s1 : Addr) (s2 : Addr) (v0 : Addr) (v1 : Addr) (v2 : Addr) (t0 : Addr) (t1 : Addr) (k0 : ClassId) (k1 : ClassId) (x0 : Int32) (x1 : Int32) (y0 : Int32) (y1 : Int32) (tq : Addr) (kq : ClassId) (wz : Int32) (h0 : Heap) (n0 : Nat) (v : Option Value) (h : Heap) (L : List Loc) : Prop := v = some .null ∧ Fr n0 L ∧ h = h0
set_option maxRecDepth 65536 in
set_option maxHeartbeats 40000000 in
theorem rmg2x2n (l : Launch) (Z : State) (a0 : Array Value) (hw : ∀ d ∈ tables_1, d.before a0 Z = true) (ws : List Jvm.Cond) (a1 : Addr) (a2 : Addr) (nm : Addr) (vl : Addr) (kn : ClassId) (kv : ClassId) (s0 : Addr) (s1 : Addr) (s2 : Addr) (v0 : Addr) (v1 : Addr) (v2 : Addr) (t0 : Addr) (t1 : Addr) (k0 : ClassId) (k1 : ClassId) (x0 : Int32) (x1 : Int32) (y0 : Int32) (y1 : Int32) (tq : Addr) (kq : ClassId) (wz : Int32) (h0 : Heap) (n0 : Nat) (Z0 : n0 ≤ h0.size) (F_names_a1 : Fld Z h0 a1 "com/example/kawi/kawi/xml/Attributes" "names" "[Ljava/lang/String;" (.ref nm)) (F_values_a1 : Fld Z h0 a1 "com/example/kawi/kawi/xml/Attributes" "values" "[Ljava/lang/String;" (.ref vl)) (F_size_a1 : Fld Z h0 a1 "com/example/kawi/kawi/xml/Attributes" "size" "I" (.int (2 : Int32))) (V_nm : Arv Z h0 nm kn (.object "java/lang/String") (3 : Int32) [(.ref s0), (.ref s1), (.ref s2)] .null) (V_vl : Arv Z h0 vl kv (.object "java/lang/String") (3 : Int32) [(.ref v0), (.ref v1), (.ref v2)] .null) (E_s0 : Exa Z h0 s0 "java/lang/String") (F_value_s0 : Fld Z h0 s0 "java/lang/String" "value" "[B" (.ref t0)) (F_coder_s0 : Fld Z h0 s0 "java/lang/String" "coder" "B" (.int (0 : Int32))) (V_t0 : Arv Z h0 t0 k0 .byte (1 : Int32) [(.int x0)] (.int (0 : Int32))) (ne_s0_a2 : s0 ≠ a2) (E_s1 : Exa Z h0 s1 "java/lang/String") (F_value_s1 : Fld Z h0 s1 "java/lang/String" "value" "[B" (.ref t1)) (F_coder_s1 : Fld Z h0 s1 "java/lang/String" "coder" "B" (.int (0 : Int32))) (V_t1 : Arv Z h0 t1 k1 .byte (1 : Int32) [(.int x1)] (.int (0 : Int32))) (ne_s1_a2 : s1 ≠ a2) (E_a2 : Exa Z h0 a2 "java/lang/String") (F_value_a2 : Fld Z h0 a2 "java/lang/String" "value" "[B" (.ref tq)) (F_coder_a2 : Fld Z h0 a2 "java/lang/String" "coder" "B" (.int (0 : Int32))) (V_tq : Arv Z h0 tq kq .byte (2 : Int32) [(.int y0), (.int y1)] (.int (0 : Int32))) (Old0 : Old Z n0 h0) (S_COMPACT_STRINGS : Sta Z Z.heap "java/lang/String" "COMPACT_STRINGS" "Z" (.int wz)) (hz : ¬ (wz = (0 : Int32))) :
    MetFree l (⟨"com/example/kawi/kawi/xml/Attributes", "getOrDefault", "(Ljava/lang/String;Ljava/lang/String;)Ljava/lang/String;"⟩ : MethodName) (head1 (Jvm.Cond.code (⟨"com/example/kawi/kawi/xml/Attributes", "getOrDefault", "(Ljava/lang/String;Ljava/lang/String;)Ljava/lang/String;"⟩ : MethodName) prog_112_method_5_code 4 (some (.object "java/lang/String")) :: ws) ({ frames := 2, cells := 0, slots := 0, locals := 28 } : Room)) (fun a U => a = #[(.ref a1), (.ref a2), .null] ∧ Z.Warmed39 U.vm ∧ U.heap = h0) (fun _ _ _ _ _ => True) (fun _ U o U' => ∃ v L, o = .returned v ∧ Q_rmg2x2n Z a1 a2 nm vl kn kv s0 s1 s2 v0 v1 v2 t0 t1 k0 k1 x0 x1 y0 y1 tq kq wz h0 n0 v U'.heap L ∧ FrameEnd U o U' L ({ frames := 2, cells := 0, slots := 0, locals := 28 } : Room).cells ({ frames := 2, cells := 0, slots := 0, locals := 28 } : Room).slots) := by
  refine MetFree.of_bodySF (plainFor_of_name pn_com_example_kawi_kawi_xml_Attributes) hisR ?_
  intro p e s m args below meth c s₁ Bd hml0 hP hK
  obtain ⟨rfl, hZ, hh⟩ := hP
  have hx := Bd.exec
  have hby := Bd.bytes
  have hml : c.maxLocals = 4 := hml0
  have hown : s.vm.findClass "com/example/kawi/kawi/xml/Attributes" = some m.cls := findClass_of_methodNamed Bd.named
  have hnm := (name_of_methodNamed Bd.named Bd.method).1
  have X0 : Stand p l e ({ frames := 2, cells := 0, slots := 0, locals := 28 } : Room) s m #[(.ref a1), (.ref a2), .null] below meth c s₁ [] 0 0 := Stand.of_body Bd
  have e0 : s₁.heap = h0 := by rw [← hh, Bd.state]; rfl
  have N0 := Fr.nil n0
  have pre0 : ∀ t, Steps p.tables e below (s₁.setTop (mkF m 0 #[.val (.ref a1), .val (.ref a2), .val .null, .unset] [])) t → Steps p.tables e below (s₁.setTop (entryFrame m #[(.ref a1), (.ref a2), .null] 4)) t := fun t k => castTop (efn_14 m a1 a2) k
  obtain ⟨T678, X678, e678, st678⟩ := getF X0 hx hZ hown (host := "") (Or.inl (wd_56 hw)) Via.refl e0 F_size_a1 (g := (mkF m 4 #[.val (.ref a1), .val (.ref a2), .val .null, .val (.int (0 : Int32))] [(.ref a1), (.int (0 : Int32))])) rfl rfl (hb hby d14_4)
  obtain ⟨T679, X679, e679, st679⟩ := getF X678 hx hZ hown (host := "") (Or.inl (wd_52 hw)) Via.refl e678 F_names_a1 (g := (mkF m 11 #[.val (.ref a1), .val (.ref a2), .val .null, .val (.int (0 : Int32))] [(.ref a1)])) rfl rfl (hb hby d14_11)
  obtain ⟨cl680, Ar680, q680, S680, N680n, H680, G680⟩ := id (V_nm)
  have hin680 : ¬ ((0 : Int32) < 0 ∨ cl680.slots.size ≤ ((0 : Int32)).toNatClampNeg) := inb_of S680 ⟨by decide, by decide⟩
  have hat680 : cl680.slots[((0 : Int32)).toNatClampNeg]? = some (.ref s0) := H680.at hin680 rfl
  obtain ⟨cq681, kq681, q681a, q681b, q681c⟩ := isOf hZ e679 (E_s0)
  obtain ⟨_, _, ⟨T681, L681, k681, n681⟩, -, X681, ⟨Lc681, hQ681, l681, y681, z681⟩, st681⟩ := X679.virtualBack hx (y := (⟨"java/lang/String", "equals", "(Ljava/lang/Object;)Z"⟩ : MethodName)) (z := (⟨"java/lang/String", "equals", "(Ljava/lang/Object;)Z"⟩ : MethodName)) hown (mvT hZ (wd_71 hw)) (mvT hZ (wd_59 hw)) (notFace_of_selects (args := #[]) (mvT hZ (wd_61 hw))) (mvT hZ (wd_61 hw)) (mvT hZ (wd_60 hw)) (by decide) (backOf (W := 0) (rmeq12 l Z a0 hw [] s0 a2 t0 tq wz k0 kq x0 y0 y1 h0 n0 Z0 E_s0 E_a2 F_value_s0 F_value_a2 F_coder_s0 F_coder_a2 V_t0 V_tq Old0 S_COMPACT_STRINGS hz ne_s0_a2) hZ (wd_62 hw) (wd_2 hw) (by decide) (by decide)) q681a q681c (g := (mkF m 17 #[.val (.ref a1), .val (.ref a2), .val .null, .val (.int (0 : Int32))] [(.ref a2), (.ref s0)])) rfl (by rw [hml]; rfl) (Steps.refl _) (argsL := [(.ref a2)]) (rest := []) (lenOf pd__Ljava_lang_Object__Z rfl) rfl (by show 2 * 0 + _ ≤ _; exact Nat.le_of_eq rfl) (hb hby d14_17) (fun _ _ => ⟨rfl, e679, (by decide : 0 + 0 ≤ _), (by decide : 0 + 0 ≤ _)⟩)
  dsimp only [Pt.U, Pt.locs, Pt.cells, Pt.slots] at X681 l681 y681 z681 st681 hQ681
  rw [l681, y681, z681] at X681
  obtain ⟨rfl, N681q, e681⟩ := hQ681
  have N681 := Fr.app N0 N681q
  obtain ⟨T682, X682, e682, st682⟩ := getF X681 hx hZ hown (host := "") (Or.inl (wd_56 hw)) Via.refl e681 F_size_a1 (g := (mkF m 4 #[.val (.ref a1), .val (.ref a2), .val .null, .val (.int (1 : Int32))] [(.ref a1), (.int (1 : Int32))])) rfl rfl (hb hby d14_4)
  obtain ⟨T683, X683, e683, st683⟩ := getF X682 hx hZ hown (host := "") (Or.inl (wd_52 hw)) Via.refl e682 F_names_a1 (g := (mkF m 11 #[.val (.ref a1), .val (.ref a2), .val .null, .val (.int (1 : Int32))] [(.ref a1)])) rfl rfl (hb hby d14_11)
  obtain ⟨cl684, Ar684, q684, S684, N684n, H684, G684⟩ := id (V_nm)
  have hin684 : ¬ ((1 : Int32) < 0 ∨ cl684.slots.size ≤ ((1 : Int32)).toNatClampNeg) := inb_of S684 ⟨by decide, by decide⟩
  have hat684 : cl684.slots[((1 : Int32)).toNatClampNeg]? = some (.ref s1) := H684.at hin684 rfl
  obtain ⟨cq685, kq685, q685a, q685b, q685c⟩ := isOf hZ e683 (E_s1)
  obtain ⟨_, _, ⟨T685, L685, k685, n685⟩, -, X685, ⟨Lc685, hQ685, l685, y685, z685⟩, st685⟩ := X683.virtualBack hx (y := (⟨"java/lang/String", "equals", "(Ljava/lang/Object;)Z"⟩ : MethodName)) (z := (⟨"java/lang/String", "equals", "(Ljava/lang/Object;)Z"⟩ : MethodName)) hown (mvT hZ (wd_71 hw)) (mvT hZ (wd_59 hw)) (notFace_of_selects (args := #[]) (mvT hZ (wd_61 hw))) (mvT hZ (wd_61 hw)) (mvT hZ (wd_60 hw)) (by decide) (backOf (W := 0) (rmeq12 l Z a0 hw [] s1 a2 t1 tq wz k1 kq x1 y0 y1 h0 n0 Z0 E_s1 E_a2 F_value_s1 F_value_a2 F_coder_s1 F_coder_a2 V_t1 V_tq Old0 S_COMPACT_STRINGS hz ne_s1_a2) hZ (wd_62 hw) (wd_2 hw) (by decide) (by decide)) q685a q685c (g := (mkF m 17 #[.val (.ref a1), .val (.ref a2), .val .null, .val (.int (1 : Int32))] [(.ref a2), (.ref s1)])) rfl (by rw [hml]; rfl) (Steps.refl _) (argsL := [(.ref a2)]) (rest := []) (lenOf pd__Ljava_lang_Object__Z rfl) rfl (by show 2 * 0 + _ ≤ _; exact Nat.le_of_eq rfl) (hb hby d14_17) (fun _ _ => ⟨rfl, e683, (by decide : 0 + 0 ≤ _), (by decide : 0 + 0 ≤ _)⟩)
  dsimp only [Pt.U, Pt.locs, Pt.cells, Pt.slots] at X685 l685 y685 z685 st685 hQ685
  rw [l685, y685, z685] at X685
  obtain ⟨rfl, N685q, e685⟩ := hQ685
  have N685 := Fr.app N681 N685q
  obtain ⟨T686, X686, e686, st686⟩ := getF X685 hx hZ hown (host := "") (Or.inl (wd_56 hw)) Via.refl e685 F_size_a1 (g := (mkF m 4 #[.val (.ref a1), .val (.ref a2), .val .null, .val (.int (2 : Int32))] [(.ref a1), (.int (2 : Int32))])) rfl rfl (hb hby d14_4)
  obtain ⟨fs, hr, hrun, hended, hW, hsame⟩ := X686.leave (v := some .null) (fun h => by rw [Bd.returns] at h; cases h)
  refine ⟨_, _, pre0 _ ?_, hrun, hended, _, _, rfl, ?_, ⟨_, rfl⟩, hW, hsame.mono (by decide) (by decide)⟩
  · show Steps p.tables e below (s₁.setTop (mkF m 0 #[.val (.ref a1), .val (.ref a2), .val .null, .unset] [])) _
    refine XS.iconst X0.here hx rfl (hb hby d14_0) ?_
    refine XS.istoreN X0.here hx rfl (hb hby d14_1) rfl (l' := #[.val (.ref a1), .val (.ref a2), .val .null, .val (.int (0 : Int32))]) rfl ?_
    refine XS.iloadN X0.here hx rfl (hb hby d14_2) rfl ?_
    refine XS.aloadN X0.here hx rfl (hb hby d14_3) rfl rfl ?_
    refine st678 _ ?_
    refine XS.icmpNo X678.here hx rfl (hb hby d14_7) rfl (tlt (by decide)).2.1 ?_
    refine XS.aloadN X678.here hx rfl (hb hby d14_10) rfl rfl ?_
    refine st679 _ ?_
    refine XS.iloadN X679.here hx rfl (hb hby d14_14) rfl ?_
    refine X679.aaload hx (j := (0 : Int32)) (v := (.ref s0)) (by rw [e679]; exact Ar680.1) (State.isArrayOf_alike hZ.alike Ar680.2.1) rfl Ar680.2.2 hin680 hat680 (g := (mkF m 15 #[.val (.ref a1), .val (.ref a2), .val .null, .val (.int (0 : Int32))] [(.int (0 : Int32)), (.ref nm)])) rfl rfl (hb hby d14_15) _ ?_
    show Steps p.tables e below (T679.setTop (mkF m 16 #[.val (.ref a1), .val (.ref a2), .val .null, .val (.int (0 : Int32))] [(.ref s0)])) _
    refine XS.aloadN X679.here hx rfl (hb hby d14_16) rfl rfl ?_
    refine st681.trans ?_
    refine XS.ifYes X681.here hx rfl (pc0 := 20) (pc' := 30) rfl (hb hby d14_20) rfl ((if0 _ _).trans (teq (rfl : (0 : Int32) = (0 : Int32))).1) (by decide) (by decide) ?_
    refine XS.iinc X681.here hx rfl (hb hby d14_30) rfl (l' := #[.val (.ref a1), .val (.ref a2), .val .null, .val (.int (1 : Int32))]) rfl ?_
    refine XS.goto X681.here hx rfl (pc0 := 33) (pc' := 2) rfl (hb hby d14_33) (by decide) (by decide) ?_
    refine XS.iloadN X681.here hx rfl (hb hby d14_2) rfl ?_
    refine XS.aloadN X681.here hx rfl (hb hby d14_3) rfl rfl ?_
    refine st682 _ ?_
    refine XS.icmpNo X682.here hx rfl (hb hby d14_7) rfl (tlt (by decide)).2.1 ?_
    refine XS.aloadN X682.here hx rfl (hb hby d14_10) rfl rfl ?_
    show Steps p.tables e below (T682.setTop (mkF m 11 #[.val (.ref a1), .val (.ref a2), .val .null, .val (.int (1 : Int32))] [(.ref a1)])) _
    refine st683 _ ?_
    refine XS.iloadN X683.here hx rfl (hb hby d14_14) rfl ?_
    refine X683.aaload hx (j := (1 : Int32)) (v := (.ref s1)) (by rw [e683]; exact Ar684.1) (State.isArrayOf_alike hZ.alike Ar684.2.1) rfl Ar684.2.2 hin684 hat684 (g := (mkF m 15 #[.val (.ref a1), .val (.ref a2), .val .null, .val (.int (1 : Int32))] [(.int (1 : Int32)), (.ref nm)])) rfl rfl (hb hby d14_15) _ ?_
    refine XS.aloadN X683.here hx rfl (hb hby d14_16) rfl rfl ?_
    refine st685.trans ?_
    refine XS.ifYes X685.here hx rfl (pc0 := 20) (pc' := 30) rfl (hb hby d14_20) rfl ((if0 _ _).trans (teq (rfl : (0 : Int32) = (0 : Int32))).1) (by decide) (by decide) ?_
    refine XS.iinc X685.here hx rfl (hb hby d14_30) rfl (l' := #[.val (.ref a1), .val (.ref a2), .val .null, .val (.int (2 : Int32))]) rfl ?_
    refine XS.goto X685.here hx rfl (pc0 := 33) (pc' := 2) rfl (hb hby d14_33) (by decide) (by decide) ?_
    refine XS.iloadN X685.here hx rfl (hb hby d14_2) rfl ?_
    refine XS.aloadN X685.here hx rfl (hb hby d14_3) rfl rfl ?_
    show Steps p.tables e below (T685.setTop (mkF m 4 #[.val (.ref a1), .val (.ref a2), .val .null, .val (.int (2 : Int32))] [(.ref a1), (.int (2 : Int32))])) _
    refine st686 _ ?_
    refine XS.icmpYes X686.here hx rfl (pc0 := 7) (pc' := 36) rfl (hb hby d14_7) rfl (flt (by decide)).2.1 (by decide) (by decide) ?_
    refine XS.aloadN X686.here hx rfl (hb hby d14_36) rfl rfl ?_
    exact X686.areturnOut hx rfl Bd.returns rfl (hb hby d14_37) hr
  · show Q_rmg2x2n Z a1 a2 nm vl kn kv s0 s1 s2 v0 v1 v2 t0 t1 k0 k1 x0 x1 y0 y1 tq kq wz h0 n0 _ T686.heap _
    rw [e686]
    exact ⟨rfl, N685, rfl⟩
def Q_rmg3x2n (Z : State) (a1 : Addr) (a2 : Addr) (nm : Addr) (vl : Addr) (kn : ClassId) (kv : ClassId) (s0 : Addr) (s1 : Addr) (s2 : Addr) (v0 : Addr) (v1 : Addr) (v2 : Addr) (t0 : Addr) (t1 : Addr) (t2 : Addr) (k0 : ClassId) (k1 : ClassId) (k2 : ClassId) (x0 : Int32) (x1 : Int32) (x2 : Int32) (y0 : Int32) (y1 : Int32) (tq : Addr) (kq : ClassId) (wz : Int32) (h0 : Heap) (n0 : Nat) (v : Option Value) (h : Heap) (L : List Loc) : Prop := v = some .null ∧ Fr n0 L ∧ h = h0
set_option maxRecDepth 65536 in
set_option maxHeartbeats 40000000 in
theorem rmg3x2n (l : Launch) (Z : State) (a0 : Array Value) (hw : ∀ d ∈ tables_1, d.before a0 Z = true) (ws : List Jvm.Cond) (a1 : Addr) (a2 : Addr) (nm : Addr) (vl : Addr) (kn : ClassId) (kv : ClassId) (s0 : Addr) (s1 : Addr) (s2 : Addr) (v0 : Addr) (v1 : Addr) (v2 : Addr) (t0 : Addr) (t1 : Addr) (t2 : Addr) (k0 : ClassId) (k1 : ClassId) (k2 : ClassId) (x0 : Int32) (x1 : Int32) (x2 : Int32) (y0 : Int32) (y1 : Int32) (tq : Addr) (kq : ClassId) (wz : Int32) (h0 : Heap) (n0 : Nat) (Z0 : n0 ≤ h0.size) (F_names_a1 : Fld Z h0 a1 "com/example/kawi/kawi/xml/Attributes" "names" "[Ljava/lang/String;" (.ref nm)) (F_values_a1 : Fld Z h0 a1 "com/example/kawi/kawi/xml/Attributes" "values" "[Ljava/lang/String;" (.ref vl)) (F_size_a1 : Fld Z h0 a1 "com/example/kawi/kawi/xml/Attributes" "size" "I" (.int (3 : Int32))) (V_nm : Arv Z h0 nm kn (.object "java/lang/String") (3 : Int32) [(.ref s0), (.ref s1), (.ref s2)] .null) (V_vl : Arv Z h0 vl kv (.object "java/lang/String") (3 : Int32) [(.ref v0), (.ref v1), (.ref v2)] .null) (E_s0 : Exa Z h0 s0 "java/lang/String") (F_value_s0 : Fld Z h0 s0 "java/lang/String" "value" "[B" (.ref t0)) (F_coder_s0 : Fld Z h0 s0 "java/lang/String" "coder" "B" (.int (0 : Int32))) (V_t0 : Arv Z h0 t0 k0 .byte (1 : Int32) [(.int x0)] (.int (0 : Int32))) (ne_s0_a2 : s0 ≠ a2) (E_s1 : Exa Z h0 s1 "java/lang/String") (F_value_s1 : Fld Z h0 s1 "java/lang/String" "value" "[B" (.ref t1)) (F_coder_s1 : Fld Z h0 s1 "java/lang/String" "coder" "B" (.int (0 : Int32))) (V_t1 : Arv Z h0 t1 k1 .byte (1 : Int32) [(.int x1)] (.int (0 : Int32))) (ne_s1_a2 : s1 ≠ a2) (E_s2 : Exa Z h0 s2 "java/lang/String") (F_value_s2 : Fld Z h0 s2 "java/lang/String" "value" "[B" (.ref t2)) (F_coder_s2 : Fld Z h0 s2 "java/lang/String" "coder" "B" (.int (0 : Int32))) (V_t2 : Arv Z h0 t2 k2 .byte (1 : Int32) [(.int x2)] (.int (0 : Int32))) (ne_s2_a2 : s2 ≠ a2) (E_a2 : Exa Z h0 a2 "java/lang/String") (F_value_a2 : Fld Z h0 a2 "java/lang/String" "value" "[B" (.ref tq)) (F_coder_a2 : Fld Z h0 a2 "java/lang/String" "coder" "B" (.int (0 : Int32))) (V_tq : Arv Z h0 tq kq .byte (2 : Int32) [(.int y0), (.int y1)] (.int (0 : Int32))) (Old0 : Old Z n0 h0) (S_COMPACT_STRINGS : Sta Z Z.heap "java/lang/String" "COMPACT_STRINGS" "Z" (.int wz)) (hz : ¬ (wz = (0 : Int32))) :
    MetFree l (⟨"com/example/kawi/kawi/xml/Attributes", "getOrDefault", "(Ljava/lang/String;Ljava/lang/String;)Ljava/lang/String;"⟩ : MethodName) (head1 (Jvm.Cond.code (⟨"com/example/kawi/kawi/xml/Attributes", "getOrDefault", "(Ljava/lang/String;Ljava/lang/String;)Ljava/lang/String;"⟩ : MethodName) prog_112_method_5_code 4 (some (.object "java/lang/String")) :: ws) ({ frames := 2, cells := 0, slots := 0, locals := 28 } : Room)) (fun a U => a = #[(.ref a1), (.ref a2), .null] ∧ Z.Warmed39 U.vm ∧ U.heap = h0) (fun _ _ _ _ _ => True) (fun _ U o U' => ∃ v L, o = .returned v ∧ Q_rmg3x2n Z a1 a2 nm vl kn kv s0 s1 s2 v0 v1 v2 t0 t1 t2 k0 k1 k2 x0 x1 x2 y0 y1 tq kq wz h0 n0 v U'.heap L ∧ FrameEnd U o U' L ({ frames := 2, cells := 0, slots := 0, locals := 28 } : Room).cells ({ frames := 2, cells := 0, slots := 0, locals := 28 } : Room).slots) := by
  refine MetFree.of_bodySF (plainFor_of_name pn_com_example_kawi_kawi_xml_Attributes) hisR ?_
  intro p e s m args below meth c s₁ Bd hml0 hP hK
  obtain ⟨rfl, hZ, hh⟩ := hP
  have hx := Bd.exec
  have hby := Bd.bytes
  have hml : c.maxLocals = 4 := hml0
  have hown : s.vm.findClass "com/example/kawi/kawi/xml/Attributes" = some m.cls := findClass_of_methodNamed Bd.named
  have hnm := (name_of_methodNamed Bd.named Bd.method).1
  have X0 : Stand p l e ({ frames := 2, cells := 0, slots := 0, locals := 28 } : Room) s m #[(.ref a1), (.ref a2), .null] below meth c s₁ [] 0 0 := Stand.of_body Bd
  have e0 : s₁.heap = h0 := by rw [← hh, Bd.state]; rfl
  have N0 := Fr.nil n0
  have pre0 : ∀ t, Steps p.tables e below (s₁.setTop (mkF m 0 #[.val (.ref a1), .val (.ref a2), .val .null, .unset] [])) t → Steps p.tables e below (s₁.setTop (entryFrame m #[(.ref a1), (.ref a2), .null] 4)) t := fun t k => castTop (efn_14 m a1 a2) k
  obtain ⟨T691, X691, e691, st691⟩ := getF X0 hx hZ hown (host := "") (Or.inl (wd_56 hw)) Via.refl e0 F_size_a1 (g := (mkF m 4 #[.val (.ref a1), .val (.ref a2), .val .null, .val (.int (0 : Int32))] [(.ref a1), (.int (0 : Int32))])) rfl rfl (hb hby d14_4)
  obtain ⟨T692, X692, e692, st692⟩ := getF X691 hx hZ hown (host := "") (Or.inl (wd_52 hw)) Via.refl e691 F_names_a1 (g := (mkF m 11 #[.val (.ref a1), .val (.ref a2), .val .null, .val (.int (0 : Int32))] [(.ref a1)])) rfl rfl (hb hby d14_11)
  obtain ⟨cl693, Ar693, q693, S693, N693n, H693, G693⟩ := id (V_nm)
  have hin693 : ¬ ((0 : Int32) < 0 ∨ cl693.slots.size ≤ ((0 : Int32)).toNatClampNeg) := inb_of S693 ⟨by decide, by decide⟩
  have hat693 : cl693.slots[((0 : Int32)).toNatClampNeg]? = some (.ref s0) := H693.at hin693 rfl
  obtain ⟨cq694, kq694, q694a, q694b, q694c⟩ := isOf hZ e692 (E_s0)
  obtain ⟨_, _, ⟨T694, L694, k694, n694⟩, -, X694, ⟨Lc694, hQ694, l694, y694, z694⟩, st694⟩ := X692.virtualBack hx (y := (⟨"java/lang/String", "equals", "(Ljava/lang/Object;)Z"⟩ : MethodName)) (z := (⟨"java/lang/String", "equals", "(Ljava/lang/Object;)Z"⟩ : MethodName)) hown (mvT hZ (wd_71 hw)) (mvT hZ (wd_59 hw)) (notFace_of_selects (args := #[]) (mvT hZ (wd_61 hw))) (mvT hZ (wd_61 hw)) (mvT hZ (wd_60 hw)) (by decide) (backOf (W := 0) (rmeq12 l Z a0 hw [] s0 a2 t0 tq wz k0 kq x0 y0 y1 h0 n0 Z0 E_s0 E_a2 F_value_s0 F_value_a2 F_coder_s0 F_coder_a2 V_t0 V_tq Old0 S_COMPACT_STRINGS hz ne_s0_a2) hZ (wd_62 hw) (wd_2 hw) (by decide) (by decide)) q694a q694c (g := (mkF m 17 #[.val (.ref a1), .val (.ref a2), .val .null, .val (.int (0 : Int32))] [(.ref a2), (.ref s0)])) rfl (by rw [hml]; rfl) (Steps.refl _) (argsL := [(.ref a2)]) (rest := []) (lenOf pd__Ljava_lang_Object__Z rfl) rfl (by show 2 * 0 + _ ≤ _; exact Nat.le_of_eq rfl) (hb hby d14_17) (fun _ _ => ⟨rfl, e692, (by decide : 0 + 0 ≤ _), (by decide : 0 + 0 ≤ _)⟩)
  dsimp only [Pt.U, Pt.locs, Pt.cells, Pt.slots] at X694 l694 y694 z694 st694 hQ694
  rw [l694, y694, z694] at X694
  obtain ⟨rfl, N694q, e694⟩ := hQ694
  have N694 := Fr.app N0 N694q
  obtain ⟨T695, X695, e695, st695⟩ := getF X694 hx hZ hown (host := "") (Or.inl (wd_56 hw)) Via.refl e694 F_size_a1 (g := (mkF m 4 #[.val (.ref a1), .val (.ref a2), .val .null, .val (.int (1 : Int32))] [(.ref a1), (.int (1 : Int32))])) rfl rfl (hb hby d14_4)
  obtain ⟨T696, X696, e696, st696⟩ := getF X695 hx hZ hown (host := "") (Or.inl (wd_52 hw)) Via.refl e695 F_names_a1 (g := (mkF m 11 #[.val (.ref a1), .val (.ref a2), .val .null, .val (.int (1 : Int32))] [(.ref a1)])) rfl rfl (hb hby d14_11)
  obtain ⟨cl697, Ar697, q697, S697, N697n, H697, G697⟩ := id (V_nm)
  have hin697 : ¬ ((1 : Int32) < 0 ∨ cl697.slots.size ≤ ((1 : Int32)).toNatClampNeg) := inb_of S697 ⟨by decide, by decide⟩
  have hat697 : cl697.slots[((1 : Int32)).toNatClampNeg]? = some (.ref s1) := H697.at hin697 rfl
  obtain ⟨cq698, kq698, q698a, q698b, q698c⟩ := isOf hZ e696 (E_s1)
  obtain ⟨_, _, ⟨T698, L698, k698, n698⟩, -, X698, ⟨Lc698, hQ698, l698, y698, z698⟩, st698⟩ := X696.virtualBack hx (y := (⟨"java/lang/String", "equals", "(Ljava/lang/Object;)Z"⟩ : MethodName)) (z := (⟨"java/lang/String", "equals", "(Ljava/lang/Object;)Z"⟩ : MethodName)) hown (mvT hZ (wd_71 hw)) (mvT hZ (wd_59 hw)) (notFace_of_selects (args := #[]) (mvT hZ (wd_61 hw))) (mvT hZ (wd_61 hw)) (mvT hZ (wd_60 hw)) (by decide) (backOf (W := 0) (rmeq12 l Z a0 hw [] s1 a2 t1 tq wz k1 kq x1 y0 y1 h0 n0 Z0 E_s1 E_a2 F_value_s1 F_value_a2 F_coder_s1 F_coder_a2 V_t1 V_tq Old0 S_COMPACT_STRINGS hz ne_s1_a2) hZ (wd_62 hw) (wd_2 hw) (by decide) (by decide)) q698a q698c (g := (mkF m 17 #[.val (.ref a1), .val (.ref a2), .val .null, .val (.int (1 : Int32))] [(.ref a2), (.ref s1)])) rfl (by rw [hml]; rfl) (Steps.refl _) (argsL := [(.ref a2)]) (rest := []) (lenOf pd__Ljava_lang_Object__Z rfl) rfl (by show 2 * 0 + _ ≤ _; exact Nat.le_of_eq rfl) (hb hby d14_17) (fun _ _ => ⟨rfl, e696, (by decide : 0 + 0 ≤ _), (by decide : 0 + 0 ≤ _)⟩)
  dsimp only [Pt.U, Pt.locs, Pt.cells, Pt.slots] at X698 l698 y698 z698 st698 hQ698
  rw [l698, y698, z698] at X698
  obtain ⟨rfl, N698q, e698⟩ := hQ698
  have N698 := Fr.app N694 N698q
  obtain ⟨T699, X699, e699, st699⟩ := getF X698 hx hZ hown (host := "") (Or.inl (wd_56 hw)) Via.refl e698 F_size_a1 (g := (mkF m 4 #[.val (.ref a1), .val (.ref a2), .val .null, .val (.int (2 : Int32))] [(.ref a1), (.int (2 : Int32))])) rfl rfl (hb hby d14_4)
  obtain ⟨T700, X700, e700, st700⟩ := getF X699 hx hZ hown (host := "") (Or.inl (wd_52 hw)) Via.refl e699 F_names_a1 (g := (mkF m 11 #[.val (.ref a1), .val (.ref a2), .val .null, .val (.int (2 : Int32))] [(.ref a1)])) rfl rfl (hb hby d14_11)
  obtain ⟨cl701, Ar701, q701, S701, N701n, H701, G701⟩ := id (V_nm)
  have hin701 : ¬ ((2 : Int32) < 0 ∨ cl701.slots.size ≤ ((2 : Int32)).toNatClampNeg) := inb_of S701 ⟨by decide, by decide⟩
  have hat701 : cl701.slots[((2 : Int32)).toNatClampNeg]? = some (.ref s2) := H701.at hin701 rfl
  obtain ⟨cq702, kq702, q702a, q702b, q702c⟩ := isOf hZ e700 (E_s2)
  obtain ⟨_, _, ⟨T702, L702, k702, n702⟩, -, X702, ⟨Lc702, hQ702, l702, y702, z702⟩, st702⟩ := X700.virtualBack hx (y := (⟨"java/lang/String", "equals", "(Ljava/lang/Object;)Z"⟩ : MethodName)) (z := (⟨"java/lang/String", "equals", "(Ljava/lang/Object;)Z"⟩ : MethodName)) hown (mvT hZ (wd_71 hw)) (mvT hZ (wd_59 hw)) (notFace_of_selects (args := #[]) (mvT hZ (wd_61 hw))) (mvT hZ (wd_61 hw)) (mvT hZ (wd_60 hw)) (by decide) (backOf (W := 0) (rmeq12 l Z a0 hw [] s2 a2 t2 tq wz k2 kq x2 y0 y1 h0 n0 Z0 E_s2 E_a2 F_value_s2 F_value_a2 F_coder_s2 F_coder_a2 V_t2 V_tq Old0 S_COMPACT_STRINGS hz ne_s2_a2) hZ (wd_62 hw) (wd_2 hw) (by decide) (by decide)) q702a q702c (g := (mkF m 17 #[.val (.ref a1), .val (.ref a2), .val .null, .val (.int (2 : Int32))] [(.ref a2), (.ref s2)])) rfl (by rw [hml]; rfl) (Steps.refl _) (argsL := [(.ref a2)]) (rest := []) (lenOf pd__Ljava_lang_Object__Z rfl) rfl (by show 2 * 0 + _ ≤ _; exact Nat.le_of_eq rfl) (hb hby d14_17) (fun _ _ => ⟨rfl, e700, (by decide : 0 + 0 ≤ _), (by decide : 0 + 0 ≤ _)⟩)
  dsimp only [Pt.U, Pt.locs, Pt.cells, Pt.slots] at X702 l702 y702 z702 st702 hQ702
  rw [l702, y702, z702] at X702
  obtain ⟨rfl, N702q, e702⟩ := hQ702
  have N702 := Fr.app N698 N702q
  obtain ⟨T703, X703, e703, st703⟩ := getF X702 hx hZ hown (host := "") (Or.inl (wd_56 hw)) Via.refl e702 F_size_a1 (g := (mkF m 4 #[.val (.ref a1), .val (.ref a2), .val .null, .val (.int (3 : Int32))] [(.ref a1), (.int (3 : Int32))])) rfl rfl (hb hby d14_4)
  obtain ⟨fs, hr, hrun, hended, hW, hsame⟩ := X703.leave (v := some .null) (fun h => by rw [Bd.returns] at h; cases h)
  refine ⟨_, _, pre0 _ ?_, hrun, hended, _, _, rfl, ?_, ⟨_, rfl⟩, hW, hsame.mono (by decide) (by decide)⟩
  · show Steps p.tables e below (s₁.setTop (mkF m 0 #[.val (.ref a1), .val (.ref a2), .val .null, .unset] [])) _
    refine XS.iconst X0.here hx rfl (hb hby d14_0) ?_
    refine XS.istoreN X0.here hx rfl (hb hby d14_1) rfl (l' := #[.val (.ref a1), .val (.ref a2), .val .null, .val (.int (0 : Int32))]) rfl ?_
    refine XS.iloadN X0.here hx rfl (hb hby d14_2) rfl ?_
    refine XS.aloadN X0.here hx rfl (hb hby d14_3) rfl rfl ?_
    refine st691 _ ?_
    refine XS.icmpNo X691.here hx rfl (hb hby d14_7) rfl (tlt (by decide)).2.1 ?_
    refine XS.aloadN X691.here hx rfl (hb hby d14_10) rfl rfl ?_
    refine st692 _ ?_
    refine XS.iloadN X692.here hx rfl (hb hby d14_14) rfl ?_
    refine X692.aaload hx (j := (0 : Int32)) (v := (.ref s0)) (by rw [e692]; exact Ar693.1) (State.isArrayOf_alike hZ.alike Ar693.2.1) rfl Ar693.2.2 hin693 hat693 (g := (mkF m 15 #[.val (.ref a1), .val (.ref a2), .val .null, .val (.int (0 : Int32))] [(.int (0 : Int32)), (.ref nm)])) rfl rfl (hb hby d14_15) _ ?_
    show Steps p.tables e below (T692.setTop (mkF m 16 #[.val (.ref a1), .val (.ref a2), .val .null, .val (.int (0 : Int32))] [(.ref s0)])) _
    refine XS.aloadN X692.here hx rfl (hb hby d14_16) rfl rfl ?_
    refine st694.trans ?_
    refine XS.ifYes X694.here hx rfl (pc0 := 20) (pc' := 30) rfl (hb hby d14_20) rfl ((if0 _ _).trans (teq (rfl : (0 : Int32) = (0 : Int32))).1) (by decide) (by decide) ?_
    refine XS.iinc X694.here hx rfl (hb hby d14_30) rfl (l' := #[.val (.ref a1), .val (.ref a2), .val .null, .val (.int (1 : Int32))]) rfl ?_
    refine XS.goto X694.here hx rfl (pc0 := 33) (pc' := 2) rfl (hb hby d14_33) (by decide) (by decide) ?_
    refine XS.iloadN X694.here hx rfl (hb hby d14_2) rfl ?_
    refine XS.aloadN X694.here hx rfl (hb hby d14_3) rfl rfl ?_
    refine st695 _ ?_
    refine XS.icmpNo X695.here hx rfl (hb hby d14_7) rfl (tlt (by decide)).2.1 ?_
    refine XS.aloadN X695.here hx rfl (hb hby d14_10) rfl rfl ?_
    show Steps p.tables e below (T695.setTop (mkF m 11 #[.val (.ref a1), .val (.ref a2), .val .null, .val (.int (1 : Int32))] [(.ref a1)])) _
    refine st696 _ ?_
    refine XS.iloadN X696.here hx rfl (hb hby d14_14) rfl ?_
    refine X696.aaload hx (j := (1 : Int32)) (v := (.ref s1)) (by rw [e696]; exact Ar697.1) (State.isArrayOf_alike hZ.alike Ar697.2.1) rfl Ar697.2.2 hin697 hat697 (g := (mkF m 15 #[.val (.ref a1), .val (.ref a2), .val .null, .val (.int (1 : Int32))] [(.int (1 : Int32)), (.ref nm)])) rfl rfl (hb hby d14_15) _ ?_
    refine XS.aloadN X696.here hx rfl (hb hby d14_16) rfl rfl ?_
    refine st698.trans ?_
    refine XS.ifYes X698.here hx rfl (pc0 := 20) (pc' := 30) rfl (hb hby d14_20) rfl ((if0 _ _).trans (teq (rfl : (0 : Int32) = (0 : Int32))).1) (by decide) (by decide) ?_
    refine XS.iinc X698.here hx rfl (hb hby d14_30) rfl (l' := #[.val (.ref a1), .val (.ref a2), .val .null, .val (.int (2 : Int32))]) rfl ?_
    refine XS.goto X698.here hx rfl (pc0 := 33) (pc' := 2) rfl (hb hby d14_33) (by decide) (by decide) ?_
    refine XS.iloadN X698.here hx rfl (hb hby d14_2) rfl ?_
    refine XS.aloadN X698.here hx rfl (hb hby d14_3) rfl rfl ?_
    show Steps p.tables e below (T698.setTop (mkF m 4 #[.val (.ref a1), .val (.ref a2), .val .null, .val (.int (2 : Int32))] [(.ref a1), (.int (2 : Int32))])) _
    refine st699 _ ?_
    refine XS.icmpNo X699.here hx rfl (hb hby d14_7) rfl (tlt (by decide)).2.1 ?_
    refine XS.aloadN X699.here hx rfl (hb hby d14_10) rfl rfl ?_
    refine st700 _ ?_
    refine XS.iloadN X700.here hx rfl (hb hby d14_14) rfl ?_
    refine X700.aaload hx (j := (2 : Int32)) (v := (.ref s2)) (by rw [e700]; exact Ar701.1) (State.isArrayOf_alike hZ.alike Ar701.2.1) rfl Ar701.2.2 hin701 hat701 (g := (mkF m 15 #[.val (.ref a1), .val (.ref a2), .val .null, .val (.int (2 : Int32))] [(.int (2 : Int32)), (.ref nm)])) rfl rfl (hb hby d14_15) _ ?_
    refine XS.aloadN X700.here hx rfl (hb hby d14_16) rfl rfl ?_
    refine st702.trans ?_
    refine XS.ifYes X702.here hx rfl (pc0 := 20) (pc' := 30) rfl (hb hby d14_20) rfl ((if0 _ _).trans (teq (rfl : (0 : Int32) = (0 : Int32))).1) (by decide) (by decide) ?_
    refine XS.iinc X702.here hx rfl (hb hby d14_30) rfl (l' := #[.val (.ref a1), .val (.ref a2), .val .null, .val (.int (3 : Int32))]) rfl ?_
    show Steps p.tables e below (T702.setTop (mkF m 33 #[.val (.ref a1), .val (.ref a2), .val .null, .val (.int (3 : Int32))] [])) _
    refine XS.goto X702.here hx rfl (pc0 := 33) (pc' := 2) rfl (hb hby d14_33) (by decide) (by decide) ?_
    refine XS.iloadN X702.here hx rfl (hb hby d14_2) rfl ?_
    refine XS.aloadN X702.here hx rfl (hb hby d14_3) rfl rfl ?_
    refine st703 _ ?_
    refine XS.icmpYes X703.here hx rfl (pc0 := 7) (pc' := 36) rfl (hb hby d14_7) rfl (flt (by decide)).2.1 (by decide) (by decide) ?_
    refine XS.aloadN X703.here hx rfl (hb hby d14_36) rfl rfl ?_
    exact X703.areturnOut hx rfl Bd.returns rfl (hb hby d14_37) hr
  · show Q_rmg3x2n Z a1 a2 nm vl kn kv s0 s1 s2 v0 v1 v2 t0 t1 t2 k0 k1 k2 x0 x1 x2 y0 y1 tq kq wz h0 n0 _ T703.heap _
    rw [e703]
    exact ⟨rfl, N702, rfl⟩
theorem ef_0 (m : MethodId) (x0 : Int32) (x1 : Int32) (x2 : Int32) (x3 : Int32) (x4 : Int32) (x5 : Int32) : entryFrame m #[(.int x0), (.int x1), (.int x2), (.int x3), (.int x4), (.int x5)] maxLocals = mkF m 0 #[.val (.int x0), .val (.int x1), .val (.int x2), .val (.int x3), .val (.int x4), .val (.int x5), .unset, .unset, .unset, .unset, .unset, .unset, .unset, .unset, .unset, .unset, .unset, .unset, .unset, .unset, .unset] [] := by first | (simp [entryFrame, mkF, argsToLocals, Value.category, maxLocals]; done) | rfl
theorem pn_com_example_kawi_kawi_xml_AttributesGetOrDefaultPinLaw : plainName "com/example/kawi/kawi/xml/AttributesGetOrDefaultPinLaw" = true := by first | (simp [plainName, overriddenIn]; done) | decide +kernel
def Q_rm0 (Z : State) (p1 : Int32) (p2 : Int32) (p3 : Int32) (p4 : Int32) (p5 : Int32) (p6 : Int32) (wz : Int32) (h0 : Heap) (n0 : Nat) (v : Option Value) (h : Heap) (L : List Loc) : Prop := v = some (.int (1 : Int32)) ∧ Fr n0 L ∧ True
set_option maxRecDepth 65536 in
set_option maxHeartbeats 40000000 in
theorem rm0 (l : Launch) (Z : State) (a0 : Array Value) (hw : ∀ d ∈ tables_1, d.before a0 Z = true) (ws : List Jvm.Cond) (p1 : Int32) (p2 : Int32) (p3 : Int32) (p4 : Int32) (p5 : Int32) (p6 : Int32) (wz : Int32) (h0 : Heap) (n0 : Nat) (Z0 : n0 ≤ h0.size) (Old0 : Old Z n0 h0) (S_COMPACT_STRINGS : Sta Z Z.heap "java/lang/String" "COMPACT_STRINGS" "Z" (.int wz)) (hz : ¬ (wz = (0 : Int32))) :
    MetFree l x (head1 (Jvm.Cond.code x code maxLocals ret :: ws) room_1) (fun a U => a = #[(.int p1), (.int p2), (.int p3), (.int p4), (.int p5), (.int p6)] ∧ Z.Warmed39 U.vm ∧ U.heap = h0) (fun _ _ _ _ _ => True) (fun _ U o U' => ∃ v L, o = .returned v ∧ Q_rm0 Z p1 p2 p3 p4 p5 p6 wz h0 n0 v U'.heap L ∧ FrameEnd U o U' L room_1.cells room_1.slots) := by
  refine MetFree.of_bodySF (plainFor_of_name pn_com_example_kawi_kawi_xml_AttributesGetOrDefaultPinLaw) hisR ?_
  intro p e s m args below meth c s₁ Bd hml0 hP hK
  obtain ⟨rfl, hZ, hh⟩ := hP
  have hx := Bd.exec
  have hby := Bd.bytes
  have hml : c.maxLocals = 21 := hml0
  have hown : s.vm.findClass "com/example/kawi/kawi/xml/AttributesGetOrDefaultPinLaw" = some m.cls := findClass_of_methodNamed Bd.named
  have hnm := (name_of_methodNamed Bd.named Bd.method).1
  have X0 : Stand p l e room_1 s m #[(.int p1), (.int p2), (.int p3), (.int p4), (.int p5), (.int p6)] below meth c s₁ [] 0 0 := Stand.of_body Bd
  have e0 : s₁.heap = h0 := by rw [← hh, Bd.state]; rfl
  have N0 := Fr.nil n0
  have pre0 : ∀ t, Steps p.tables e below (s₁.setTop (mkF m 0 #[.val (.int p1), .val (.int p2), .val (.int p3), .val (.int p4), .val (.int p5), .val (.int p6), .unset, .unset, .unset, .unset, .unset, .unset, .unset, .unset, .unset, .unset, .unset, .unset, .unset, .unset, .unset] [])) t → Steps p.tables e below (s₁.setTop (entryFrame m #[(.int p1), (.int p2), (.int p3), (.int p4), (.int p5), (.int p6)] maxLocals)) t := fun t k => castTop (ef_0 m p1 p2 p3 p4 p5 p6) k
  obtain ⟨cA, hcA⟩ : ∃ z : Int32, z = ((p1 &&& (255 : Int32)).toUInt32.toUInt16.toUInt32.toInt32) := ⟨_, rfl⟩
  have pre705 : ∀ t, Steps p.tables e below (s₁.setTop (mkF m 6 #[.val (.int p1), .val (.int p2), .val (.int p3), .val (.int p4), .val (.int p5), .val (.int p6), .unset, .unset, .unset, .unset, .unset, .unset, .unset, .unset, .unset, .unset, .unset, .unset, .unset, .unset, .unset] [(.int cA)])) t → Steps p.tables e below (s₁.setTop (entryFrame m #[(.int p1), (.int p2), (.int p3), (.int p4), (.int p5), (.int p6)] maxLocals)) t := by
    intro t kt
    rw [hcA] at kt
    refine pre0 _ ?_
    show Steps p.tables e below (s₁.setTop (mkF m 0 #[.val (.int p1), .val (.int p2), .val (.int p3), .val (.int p4), .val (.int p5), .val (.int p6), .unset, .unset, .unset, .unset, .unset, .unset, .unset, .unset, .unset, .unset, .unset, .unset, .unset, .unset, .unset] [])) _
    refine XS.iloadN X0.here hx rfl (hb hby at_0) rfl ?_
    refine XS.sipush X0.here hx rfl (hb hby at_1) ?_
    refine XS.iand X0.here hx rfl (hb hby at_4) rfl ?_
    refine XS.i2c X0.here hx rfl (hb hby at_5) rfl ?_
    exact kt
  have hp_cA : ¬ ((255 : Int32) < cA) := by rw [hcA]; exact own_ch p1
  obtain ⟨_, _, ⟨T706, L706, k706, n706⟩, -, X706, ⟨Lc706, hQ706, l706, y706, z706⟩, st706⟩ := Jvm.LawKit.callS X0 hx (y := (⟨"java/lang/String", "valueOf", "(C)Ljava/lang/String;"⟩ : MethodName)) hown (mvT hZ (wd_0 hw)) (mvT hZ (wd_1 hw)) (mvT hZ (wd_2 hw)) (mvT hZ (wd_3 hw)) (by decide) (backOf (W := 0) (rm1 l Z a0 hw [] cA wz h0 n0 Z0 hp_cA Old0 S_COMPACT_STRINGS hz) hZ (wd_3 hw) (wd_2 hw) (by decide) (by decide)) (g := (mkF m 6 #[.val (.int p1), .val (.int p2), .val (.int p3), .val (.int p4), .val (.int p5), .val (.int p6), .unset, .unset, .unset, .unset, .unset, .unset, .unset, .unset, .unset, .unset, .unset, .unset, .unset, .unset, .unset] [(.int cA)])) rfl (by rw [hml]; rfl) (argsL := [(.int cA)]) (rest := []) (lenOf pd__C_Ljava_lang_String_ rfl) rfl (by show 2 * 0 + _ ≤ _; exact Nat.le_of_eq rfl) (hb hby at_6) (fun _ _ => ⟨rfl, e0, (by decide : 0 + 2 ≤ _), (by decide : 0 + 5 ≤ _)⟩)
  dsimp only [Pt.U, Pt.locs, Pt.cells, Pt.slots] at X706 l706 y706 z706 st706 hQ706
  rw [l706, y706, z706] at X706
  obtain ⟨b_706, t_706, kb_706, rfl, N706q, K706q, g706_0, g706_1, g706_2, g706_3, g706_4, g706_5, g706_6⟩ := hQ706
  have N706 := Fr.app N0 N706q
  have Z707 : n0 ≤ T706.heap.size := Nat.le_trans Z0 K706q.1
  have g708 : n0 ≤ b_706 := Nat.le_trans Z0 g706_0
  have g709 : n0 ≤ t_706 := Nat.le_trans Z0 g706_1
  obtain ⟨cB, hcB⟩ : ∃ z : Int32, z = ((p2 &&& (255 : Int32)).toUInt32.toUInt16.toUInt32.toInt32) := ⟨_, rfl⟩
  have pre710 : ∀ t, Steps p.tables e below (T706.setTop (mkF m 17 #[.val (.int p1), .val (.int p2), .val (.int p3), .val (.int p4), .val (.int p5), .val (.int p6), .val (.ref b_706), .unset, .unset, .unset, .unset, .unset, .unset, .unset, .unset, .unset, .unset, .unset, .unset, .unset, .unset] [(.int cB)])) t → Steps p.tables e below (s₁.setTop (entryFrame m #[(.int p1), (.int p2), (.int p3), (.int p4), (.int p5), (.int p6)] maxLocals)) t := by
    intro t kt
    rw [hcB] at kt
    refine pre705 _ ?_
    show Steps p.tables e below (s₁.setTop (mkF m 6 #[.val (.int p1), .val (.int p2), .val (.int p3), .val (.int p4), .val (.int p5), .val (.int p6), .unset, .unset, .unset, .unset, .unset, .unset, .unset, .unset, .unset, .unset, .unset, .unset, .unset, .unset, .unset] [(.int cA)])) _
    refine st706 _ ?_
    refine XS.astore X706.here hx rfl (hb hby at_9) rfl rfl (l' := #[.val (.int p1), .val (.int p2), .val (.int p3), .val (.int p4), .val (.int p5), .val (.int p6), .val (.ref b_706), .unset, .unset, .unset, .unset, .unset, .unset, .unset, .unset, .unset, .unset, .unset, .unset, .unset, .unset]) rfl ?_
    refine XS.iloadN X706.here hx rfl (hb hby at_11) rfl ?_
    refine XS.sipush X706.here hx rfl (hb hby at_12) ?_
    refine XS.iand X706.here hx rfl (hb hby at_15) rfl ?_
    refine XS.i2c X706.here hx rfl (hb hby at_16) rfl ?_
    exact kt
  have hp_cB : ¬ ((255 : Int32) < cB) := by rw [hcB]; exact own_ch p2
  obtain ⟨_, _, ⟨T711, L711, k711, n711⟩, -, X711, ⟨Lc711, hQ711, l711, y711, z711⟩, st711⟩ := Jvm.LawKit.callS X706 hx (y := (⟨"java/lang/String", "valueOf", "(C)Ljava/lang/String;"⟩ : MethodName)) hown (mvT hZ (wd_0 hw)) (mvT hZ (wd_1 hw)) (mvT hZ (wd_2 hw)) (mvT hZ (wd_3 hw)) (by decide) (backOf (W := 0) (rm1 l Z a0 hw [] cB wz T706.heap n0 Z707 hp_cB (Old0.keep K706q all0) S_COMPACT_STRINGS hz) hZ (wd_3 hw) (wd_2 hw) (by decide) (by decide)) (g := (mkF m 17 #[.val (.int p1), .val (.int p2), .val (.int p3), .val (.int p4), .val (.int p5), .val (.int p6), .val (.ref b_706), .unset, .unset, .unset, .unset, .unset, .unset, .unset, .unset, .unset, .unset, .unset, .unset, .unset, .unset] [(.int cB)])) rfl (by rw [hml]; rfl) (argsL := [(.int cB)]) (rest := []) (lenOf pd__C_Ljava_lang_String_ rfl) rfl (by show 2 * 0 + _ ≤ _; exact Nat.le_of_eq rfl) (hb hby at_17) (fun _ _ => ⟨rfl, rfl, (by decide : 2 + 2 ≤ _), (by decide : 5 + 5 ≤ _)⟩)
  dsimp only [Pt.U, Pt.locs, Pt.cells, Pt.slots] at X711 l711 y711 z711 st711 hQ711
  rw [l711, y711, z711] at X711
  obtain ⟨b_711, t_711, kb_711, rfl, N711q, K711q, g711_0, g711_1, g711_2, g711_3, g711_4, g711_5, g711_6⟩ := hQ711
  have N711 := Fr.app N706 N711q
  have Z712 : n0 ≤ T711.heap.size := Nat.le_trans Z707 K711q.1
  have ne_b_706_b_711 : b_706 ≠ b_711 := Nat.ne_of_lt (Nat.lt_of_lt_of_le (g706_3).lt g711_0)
  have ne_t_706_b_711 : t_706 ≠ b_711 := Nat.ne_of_lt (Nat.lt_of_lt_of_le (g706_6).lt g711_0)
  have ne_b_706_t_711 : b_706 ≠ t_711 := Nat.ne_of_lt (Nat.lt_of_lt_of_le (g706_3).lt g711_1)
  have ne_t_706_t_711 : t_706 ≠ t_711 := Nat.ne_of_lt (Nat.lt_of_lt_of_le (g706_6).lt g711_1)
  have g713 : n0 ≤ b_711 := Nat.le_trans Z707 g711_0
  have g714 : n0 ≤ t_711 := Nat.le_trans Z707 g711_1
  obtain ⟨cC, hcC⟩ : ∃ z : Int32, z = ((p3 &&& (255 : Int32)).toUInt32.toUInt16.toUInt32.toInt32) := ⟨_, rfl⟩
  have pre715 : ∀ t, Steps p.tables e below (T711.setTop (mkF m 28 #[.val (.int p1), .val (.int p2), .val (.int p3), .val (.int p4), .val (.int p5), .val (.int p6), .val (.ref b_706), .val (.ref b_711), .unset, .unset, .unset, .unset, .unset, .unset, .unset, .unset, .unset, .unset, .unset, .unset, .unset] [(.int cC)])) t → Steps p.tables e below (s₁.setTop (entryFrame m #[(.int p1), (.int p2), (.int p3), (.int p4), (.int p5), (.int p6)] maxLocals)) t := by
    intro t kt
    rw [hcC] at kt
    refine pre710 _ ?_
    show Steps p.tables e below (T706.setTop (mkF m 17 #[.val (.int p1), .val (.int p2), .val (.int p3), .val (.int p4), .val (.int p5), .val (.int p6), .val (.ref b_706), .unset, .unset, .unset, .unset, .unset, .unset, .unset, .unset, .unset, .unset, .unset, .unset, .unset, .unset] [(.int cB)])) _
    refine st711 _ ?_
    refine XS.astore X711.here hx rfl (hb hby at_20) rfl rfl (l' := #[.val (.int p1), .val (.int p2), .val (.int p3), .val (.int p4), .val (.int p5), .val (.int p6), .val (.ref b_706), .val (.ref b_711), .unset, .unset, .unset, .unset, .unset, .unset, .unset, .unset, .unset, .unset, .unset, .unset, .unset]) rfl ?_
    refine XS.iloadN X711.here hx rfl (hb hby at_22) rfl ?_
    refine XS.sipush X711.here hx rfl (hb hby at_23) ?_
    refine XS.iand X711.here hx rfl (hb hby at_26) rfl ?_
    refine XS.i2c X711.here hx rfl (hb hby at_27) rfl ?_
    exact kt
  have hp_cC : ¬ ((255 : Int32) < cC) := by rw [hcC]; exact own_ch p3
  obtain ⟨_, _, ⟨T716, L716, k716, n716⟩, -, X716, ⟨Lc716, hQ716, l716, y716, z716⟩, st716⟩ := Jvm.LawKit.callS X711 hx (y := (⟨"java/lang/String", "valueOf", "(C)Ljava/lang/String;"⟩ : MethodName)) hown (mvT hZ (wd_0 hw)) (mvT hZ (wd_1 hw)) (mvT hZ (wd_2 hw)) (mvT hZ (wd_3 hw)) (by decide) (backOf (W := 0) (rm1 l Z a0 hw [] cC wz T711.heap n0 Z712 hp_cC ((Old0.keep K706q all0).keep K711q all0) S_COMPACT_STRINGS hz) hZ (wd_3 hw) (wd_2 hw) (by decide) (by decide)) (g := (mkF m 28 #[.val (.int p1), .val (.int p2), .val (.int p3), .val (.int p4), .val (.int p5), .val (.int p6), .val (.ref b_706), .val (.ref b_711), .unset, .unset, .unset, .unset, .unset, .unset, .unset, .unset, .unset, .unset, .unset, .unset, .unset] [(.int cC)])) rfl (by rw [hml]; rfl) (argsL := [(.int cC)]) (rest := []) (lenOf pd__C_Ljava_lang_String_ rfl) rfl (by show 2 * 0 + _ ≤ _; exact Nat.le_of_eq rfl) (hb hby at_28) (fun _ _ => ⟨rfl, rfl, (by decide : 4 + 2 ≤ _), (by decide : 10 + 5 ≤ _)⟩)
  dsimp only [Pt.U, Pt.locs, Pt.cells, Pt.slots] at X716 l716 y716 z716 st716 hQ716
  rw [l716, y716, z716] at X716
  obtain ⟨b_716, t_716, kb_716, rfl, N716q, K716q, g716_0, g716_1, g716_2, g716_3, g716_4, g716_5, g716_6⟩ := hQ716
  have N716 := Fr.app N711 N716q
  have Z717 : n0 ≤ T716.heap.size := Nat.le_trans Z712 K716q.1
  have ne_b_706_b_716 : b_706 ≠ b_716 := Nat.ne_of_lt (Nat.lt_of_lt_of_le ((g706_3.keep K711q)).lt g716_0)
  have ne_t_706_b_716 : t_706 ≠ b_716 := Nat.ne_of_lt (Nat.lt_of_lt_of_le ((g706_6.keep K711q nin0)).lt g716_0)
  have ne_b_711_b_716 : b_711 ≠ b_716 := Nat.ne_of_lt (Nat.lt_of_lt_of_le (g711_3).lt g716_0)
  have ne_t_711_b_716 : t_711 ≠ b_716 := Nat.ne_of_lt (Nat.lt_of_lt_of_le (g711_6).lt g716_0)
  have ne_b_706_t_716 : b_706 ≠ t_716 := Nat.ne_of_lt (Nat.lt_of_lt_of_le ((g706_3.keep K711q)).lt g716_1)
  have ne_t_706_t_716 : t_706 ≠ t_716 := Nat.ne_of_lt (Nat.lt_of_lt_of_le ((g706_6.keep K711q nin0)).lt g716_1)
  have ne_b_711_t_716 : b_711 ≠ t_716 := Nat.ne_of_lt (Nat.lt_of_lt_of_le (g711_3).lt g716_1)
  have ne_t_711_t_716 : t_711 ≠ t_716 := Nat.ne_of_lt (Nat.lt_of_lt_of_le (g711_6).lt g716_1)
  have g718 : n0 ≤ b_716 := Nat.le_trans Z712 g716_0
  have g719 : n0 ≤ t_716 := Nat.le_trans Z712 g716_1
  obtain ⟨T720, h720, X720, e720, E720, A720, D720, -, st720⟩ := newO X716 hx hZ hown (wd_26 hw) (wd_10 hw) (wd_2 hw) rfl (g := (mkF m 33 #[.val (.int p1), .val (.int p2), .val (.int p3), .val (.int p4), .val (.int p5), .val (.int p6), .val (.ref b_706), .val (.ref b_711), .val (.ref b_716), .unset, .unset, .unset, .unset, .unset, .unset, .unset, .unset, .unset, .unset, .unset, .unset] [])) rfl (hb hby at_33) (by decide) (by decide)
  obtain ⟨b720, g720⟩ : ∃ z, z = T716.heap.size := ⟨_, rfl⟩
  rw [← g720] at A720 D720 st720
  have g_b720 : n0 ≤ b720 := Nat.le_trans Z717 (Nat.le_of_eq g720.symm)
  have ne_b_706_b720 : b_706 ≠ b720 := Nat.ne_of_lt (Nat.lt_of_lt_of_le (((g706_3.keep K711q).keep K716q)).lt (Nat.le_of_eq g720.symm))
  have ne_t_706_b720 : t_706 ≠ b720 := Nat.ne_of_lt (Nat.lt_of_lt_of_le (((g706_6.keep K711q nin0).keep K716q nin0)).lt (Nat.le_of_eq g720.symm))
  have ne_b_711_b720 : b_711 ≠ b720 := Nat.ne_of_lt (Nat.lt_of_lt_of_le ((g711_3.keep K716q)).lt (Nat.le_of_eq g720.symm))
  have ne_t_711_b720 : t_711 ≠ b720 := Nat.ne_of_lt (Nat.lt_of_lt_of_le ((g711_6.keep K716q nin0)).lt (Nat.le_of_eq g720.symm))
  have ne_b_716_b720 : b_716 ≠ b720 := Nat.ne_of_lt (Nat.lt_of_lt_of_le (g716_3).lt (Nat.le_of_eq g720.symm))
  have ne_t_716_b720 : t_716 ≠ b720 := Nat.ne_of_lt (Nat.lt_of_lt_of_le (g716_6).lt (Nat.le_of_eq g720.symm))
  have Z721 : n0 ≤ h720.size := Nat.le_trans Z717 E720.1
  have F_value_b720 : Fld Z h720 b720 "java/lang/String" "value" "[B" .null := D720 (Or.inr (wd_23 hw)) (ty := (.array .byte)) (by decide)
  have F_coder_b720 : Fld Z h720 b720 "java/lang/String" "coder" "B" (.int (0 : Int32)) := D720 (Or.inr (wd_25 hw)) (ty := .byte) (by decide)
  obtain ⟨T722, h722, k722, X722, e722, E722, A722, st722⟩ := newP (aty := .char) X720 hx hZ (wd_27 hw) e720 (g := (mkF m 38 #[.val (.int p1), .val (.int p2), .val (.int p3), .val (.int p4), .val (.int p5), .val (.int p6), .val (.ref b_706), .val (.ref b_711), .val (.ref b_716), .unset, .unset, .unset, .unset, .unset, .unset, .unset, .unset, .unset, .unset, .unset, .unset] [(.int (1 : Int32)), (.ref b720), (.ref b720)])) rfl (hb hby at_38) rfl (by decide) (cap := 1) (by decide) (by decide) (by decide) (by decide)
  obtain ⟨b722, g722⟩ : ∃ z, z = h720.size := ⟨_, rfl⟩
  rw [← g722] at A722 st722
  have g_b722 : n0 ≤ b722 := Nat.le_trans Z721 (Nat.le_of_eq g722.symm)
  have ne_b_706_b722 : b_706 ≠ b722 := Nat.ne_of_lt (Nat.lt_of_lt_of_le ((((g706_3.keep K711q).keep K716q).ext E720)).lt (Nat.le_of_eq g722.symm))
  have ne_t_706_b722 : t_706 ≠ b722 := Nat.ne_of_lt (Nat.lt_of_lt_of_le ((((g706_6.keep K711q nin0).keep K716q nin0).ext E720)).lt (Nat.le_of_eq g722.symm))
  have ne_b_711_b722 : b_711 ≠ b722 := Nat.ne_of_lt (Nat.lt_of_lt_of_le (((g711_3.keep K716q).ext E720)).lt (Nat.le_of_eq g722.symm))
  have ne_t_711_b722 : t_711 ≠ b722 := Nat.ne_of_lt (Nat.lt_of_lt_of_le (((g711_6.keep K716q nin0).ext E720)).lt (Nat.le_of_eq g722.symm))
  have ne_b_716_b722 : b_716 ≠ b722 := Nat.ne_of_lt (Nat.lt_of_lt_of_le ((g716_3.ext E720)).lt (Nat.le_of_eq g722.symm))
  have ne_t_716_b722 : t_716 ≠ b722 := Nat.ne_of_lt (Nat.lt_of_lt_of_le ((g716_6.ext E720)).lt (Nat.le_of_eq g722.symm))
  have ne_b720_b722 : b720 ≠ b722 := Nat.ne_of_lt (Nat.lt_of_lt_of_le (A720).lt (Nat.le_of_eq g722.symm))
  have Z723 : n0 ≤ h722.size := Nat.le_trans Z721 E722.1
  have V0_b722 := (Arv.new A722 (by decide)).pad (pad_rep [] (.int (0 : Int32)) 1)
  have V_b722 : Arv Z h722 b722 k722 .char (1 : Int32) [(.int (0 : Int32))] (.int (0 : Int32)) := V0_b722
  obtain ⟨cl724, Ar724, q724, S724, N724n, H724, G724⟩ := id (V_b722)
  have hin724 : ¬ ((0 : Int32) < 0 ∨ cl724.slots.size ≤ ((0 : Int32)).toNatClampNeg) := inb_of S724 ⟨by decide, by decide⟩
  obtain ⟨T725, h725, X725, e725, W725, st725⟩ := stC X722 hx hZ e722 Ar724 (j := (0 : Int32)) hin724 (g := (mkF m 44 #[.val (.int p1), .val (.int p2), .val (.int p3), .val (.int p4), .val (.int p5), .val (.int p6), .val (.ref b_706), .val (.ref b_711), .val (.ref b_716), .unset, .unset, .unset, .unset, .unset, .unset, .unset, .unset, .unset, .unset, .unset, .unset] [(.int (120 : Int32)), (.int (0 : Int32)), (.ref b722), (.ref b722), (.ref b720), (.ref b720)])) rfl rfl (hb hby at_44)
  have V_b722_725 : Arv Z h725 b722 k722 .char (1 : Int32) [(.int (nar .char (120 : Int32)))] (.int (0 : Int32)) := Arv.set Ar724 q724 S724 N724n H724 G724 (fits_nar_char _) W725 0 rfl (Nat.le_of_ble_eq_true rfl)
  have Z726 : n0 ≤ h725.size := Nat.le_trans Z723 (Keep.of_wr W725).1
  have N725 := Fr.snoc X725 N716 g_b722
  obtain ⟨_, _, ⟨T727, L727, k727, n727⟩, -, X727, ⟨Lc727, hQ727, l727, y727, z727⟩, st727⟩ := X725.specialBack hx (y := (⟨"java/lang/String", "<init>", "([C)V"⟩ : MethodName)) rfl hown (mvT hZ (wd_28 hw)) (mvT hZ (wd_29 hw)) (mvT hZ (wd_30 hw)) (by decide) (backOf (W := 1) (rmi1_1 l Z a0 hw [] b720 b722 .null (.int (0 : Int32)) k722 wz (nar .char (120 : Int32)) h725 n0 Z726 ((F_value_b720.ext E722).other W725 (Or.inl ne_b720_b722)) ((F_coder_b720.ext E722).other W725 (Or.inl ne_b720_b722)) ((A720.ext E722).wr W725) g_b720 V_b722_725 (by first | assumption | decide | omega) ((((((Old0.keep K706q all0).keep K711q all0).keep K716q all0).ext E720).ext E722).wr W725 g_b722) S_COMPACT_STRINGS hz) hZ (wd_30 hw) (wd_2 hw) (by decide) (by decide)) (g := (mkF m 45 #[.val (.int p1), .val (.int p2), .val (.int p3), .val (.int p4), .val (.int p5), .val (.int p6), .val (.ref b_706), .val (.ref b_711), .val (.ref b_716), .unset, .unset, .unset, .unset, .unset, .unset, .unset, .unset, .unset, .unset, .unset, .unset] [(.ref b722), (.ref b720), (.ref b720)])) rfl (by rw [hml]; rfl) (Steps.refl _) (a := b720) (argsL := [(.ref b722)]) (rest := [(.ref b720)]) (lenOf pd___C_V rfl) rfl (by show 2 * 0 + _ ≤ _; exact Nat.le_of_eq rfl) (hb hby at_45) (fun _ _ => ⟨rfl, e725, (by decide : 8 + 1 ≤ _), (by decide : 20 + 1 ≤ _)⟩)
  dsimp only [Pt.U, Pt.locs, Pt.cells, Pt.slots] at X727 l727 y727 z727 st727 hQ727
  rw [l727, y727, z727] at X727
  obtain ⟨b_727, kb_727, rfl, N727q, K727q, g727_0, g727_1, g727_2, g727_3⟩ := hQ727
  have N727 := Fr.app N725 N727q
  have Z728 : n0 ≤ T727.heap.size := Nat.le_trans Z726 K727q.1
  have ne_b_706_b_727 : b_706 ≠ b_727 := Nat.ne_of_lt (Nat.lt_of_lt_of_le ((((((g706_3.keep K711q).keep K716q).ext E720).ext E722).wr W725)).lt g727_0)
  have ne_t_706_b_727 : t_706 ≠ b_727 := Nat.ne_of_lt (Nat.lt_of_lt_of_le ((((((g706_6.keep K711q nin0).keep K716q nin0).ext E720).ext E722).other W725 ne_t_706_b722)).lt g727_0)
  have ne_b_711_b_727 : b_711 ≠ b_727 := Nat.ne_of_lt (Nat.lt_of_lt_of_le (((((g711_3.keep K716q).ext E720).ext E722).wr W725)).lt g727_0)
  have ne_t_711_b_727 : t_711 ≠ b_727 := Nat.ne_of_lt (Nat.lt_of_lt_of_le (((((g711_6.keep K716q nin0).ext E720).ext E722).other W725 ne_t_711_b722)).lt g727_0)
  have ne_b_716_b_727 : b_716 ≠ b_727 := Nat.ne_of_lt (Nat.lt_of_lt_of_le ((((g716_3.ext E720).ext E722).wr W725)).lt g727_0)
  have ne_t_716_b_727 : t_716 ≠ b_727 := Nat.ne_of_lt (Nat.lt_of_lt_of_le ((((g716_6.ext E720).ext E722).other W725 ne_t_716_b722)).lt g727_0)
  have ne_b720_b_727 : b720 ≠ b_727 := Nat.ne_of_lt (Nat.lt_of_lt_of_le (((A720.ext E722).wr W725)).lt g727_0)
  have ne_b722_b_727 : b722 ≠ b_727 := Nat.ne_of_lt (Nat.lt_of_lt_of_le (V_b722_725).lt g727_0)
  have g729 : n0 ≤ b_727 := Nat.le_trans Z726 g727_0
  obtain ⟨T730, h730, X730, e730, E730, A730, D730, -, st730⟩ := newO X727 hx hZ hown (wd_26 hw) (wd_10 hw) (wd_2 hw) rfl (g := (mkF m 50 #[.val (.int p1), .val (.int p2), .val (.int p3), .val (.int p4), .val (.int p5), .val (.int p6), .val (.ref b_706), .val (.ref b_711), .val (.ref b_716), .val (.ref b720), .unset, .unset, .unset, .unset, .unset, .unset, .unset, .unset, .unset, .unset, .unset] [])) rfl (hb hby at_50) (by decide) (by decide)
  obtain ⟨b730, g730⟩ : ∃ z, z = T727.heap.size := ⟨_, rfl⟩
  rw [← g730] at A730 D730 st730
  have g_b730 : n0 ≤ b730 := Nat.le_trans Z728 (Nat.le_of_eq g730.symm)
  have ne_b_706_b730 : b_706 ≠ b730 := Nat.ne_of_lt (Nat.lt_of_lt_of_le (((((((g706_3.keep K711q).keep K716q).ext E720).ext E722).wr W725).keep K727q)).lt (Nat.le_of_eq g730.symm))
  have ne_t_706_b730 : t_706 ≠ b730 := Nat.ne_of_lt (Nat.lt_of_lt_of_le (((((((g706_6.keep K711q nin0).keep K716q nin0).ext E720).ext E722).other W725 ne_t_706_b722).keep K727q (ninS ne_t_706_b720 nin0))).lt (Nat.le_of_eq g730.symm))
  have ne_b_711_b730 : b_711 ≠ b730 := Nat.ne_of_lt (Nat.lt_of_lt_of_le ((((((g711_3.keep K716q).ext E720).ext E722).wr W725).keep K727q)).lt (Nat.le_of_eq g730.symm))
  have ne_t_711_b730 : t_711 ≠ b730 := Nat.ne_of_lt (Nat.lt_of_lt_of_le ((((((g711_6.keep K716q nin0).ext E720).ext E722).other W725 ne_t_711_b722).keep K727q (ninS ne_t_711_b720 nin0))).lt (Nat.le_of_eq g730.symm))
  have ne_b_716_b730 : b_716 ≠ b730 := Nat.ne_of_lt (Nat.lt_of_lt_of_le (((((g716_3.ext E720).ext E722).wr W725).keep K727q)).lt (Nat.le_of_eq g730.symm))
  have ne_t_716_b730 : t_716 ≠ b730 := Nat.ne_of_lt (Nat.lt_of_lt_of_le (((((g716_6.ext E720).ext E722).other W725 ne_t_716_b722).keep K727q (ninS ne_t_716_b720 nin0))).lt (Nat.le_of_eq g730.symm))
  have ne_b720_b730 : b720 ≠ b730 := Nat.ne_of_lt (Nat.lt_of_lt_of_le ((((A720.ext E722).wr W725).keep K727q)).lt (Nat.le_of_eq g730.symm))
  have ne_b_727_b730 : b_727 ≠ b730 := Nat.ne_of_lt (Nat.lt_of_lt_of_le (g727_3).lt (Nat.le_of_eq g730.symm))
  have Z731 : n0 ≤ h730.size := Nat.le_trans Z728 E730.1
  have F_value_b730 : Fld Z h730 b730 "java/lang/String" "value" "[B" .null := D730 (Or.inr (wd_23 hw)) (ty := (.array .byte)) (by decide)
  have F_coder_b730 : Fld Z h730 b730 "java/lang/String" "coder" "B" (.int (0 : Int32)) := D730 (Or.inr (wd_25 hw)) (ty := .byte) (by decide)
  obtain ⟨T732, h732, k732, X732, e732, E732, A732, st732⟩ := newP (aty := .char) X730 hx hZ (wd_27 hw) e730 (g := (mkF m 55 #[.val (.int p1), .val (.int p2), .val (.int p3), .val (.int p4), .val (.int p5), .val (.int p6), .val (.ref b_706), .val (.ref b_711), .val (.ref b_716), .val (.ref b720), .unset, .unset, .unset, .unset, .unset, .unset, .unset, .unset, .unset, .unset, .unset] [(.int (1 : Int32)), (.ref b730), (.ref b730)])) rfl (hb hby at_55) rfl (by decide) (cap := 1) (by decide) (by decide) (by decide) (by decide)
  obtain ⟨b732, g732⟩ : ∃ z, z = h730.size := ⟨_, rfl⟩
  rw [← g732] at A732 st732
  have g_b732 : n0 ≤ b732 := Nat.le_trans Z731 (Nat.le_of_eq g732.symm)
  have ne_b_706_b732 : b_706 ≠ b732 := Nat.ne_of_lt (Nat.lt_of_lt_of_le ((((((((g706_3.keep K711q).keep K716q).ext E720).ext E722).wr W725).keep K727q).ext E730)).lt (Nat.le_of_eq g732.symm))
  have ne_t_706_b732 : t_706 ≠ b732 := Nat.ne_of_lt (Nat.lt_of_lt_of_le ((((((((g706_6.keep K711q nin0).keep K716q nin0).ext E720).ext E722).other W725 ne_t_706_b722).keep K727q (ninS ne_t_706_b720 nin0)).ext E730)).lt (Nat.le_of_eq g732.symm))
  have ne_b_711_b732 : b_711 ≠ b732 := Nat.ne_of_lt (Nat.lt_of_lt_of_le (((((((g711_3.keep K716q).ext E720).ext E722).wr W725).keep K727q).ext E730)).lt (Nat.le_of_eq g732.symm))
  have ne_t_711_b732 : t_711 ≠ b732 := Nat.ne_of_lt (Nat.lt_of_lt_of_le (((((((g711_6.keep K716q nin0).ext E720).ext E722).other W725 ne_t_711_b722).keep K727q (ninS ne_t_711_b720 nin0)).ext E730)).lt (Nat.le_of_eq g732.symm))
  have ne_b_716_b732 : b_716 ≠ b732 := Nat.ne_of_lt (Nat.lt_of_lt_of_le ((((((g716_3.ext E720).ext E722).wr W725).keep K727q).ext E730)).lt (Nat.le_of_eq g732.symm))
  have ne_t_716_b732 : t_716 ≠ b732 := Nat.ne_of_lt (Nat.lt_of_lt_of_le ((((((g716_6.ext E720).ext E722).other W725 ne_t_716_b722).keep K727q (ninS ne_t_716_b720 nin0)).ext E730)).lt (Nat.le_of_eq g732.symm))
  have ne_b720_b732 : b720 ≠ b732 := Nat.ne_of_lt (Nat.lt_of_lt_of_le (((((A720.ext E722).wr W725).keep K727q).ext E730)).lt (Nat.le_of_eq g732.symm))
  have ne_b_727_b732 : b_727 ≠ b732 := Nat.ne_of_lt (Nat.lt_of_lt_of_le ((g727_3.ext E730)).lt (Nat.le_of_eq g732.symm))
  have ne_b730_b732 : b730 ≠ b732 := Nat.ne_of_lt (Nat.lt_of_lt_of_le (A730).lt (Nat.le_of_eq g732.symm))
  have Z733 : n0 ≤ h732.size := Nat.le_trans Z731 E732.1
  have V0_b732 := (Arv.new A732 (by decide)).pad (pad_rep [] (.int (0 : Int32)) 1)
  have V_b732 : Arv Z h732 b732 k732 .char (1 : Int32) [(.int (0 : Int32))] (.int (0 : Int32)) := V0_b732
  obtain ⟨cl734, Ar734, q734, S734, N734n, H734, G734⟩ := id (V_b732)
  have hin734 : ¬ ((0 : Int32) < 0 ∨ cl734.slots.size ≤ ((0 : Int32)).toNatClampNeg) := inb_of S734 ⟨by decide, by decide⟩
  obtain ⟨T735, h735, X735, e735, W735, st735⟩ := stC X732 hx hZ e732 Ar734 (j := (0 : Int32)) hin734 (g := (mkF m 61 #[.val (.int p1), .val (.int p2), .val (.int p3), .val (.int p4), .val (.int p5), .val (.int p6), .val (.ref b_706), .val (.ref b_711), .val (.ref b_716), .val (.ref b720), .unset, .unset, .unset, .unset, .unset, .unset, .unset, .unset, .unset, .unset, .unset] [(.int (120 : Int32)), (.int (0 : Int32)), (.ref b732), (.ref b732), (.ref b730), (.ref b730)])) rfl rfl (hb hby at_61)
  have V_b732_735 : Arv Z h735 b732 k732 .char (1 : Int32) [(.int (nar .char (120 : Int32)))] (.int (0 : Int32)) := Arv.set Ar734 q734 S734 N734n H734 G734 (fits_nar_char _) W735 0 rfl (Nat.le_of_ble_eq_true rfl)
  have Z736 : n0 ≤ h735.size := Nat.le_trans Z733 (Keep.of_wr W735).1
  have N735 := Fr.snoc X735 N727 g_b732
  obtain ⟨_, _, ⟨T737, L737, k737, n737⟩, -, X737, ⟨Lc737, hQ737, l737, y737, z737⟩, st737⟩ := X735.specialBack hx (y := (⟨"java/lang/String", "<init>", "([C)V"⟩ : MethodName)) rfl hown (mvT hZ (wd_28 hw)) (mvT hZ (wd_29 hw)) (mvT hZ (wd_30 hw)) (by decide) (backOf (W := 1) (rmi1_1 l Z a0 hw [] b730 b732 .null (.int (0 : Int32)) k732 wz (nar .char (120 : Int32)) h735 n0 Z736 ((F_value_b730.ext E732).other W735 (Or.inl ne_b730_b732)) ((F_coder_b730.ext E732).other W735 (Or.inl ne_b730_b732)) ((A730.ext E732).wr W735) g_b730 V_b732_735 (by first | assumption | decide | omega) ((((((((((Old0.keep K706q all0).keep K711q all0).keep K716q all0).ext E720).ext E722).wr W725 g_b722).keep K727q (allS g_b720 all0)).ext E730).ext E732).wr W735 g_b732) S_COMPACT_STRINGS hz) hZ (wd_30 hw) (wd_2 hw) (by decide) (by decide)) (g := (mkF m 62 #[.val (.int p1), .val (.int p2), .val (.int p3), .val (.int p4), .val (.int p5), .val (.int p6), .val (.ref b_706), .val (.ref b_711), .val (.ref b_716), .val (.ref b720), .unset, .unset, .unset, .unset, .unset, .unset, .unset, .unset, .unset, .unset, .unset] [(.ref b732), (.ref b730), (.ref b730)])) rfl (by rw [hml]; rfl) (Steps.refl _) (a := b730) (argsL := [(.ref b732)]) (rest := [(.ref b730)]) (lenOf pd___C_V rfl) rfl (by show 2 * 0 + _ ≤ _; exact Nat.le_of_eq rfl) (hb hby at_62) (fun _ _ => ⟨rfl, e735, (by decide : 11 + 1 ≤ _), (by decide : 26 + 1 ≤ _)⟩)
  dsimp only [Pt.U, Pt.locs, Pt.cells, Pt.slots] at X737 l737 y737 z737 st737 hQ737
  rw [l737, y737, z737] at X737
  obtain ⟨b_737, kb_737, rfl, N737q, K737q, g737_0, g737_1, g737_2, g737_3⟩ := hQ737
  have N737 := Fr.app N735 N737q
  have Z738 : n0 ≤ T737.heap.size := Nat.le_trans Z736 K737q.1
  have ne_b_706_b_737 : b_706 ≠ b_737 := Nat.ne_of_lt (Nat.lt_of_lt_of_le ((((((((((g706_3.keep K711q).keep K716q).ext E720).ext E722).wr W725).keep K727q).ext E730).ext E732).wr W735)).lt g737_0)
  have ne_t_706_b_737 : t_706 ≠ b_737 := Nat.ne_of_lt (Nat.lt_of_lt_of_le ((((((((((g706_6.keep K711q nin0).keep K716q nin0).ext E720).ext E722).other W725 ne_t_706_b722).keep K727q (ninS ne_t_706_b720 nin0)).ext E730).ext E732).other W735 ne_t_706_b732)).lt g737_0)
  have ne_b_711_b_737 : b_711 ≠ b_737 := Nat.ne_of_lt (Nat.lt_of_lt_of_le (((((((((g711_3.keep K716q).ext E720).ext E722).wr W725).keep K727q).ext E730).ext E732).wr W735)).lt g737_0)
  have ne_t_711_b_737 : t_711 ≠ b_737 := Nat.ne_of_lt (Nat.lt_of_lt_of_le (((((((((g711_6.keep K716q nin0).ext E720).ext E722).other W725 ne_t_711_b722).keep K727q (ninS ne_t_711_b720 nin0)).ext E730).ext E732).other W735 ne_t_711_b732)).lt g737_0)
  have ne_b_716_b_737 : b_716 ≠ b_737 := Nat.ne_of_lt (Nat.lt_of_lt_of_le ((((((((g716_3.ext E720).ext E722).wr W725).keep K727q).ext E730).ext E732).wr W735)).lt g737_0)
  have ne_t_716_b_737 : t_716 ≠ b_737 := Nat.ne_of_lt (Nat.lt_of_lt_of_le ((((((((g716_6.ext E720).ext E722).other W725 ne_t_716_b722).keep K727q (ninS ne_t_716_b720 nin0)).ext E730).ext E732).other W735 ne_t_716_b732)).lt g737_0)
  have ne_b720_b_737 : b720 ≠ b_737 := Nat.ne_of_lt (Nat.lt_of_lt_of_le (((((((A720.ext E722).wr W725).keep K727q).ext E730).ext E732).wr W735)).lt g737_0)
  have ne_b_727_b_737 : b_727 ≠ b_737 := Nat.ne_of_lt (Nat.lt_of_lt_of_le ((((g727_3.ext E730).ext E732).other W735 ne_b_727_b732)).lt g737_0)
  have ne_b730_b_737 : b730 ≠ b_737 := Nat.ne_of_lt (Nat.lt_of_lt_of_le (((A730.ext E732).wr W735)).lt g737_0)
  have ne_b732_b_737 : b732 ≠ b_737 := Nat.ne_of_lt (Nat.lt_of_lt_of_le (V_b732_735).lt g737_0)
  have g739 : n0 ≤ b_737 := Nat.le_trans Z736 g737_0
  obtain ⟨T740, h740, X740, e740, E740, A740, D740, -, st740⟩ := newO X737 hx hZ hown (wd_26 hw) (wd_10 hw) (wd_2 hw) rfl (g := (mkF m 67 #[.val (.int p1), .val (.int p2), .val (.int p3), .val (.int p4), .val (.int p5), .val (.int p6), .val (.ref b_706), .val (.ref b_711), .val (.ref b_716), .val (.ref b720), .val (.ref b730), .unset, .unset, .unset, .unset, .unset, .unset, .unset, .unset, .unset, .unset] [])) rfl (hb hby at_67) (by decide) (by decide)
  obtain ⟨b740, g740⟩ : ∃ z, z = T737.heap.size := ⟨_, rfl⟩
  rw [← g740] at A740 D740 st740
  have g_b740 : n0 ≤ b740 := Nat.le_trans Z738 (Nat.le_of_eq g740.symm)
  have ne_b_706_b740 : b_706 ≠ b740 := Nat.ne_of_lt (Nat.lt_of_lt_of_le (((((((((((g706_3.keep K711q).keep K716q).ext E720).ext E722).wr W725).keep K727q).ext E730).ext E732).wr W735).keep K737q)).lt (Nat.le_of_eq g740.symm))
  have ne_t_706_b740 : t_706 ≠ b740 := Nat.ne_of_lt (Nat.lt_of_lt_of_le (((((((((((g706_6.keep K711q nin0).keep K716q nin0).ext E720).ext E722).other W725 ne_t_706_b722).keep K727q (ninS ne_t_706_b720 nin0)).ext E730).ext E732).other W735 ne_t_706_b732).keep K737q (ninS ne_t_706_b730 nin0))).lt (Nat.le_of_eq g740.symm))
  have ne_b_711_b740 : b_711 ≠ b740 := Nat.ne_of_lt (Nat.lt_of_lt_of_le ((((((((((g711_3.keep K716q).ext E720).ext E722).wr W725).keep K727q).ext E730).ext E732).wr W735).keep K737q)).lt (Nat.le_of_eq g740.symm))
  have ne_t_711_b740 : t_711 ≠ b740 := Nat.ne_of_lt (Nat.lt_of_lt_of_le ((((((((((g711_6.keep K716q nin0).ext E720).ext E722).other W725 ne_t_711_b722).keep K727q (ninS ne_t_711_b720 nin0)).ext E730).ext E732).other W735 ne_t_711_b732).keep K737q (ninS ne_t_711_b730 nin0))).lt (Nat.le_of_eq g740.symm))
  have ne_b_716_b740 : b_716 ≠ b740 := Nat.ne_of_lt (Nat.lt_of_lt_of_le (((((((((g716_3.ext E720).ext E722).wr W725).keep K727q).ext E730).ext E732).wr W735).keep K737q)).lt (Nat.le_of_eq g740.symm))
  have ne_t_716_b740 : t_716 ≠ b740 := Nat.ne_of_lt (Nat.lt_of_lt_of_le (((((((((g716_6.ext E720).ext E722).other W725 ne_t_716_b722).keep K727q (ninS ne_t_716_b720 nin0)).ext E730).ext E732).other W735 ne_t_716_b732).keep K737q (ninS ne_t_716_b730 nin0))).lt (Nat.le_of_eq g740.symm))
  have ne_b720_b740 : b720 ≠ b740 := Nat.ne_of_lt (Nat.lt_of_lt_of_le ((((((((A720.ext E722).wr W725).keep K727q).ext E730).ext E732).wr W735).keep K737q)).lt (Nat.le_of_eq g740.symm))
  have ne_b_727_b740 : b_727 ≠ b740 := Nat.ne_of_lt (Nat.lt_of_lt_of_le (((((g727_3.ext E730).ext E732).other W735 ne_b_727_b732).keep K737q (ninS ne_b_727_b730 nin0))).lt (Nat.le_of_eq g740.symm))
  have ne_b730_b740 : b730 ≠ b740 := Nat.ne_of_lt (Nat.lt_of_lt_of_le ((((A730.ext E732).wr W735).keep K737q)).lt (Nat.le_of_eq g740.symm))
  have ne_b_737_b740 : b_737 ≠ b740 := Nat.ne_of_lt (Nat.lt_of_lt_of_le (g737_3).lt (Nat.le_of_eq g740.symm))
  have Z741 : n0 ≤ h740.size := Nat.le_trans Z738 E740.1
  have F_value_b740 : Fld Z h740 b740 "java/lang/String" "value" "[B" .null := D740 (Or.inr (wd_23 hw)) (ty := (.array .byte)) (by decide)
  have F_coder_b740 : Fld Z h740 b740 "java/lang/String" "coder" "B" (.int (0 : Int32)) := D740 (Or.inr (wd_25 hw)) (ty := .byte) (by decide)
  obtain ⟨T742, h742, k742, X742, e742, E742, A742, st742⟩ := newP (aty := .char) X740 hx hZ (wd_27 hw) e740 (g := (mkF m 72 #[.val (.int p1), .val (.int p2), .val (.int p3), .val (.int p4), .val (.int p5), .val (.int p6), .val (.ref b_706), .val (.ref b_711), .val (.ref b_716), .val (.ref b720), .val (.ref b730), .unset, .unset, .unset, .unset, .unset, .unset, .unset, .unset, .unset, .unset] [(.int (1 : Int32)), (.ref b740), (.ref b740)])) rfl (hb hby at_72) rfl (by decide) (cap := 1) (by decide) (by decide) (by decide) (by decide)
  obtain ⟨b742, g742⟩ : ∃ z, z = h740.size := ⟨_, rfl⟩
  rw [← g742] at A742 st742
  have g_b742 : n0 ≤ b742 := Nat.le_trans Z741 (Nat.le_of_eq g742.symm)
  have ne_b_706_b742 : b_706 ≠ b742 := Nat.ne_of_lt (Nat.lt_of_lt_of_le ((((((((((((g706_3.keep K711q).keep K716q).ext E720).ext E722).wr W725).keep K727q).ext E730).ext E732).wr W735).keep K737q).ext E740)).lt (Nat.le_of_eq g742.symm))
  have ne_t_706_b742 : t_706 ≠ b742 := Nat.ne_of_lt (Nat.lt_of_lt_of_le ((((((((((((g706_6.keep K711q nin0).keep K716q nin0).ext E720).ext E722).other W725 ne_t_706_b722).keep K727q (ninS ne_t_706_b720 nin0)).ext E730).ext E732).other W735 ne_t_706_b732).keep K737q (ninS ne_t_706_b730 nin0)).ext E740)).lt (Nat.le_of_eq g742.symm))
  have ne_b_711_b742 : b_711 ≠ b742 := Nat.ne_of_lt (Nat.lt_of_lt_of_le (((((((((((g711_3.keep K716q).ext E720).ext E722).wr W725).keep K727q).ext E730).ext E732).wr W735).keep K737q).ext E740)).lt (Nat.le_of_eq g742.symm))
  have ne_t_711_b742 : t_711 ≠ b742 := Nat.ne_of_lt (Nat.lt_of_lt_of_le (((((((((((g711_6.keep K716q nin0).ext E720).ext E722).other W725 ne_t_711_b722).keep K727q (ninS ne_t_711_b720 nin0)).ext E730).ext E732).other W735 ne_t_711_b732).keep K737q (ninS ne_t_711_b730 nin0)).ext E740)).lt (Nat.le_of_eq g742.symm))
  have ne_b_716_b742 : b_716 ≠ b742 := Nat.ne_of_lt (Nat.lt_of_lt_of_le ((((((((((g716_3.ext E720).ext E722).wr W725).keep K727q).ext E730).ext E732).wr W735).keep K737q).ext E740)).lt (Nat.le_of_eq g742.symm))
  have ne_t_716_b742 : t_716 ≠ b742 := Nat.ne_of_lt (Nat.lt_of_lt_of_le ((((((((((g716_6.ext E720).ext E722).other W725 ne_t_716_b722).keep K727q (ninS ne_t_716_b720 nin0)).ext E730).ext E732).other W735 ne_t_716_b732).keep K737q (ninS ne_t_716_b730 nin0)).ext E740)).lt (Nat.le_of_eq g742.symm))
  have ne_b720_b742 : b720 ≠ b742 := Nat.ne_of_lt (Nat.lt_of_lt_of_le (((((((((A720.ext E722).wr W725).keep K727q).ext E730).ext E732).wr W735).keep K737q).ext E740)).lt (Nat.le_of_eq g742.symm))
  have ne_b_727_b742 : b_727 ≠ b742 := Nat.ne_of_lt (Nat.lt_of_lt_of_le ((((((g727_3.ext E730).ext E732).other W735 ne_b_727_b732).keep K737q (ninS ne_b_727_b730 nin0)).ext E740)).lt (Nat.le_of_eq g742.symm))
  have ne_b730_b742 : b730 ≠ b742 := Nat.ne_of_lt (Nat.lt_of_lt_of_le (((((A730.ext E732).wr W735).keep K737q).ext E740)).lt (Nat.le_of_eq g742.symm))
  have ne_b_737_b742 : b_737 ≠ b742 := Nat.ne_of_lt (Nat.lt_of_lt_of_le ((g737_3.ext E740)).lt (Nat.le_of_eq g742.symm))
  have ne_b740_b742 : b740 ≠ b742 := Nat.ne_of_lt (Nat.lt_of_lt_of_le (A740).lt (Nat.le_of_eq g742.symm))
  have Z743 : n0 ≤ h742.size := Nat.le_trans Z741 E742.1
  have V0_b742 := (Arv.new A742 (by decide)).pad (pad_rep [] (.int (0 : Int32)) 1)
  have V_b742 : Arv Z h742 b742 k742 .char (1 : Int32) [(.int (0 : Int32))] (.int (0 : Int32)) := V0_b742
  obtain ⟨cl744, Ar744, q744, S744, N744n, H744, G744⟩ := id (V_b742)
  have hin744 : ¬ ((0 : Int32) < 0 ∨ cl744.slots.size ≤ ((0 : Int32)).toNatClampNeg) := inb_of S744 ⟨by decide, by decide⟩
  obtain ⟨T745, h745, X745, e745, W745, st745⟩ := stC X742 hx hZ e742 Ar744 (j := (0 : Int32)) hin744 (g := (mkF m 78 #[.val (.int p1), .val (.int p2), .val (.int p3), .val (.int p4), .val (.int p5), .val (.int p6), .val (.ref b_706), .val (.ref b_711), .val (.ref b_716), .val (.ref b720), .val (.ref b730), .unset, .unset, .unset, .unset, .unset, .unset, .unset, .unset, .unset, .unset] [(.int (120 : Int32)), (.int (0 : Int32)), (.ref b742), (.ref b742), (.ref b740), (.ref b740)])) rfl rfl (hb hby at_78)
  have V_b742_745 : Arv Z h745 b742 k742 .char (1 : Int32) [(.int (nar .char (120 : Int32)))] (.int (0 : Int32)) := Arv.set Ar744 q744 S744 N744n H744 G744 (fits_nar_char _) W745 0 rfl (Nat.le_of_ble_eq_true rfl)
  have Z746 : n0 ≤ h745.size := Nat.le_trans Z743 (Keep.of_wr W745).1
  have N745 := Fr.snoc X745 N737 g_b742
  obtain ⟨_, _, ⟨T747, L747, k747, n747⟩, -, X747, ⟨Lc747, hQ747, l747, y747, z747⟩, st747⟩ := X745.specialBack hx (y := (⟨"java/lang/String", "<init>", "([C)V"⟩ : MethodName)) rfl hown (mvT hZ (wd_28 hw)) (mvT hZ (wd_29 hw)) (mvT hZ (wd_30 hw)) (by decide) (backOf (W := 1) (rmi1_1 l Z a0 hw [] b740 b742 .null (.int (0 : Int32)) k742 wz (nar .char (120 : Int32)) h745 n0 Z746 ((F_value_b740.ext E742).other W745 (Or.inl ne_b740_b742)) ((F_coder_b740.ext E742).other W745 (Or.inl ne_b740_b742)) ((A740.ext E742).wr W745) g_b740 V_b742_745 (by first | assumption | decide | omega) ((((((((((((((Old0.keep K706q all0).keep K711q all0).keep K716q all0).ext E720).ext E722).wr W725 g_b722).keep K727q (allS g_b720 all0)).ext E730).ext E732).wr W735 g_b732).keep K737q (allS g_b730 all0)).ext E740).ext E742).wr W745 g_b742) S_COMPACT_STRINGS hz) hZ (wd_30 hw) (wd_2 hw) (by decide) (by decide)) (g := (mkF m 79 #[.val (.int p1), .val (.int p2), .val (.int p3), .val (.int p4), .val (.int p5), .val (.int p6), .val (.ref b_706), .val (.ref b_711), .val (.ref b_716), .val (.ref b720), .val (.ref b730), .unset, .unset, .unset, .unset, .unset, .unset, .unset, .unset, .unset, .unset] [(.ref b742), (.ref b740), (.ref b740)])) rfl (by rw [hml]; rfl) (Steps.refl _) (a := b740) (argsL := [(.ref b742)]) (rest := [(.ref b740)]) (lenOf pd___C_V rfl) rfl (by show 2 * 0 + _ ≤ _; exact Nat.le_of_eq rfl) (hb hby at_79) (fun _ _ => ⟨rfl, e745, (by decide : 14 + 1 ≤ _), (by decide : 32 + 1 ≤ _)⟩)
  dsimp only [Pt.U, Pt.locs, Pt.cells, Pt.slots] at X747 l747 y747 z747 st747 hQ747
  rw [l747, y747, z747] at X747
  obtain ⟨b_747, kb_747, rfl, N747q, K747q, g747_0, g747_1, g747_2, g747_3⟩ := hQ747
  have N747 := Fr.app N745 N747q
  have Z748 : n0 ≤ T747.heap.size := Nat.le_trans Z746 K747q.1
  have ne_b_706_b_747 : b_706 ≠ b_747 := Nat.ne_of_lt (Nat.lt_of_lt_of_le ((((((((((((((g706_3.keep K711q).keep K716q).ext E720).ext E722).wr W725).keep K727q).ext E730).ext E732).wr W735).keep K737q).ext E740).ext E742).wr W745)).lt g747_0)
  have ne_t_706_b_747 : t_706 ≠ b_747 := Nat.ne_of_lt (Nat.lt_of_lt_of_le ((((((((((((((g706_6.keep K711q nin0).keep K716q nin0).ext E720).ext E722).other W725 ne_t_706_b722).keep K727q (ninS ne_t_706_b720 nin0)).ext E730).ext E732).other W735 ne_t_706_b732).keep K737q (ninS ne_t_706_b730 nin0)).ext E740).ext E742).other W745 ne_t_706_b742)).lt g747_0)
  have ne_b_711_b_747 : b_711 ≠ b_747 := Nat.ne_of_lt (Nat.lt_of_lt_of_le (((((((((((((g711_3.keep K716q).ext E720).ext E722).wr W725).keep K727q).ext E730).ext E732).wr W735).keep K737q).ext E740).ext E742).wr W745)).lt g747_0)
  have ne_t_711_b_747 : t_711 ≠ b_747 := Nat.ne_of_lt (Nat.lt_of_lt_of_le (((((((((((((g711_6.keep K716q nin0).ext E720).ext E722).other W725 ne_t_711_b722).keep K727q (ninS ne_t_711_b720 nin0)).ext E730).ext E732).other W735 ne_t_711_b732).keep K737q (ninS ne_t_711_b730 nin0)).ext E740).ext E742).other W745 ne_t_711_b742)).lt g747_0)
  have ne_b_716_b_747 : b_716 ≠ b_747 := Nat.ne_of_lt (Nat.lt_of_lt_of_le ((((((((((((g716_3.ext E720).ext E722).wr W725).keep K727q).ext E730).ext E732).wr W735).keep K737q).ext E740).ext E742).wr W745)).lt g747_0)
  have ne_t_716_b_747 : t_716 ≠ b_747 := Nat.ne_of_lt (Nat.lt_of_lt_of_le ((((((((((((g716_6.ext E720).ext E722).other W725 ne_t_716_b722).keep K727q (ninS ne_t_716_b720 nin0)).ext E730).ext E732).other W735 ne_t_716_b732).keep K737q (ninS ne_t_716_b730 nin0)).ext E740).ext E742).other W745 ne_t_716_b742)).lt g747_0)
  have ne_b720_b_747 : b720 ≠ b_747 := Nat.ne_of_lt (Nat.lt_of_lt_of_le (((((((((((A720.ext E722).wr W725).keep K727q).ext E730).ext E732).wr W735).keep K737q).ext E740).ext E742).wr W745)).lt g747_0)
  have ne_b_727_b_747 : b_727 ≠ b_747 := Nat.ne_of_lt (Nat.lt_of_lt_of_le ((((((((g727_3.ext E730).ext E732).other W735 ne_b_727_b732).keep K737q (ninS ne_b_727_b730 nin0)).ext E740).ext E742).other W745 ne_b_727_b742)).lt g747_0)
  have ne_b730_b_747 : b730 ≠ b_747 := Nat.ne_of_lt (Nat.lt_of_lt_of_le (((((((A730.ext E732).wr W735).keep K737q).ext E740).ext E742).wr W745)).lt g747_0)
  have ne_b_737_b_747 : b_737 ≠ b_747 := Nat.ne_of_lt (Nat.lt_of_lt_of_le ((((g737_3.ext E740).ext E742).other W745 ne_b_737_b742)).lt g747_0)
  have ne_b740_b_747 : b740 ≠ b_747 := Nat.ne_of_lt (Nat.lt_of_lt_of_le (((A740.ext E742).wr W745)).lt g747_0)
  have ne_b742_b_747 : b742 ≠ b_747 := Nat.ne_of_lt (Nat.lt_of_lt_of_le (V_b742_745).lt g747_0)
  have g749 : n0 ≤ b_747 := Nat.le_trans Z746 g747_0
  obtain ⟨T750, h750, k750, X750, e750, E750, A750, O750, st750⟩ := newR X747 hx hZ hown (wd_26 hw) (wd_44 hw) rfl (g := (mkF m 85 #[.val (.int p1), .val (.int p2), .val (.int p3), .val (.int p4), .val (.int p5), .val (.int p6), .val (.ref b_706), .val (.ref b_711), .val (.ref b_716), .val (.ref b720), .val (.ref b730), .val (.ref b740), .unset, .unset, .unset, .unset, .unset, .unset, .unset, .unset, .unset] [(.int (3 : Int32))])) rfl (hb hby at_85) rfl (by decide) (cap := 3) (by decide) (by decide) (by decide) (by decide)
  obtain ⟨b750, g750⟩ : ∃ z, z = T747.heap.size := ⟨_, rfl⟩
  rw [← g750] at A750 st750
  have g_b750 : n0 ≤ b750 := Nat.le_trans Z748 (Nat.le_of_eq g750.symm)
  have ne_b_706_b750 : b_706 ≠ b750 := Nat.ne_of_lt (Nat.lt_of_lt_of_le (((((((((((((((g706_3.keep K711q).keep K716q).ext E720).ext E722).wr W725).keep K727q).ext E730).ext E732).wr W735).keep K737q).ext E740).ext E742).wr W745).keep K747q)).lt (Nat.le_of_eq g750.symm))
  have ne_t_706_b750 : t_706 ≠ b750 := Nat.ne_of_lt (Nat.lt_of_lt_of_le (((((((((((((((g706_6.keep K711q nin0).keep K716q nin0).ext E720).ext E722).other W725 ne_t_706_b722).keep K727q (ninS ne_t_706_b720 nin0)).ext E730).ext E732).other W735 ne_t_706_b732).keep K737q (ninS ne_t_706_b730 nin0)).ext E740).ext E742).other W745 ne_t_706_b742).keep K747q (ninS ne_t_706_b740 nin0))).lt (Nat.le_of_eq g750.symm))
  have ne_b_711_b750 : b_711 ≠ b750 := Nat.ne_of_lt (Nat.lt_of_lt_of_le ((((((((((((((g711_3.keep K716q).ext E720).ext E722).wr W725).keep K727q).ext E730).ext E732).wr W735).keep K737q).ext E740).ext E742).wr W745).keep K747q)).lt (Nat.le_of_eq g750.symm))
  have ne_t_711_b750 : t_711 ≠ b750 := Nat.ne_of_lt (Nat.lt_of_lt_of_le ((((((((((((((g711_6.keep K716q nin0).ext E720).ext E722).other W725 ne_t_711_b722).keep K727q (ninS ne_t_711_b720 nin0)).ext E730).ext E732).other W735 ne_t_711_b732).keep K737q (ninS ne_t_711_b730 nin0)).ext E740).ext E742).other W745 ne_t_711_b742).keep K747q (ninS ne_t_711_b740 nin0))).lt (Nat.le_of_eq g750.symm))
  have ne_b_716_b750 : b_716 ≠ b750 := Nat.ne_of_lt (Nat.lt_of_lt_of_le (((((((((((((g716_3.ext E720).ext E722).wr W725).keep K727q).ext E730).ext E732).wr W735).keep K737q).ext E740).ext E742).wr W745).keep K747q)).lt (Nat.le_of_eq g750.symm))
  have ne_t_716_b750 : t_716 ≠ b750 := Nat.ne_of_lt (Nat.lt_of_lt_of_le (((((((((((((g716_6.ext E720).ext E722).other W725 ne_t_716_b722).keep K727q (ninS ne_t_716_b720 nin0)).ext E730).ext E732).other W735 ne_t_716_b732).keep K737q (ninS ne_t_716_b730 nin0)).ext E740).ext E742).other W745 ne_t_716_b742).keep K747q (ninS ne_t_716_b740 nin0))).lt (Nat.le_of_eq g750.symm))
  have ne_b720_b750 : b720 ≠ b750 := Nat.ne_of_lt (Nat.lt_of_lt_of_le ((((((((((((A720.ext E722).wr W725).keep K727q).ext E730).ext E732).wr W735).keep K737q).ext E740).ext E742).wr W745).keep K747q)).lt (Nat.le_of_eq g750.symm))
  have ne_b730_b750 : b730 ≠ b750 := Nat.ne_of_lt (Nat.lt_of_lt_of_le ((((((((A730.ext E732).wr W735).keep K737q).ext E740).ext E742).wr W745).keep K747q)).lt (Nat.le_of_eq g750.symm))
  have ne_b740_b750 : b740 ≠ b750 := Nat.ne_of_lt (Nat.lt_of_lt_of_le ((((A740.ext E742).wr W745).keep K747q)).lt (Nat.le_of_eq g750.symm))
  have Z751 : n0 ≤ h750.size := Nat.le_trans Z748 E750.1
  have V0_b750 := (Arv.new A750 (by decide)).pad (pad_rep [] .null 3)
  have V_b750 : Arv Z h750 b750 k750 (.object "java/lang/String") (3 : Int32) [.null, .null, .null] .null := V0_b750
  obtain ⟨cl752, Ar752, q752, S752, N752n, H752, G752⟩ := id (V_b750)
  have hin752 : ¬ ((0 : Int32) < 0 ∨ cl752.slots.size ≤ ((0 : Int32)).toNatClampNeg) := inb_of S752 ⟨by decide, by decide⟩
  obtain ⟨T753, h753, X753, e753, W753, st753⟩ := stR X750 hx hZ e750 Ar752 (j := (0 : Int32)) hin752 rfl (Sto.ofV Ar752 q752 O750 (Ins.self (((((((((((((((g706_3.keep K711q).keep K716q).ext E720).ext E722).wr W725).keep K727q).ext E730).ext E732).wr W735).keep K737q).ext E740).ext E742).wr W745).keep K747q).ext E750))) (g := (mkF m 92 #[.val (.int p1), .val (.int p2), .val (.int p3), .val (.int p4), .val (.int p5), .val (.int p6), .val (.ref b_706), .val (.ref b_711), .val (.ref b_716), .val (.ref b720), .val (.ref b730), .val (.ref b740), .unset, .unset, .unset, .unset, .unset, .unset, .unset, .unset, .unset] [(.ref b_706), (.int (0 : Int32)), (.ref b750), (.ref b750)])) rfl rfl (hb hby at_92)
  have V_b750_753 : Arv Z h753 b750 k750 (.object "java/lang/String") (3 : Int32) [(.ref b_706), .null, .null] .null := Arv.set Ar752 q752 S752 N752n H752 G752 rfl W753 0 rfl (Nat.le_of_ble_eq_true rfl)
  have Z754 : n0 ≤ h753.size := Nat.le_trans Z751 (Keep.of_wr W753).1
  have N753 := Fr.snoc X753 N747 g_b750
  obtain ⟨cl755, Ar755, q755, S755, N755n, H755, G755⟩ := id (V_b750_753)
  have hin755 : ¬ ((1 : Int32) < 0 ∨ cl755.slots.size ≤ ((1 : Int32)).toNatClampNeg) := inb_of S755 ⟨by decide, by decide⟩
  obtain ⟨T756, h756, X756, e756, W756, st756⟩ := stR X753 hx hZ e753 Ar755 (j := (1 : Int32)) hin755 rfl (Sto.ofV Ar755 q755 O750 (Ins.self (((((((((((((((g711_3.keep K716q).ext E720).ext E722).wr W725).keep K727q).ext E730).ext E732).wr W735).keep K737q).ext E740).ext E742).wr W745).keep K747q).ext E750).wr W753))) (g := (mkF m 97 #[.val (.int p1), .val (.int p2), .val (.int p3), .val (.int p4), .val (.int p5), .val (.int p6), .val (.ref b_706), .val (.ref b_711), .val (.ref b_716), .val (.ref b720), .val (.ref b730), .val (.ref b740), .unset, .unset, .unset, .unset, .unset, .unset, .unset, .unset, .unset] [(.ref b_711), (.int (1 : Int32)), (.ref b750), (.ref b750)])) rfl rfl (hb hby at_97)
  have V_b750_756 : Arv Z h756 b750 k750 (.object "java/lang/String") (3 : Int32) [(.ref b_706), (.ref b_711), .null] .null := Arv.set Ar755 q755 S755 N755n H755 G755 rfl W756 1 rfl (Nat.le_of_ble_eq_true rfl)
  have Z757 : n0 ≤ h756.size := Nat.le_trans Z754 (Keep.of_wr W756).1
  have N756 := Fr.snoc X756 N753 g_b750
  obtain ⟨cl758, Ar758, q758, S758, N758n, H758, G758⟩ := id (V_b750_756)
  have hin758 : ¬ ((2 : Int32) < 0 ∨ cl758.slots.size ≤ ((2 : Int32)).toNatClampNeg) := inb_of S758 ⟨by decide, by decide⟩
  obtain ⟨T759, h759, X759, e759, W759, st759⟩ := stR X756 hx hZ e756 Ar758 (j := (2 : Int32)) hin758 rfl (Sto.ofV Ar758 q758 O750 (Ins.self (((((((((((((((g716_3.ext E720).ext E722).wr W725).keep K727q).ext E730).ext E732).wr W735).keep K737q).ext E740).ext E742).wr W745).keep K747q).ext E750).wr W753).wr W756))) (g := (mkF m 102 #[.val (.int p1), .val (.int p2), .val (.int p3), .val (.int p4), .val (.int p5), .val (.int p6), .val (.ref b_706), .val (.ref b_711), .val (.ref b_716), .val (.ref b720), .val (.ref b730), .val (.ref b740), .unset, .unset, .unset, .unset, .unset, .unset, .unset, .unset, .unset] [(.ref b_716), (.int (2 : Int32)), (.ref b750), (.ref b750)])) rfl rfl (hb hby at_102)
  have V_b750_759 : Arv Z h759 b750 k750 (.object "java/lang/String") (3 : Int32) [(.ref b_706), (.ref b_711), (.ref b_716)] .null := Arv.set Ar758 q758 S758 N758n H758 G758 rfl W759 2 rfl (Nat.le_of_ble_eq_true rfl)
  have Z760 : n0 ≤ h759.size := Nat.le_trans Z757 (Keep.of_wr W759).1
  have N759 := Fr.snoc X759 N756 g_b750
  obtain ⟨T761, h761, k761, X761, e761, E761, A761, O761, st761⟩ := newR X759 hx hZ hown (wd_26 hw) (wd_44 hw) e759 (g := (mkF m 106 #[.val (.int p1), .val (.int p2), .val (.int p3), .val (.int p4), .val (.int p5), .val (.int p6), .val (.ref b_706), .val (.ref b_711), .val (.ref b_716), .val (.ref b720), .val (.ref b730), .val (.ref b740), .val (.ref b750), .unset, .unset, .unset, .unset, .unset, .unset, .unset, .unset] [(.int (3 : Int32))])) rfl (hb hby at_106) rfl (by decide) (cap := 3) (by decide) (by decide) (by decide) (by decide)
  obtain ⟨b761, g761⟩ : ∃ z, z = h759.size := ⟨_, rfl⟩
  rw [← g761] at A761 st761
  have g_b761 : n0 ≤ b761 := Nat.le_trans Z760 (Nat.le_of_eq g761.symm)
  have ne_b_706_b761 : b_706 ≠ b761 := Nat.ne_of_lt (Nat.lt_of_lt_of_le (((((((((((((((((((g706_3.keep K711q).keep K716q).ext E720).ext E722).wr W725).keep K727q).ext E730).ext E732).wr W735).keep K737q).ext E740).ext E742).wr W745).keep K747q).ext E750).wr W753).wr W756).wr W759)).lt (Nat.le_of_eq g761.symm))
  have ne_t_706_b761 : t_706 ≠ b761 := Nat.ne_of_lt (Nat.lt_of_lt_of_le (((((((((((((((((((g706_6.keep K711q nin0).keep K716q nin0).ext E720).ext E722).other W725 ne_t_706_b722).keep K727q (ninS ne_t_706_b720 nin0)).ext E730).ext E732).other W735 ne_t_706_b732).keep K737q (ninS ne_t_706_b730 nin0)).ext E740).ext E742).other W745 ne_t_706_b742).keep K747q (ninS ne_t_706_b740 nin0)).ext E750).other W753 ne_t_706_b750).other W756 ne_t_706_b750).other W759 ne_t_706_b750)).lt (Nat.le_of_eq g761.symm))
  have ne_b_711_b761 : b_711 ≠ b761 := Nat.ne_of_lt (Nat.lt_of_lt_of_le ((((((((((((((((((g711_3.keep K716q).ext E720).ext E722).wr W725).keep K727q).ext E730).ext E732).wr W735).keep K737q).ext E740).ext E742).wr W745).keep K747q).ext E750).wr W753).wr W756).wr W759)).lt (Nat.le_of_eq g761.symm))
  have ne_t_711_b761 : t_711 ≠ b761 := Nat.ne_of_lt (Nat.lt_of_lt_of_le ((((((((((((((((((g711_6.keep K716q nin0).ext E720).ext E722).other W725 ne_t_711_b722).keep K727q (ninS ne_t_711_b720 nin0)).ext E730).ext E732).other W735 ne_t_711_b732).keep K737q (ninS ne_t_711_b730 nin0)).ext E740).ext E742).other W745 ne_t_711_b742).keep K747q (ninS ne_t_711_b740 nin0)).ext E750).other W753 ne_t_711_b750).other W756 ne_t_711_b750).other W759 ne_t_711_b750)).lt (Nat.le_of_eq g761.symm))
  have ne_b_716_b761 : b_716 ≠ b761 := Nat.ne_of_lt (Nat.lt_of_lt_of_le (((((((((((((((((g716_3.ext E720).ext E722).wr W725).keep K727q).ext E730).ext E732).wr W735).keep K737q).ext E740).ext E742).wr W745).keep K747q).ext E750).wr W753).wr W756).wr W759)).lt (Nat.le_of_eq g761.symm))
  have ne_t_716_b761 : t_716 ≠ b761 := Nat.ne_of_lt (Nat.lt_of_lt_of_le (((((((((((((((((g716_6.ext E720).ext E722).other W725 ne_t_716_b722).keep K727q (ninS ne_t_716_b720 nin0)).ext E730).ext E732).other W735 ne_t_716_b732).keep K737q (ninS ne_t_716_b730 nin0)).ext E740).ext E742).other W745 ne_t_716_b742).keep K747q (ninS ne_t_716_b740 nin0)).ext E750).other W753 ne_t_716_b750).other W756 ne_t_716_b750).other W759 ne_t_716_b750)).lt (Nat.le_of_eq g761.symm))
  have ne_b720_b761 : b720 ≠ b761 := Nat.ne_of_lt (Nat.lt_of_lt_of_le ((((((((((((((((A720.ext E722).wr W725).keep K727q).ext E730).ext E732).wr W735).keep K737q).ext E740).ext E742).wr W745).keep K747q).ext E750).wr W753).wr W756).wr W759)).lt (Nat.le_of_eq g761.symm))
  have ne_b730_b761 : b730 ≠ b761 := Nat.ne_of_lt (Nat.lt_of_lt_of_le ((((((((((((A730.ext E732).wr W735).keep K737q).ext E740).ext E742).wr W745).keep K747q).ext E750).wr W753).wr W756).wr W759)).lt (Nat.le_of_eq g761.symm))
  have ne_b740_b761 : b740 ≠ b761 := Nat.ne_of_lt (Nat.lt_of_lt_of_le ((((((((A740.ext E742).wr W745).keep K747q).ext E750).wr W753).wr W756).wr W759)).lt (Nat.le_of_eq g761.symm))
  have ne_b750_b761 : b750 ≠ b761 := Nat.ne_of_lt (Nat.lt_of_lt_of_le (V_b750_759).lt (Nat.le_of_eq g761.symm))
  have Z762 : n0 ≤ h761.size := Nat.le_trans Z760 E761.1
  have V0_b761 := (Arv.new A761 (by decide)).pad (pad_rep [] .null 3)
  have V_b761 : Arv Z h761 b761 k761 (.object "java/lang/String") (3 : Int32) [.null, .null, .null] .null := V0_b761
  obtain ⟨cl763, Ar763, q763, S763, N763n, H763, G763⟩ := id (V_b761)
  have hin763 : ¬ ((0 : Int32) < 0 ∨ cl763.slots.size ≤ ((0 : Int32)).toNatClampNeg) := inb_of S763 ⟨by decide, by decide⟩
  obtain ⟨T764, h764, X764, e764, W764, st764⟩ := stR X761 hx hZ e761 Ar763 (j := (0 : Int32)) hin763 rfl (Sto.ofV Ar763 q763 O761 (Ins.self ((((((((((((((((A720.ext E722).wr W725).keep K727q).ext E730).ext E732).wr W735).keep K737q).ext E740).ext E742).wr W745).keep K747q).ext E750).wr W753).wr W756).wr W759).ext E761))) (g := (mkF m 113 #[.val (.int p1), .val (.int p2), .val (.int p3), .val (.int p4), .val (.int p5), .val (.int p6), .val (.ref b_706), .val (.ref b_711), .val (.ref b_716), .val (.ref b720), .val (.ref b730), .val (.ref b740), .val (.ref b750), .unset, .unset, .unset, .unset, .unset, .unset, .unset, .unset] [(.ref b720), (.int (0 : Int32)), (.ref b761), (.ref b761)])) rfl rfl (hb hby at_113)
  have V_b761_764 : Arv Z h764 b761 k761 (.object "java/lang/String") (3 : Int32) [(.ref b720), .null, .null] .null := Arv.set Ar763 q763 S763 N763n H763 G763 rfl W764 0 rfl (Nat.le_of_ble_eq_true rfl)
  have Z765 : n0 ≤ h764.size := Nat.le_trans Z762 (Keep.of_wr W764).1
  have N764 := Fr.snoc X764 N759 g_b761
  obtain ⟨cl766, Ar766, q766, S766, N766n, H766, G766⟩ := id (V_b761_764)
  have hin766 : ¬ ((1 : Int32) < 0 ∨ cl766.slots.size ≤ ((1 : Int32)).toNatClampNeg) := inb_of S766 ⟨by decide, by decide⟩
  obtain ⟨T767, h767, X767, e767, W767, st767⟩ := stR X764 hx hZ e764 Ar766 (j := (1 : Int32)) hin766 rfl (Sto.ofV Ar766 q766 O761 (Ins.self (((((((((((((A730.ext E732).wr W735).keep K737q).ext E740).ext E742).wr W745).keep K747q).ext E750).wr W753).wr W756).wr W759).ext E761).wr W764))) (g := (mkF m 118 #[.val (.int p1), .val (.int p2), .val (.int p3), .val (.int p4), .val (.int p5), .val (.int p6), .val (.ref b_706), .val (.ref b_711), .val (.ref b_716), .val (.ref b720), .val (.ref b730), .val (.ref b740), .val (.ref b750), .unset, .unset, .unset, .unset, .unset, .unset, .unset, .unset] [(.ref b730), (.int (1 : Int32)), (.ref b761), (.ref b761)])) rfl rfl (hb hby at_118)
  have V_b761_767 : Arv Z h767 b761 k761 (.object "java/lang/String") (3 : Int32) [(.ref b720), (.ref b730), .null] .null := Arv.set Ar766 q766 S766 N766n H766 G766 rfl W767 1 rfl (Nat.le_of_ble_eq_true rfl)
  have Z768 : n0 ≤ h767.size := Nat.le_trans Z765 (Keep.of_wr W767).1
  have N767 := Fr.snoc X767 N764 g_b761
  obtain ⟨cl769, Ar769, q769, S769, N769n, H769, G769⟩ := id (V_b761_767)
  have hin769 : ¬ ((2 : Int32) < 0 ∨ cl769.slots.size ≤ ((2 : Int32)).toNatClampNeg) := inb_of S769 ⟨by decide, by decide⟩
  obtain ⟨T770, h770, X770, e770, W770, st770⟩ := stR X767 hx hZ e767 Ar769 (j := (2 : Int32)) hin769 rfl (Sto.ofV Ar769 q769 O761 (Ins.self ((((((((((A740.ext E742).wr W745).keep K747q).ext E750).wr W753).wr W756).wr W759).ext E761).wr W764).wr W767))) (g := (mkF m 123 #[.val (.int p1), .val (.int p2), .val (.int p3), .val (.int p4), .val (.int p5), .val (.int p6), .val (.ref b_706), .val (.ref b_711), .val (.ref b_716), .val (.ref b720), .val (.ref b730), .val (.ref b740), .val (.ref b750), .unset, .unset, .unset, .unset, .unset, .unset, .unset, .unset] [(.ref b740), (.int (2 : Int32)), (.ref b761), (.ref b761)])) rfl rfl (hb hby at_123)
  have V_b761_770 : Arv Z h770 b761 k761 (.object "java/lang/String") (3 : Int32) [(.ref b720), (.ref b730), (.ref b740)] .null := Arv.set Ar769 q769 S769 N769n H769 G769 rfl W770 2 rfl (Nat.le_of_ble_eq_true rfl)
  have Z771 : n0 ≤ h770.size := Nat.le_trans Z768 (Keep.of_wr W770).1
  have N770 := Fr.snoc X770 N767 g_b761
  obtain ⟨kk, hkk⟩ : ∃ z : Int32, z = (p4 &&& (3 : Int32)) := ⟨_, rfl⟩
  have pre772 : ∀ t, Steps p.tables e below (T770.setTop (mkF m 131 #[.val (.int p1), .val (.int p2), .val (.int p3), .val (.int p4), .val (.int p5), .val (.int p6), .val (.ref b_706), .val (.ref b_711), .val (.ref b_716), .val (.ref b720), .val (.ref b730), .val (.ref b740), .val (.ref b750), .val (.ref b761), .val (.int kk), .unset, .unset, .unset, .unset, .unset, .unset] [])) t → Steps p.tables e below (s₁.setTop (entryFrame m #[(.int p1), (.int p2), (.int p3), (.int p4), (.int p5), (.int p6)] maxLocals)) t := by
    intro t kt
    rw [hkk] at kt
    refine pre715 _ ?_
    show Steps p.tables e below (T711.setTop (mkF m 28 #[.val (.int p1), .val (.int p2), .val (.int p3), .val (.int p4), .val (.int p5), .val (.int p6), .val (.ref b_706), .val (.ref b_711), .unset, .unset, .unset, .unset, .unset, .unset, .unset, .unset, .unset, .unset, .unset, .unset, .unset] [(.int cC)])) _
    refine st716 _ ?_
    refine XS.astore X716.here hx rfl (hb hby at_31) rfl rfl (l' := #[.val (.int p1), .val (.int p2), .val (.int p3), .val (.int p4), .val (.int p5), .val (.int p6), .val (.ref b_706), .val (.ref b_711), .val (.ref b_716), .unset, .unset, .unset, .unset, .unset, .unset, .unset, .unset, .unset, .unset, .unset, .unset]) rfl ?_
    refine st720 _ ?_
    refine XS.dup X720.here hx rfl (hb hby at_36) rfl rfl ?_
    refine XS.iconst X720.here hx rfl (hb hby at_37) ?_
    refine st722 _ ?_
    refine XS.dup X722.here hx rfl (hb hby at_40) rfl rfl ?_
    refine XS.iconst X722.here hx rfl (hb hby at_41) ?_
    refine XS.bipush X722.here hx rfl (hb hby at_42) ?_
    refine st725 _ ?_
    show Steps p.tables e below (T725.setTop (mkF m 45 #[.val (.int p1), .val (.int p2), .val (.int p3), .val (.int p4), .val (.int p5), .val (.int p6), .val (.ref b_706), .val (.ref b_711), .val (.ref b_716), .unset, .unset, .unset, .unset, .unset, .unset, .unset, .unset, .unset, .unset, .unset, .unset] [(.ref b722), (.ref b720), (.ref b720)])) _
    refine st727.trans ?_
    refine XS.astore X727.here hx rfl (hb hby at_48) rfl rfl (l' := #[.val (.int p1), .val (.int p2), .val (.int p3), .val (.int p4), .val (.int p5), .val (.int p6), .val (.ref b_706), .val (.ref b_711), .val (.ref b_716), .val (.ref b720), .unset, .unset, .unset, .unset, .unset, .unset, .unset, .unset, .unset, .unset, .unset]) rfl ?_
    refine st730 _ ?_
    refine XS.dup X730.here hx rfl (hb hby at_53) rfl rfl ?_
    refine XS.iconst X730.here hx rfl (hb hby at_54) ?_
    refine st732 _ ?_
    refine XS.dup X732.here hx rfl (hb hby at_57) rfl rfl ?_
    refine XS.iconst X732.here hx rfl (hb hby at_58) ?_
    refine XS.bipush X732.here hx rfl (hb hby at_59) ?_
    refine st735 _ ?_
    show Steps p.tables e below (T735.setTop (mkF m 62 #[.val (.int p1), .val (.int p2), .val (.int p3), .val (.int p4), .val (.int p5), .val (.int p6), .val (.ref b_706), .val (.ref b_711), .val (.ref b_716), .val (.ref b720), .unset, .unset, .unset, .unset, .unset, .unset, .unset, .unset, .unset, .unset, .unset] [(.ref b732), (.ref b730), (.ref b730)])) _
    refine st737.trans ?_
    refine XS.astore X737.here hx rfl (hb hby at_65) rfl rfl (l' := #[.val (.int p1), .val (.int p2), .val (.int p3), .val (.int p4), .val (.int p5), .val (.int p6), .val (.ref b_706), .val (.ref b_711), .val (.ref b_716), .val (.ref b720), .val (.ref b730), .unset, .unset, .unset, .unset, .unset, .unset, .unset, .unset, .unset, .unset]) rfl ?_
    refine st740 _ ?_
    refine XS.dup X740.here hx rfl (hb hby at_70) rfl rfl ?_
    refine XS.iconst X740.here hx rfl (hb hby at_71) ?_
    refine st742 _ ?_
    refine XS.dup X742.here hx rfl (hb hby at_74) rfl rfl ?_
    refine XS.iconst X742.here hx rfl (hb hby at_75) ?_
    refine XS.bipush X742.here hx rfl (hb hby at_76) ?_
    refine st745 _ ?_
    show Steps p.tables e below (T745.setTop (mkF m 79 #[.val (.int p1), .val (.int p2), .val (.int p3), .val (.int p4), .val (.int p5), .val (.int p6), .val (.ref b_706), .val (.ref b_711), .val (.ref b_716), .val (.ref b720), .val (.ref b730), .unset, .unset, .unset, .unset, .unset, .unset, .unset, .unset, .unset, .unset] [(.ref b742), (.ref b740), (.ref b740)])) _
    refine st747.trans ?_
    refine XS.astore X747.here hx rfl (hb hby at_82) rfl rfl (l' := #[.val (.int p1), .val (.int p2), .val (.int p3), .val (.int p4), .val (.int p5), .val (.int p6), .val (.ref b_706), .val (.ref b_711), .val (.ref b_716), .val (.ref b720), .val (.ref b730), .val (.ref b740), .unset, .unset, .unset, .unset, .unset, .unset, .unset, .unset, .unset]) rfl ?_
    refine XS.iconst X747.here hx rfl (hb hby at_84) ?_
    refine st750 _ ?_
    refine XS.dup X750.here hx rfl (hb hby at_88) rfl rfl ?_
    refine XS.iconst X750.here hx rfl (hb hby at_89) ?_
    refine XS.aload X750.here hx rfl (hb hby at_90) rfl rfl ?_
    refine st753 _ ?_
    refine XS.dup X753.here hx rfl (hb hby at_93) rfl rfl ?_
    refine XS.iconst X753.here hx rfl (hb hby at_94) ?_
    show Steps p.tables e below (T753.setTop (mkF m 95 #[.val (.int p1), .val (.int p2), .val (.int p3), .val (.int p4), .val (.int p5), .val (.int p6), .val (.ref b_706), .val (.ref b_711), .val (.ref b_716), .val (.ref b720), .val (.ref b730), .val (.ref b740), .unset, .unset, .unset, .unset, .unset, .unset, .unset, .unset, .unset] [(.int (1 : Int32)), (.ref b750), (.ref b750)])) _
    refine XS.aload X753.here hx rfl (hb hby at_95) rfl rfl ?_
    refine st756 _ ?_
    refine XS.dup X756.here hx rfl (hb hby at_98) rfl rfl ?_
    refine XS.iconst X756.here hx rfl (hb hby at_99) ?_
    refine XS.aload X756.here hx rfl (hb hby at_100) rfl rfl ?_
    refine st759 _ ?_
    refine XS.astore X759.here hx rfl (hb hby at_103) rfl rfl (l' := #[.val (.int p1), .val (.int p2), .val (.int p3), .val (.int p4), .val (.int p5), .val (.int p6), .val (.ref b_706), .val (.ref b_711), .val (.ref b_716), .val (.ref b720), .val (.ref b730), .val (.ref b740), .val (.ref b750), .unset, .unset, .unset, .unset, .unset, .unset, .unset, .unset]) rfl ?_
    refine XS.iconst X759.here hx rfl (hb hby at_105) ?_
    refine st761 _ ?_
    refine XS.dup X761.here hx rfl (hb hby at_109) rfl rfl ?_
    show Steps p.tables e below (T761.setTop (mkF m 110 #[.val (.int p1), .val (.int p2), .val (.int p3), .val (.int p4), .val (.int p5), .val (.int p6), .val (.ref b_706), .val (.ref b_711), .val (.ref b_716), .val (.ref b720), .val (.ref b730), .val (.ref b740), .val (.ref b750), .unset, .unset, .unset, .unset, .unset, .unset, .unset, .unset] [(.ref b761), (.ref b761)])) _
    refine XS.iconst X761.here hx rfl (hb hby at_110) ?_
    refine XS.aload X761.here hx rfl (hb hby at_111) rfl rfl ?_
    refine st764 _ ?_
    refine XS.dup X764.here hx rfl (hb hby at_114) rfl rfl ?_
    refine XS.iconst X764.here hx rfl (hb hby at_115) ?_
    refine XS.aload X764.here hx rfl (hb hby at_116) rfl rfl ?_
    refine st767 _ ?_
    refine XS.dup X767.here hx rfl (hb hby at_119) rfl rfl ?_
    refine XS.iconst X767.here hx rfl (hb hby at_120) ?_
    refine XS.aload X767.here hx rfl (hb hby at_121) rfl rfl ?_
    show Steps p.tables e below (T767.setTop (mkF m 123 #[.val (.int p1), .val (.int p2), .val (.int p3), .val (.int p4), .val (.int p5), .val (.int p6), .val (.ref b_706), .val (.ref b_711), .val (.ref b_716), .val (.ref b720), .val (.ref b730), .val (.ref b740), .val (.ref b750), .unset, .unset, .unset, .unset, .unset, .unset, .unset, .unset] [(.ref b740), (.int (2 : Int32)), (.ref b761), (.ref b761)])) _
    refine st770 _ ?_
    refine XS.astore X770.here hx rfl (hb hby at_124) rfl rfl (l' := #[.val (.int p1), .val (.int p2), .val (.int p3), .val (.int p4), .val (.int p5), .val (.int p6), .val (.ref b_706), .val (.ref b_711), .val (.ref b_716), .val (.ref b720), .val (.ref b730), .val (.ref b740), .val (.ref b750), .val (.ref b761), .unset, .unset, .unset, .unset, .unset, .unset, .unset]) rfl ?_
    refine XS.iloadN X770.here hx rfl (hb hby at_126) rfl ?_
    refine XS.iconst X770.here hx rfl (hb hby at_127) ?_
    refine XS.iand X770.here hx rfl (hb hby at_128) rfl ?_
    refine XS.istore X770.here hx rfl (hb hby at_129) rfl (l' := #[.val (.int p1), .val (.int p2), .val (.int p3), .val (.int p4), .val (.int p5), .val (.int p6), .val (.ref b_706), .val (.ref b_711), .val (.ref b_716), .val (.ref b720), .val (.ref b730), .val (.ref b740), .val (.ref b750), .val (.ref b761), .val (.int (p4 &&& (3 : Int32))), .unset, .unset, .unset, .unset, .unset, .unset]) rfl ?_
    exact kt
  have f773 : Old Z n0 h770 := (((((((((((((((((((((((Old0.keep K706q all0).keep K711q all0).keep K716q all0).ext E720).ext E722).wr W725 g_b722).keep K727q (allS g_b720 all0)).ext E730).ext E732).wr W735 g_b732).keep K737q (allS g_b730 all0)).ext E740).ext E742).wr W745 g_b742).keep K747q (allS g_b740 all0)).ext E750).wr W753 g_b750).wr W756 g_b750).wr W759 g_b750).ext E761).wr W764 g_b761).wr W767 g_b761).wr W770 g_b761)
  have f774 : Exa Z h770 b_706 "java/lang/String" := ((((((((((((((((((((((g706_3.keep K711q).keep K716q).ext E720).ext E722).wr W725).keep K727q).ext E730).ext E732).wr W735).keep K737q).ext E740).ext E742).wr W745).keep K747q).ext E750).wr W753).wr W756).wr W759).ext E761).wr W764).wr W767).wr W770)
  have f775 : Fld Z h770 b_706 "java/lang/String" "value" "[B" (.ref t_706) := ((((((((((((((((((((((g706_4.keep K711q nin0).keep K716q nin0).ext E720).ext E722).other W725 (Or.inl ne_b_706_b722)).keep K727q (ninS ne_b_706_b720 nin0)).ext E730).ext E732).other W735 (Or.inl ne_b_706_b732)).keep K737q (ninS ne_b_706_b730 nin0)).ext E740).ext E742).other W745 (Or.inl ne_b_706_b742)).keep K747q (ninS ne_b_706_b740 nin0)).ext E750).other W753 (Or.inl ne_b_706_b750)).other W756 (Or.inl ne_b_706_b750)).other W759 (Or.inl ne_b_706_b750)).ext E761).other W764 (Or.inl ne_b_706_b761)).other W767 (Or.inl ne_b_706_b761)).other W770 (Or.inl ne_b_706_b761))
  have f776 : Fld Z h770 b_706 "java/lang/String" "coder" "B" (.int (0 : Int32)) := ((((((((((((((((((((((g706_5.keep K711q nin0).keep K716q nin0).ext E720).ext E722).other W725 (Or.inl ne_b_706_b722)).keep K727q (ninS ne_b_706_b720 nin0)).ext E730).ext E732).other W735 (Or.inl ne_b_706_b732)).keep K737q (ninS ne_b_706_b730 nin0)).ext E740).ext E742).other W745 (Or.inl ne_b_706_b742)).keep K747q (ninS ne_b_706_b740 nin0)).ext E750).other W753 (Or.inl ne_b_706_b750)).other W756 (Or.inl ne_b_706_b750)).other W759 (Or.inl ne_b_706_b750)).ext E761).other W764 (Or.inl ne_b_706_b761)).other W767 (Or.inl ne_b_706_b761)).other W770 (Or.inl ne_b_706_b761))
  have f777 : Arv Z h770 t_706 kb_706 .byte (1 : Int32) [(.int (nar .byte (cA.toInt8.toInt32)))] (.int (0 : Int32)) := ((((((((((((((((((((((g706_6.keep K711q nin0).keep K716q nin0).ext E720).ext E722).other W725 ne_t_706_b722).keep K727q (ninS ne_t_706_b720 nin0)).ext E730).ext E732).other W735 ne_t_706_b732).keep K737q (ninS ne_t_706_b730 nin0)).ext E740).ext E742).other W745 ne_t_706_b742).keep K747q (ninS ne_t_706_b740 nin0)).ext E750).other W753 ne_t_706_b750).other W756 ne_t_706_b750).other W759 ne_t_706_b750).ext E761).other W764 ne_t_706_b761).other W767 ne_t_706_b761).other W770 ne_t_706_b761)
  have f778 : Exa Z h770 b_711 "java/lang/String" := (((((((((((((((((((((g711_3.keep K716q).ext E720).ext E722).wr W725).keep K727q).ext E730).ext E732).wr W735).keep K737q).ext E740).ext E742).wr W745).keep K747q).ext E750).wr W753).wr W756).wr W759).ext E761).wr W764).wr W767).wr W770)
  have f779 : Fld Z h770 b_711 "java/lang/String" "value" "[B" (.ref t_711) := (((((((((((((((((((((g711_4.keep K716q nin0).ext E720).ext E722).other W725 (Or.inl ne_b_711_b722)).keep K727q (ninS ne_b_711_b720 nin0)).ext E730).ext E732).other W735 (Or.inl ne_b_711_b732)).keep K737q (ninS ne_b_711_b730 nin0)).ext E740).ext E742).other W745 (Or.inl ne_b_711_b742)).keep K747q (ninS ne_b_711_b740 nin0)).ext E750).other W753 (Or.inl ne_b_711_b750)).other W756 (Or.inl ne_b_711_b750)).other W759 (Or.inl ne_b_711_b750)).ext E761).other W764 (Or.inl ne_b_711_b761)).other W767 (Or.inl ne_b_711_b761)).other W770 (Or.inl ne_b_711_b761))
  have f780 : Fld Z h770 b_711 "java/lang/String" "coder" "B" (.int (0 : Int32)) := (((((((((((((((((((((g711_5.keep K716q nin0).ext E720).ext E722).other W725 (Or.inl ne_b_711_b722)).keep K727q (ninS ne_b_711_b720 nin0)).ext E730).ext E732).other W735 (Or.inl ne_b_711_b732)).keep K737q (ninS ne_b_711_b730 nin0)).ext E740).ext E742).other W745 (Or.inl ne_b_711_b742)).keep K747q (ninS ne_b_711_b740 nin0)).ext E750).other W753 (Or.inl ne_b_711_b750)).other W756 (Or.inl ne_b_711_b750)).other W759 (Or.inl ne_b_711_b750)).ext E761).other W764 (Or.inl ne_b_711_b761)).other W767 (Or.inl ne_b_711_b761)).other W770 (Or.inl ne_b_711_b761))
  have f781 : Arv Z h770 t_711 kb_711 .byte (1 : Int32) [(.int (nar .byte (cB.toInt8.toInt32)))] (.int (0 : Int32)) := (((((((((((((((((((((g711_6.keep K716q nin0).ext E720).ext E722).other W725 ne_t_711_b722).keep K727q (ninS ne_t_711_b720 nin0)).ext E730).ext E732).other W735 ne_t_711_b732).keep K737q (ninS ne_t_711_b730 nin0)).ext E740).ext E742).other W745 ne_t_711_b742).keep K747q (ninS ne_t_711_b740 nin0)).ext E750).other W753 ne_t_711_b750).other W756 ne_t_711_b750).other W759 ne_t_711_b750).ext E761).other W764 ne_t_711_b761).other W767 ne_t_711_b761).other W770 ne_t_711_b761)
  have f782 : Exa Z h770 b_716 "java/lang/String" := ((((((((((((((((((((g716_3.ext E720).ext E722).wr W725).keep K727q).ext E730).ext E732).wr W735).keep K737q).ext E740).ext E742).wr W745).keep K747q).ext E750).wr W753).wr W756).wr W759).ext E761).wr W764).wr W767).wr W770)
  have f783 : Fld Z h770 b_716 "java/lang/String" "value" "[B" (.ref t_716) := ((((((((((((((((((((g716_4.ext E720).ext E722).other W725 (Or.inl ne_b_716_b722)).keep K727q (ninS ne_b_716_b720 nin0)).ext E730).ext E732).other W735 (Or.inl ne_b_716_b732)).keep K737q (ninS ne_b_716_b730 nin0)).ext E740).ext E742).other W745 (Or.inl ne_b_716_b742)).keep K747q (ninS ne_b_716_b740 nin0)).ext E750).other W753 (Or.inl ne_b_716_b750)).other W756 (Or.inl ne_b_716_b750)).other W759 (Or.inl ne_b_716_b750)).ext E761).other W764 (Or.inl ne_b_716_b761)).other W767 (Or.inl ne_b_716_b761)).other W770 (Or.inl ne_b_716_b761))
  have f784 : Fld Z h770 b_716 "java/lang/String" "coder" "B" (.int (0 : Int32)) := ((((((((((((((((((((g716_5.ext E720).ext E722).other W725 (Or.inl ne_b_716_b722)).keep K727q (ninS ne_b_716_b720 nin0)).ext E730).ext E732).other W735 (Or.inl ne_b_716_b732)).keep K737q (ninS ne_b_716_b730 nin0)).ext E740).ext E742).other W745 (Or.inl ne_b_716_b742)).keep K747q (ninS ne_b_716_b740 nin0)).ext E750).other W753 (Or.inl ne_b_716_b750)).other W756 (Or.inl ne_b_716_b750)).other W759 (Or.inl ne_b_716_b750)).ext E761).other W764 (Or.inl ne_b_716_b761)).other W767 (Or.inl ne_b_716_b761)).other W770 (Or.inl ne_b_716_b761))
  have f785 : Arv Z h770 t_716 kb_716 .byte (1 : Int32) [(.int (nar .byte (cC.toInt8.toInt32)))] (.int (0 : Int32)) := ((((((((((((((((((((g716_6.ext E720).ext E722).other W725 ne_t_716_b722).keep K727q (ninS ne_t_716_b720 nin0)).ext E730).ext E732).other W735 ne_t_716_b732).keep K737q (ninS ne_t_716_b730 nin0)).ext E740).ext E742).other W745 ne_t_716_b742).keep K747q (ninS ne_t_716_b740 nin0)).ext E750).other W753 ne_t_716_b750).other W756 ne_t_716_b750).other W759 ne_t_716_b750).ext E761).other W764 ne_t_716_b761).other W767 ne_t_716_b761).other W770 ne_t_716_b761)
  have f786 : Arv Z h770 b750 k750 (.object "java/lang/String") (3 : Int32) [(.ref b_706), (.ref b_711), (.ref b_716)] .null := ((((V_b750_759.ext E761).other W764 ne_b750_b761).other W767 ne_b750_b761).other W770 ne_b750_b761)
  obtain ⟨cq, hcq⟩ : ∃ z : Int32, z = ((p5 &&& (255 : Int32)).toUInt32.toUInt16.toUInt32.toInt32) := ⟨_, rfl⟩
  have pre787 : ∀ t, Steps p.tables e below (T770.setTop (mkF m 138 #[.val (.int p1), .val (.int p2), .val (.int p3), .val (.int p4), .val (.int p5), .val (.int p6), .val (.ref b_706), .val (.ref b_711), .val (.ref b_716), .val (.ref b720), .val (.ref b730), .val (.ref b740), .val (.ref b750), .val (.ref b761), .val (.int kk), .unset, .unset, .unset, .unset, .unset, .unset] [(.int cq)])) t → Steps p.tables e below (s₁.setTop (entryFrame m #[(.int p1), (.int p2), (.int p3), (.int p4), (.int p5), (.int p6)] maxLocals)) t := by
    intro t kt
    rw [hcq] at kt
    refine pre772 _ ?_
    show Steps p.tables e below (T770.setTop (mkF m 131 #[.val (.int p1), .val (.int p2), .val (.int p3), .val (.int p4), .val (.int p5), .val (.int p6), .val (.ref b_706), .val (.ref b_711), .val (.ref b_716), .val (.ref b720), .val (.ref b730), .val (.ref b740), .val (.ref b750), .val (.ref b761), .val (.int kk), .unset, .unset, .unset, .unset, .unset, .unset] [])) _
    refine XS.iload X770.here hx rfl (hb hby at_131) rfl ?_
    refine XS.sipush X770.here hx rfl (hb hby at_133) ?_
    refine XS.iand X770.here hx rfl (hb hby at_136) rfl ?_
    refine XS.i2c X770.here hx rfl (hb hby at_137) rfl ?_
    exact kt
  have hp_cq : ¬ ((255 : Int32) < cq) := by rw [hcq]; exact own_ch p5
  have hn_cq : ¬ ((255 : Int32) < (nar .char cq)) := by rw [hcq]; exact own_nch p5
  have pre789 : ∀ t, Steps p.tables e below (T770.setTop (mkF m 144 #[.val (.int p1), .val (.int p2), .val (.int p3), .val (.int p4), .val (.int p5), .val (.int p6), .val (.ref b_706), .val (.ref b_711), .val (.ref b_716), .val (.ref b720), .val (.ref b730), .val (.ref b740), .val (.ref b750), .val (.ref b761), .val (.int kk), .val (.int cq), .unset, .unset, .unset, .unset, .unset] [(.int (p6 &&& (2 : Int32)))])) t → Steps p.tables e below (s₁.setTop (entryFrame m #[(.int p1), (.int p2), (.int p3), (.int p4), (.int p5), (.int p6)] maxLocals)) t := by
    intro t kt
    refine pre787 _ ?_
    show Steps p.tables e below (T770.setTop (mkF m 138 #[.val (.int p1), .val (.int p2), .val (.int p3), .val (.int p4), .val (.int p5), .val (.int p6), .val (.ref b_706), .val (.ref b_711), .val (.ref b_716), .val (.ref b720), .val (.ref b730), .val (.ref b740), .val (.ref b750), .val (.ref b761), .val (.int kk), .unset, .unset, .unset, .unset, .unset, .unset] [(.int cq)])) _
    refine XS.istore X770.here hx rfl (hb hby at_138) rfl (l' := #[.val (.int p1), .val (.int p2), .val (.int p3), .val (.int p4), .val (.int p5), .val (.int p6), .val (.ref b_706), .val (.ref b_711), .val (.ref b_716), .val (.ref b720), .val (.ref b730), .val (.ref b740), .val (.ref b750), .val (.ref b761), .val (.int kk), .val (.int cq), .unset, .unset, .unset, .unset, .unset]) rfl ?_
    refine XS.iload X770.here hx rfl (hb hby at_140) rfl ?_
    refine XS.iconst X770.here hx rfl (hb hby at_142) ?_
    refine XS.iand X770.here hx rfl (hb hby at_143) rfl ?_
    exact kt
  by_cases hc144_788 : (p6 &&& (2 : Int32)) = (0 : Int32)
  · obtain ⟨_, _, ⟨T790, L790, k790, n790⟩, -, X790, ⟨Lc790, hQ790, l790, y790, z790⟩, st790⟩ := Jvm.LawKit.callS X770 hx (y := (⟨"java/lang/String", "valueOf", "(C)Ljava/lang/String;"⟩ : MethodName)) hown (mvT hZ (wd_0 hw)) (mvT hZ (wd_1 hw)) (mvT hZ (wd_2 hw)) (mvT hZ (wd_3 hw)) (by decide) (backOf (W := 0) (rm1 l Z a0 hw [] cq wz h770 n0 Z771 hp_cq f773 S_COMPACT_STRINGS hz) hZ (wd_3 hw) (wd_2 hw) (by decide) (by decide)) (g := (mkF m 174 #[.val (.int p1), .val (.int p2), .val (.int p3), .val (.int p4), .val (.int p5), .val (.int p6), .val (.ref b_706), .val (.ref b_711), .val (.ref b_716), .val (.ref b720), .val (.ref b730), .val (.ref b740), .val (.ref b750), .val (.ref b761), .val (.int kk), .val (.int cq), .unset, .unset, .unset, .unset, .unset] [(.int cq)])) rfl (by rw [hml]; rfl) (argsL := [(.int cq)]) (rest := []) (lenOf pd__C_Ljava_lang_String_ rfl) rfl (by show 2 * 0 + _ ≤ _; exact Nat.le_of_eq rfl) (hb hby at_174) (fun _ _ => ⟨rfl, e770, (by decide : 17 + 2 ≤ _), (by decide : 39 + 5 ≤ _)⟩)
    dsimp only [Pt.U, Pt.locs, Pt.cells, Pt.slots] at X790 l790 y790 z790 st790 hQ790
    rw [l790, y790, z790] at X790
    obtain ⟨b_790, t_790, kb_790, rfl, N790q, K790q, g790_0, g790_1, g790_2, g790_3, g790_4, g790_5, g790_6⟩ := hQ790
    have N790 := Fr.app N770 N790q
    have Z791 : n0 ≤ T790.heap.size := Nat.le_trans Z771 K790q.1
    have ne_b_706_b_790 : b_706 ≠ b_790 := Nat.ne_of_lt (Nat.lt_of_lt_of_le (f774).lt g790_0)
    have ne_t_706_b_790 : t_706 ≠ b_790 := Nat.ne_of_lt (Nat.lt_of_lt_of_le (f777).lt g790_0)
    have ne_b_711_b_790 : b_711 ≠ b_790 := Nat.ne_of_lt (Nat.lt_of_lt_of_le (f778).lt g790_0)
    have ne_t_711_b_790 : t_711 ≠ b_790 := Nat.ne_of_lt (Nat.lt_of_lt_of_le (f781).lt g790_0)
    have ne_b_716_b_790 : b_716 ≠ b_790 := Nat.ne_of_lt (Nat.lt_of_lt_of_le (f782).lt g790_0)
    have ne_t_716_b_790 : t_716 ≠ b_790 := Nat.ne_of_lt (Nat.lt_of_lt_of_le (f785).lt g790_0)
    have ne_b750_b_790 : b750 ≠ b_790 := Nat.ne_of_lt (Nat.lt_of_lt_of_le (f786).lt g790_0)
    have ne_b761_b_790 : b761 ≠ b_790 := Nat.ne_of_lt (Nat.lt_of_lt_of_le (V_b761_770).lt g790_0)
    have ne_b_706_t_790 : b_706 ≠ t_790 := Nat.ne_of_lt (Nat.lt_of_lt_of_le (f774).lt g790_1)
    have ne_t_706_t_790 : t_706 ≠ t_790 := Nat.ne_of_lt (Nat.lt_of_lt_of_le (f777).lt g790_1)
    have ne_b_711_t_790 : b_711 ≠ t_790 := Nat.ne_of_lt (Nat.lt_of_lt_of_le (f778).lt g790_1)
    have ne_t_711_t_790 : t_711 ≠ t_790 := Nat.ne_of_lt (Nat.lt_of_lt_of_le (f781).lt g790_1)
    have ne_b_716_t_790 : b_716 ≠ t_790 := Nat.ne_of_lt (Nat.lt_of_lt_of_le (f782).lt g790_1)
    have ne_t_716_t_790 : t_716 ≠ t_790 := Nat.ne_of_lt (Nat.lt_of_lt_of_le (f785).lt g790_1)
    have ne_b750_t_790 : b750 ≠ t_790 := Nat.ne_of_lt (Nat.lt_of_lt_of_le (f786).lt g790_1)
    have ne_b761_t_790 : b761 ≠ t_790 := Nat.ne_of_lt (Nat.lt_of_lt_of_le (V_b761_770).lt g790_1)
    have g792 : n0 ≤ b_790 := Nat.le_trans Z771 g790_0
    have g793 : n0 ≤ t_790 := Nat.le_trans Z771 g790_1
    have f794 : Old Z n0 T790.heap := (f773.keep K790q all0)
    have f795 : Exa Z T790.heap b_706 "java/lang/String" := (f774.keep K790q)
    have f796 : Fld Z T790.heap b_706 "java/lang/String" "value" "[B" (.ref t_706) := (f775.keep K790q nin0)
    have f797 : Fld Z T790.heap b_706 "java/lang/String" "coder" "B" (.int (0 : Int32)) := (f776.keep K790q nin0)
    have f798 : Arv Z T790.heap t_706 kb_706 .byte (1 : Int32) [(.int (nar .byte (cA.toInt8.toInt32)))] (.int (0 : Int32)) := (f777.keep K790q nin0)
    have f799 : Exa Z T790.heap b_711 "java/lang/String" := (f778.keep K790q)
    have f800 : Fld Z T790.heap b_711 "java/lang/String" "value" "[B" (.ref t_711) := (f779.keep K790q nin0)
    have f801 : Fld Z T790.heap b_711 "java/lang/String" "coder" "B" (.int (0 : Int32)) := (f780.keep K790q nin0)
    have f802 : Arv Z T790.heap t_711 kb_711 .byte (1 : Int32) [(.int (nar .byte (cB.toInt8.toInt32)))] (.int (0 : Int32)) := (f781.keep K790q nin0)
    have f803 : Exa Z T790.heap b_716 "java/lang/String" := (f782.keep K790q)
    have f804 : Fld Z T790.heap b_716 "java/lang/String" "value" "[B" (.ref t_716) := (f783.keep K790q nin0)
    have f805 : Fld Z T790.heap b_716 "java/lang/String" "coder" "B" (.int (0 : Int32)) := (f784.keep K790q nin0)
    have f806 : Arv Z T790.heap t_716 kb_716 .byte (1 : Int32) [(.int (nar .byte (cC.toInt8.toInt32)))] (.int (0 : Int32)) := (f785.keep K790q nin0)
    have f807 : Arv Z T790.heap b750 k750 (.object "java/lang/String") (3 : Int32) [(.ref b_706), (.ref b_711), (.ref b_716)] .null := (f786.keep K790q nin0)
    have f808 : Arv Z T790.heap b761 k761 (.object "java/lang/String") (3 : Int32) [(.ref b720), (.ref b730), (.ref b740)] .null := (V_b761_770.keep K790q nin0)
    have pre810 : ∀ t, Steps p.tables e below (T790.setTop (mkF m 183 #[.val (.int p1), .val (.int p2), .val (.int p3), .val (.int p4), .val (.int p5), .val (.int p6), .val (.ref b_706), .val (.ref b_711), .val (.ref b_716), .val (.ref b720), .val (.ref b730), .val (.ref b740), .val (.ref b750), .val (.ref b761), .val (.int kk), .val (.int cq), .val (.ref b_790), .unset, .unset, .unset, .unset] [(.int (p6 &&& (1 : Int32)))])) t → Steps p.tables e below (s₁.setTop (entryFrame m #[(.int p1), (.int p2), (.int p3), (.int p4), (.int p5), (.int p6)] maxLocals)) t := by
      intro t kt
      refine pre789 _ ?_
      show Steps p.tables e below (T770.setTop (mkF m 144 #[.val (.int p1), .val (.int p2), .val (.int p3), .val (.int p4), .val (.int p5), .val (.int p6), .val (.ref b_706), .val (.ref b_711), .val (.ref b_716), .val (.ref b720), .val (.ref b730), .val (.ref b740), .val (.ref b750), .val (.ref b761), .val (.int kk), .val (.int cq), .unset, .unset, .unset, .unset, .unset] [(.int (p6 &&& (2 : Int32)))])) _
      refine XS.ifYes X770.here hx rfl (pc0 := 144) (pc' := 172) rfl (hb hby at_144) rfl ((if0 _ _).trans (teq hc144_788).1) (by decide) (by decide) ?_
      refine XS.iload X770.here hx rfl (hb hby at_172) rfl ?_
      refine st790 _ ?_
      refine XS.astore X790.here hx rfl (hb hby at_177) rfl rfl (l' := #[.val (.int p1), .val (.int p2), .val (.int p3), .val (.int p4), .val (.int p5), .val (.int p6), .val (.ref b_706), .val (.ref b_711), .val (.ref b_716), .val (.ref b720), .val (.ref b730), .val (.ref b740), .val (.ref b750), .val (.ref b761), .val (.int kk), .val (.int cq), .val (.ref b_790), .unset, .unset, .unset, .unset]) rfl ?_
      refine XS.iload X790.here hx rfl (hb hby at_179) rfl ?_
      refine XS.iconst X790.here hx rfl (hb hby at_181) ?_
      show Steps p.tables e below (T790.setTop (mkF m 182 #[.val (.int p1), .val (.int p2), .val (.int p3), .val (.int p4), .val (.int p5), .val (.int p6), .val (.ref b_706), .val (.ref b_711), .val (.ref b_716), .val (.ref b720), .val (.ref b730), .val (.ref b740), .val (.ref b750), .val (.ref b761), .val (.int kk), .val (.int cq), .val (.ref b_790), .unset, .unset, .unset, .unset] [(.int (1 : Int32)), (.int p6)])) _
      refine XS.iand X790.here hx rfl (hb hby at_182) rfl ?_
      exact kt
    by_cases hc183_809 : (p6 &&& (1 : Int32)) = (0 : Int32)
    · obtain ⟨T811, h811, X811, e811, E811, A811, D811, -, st811⟩ := newO X790 hx hZ hown (wd_26 hw) (wd_10 hw) (wd_2 hw) rfl (g := (mkF m 192 #[.val (.int p1), .val (.int p2), .val (.int p3), .val (.int p4), .val (.int p5), .val (.int p6), .val (.ref b_706), .val (.ref b_711), .val (.ref b_716), .val (.ref b720), .val (.ref b730), .val (.ref b740), .val (.ref b750), .val (.ref b761), .val (.int kk), .val (.int cq), .val (.ref b_790), .unset, .unset, .unset, .unset] [])) rfl (hb hby at_192) (by decide) (by decide)
      obtain ⟨b811, g811⟩ : ∃ z, z = T790.heap.size := ⟨_, rfl⟩
      rw [← g811] at A811 D811 st811
      have g_b811 : n0 ≤ b811 := Nat.le_trans Z791 (Nat.le_of_eq g811.symm)
      have ne_b_706_b811 : b_706 ≠ b811 := Nat.ne_of_lt (Nat.lt_of_lt_of_le (f795).lt (Nat.le_of_eq g811.symm))
      have ne_t_706_b811 : t_706 ≠ b811 := Nat.ne_of_lt (Nat.lt_of_lt_of_le (f798).lt (Nat.le_of_eq g811.symm))
      have ne_b_711_b811 : b_711 ≠ b811 := Nat.ne_of_lt (Nat.lt_of_lt_of_le (f799).lt (Nat.le_of_eq g811.symm))
      have ne_t_711_b811 : t_711 ≠ b811 := Nat.ne_of_lt (Nat.lt_of_lt_of_le (f802).lt (Nat.le_of_eq g811.symm))
      have ne_b_716_b811 : b_716 ≠ b811 := Nat.ne_of_lt (Nat.lt_of_lt_of_le (f803).lt (Nat.le_of_eq g811.symm))
      have ne_t_716_b811 : t_716 ≠ b811 := Nat.ne_of_lt (Nat.lt_of_lt_of_le (f806).lt (Nat.le_of_eq g811.symm))
      have ne_b750_b811 : b750 ≠ b811 := Nat.ne_of_lt (Nat.lt_of_lt_of_le (f807).lt (Nat.le_of_eq g811.symm))
      have ne_b761_b811 : b761 ≠ b811 := Nat.ne_of_lt (Nat.lt_of_lt_of_le (f808).lt (Nat.le_of_eq g811.symm))
      have ne_b_790_b811 : b_790 ≠ b811 := Nat.ne_of_lt (Nat.lt_of_lt_of_le (g790_3).lt (Nat.le_of_eq g811.symm))
      have ne_t_790_b811 : t_790 ≠ b811 := Nat.ne_of_lt (Nat.lt_of_lt_of_le (g790_6).lt (Nat.le_of_eq g811.symm))
      have Z812 : n0 ≤ h811.size := Nat.le_trans Z791 E811.1
      have F_value_b811 : Fld Z h811 b811 "java/lang/String" "value" "[B" .null := D811 (Or.inr (wd_23 hw)) (ty := (.array .byte)) (by decide)
      have F_coder_b811 : Fld Z h811 b811 "java/lang/String" "coder" "B" (.int (0 : Int32)) := D811 (Or.inr (wd_25 hw)) (ty := .byte) (by decide)
      obtain ⟨T813, h813, k813, X813, e813, E813, A813, st813⟩ := newP (aty := .char) X811 hx hZ (wd_27 hw) e811 (g := (mkF m 197 #[.val (.int p1), .val (.int p2), .val (.int p3), .val (.int p4), .val (.int p5), .val (.int p6), .val (.ref b_706), .val (.ref b_711), .val (.ref b_716), .val (.ref b720), .val (.ref b730), .val (.ref b740), .val (.ref b750), .val (.ref b761), .val (.int kk), .val (.int cq), .val (.ref b_790), .unset, .unset, .unset, .unset] [(.int (1 : Int32)), (.ref b811), (.ref b811)])) rfl (hb hby at_197) rfl (by decide) (cap := 1) (by decide) (by decide) (by decide) (by decide)
      obtain ⟨b813, g813⟩ : ∃ z, z = h811.size := ⟨_, rfl⟩
      rw [← g813] at A813 st813
      have g_b813 : n0 ≤ b813 := Nat.le_trans Z812 (Nat.le_of_eq g813.symm)
      have ne_b_706_b813 : b_706 ≠ b813 := Nat.ne_of_lt (Nat.lt_of_lt_of_le ((f795.ext E811)).lt (Nat.le_of_eq g813.symm))
      have ne_t_706_b813 : t_706 ≠ b813 := Nat.ne_of_lt (Nat.lt_of_lt_of_le ((f798.ext E811)).lt (Nat.le_of_eq g813.symm))
      have ne_b_711_b813 : b_711 ≠ b813 := Nat.ne_of_lt (Nat.lt_of_lt_of_le ((f799.ext E811)).lt (Nat.le_of_eq g813.symm))
      have ne_t_711_b813 : t_711 ≠ b813 := Nat.ne_of_lt (Nat.lt_of_lt_of_le ((f802.ext E811)).lt (Nat.le_of_eq g813.symm))
      have ne_b_716_b813 : b_716 ≠ b813 := Nat.ne_of_lt (Nat.lt_of_lt_of_le ((f803.ext E811)).lt (Nat.le_of_eq g813.symm))
      have ne_t_716_b813 : t_716 ≠ b813 := Nat.ne_of_lt (Nat.lt_of_lt_of_le ((f806.ext E811)).lt (Nat.le_of_eq g813.symm))
      have ne_b750_b813 : b750 ≠ b813 := Nat.ne_of_lt (Nat.lt_of_lt_of_le ((f807.ext E811)).lt (Nat.le_of_eq g813.symm))
      have ne_b761_b813 : b761 ≠ b813 := Nat.ne_of_lt (Nat.lt_of_lt_of_le ((f808.ext E811)).lt (Nat.le_of_eq g813.symm))
      have ne_b_790_b813 : b_790 ≠ b813 := Nat.ne_of_lt (Nat.lt_of_lt_of_le ((g790_3.ext E811)).lt (Nat.le_of_eq g813.symm))
      have ne_t_790_b813 : t_790 ≠ b813 := Nat.ne_of_lt (Nat.lt_of_lt_of_le ((g790_6.ext E811)).lt (Nat.le_of_eq g813.symm))
      have ne_b811_b813 : b811 ≠ b813 := Nat.ne_of_lt (Nat.lt_of_lt_of_le (A811).lt (Nat.le_of_eq g813.symm))
      have Z814 : n0 ≤ h813.size := Nat.le_trans Z812 E813.1
      have V0_b813 := (Arv.new A813 (by decide)).pad (pad_rep [] (.int (0 : Int32)) 1)
      have V_b813 : Arv Z h813 b813 k813 .char (1 : Int32) [(.int (0 : Int32))] (.int (0 : Int32)) := V0_b813
      obtain ⟨cl815, Ar815, q815, S815, N815n, H815, G815⟩ := id (V_b813)
      have hin815 : ¬ ((0 : Int32) < 0 ∨ cl815.slots.size ≤ ((0 : Int32)).toNatClampNeg) := inb_of S815 ⟨by decide, by decide⟩
      obtain ⟨T816, h816, X816, e816, W816, st816⟩ := stC X813 hx hZ e813 Ar815 (j := (0 : Int32)) hin815 (g := (mkF m 203 #[.val (.int p1), .val (.int p2), .val (.int p3), .val (.int p4), .val (.int p5), .val (.int p6), .val (.ref b_706), .val (.ref b_711), .val (.ref b_716), .val (.ref b720), .val (.ref b730), .val (.ref b740), .val (.ref b750), .val (.ref b761), .val (.int kk), .val (.int cq), .val (.ref b_790), .unset, .unset, .unset, .unset] [(.int (120 : Int32)), (.int (0 : Int32)), (.ref b813), (.ref b813), (.ref b811), (.ref b811)])) rfl rfl (hb hby at_203)
      have V_b813_816 : Arv Z h816 b813 k813 .char (1 : Int32) [(.int (nar .char (120 : Int32)))] (.int (0 : Int32)) := Arv.set Ar815 q815 S815 N815n H815 G815 (fits_nar_char _) W816 0 rfl (Nat.le_of_ble_eq_true rfl)
      have Z817 : n0 ≤ h816.size := Nat.le_trans Z814 (Keep.of_wr W816).1
      have N816 := Fr.snoc X816 N790 g_b813
      obtain ⟨_, _, ⟨T818, L818, k818, n818⟩, -, X818, ⟨Lc818, hQ818, l818, y818, z818⟩, st818⟩ := X816.specialBack hx (y := (⟨"java/lang/String", "<init>", "([C)V"⟩ : MethodName)) rfl hown (mvT hZ (wd_28 hw)) (mvT hZ (wd_29 hw)) (mvT hZ (wd_30 hw)) (by decide) (backOf (W := 1) (rmi1_1 l Z a0 hw [] b811 b813 .null (.int (0 : Int32)) k813 wz (nar .char (120 : Int32)) h816 n0 Z817 ((F_value_b811.ext E813).other W816 (Or.inl ne_b811_b813)) ((F_coder_b811.ext E813).other W816 (Or.inl ne_b811_b813)) ((A811.ext E813).wr W816) g_b811 V_b813_816 (by first | assumption | decide | omega) (((f794.ext E811).ext E813).wr W816 g_b813) S_COMPACT_STRINGS hz) hZ (wd_30 hw) (wd_2 hw) (by decide) (by decide)) (g := (mkF m 204 #[.val (.int p1), .val (.int p2), .val (.int p3), .val (.int p4), .val (.int p5), .val (.int p6), .val (.ref b_706), .val (.ref b_711), .val (.ref b_716), .val (.ref b720), .val (.ref b730), .val (.ref b740), .val (.ref b750), .val (.ref b761), .val (.int kk), .val (.int cq), .val (.ref b_790), .unset, .unset, .unset, .unset] [(.ref b813), (.ref b811), (.ref b811)])) rfl (by rw [hml]; rfl) (Steps.refl _) (a := b811) (argsL := [(.ref b813)]) (rest := [(.ref b811)]) (lenOf pd___C_V rfl) rfl (by show 2 * 0 + _ ≤ _; exact Nat.le_of_eq rfl) (hb hby at_204) (fun _ _ => ⟨rfl, e816, (by decide : 21 + 1 ≤ _), (by decide : 49 + 1 ≤ _)⟩)
      dsimp only [Pt.U, Pt.locs, Pt.cells, Pt.slots] at X818 l818 y818 z818 st818 hQ818
      rw [l818, y818, z818] at X818
      obtain ⟨b_818, kb_818, rfl, N818q, K818q, g818_0, g818_1, g818_2, g818_3⟩ := hQ818
      have N818 := Fr.app N816 N818q
      have Z819 : n0 ≤ T818.heap.size := Nat.le_trans Z817 K818q.1
      have ne_b_706_b_818 : b_706 ≠ b_818 := Nat.ne_of_lt (Nat.lt_of_lt_of_le ((((f795.ext E811).ext E813).wr W816)).lt g818_0)
      have ne_t_706_b_818 : t_706 ≠ b_818 := Nat.ne_of_lt (Nat.lt_of_lt_of_le ((((f798.ext E811).ext E813).other W816 ne_t_706_b813)).lt g818_0)
      have ne_b_711_b_818 : b_711 ≠ b_818 := Nat.ne_of_lt (Nat.lt_of_lt_of_le ((((f799.ext E811).ext E813).wr W816)).lt g818_0)
      have ne_t_711_b_818 : t_711 ≠ b_818 := Nat.ne_of_lt (Nat.lt_of_lt_of_le ((((f802.ext E811).ext E813).other W816 ne_t_711_b813)).lt g818_0)
      have ne_b_716_b_818 : b_716 ≠ b_818 := Nat.ne_of_lt (Nat.lt_of_lt_of_le ((((f803.ext E811).ext E813).wr W816)).lt g818_0)
      have ne_t_716_b_818 : t_716 ≠ b_818 := Nat.ne_of_lt (Nat.lt_of_lt_of_le ((((f806.ext E811).ext E813).other W816 ne_t_716_b813)).lt g818_0)
      have ne_b750_b_818 : b750 ≠ b_818 := Nat.ne_of_lt (Nat.lt_of_lt_of_le ((((f807.ext E811).ext E813).other W816 ne_b750_b813)).lt g818_0)
      have ne_b761_b_818 : b761 ≠ b_818 := Nat.ne_of_lt (Nat.lt_of_lt_of_le ((((f808.ext E811).ext E813).other W816 ne_b761_b813)).lt g818_0)
      have ne_b_790_b_818 : b_790 ≠ b_818 := Nat.ne_of_lt (Nat.lt_of_lt_of_le ((((g790_3.ext E811).ext E813).wr W816)).lt g818_0)
      have ne_t_790_b_818 : t_790 ≠ b_818 := Nat.ne_of_lt (Nat.lt_of_lt_of_le ((((g790_6.ext E811).ext E813).other W816 ne_t_790_b813)).lt g818_0)
      have ne_b811_b_818 : b811 ≠ b_818 := Nat.ne_of_lt (Nat.lt_of_lt_of_le (((A811.ext E813).wr W816)).lt g818_0)
      have ne_b813_b_818 : b813 ≠ b_818 := Nat.ne_of_lt (Nat.lt_of_lt_of_le (V_b813_816).lt g818_0)
      have g820 : n0 ≤ b_818 := Nat.le_trans Z817 g818_0
      obtain ⟨T821, h821, X821, e821, E821, A821, D821, -, st821⟩ := newO X818 hx hZ hown (wd_45 hw) (wd_46 hw) (wd_47 hw) rfl (g := (mkF m 209 #[.val (.int p1), .val (.int p2), .val (.int p3), .val (.int p4), .val (.int p5), .val (.int p6), .val (.ref b_706), .val (.ref b_711), .val (.ref b_716), .val (.ref b720), .val (.ref b730), .val (.ref b740), .val (.ref b750), .val (.ref b761), .val (.int kk), .val (.int cq), .val (.ref b_790), .val (.ref b811), .unset, .unset, .unset] [])) rfl (hb hby at_209) (by decide) (by decide)
      obtain ⟨b821, g821⟩ : ∃ z, z = T818.heap.size := ⟨_, rfl⟩
      rw [← g821] at A821 D821 st821
      have g_b821 : n0 ≤ b821 := Nat.le_trans Z819 (Nat.le_of_eq g821.symm)
      have ne_b_706_b821 : b_706 ≠ b821 := Nat.ne_of_lt (Nat.lt_of_lt_of_le (((((f795.ext E811).ext E813).wr W816).keep K818q)).lt (Nat.le_of_eq g821.symm))
      have ne_t_706_b821 : t_706 ≠ b821 := Nat.ne_of_lt (Nat.lt_of_lt_of_le (((((f798.ext E811).ext E813).other W816 ne_t_706_b813).keep K818q (ninS ne_t_706_b811 nin0))).lt (Nat.le_of_eq g821.symm))
      have ne_b_711_b821 : b_711 ≠ b821 := Nat.ne_of_lt (Nat.lt_of_lt_of_le (((((f799.ext E811).ext E813).wr W816).keep K818q)).lt (Nat.le_of_eq g821.symm))
      have ne_t_711_b821 : t_711 ≠ b821 := Nat.ne_of_lt (Nat.lt_of_lt_of_le (((((f802.ext E811).ext E813).other W816 ne_t_711_b813).keep K818q (ninS ne_t_711_b811 nin0))).lt (Nat.le_of_eq g821.symm))
      have ne_b_716_b821 : b_716 ≠ b821 := Nat.ne_of_lt (Nat.lt_of_lt_of_le (((((f803.ext E811).ext E813).wr W816).keep K818q)).lt (Nat.le_of_eq g821.symm))
      have ne_t_716_b821 : t_716 ≠ b821 := Nat.ne_of_lt (Nat.lt_of_lt_of_le (((((f806.ext E811).ext E813).other W816 ne_t_716_b813).keep K818q (ninS ne_t_716_b811 nin0))).lt (Nat.le_of_eq g821.symm))
      have ne_b750_b821 : b750 ≠ b821 := Nat.ne_of_lt (Nat.lt_of_lt_of_le (((((f807.ext E811).ext E813).other W816 ne_b750_b813).keep K818q (ninS ne_b750_b811 nin0))).lt (Nat.le_of_eq g821.symm))
      have ne_b761_b821 : b761 ≠ b821 := Nat.ne_of_lt (Nat.lt_of_lt_of_le (((((f808.ext E811).ext E813).other W816 ne_b761_b813).keep K818q (ninS ne_b761_b811 nin0))).lt (Nat.le_of_eq g821.symm))
      have ne_b_790_b821 : b_790 ≠ b821 := Nat.ne_of_lt (Nat.lt_of_lt_of_le (((((g790_3.ext E811).ext E813).wr W816).keep K818q)).lt (Nat.le_of_eq g821.symm))
      have ne_t_790_b821 : t_790 ≠ b821 := Nat.ne_of_lt (Nat.lt_of_lt_of_le (((((g790_6.ext E811).ext E813).other W816 ne_t_790_b813).keep K818q (ninS ne_t_790_b811 nin0))).lt (Nat.le_of_eq g821.symm))
      have Z822 : n0 ≤ h821.size := Nat.le_trans Z819 E821.1
      have F_names_b821 : Fld Z h821 b821 "com/example/kawi/kawi/xml/Attributes" "names" "[Ljava/lang/String;" .null := D821 (Or.inr (wd_53 hw)) (ty := (.array (.object "java/lang/String"))) (by decide)
      have F_values_b821 : Fld Z h821 b821 "com/example/kawi/kawi/xml/Attributes" "values" "[Ljava/lang/String;" .null := D821 (Or.inr (wd_55 hw)) (ty := (.array (.object "java/lang/String"))) (by decide)
      have F_size_b821 : Fld Z h821 b821 "com/example/kawi/kawi/xml/Attributes" "size" "I" (.int (0 : Int32)) := D821 (Or.inr (wd_57 hw)) (ty := .int) (by decide)
      obtain ⟨_, _, ⟨T823, L823, k823, n823⟩, -, X823, ⟨Lc823, hQ823, l823, y823, z823⟩, st823⟩ := X821.specialBack hx (y := (⟨"com/example/kawi/kawi/xml/Attributes", "<init>", "([Ljava/lang/String;[Ljava/lang/String;I)V"⟩ : MethodName)) rfl hown (mvT hZ (wd_48 hw)) (mvT hZ (wd_49 hw)) (mvT hZ (wd_50 hw)) (by decide) (backOf (W := 1) (rm11 l Z a0 hw [] b821 b750 b761 kk .null .null (.int (0 : Int32)) h821 n0 Z822 F_names_b821 F_values_b821 F_size_b821 A821 g_b821) hZ (wd_50 hw) (wd_47 hw) (by decide) (by decide)) (g := (mkF m 219 #[.val (.int p1), .val (.int p2), .val (.int p3), .val (.int p4), .val (.int p5), .val (.int p6), .val (.ref b_706), .val (.ref b_711), .val (.ref b_716), .val (.ref b720), .val (.ref b730), .val (.ref b740), .val (.ref b750), .val (.ref b761), .val (.int kk), .val (.int cq), .val (.ref b_790), .val (.ref b811), .unset, .unset, .unset] [(.int kk), (.ref b761), (.ref b750), (.ref b821), (.ref b821)])) rfl (by rw [hml]; rfl) (Steps.refl _) (a := b821) (argsL := [(.ref b750), (.ref b761), (.int kk)]) (rest := [(.ref b821)]) (lenOf pd___Ljava_lang_String__Ljava_lang_String_I_V rfl) rfl (by show 2 * 0 + _ ≤ _; exact Nat.le_of_eq rfl) (hb hby at_219) (fun _ _ => ⟨rfl, e821, (by decide : 23 + 0 ≤ _), (by decide : 53 + 0 ≤ _)⟩)
      dsimp only [Pt.U, Pt.locs, Pt.cells, Pt.slots] at X823 l823 y823 z823 st823 hQ823
      rw [l823, y823, z823] at X823
      obtain ⟨rfl, N823q, K823q, g823_0, g823_1, g823_2⟩ := hQ823
      have N823 := Fr.app N818 N823q
      have Z824 : n0 ≤ T823.heap.size := Nat.le_trans Z822 K823q.1
      have f825 : Old Z n0 T823.heap := ((((((f794.ext E811).ext E813).wr W816 g_b813).keep K818q (allS g_b811 all0)).ext E821).keep K823q (allS g_b821 all0))
      have f826 : Exa Z T823.heap b_706 "java/lang/String" := ((((((f795.ext E811).ext E813).wr W816).keep K818q).ext E821).keep K823q)
      have f827 : Fld Z T823.heap b_706 "java/lang/String" "value" "[B" (.ref t_706) := ((((((f796.ext E811).ext E813).other W816 (Or.inl ne_b_706_b813)).keep K818q (ninS ne_b_706_b811 nin0)).ext E821).keep K823q (ninS ne_b_706_b821 nin0))
      have f828 : Fld Z T823.heap b_706 "java/lang/String" "coder" "B" (.int (0 : Int32)) := ((((((f797.ext E811).ext E813).other W816 (Or.inl ne_b_706_b813)).keep K818q (ninS ne_b_706_b811 nin0)).ext E821).keep K823q (ninS ne_b_706_b821 nin0))
      have f829 : Arv Z T823.heap t_706 kb_706 .byte (1 : Int32) [(.int (nar .byte (cA.toInt8.toInt32)))] (.int (0 : Int32)) := ((((((f798.ext E811).ext E813).other W816 ne_t_706_b813).keep K818q (ninS ne_t_706_b811 nin0)).ext E821).keep K823q (ninS ne_t_706_b821 nin0))
      have f830 : Exa Z T823.heap b_711 "java/lang/String" := ((((((f799.ext E811).ext E813).wr W816).keep K818q).ext E821).keep K823q)
      have f831 : Fld Z T823.heap b_711 "java/lang/String" "value" "[B" (.ref t_711) := ((((((f800.ext E811).ext E813).other W816 (Or.inl ne_b_711_b813)).keep K818q (ninS ne_b_711_b811 nin0)).ext E821).keep K823q (ninS ne_b_711_b821 nin0))
      have f832 : Fld Z T823.heap b_711 "java/lang/String" "coder" "B" (.int (0 : Int32)) := ((((((f801.ext E811).ext E813).other W816 (Or.inl ne_b_711_b813)).keep K818q (ninS ne_b_711_b811 nin0)).ext E821).keep K823q (ninS ne_b_711_b821 nin0))
      have f833 : Arv Z T823.heap t_711 kb_711 .byte (1 : Int32) [(.int (nar .byte (cB.toInt8.toInt32)))] (.int (0 : Int32)) := ((((((f802.ext E811).ext E813).other W816 ne_t_711_b813).keep K818q (ninS ne_t_711_b811 nin0)).ext E821).keep K823q (ninS ne_t_711_b821 nin0))
      have f834 : Exa Z T823.heap b_716 "java/lang/String" := ((((((f803.ext E811).ext E813).wr W816).keep K818q).ext E821).keep K823q)
      have f835 : Fld Z T823.heap b_716 "java/lang/String" "value" "[B" (.ref t_716) := ((((((f804.ext E811).ext E813).other W816 (Or.inl ne_b_716_b813)).keep K818q (ninS ne_b_716_b811 nin0)).ext E821).keep K823q (ninS ne_b_716_b821 nin0))
      have f836 : Fld Z T823.heap b_716 "java/lang/String" "coder" "B" (.int (0 : Int32)) := ((((((f805.ext E811).ext E813).other W816 (Or.inl ne_b_716_b813)).keep K818q (ninS ne_b_716_b811 nin0)).ext E821).keep K823q (ninS ne_b_716_b821 nin0))
      have f837 : Arv Z T823.heap t_716 kb_716 .byte (1 : Int32) [(.int (nar .byte (cC.toInt8.toInt32)))] (.int (0 : Int32)) := ((((((f806.ext E811).ext E813).other W816 ne_t_716_b813).keep K818q (ninS ne_t_716_b811 nin0)).ext E821).keep K823q (ninS ne_t_716_b821 nin0))
      have f838 : Arv Z T823.heap b750 k750 (.object "java/lang/String") (3 : Int32) [(.ref b_706), (.ref b_711), (.ref b_716)] .null := ((((((f807.ext E811).ext E813).other W816 ne_b750_b813).keep K818q (ninS ne_b750_b811 nin0)).ext E821).keep K823q (ninS ne_b750_b821 nin0))
      have f839 : Arv Z T823.heap b761 k761 (.object "java/lang/String") (3 : Int32) [(.ref b720), (.ref b730), (.ref b740)] .null := ((((((f808.ext E811).ext E813).other W816 ne_b761_b813).keep K818q (ninS ne_b761_b811 nin0)).ext E821).keep K823q (ninS ne_b761_b821 nin0))
      have f840 : Exa Z T823.heap b_790 "java/lang/String" := ((((((g790_3.ext E811).ext E813).wr W816).keep K818q).ext E821).keep K823q)
      have f841 : Fld Z T823.heap b_790 "java/lang/String" "value" "[B" (.ref t_790) := ((((((g790_4.ext E811).ext E813).other W816 (Or.inl ne_b_790_b813)).keep K818q (ninS ne_b_790_b811 nin0)).ext E821).keep K823q (ninS ne_b_790_b821 nin0))
      have f842 : Fld Z T823.heap b_790 "java/lang/String" "coder" "B" (.int (0 : Int32)) := ((((((g790_5.ext E811).ext E813).other W816 (Or.inl ne_b_790_b813)).keep K818q (ninS ne_b_790_b811 nin0)).ext E821).keep K823q (ninS ne_b_790_b821 nin0))
      have f843 : Arv Z T823.heap t_790 kb_790 .byte (1 : Int32) [(.int (nar .byte (cq.toInt8.toInt32)))] (.int (0 : Int32)) := ((((((g790_6.ext E811).ext E813).other W816 ne_t_790_b813).keep K818q (ninS ne_t_790_b811 nin0)).ext E821).keep K823q (ninS ne_t_790_b821 nin0))
      have f844 : Exa Z T823.heap b821 "com/example/kawi/kawi/xml/Attributes" := (A821.keep K823q)
      have hk4 := own_four p4
      rw [← hkk] at hk4
      have pre845 : ∀ t, Steps p.tables e below (T823.setTop (mkF m 224 #[.val (.int p1), .val (.int p2), .val (.int p3), .val (.int p4), .val (.int p5), .val (.int p6), .val (.ref b_706), .val (.ref b_711), .val (.ref b_716), .val (.ref b720), .val (.ref b730), .val (.ref b740), .val (.ref b750), .val (.ref b761), .val (.int kk), .val (.int cq), .val (.ref b_790), .val (.ref b811), .val (.ref b821), .unset, .unset] [])) t → Steps p.tables e below (s₁.setTop (entryFrame m #[(.int p1), (.int p2), (.int p3), (.int p4), (.int p5), (.int p6)] maxLocals)) t := by
        intro t kt
        refine pre810 _ ?_
        show Steps p.tables e below (T790.setTop (mkF m 183 #[.val (.int p1), .val (.int p2), .val (.int p3), .val (.int p4), .val (.int p5), .val (.int p6), .val (.ref b_706), .val (.ref b_711), .val (.ref b_716), .val (.ref b720), .val (.ref b730), .val (.ref b740), .val (.ref b750), .val (.ref b761), .val (.int kk), .val (.int cq), .val (.ref b_790), .unset, .unset, .unset, .unset] [(.int (p6 &&& (1 : Int32)))])) _
        refine XS.ifYes X790.here hx rfl (pc0 := 183) (pc' := 192) rfl (hb hby at_183) rfl ((if0 _ _).trans (teq hc183_809).1) (by decide) (by decide) ?_
        refine st811 _ ?_
        refine XS.dup X811.here hx rfl (hb hby at_195) rfl rfl ?_
        refine XS.iconst X811.here hx rfl (hb hby at_196) ?_
        refine st813 _ ?_
        refine XS.dup X813.here hx rfl (hb hby at_199) rfl rfl ?_
        refine XS.iconst X813.here hx rfl (hb hby at_200) ?_
        refine XS.bipush X813.here hx rfl (hb hby at_201) ?_
        refine st816 _ ?_
        show Steps p.tables e below (T816.setTop (mkF m 204 #[.val (.int p1), .val (.int p2), .val (.int p3), .val (.int p4), .val (.int p5), .val (.int p6), .val (.ref b_706), .val (.ref b_711), .val (.ref b_716), .val (.ref b720), .val (.ref b730), .val (.ref b740), .val (.ref b750), .val (.ref b761), .val (.int kk), .val (.int cq), .val (.ref b_790), .unset, .unset, .unset, .unset] [(.ref b813), (.ref b811), (.ref b811)])) _
        refine st818.trans ?_
        refine XS.astore X818.here hx rfl (hb hby at_207) rfl rfl (l' := #[.val (.int p1), .val (.int p2), .val (.int p3), .val (.int p4), .val (.int p5), .val (.int p6), .val (.ref b_706), .val (.ref b_711), .val (.ref b_716), .val (.ref b720), .val (.ref b730), .val (.ref b740), .val (.ref b750), .val (.ref b761), .val (.int kk), .val (.int cq), .val (.ref b_790), .val (.ref b811), .unset, .unset, .unset]) rfl ?_
        refine st821 _ ?_
        refine XS.dup X821.here hx rfl (hb hby at_212) rfl rfl ?_
        refine XS.aload X821.here hx rfl (hb hby at_213) rfl rfl ?_
        refine XS.aload X821.here hx rfl (hb hby at_215) rfl rfl ?_
        refine XS.iload X821.here hx rfl (hb hby at_217) rfl ?_
        refine st823.trans ?_
        refine XS.astore X823.here hx rfl (hb hby at_222) rfl rfl (l' := #[.val (.int p1), .val (.int p2), .val (.int p3), .val (.int p4), .val (.int p5), .val (.int p6), .val (.ref b_706), .val (.ref b_711), .val (.ref b_716), .val (.ref b720), .val (.ref b730), .val (.ref b740), .val (.ref b750), .val (.ref b761), .val (.int kk), .val (.int cq), .val (.ref b_790), .val (.ref b811), .val (.ref b821), .unset, .unset]) rfl ?_
        exact kt
      rcases hk4 with rfl | rfl | rfl | rfl
      · obtain ⟨cq846, kq846, q846a, q846b, q846c⟩ := isOf hZ rfl (f844)
        obtain ⟨_, _, ⟨T846, L846, k846, n846⟩, -, X846, ⟨Lc846, hQ846, l846, y846, z846⟩, st846⟩ := X823.virtualBack hx (y := (⟨"com/example/kawi/kawi/xml/Attributes", "getOrDefault", "(Ljava/lang/String;Ljava/lang/String;)Ljava/lang/String;"⟩ : MethodName)) (z := (⟨"com/example/kawi/kawi/xml/Attributes", "getOrDefault", "(Ljava/lang/String;Ljava/lang/String;)Ljava/lang/String;"⟩ : MethodName)) hown (mvT hZ (wd_66 hw)) (mvT hZ (wd_67 hw)) (notFace_of_selects (args := #[]) (mvT hZ (wd_69 hw))) (mvT hZ (wd_69 hw)) (mvT hZ (wd_68 hw)) (by decide) (backOf (W := 0) (rmg0x1 l Z a0 hw [] b821 b_790 b811 b750 b761 k750 k761 b_706 b_711 b_716 b720 b730 b740 (nar .byte (cq.toInt8.toInt32)) t_790 kb_790 wz T823.heap n0 Z824 g823_0 g823_1 g823_2 f838 f839 f840 f841 f842 f843 f825 S_COMPACT_STRINGS hz) hZ (wd_70 hw) (wd_47 hw) (by decide) (by decide)) q846a q846c (g := (mkF m 302 #[.val (.int p1), .val (.int p2), .val (.int p3), .val (.int p4), .val (.int p5), .val (.int p6), .val (.ref b_706), .val (.ref b_711), .val (.ref b_716), .val (.ref b720), .val (.ref b730), .val (.ref b740), .val (.ref b750), .val (.ref b761), .val (.int (0 : Int32)), .val (.int cq), .val (.ref b_790), .val (.ref b811), .val (.ref b821), .val (.ref b811), .unset] [(.ref b811), (.ref b_790), (.ref b821)])) rfl (by rw [hml]; rfl) (Steps.refl _) (argsL := [(.ref b_790), (.ref b811)]) (rest := []) (lenOf pd__Ljava_lang_String_Ljava_lang_String__Ljava_lang_String_ rfl) rfl (by show 2 * 0 + _ ≤ _; exact Nat.le_of_eq rfl) (hb hby at_302) (fun _ _ => ⟨rfl, rfl, (by decide : 23 + 0 ≤ _), (by decide : 53 + 0 ≤ _)⟩)
        dsimp only [Pt.U, Pt.locs, Pt.cells, Pt.slots] at X846 l846 y846 z846 st846 hQ846
        rw [l846, y846, z846] at X846
        obtain ⟨rfl, N846q, e846⟩ := hQ846
        have N846 := Fr.app N823 N846q
        obtain ⟨fs, hr, hrun, hended, hW, hsame⟩ := X846.leave (v := some (.int (1 : Int32))) (fun h => by rw [Bd.returns] at h; cases h)
        refine ⟨_, _, pre845 _ ?_, hrun, hended, _, _, rfl, ?_, ⟨_, rfl⟩, hW, hsame.mono (by decide) (by decide)⟩
        · show Steps p.tables e below (T823.setTop (mkF m 224 #[.val (.int p1), .val (.int p2), .val (.int p3), .val (.int p4), .val (.int p5), .val (.int p6), .val (.ref b_706), .val (.ref b_711), .val (.ref b_716), .val (.ref b720), .val (.ref b730), .val (.ref b740), .val (.ref b750), .val (.ref b761), .val (.int (0 : Int32)), .val (.int cq), .val (.ref b_790), .val (.ref b811), .val (.ref b821), .unset, .unset] [])) _
          refine XS.iload X823.here hx rfl (hb hby at_224) rfl ?_
          refine XS.ifYes X823.here hx rfl (pc0 := 226) (pc' := 246) rfl (hb hby at_226) rfl ((if0 _ _).trans (flt (by decide)).2.2.2) (by decide) (by decide) ?_
          refine XS.iload X823.here hx rfl (hb hby at_246) rfl ?_
          refine XS.iconst X823.here hx rfl (hb hby at_248) ?_
          refine XS.icmpYes X823.here hx rfl (pc0 := 249) (pc' := 269) rfl (hb hby at_249) rfl (flt (by decide)).2.2.2 (by decide) (by decide) ?_
          refine XS.iload X823.here hx rfl (hb hby at_269) rfl ?_
          refine XS.iconst X823.here hx rfl (hb hby at_271) ?_
          refine XS.icmpYes X823.here hx rfl (pc0 := 272) (pc' := 292) rfl (hb hby at_272) rfl (flt (by decide)).2.2.2 (by decide) (by decide) ?_
          refine XS.aload X823.here hx rfl (hb hby at_292) rfl rfl ?_
          refine XS.astore X823.here hx rfl (hb hby at_294) rfl rfl (l' := #[.val (.int p1), .val (.int p2), .val (.int p3), .val (.int p4), .val (.int p5), .val (.int p6), .val (.ref b_706), .val (.ref b_711), .val (.ref b_716), .val (.ref b720), .val (.ref b730), .val (.ref b740), .val (.ref b750), .val (.ref b761), .val (.int (0 : Int32)), .val (.int cq), .val (.ref b_790), .val (.ref b811), .val (.ref b821), .val (.ref b811), .unset]) rfl ?_
          show Steps p.tables e below (T823.setTop (mkF m 296 #[.val (.int p1), .val (.int p2), .val (.int p3), .val (.int p4), .val (.int p5), .val (.int p6), .val (.ref b_706), .val (.ref b_711), .val (.ref b_716), .val (.ref b720), .val (.ref b730), .val (.ref b740), .val (.ref b750), .val (.ref b761), .val (.int (0 : Int32)), .val (.int cq), .val (.ref b_790), .val (.ref b811), .val (.ref b821), .val (.ref b811), .unset] [])) _
          refine XS.aload X823.here hx rfl (hb hby at_296) rfl rfl ?_
          refine XS.aload X823.here hx rfl (hb hby at_298) rfl rfl ?_
          refine XS.aload X823.here hx rfl (hb hby at_300) rfl rfl ?_
          refine st846.trans ?_
          refine XS.astore X846.here hx rfl (hb hby at_305) rfl rfl (l' := #[.val (.int p1), .val (.int p2), .val (.int p3), .val (.int p4), .val (.int p5), .val (.int p6), .val (.ref b_706), .val (.ref b_711), .val (.ref b_716), .val (.ref b720), .val (.ref b730), .val (.ref b740), .val (.ref b750), .val (.ref b761), .val (.int (0 : Int32)), .val (.int cq), .val (.ref b_790), .val (.ref b811), .val (.ref b821), .val (.ref b811), .val (.ref b811)]) rfl ?_
          refine XS.aload X846.here hx rfl (hb hby at_307) rfl rfl ?_
          refine XS.aload X846.here hx rfl (hb hby at_309) rfl rfl ?_
          refine Jvm.RoadKit.acmp (g := (mkF m 311 #[.val (.int p1), .val (.int p2), .val (.int p3), .val (.int p4), .val (.int p5), .val (.int p6), .val (.ref b_706), .val (.ref b_711), .val (.ref b_716), .val (.ref b720), .val (.ref b730), .val (.ref b740), .val (.ref b750), .val (.ref b761), .val (.int (0 : Int32)), .val (.int cq), .val (.ref b_790), .val (.ref b811), .val (.ref b821), .val (.ref b811), .val (.ref b811)] [(.ref b811), (.ref b811)])) X846 hx rfl rfl rfl (pc0 := 311) (pc' := 314) (same := true) rfl (hb hby at_311) rfl (decide_eq_true rfl) (by decide) (by decide) ?_
          refine XS.iconst X846.here hx rfl (hb hby at_314) ?_
          refine XS.goto X846.here hx rfl (pc0 := 315) (pc' := 319) rfl (hb hby at_315) (by decide) (by decide) ?_
          show Steps p.tables e below (T846.setTop (mkF m 319 #[.val (.int p1), .val (.int p2), .val (.int p3), .val (.int p4), .val (.int p5), .val (.int p6), .val (.ref b_706), .val (.ref b_711), .val (.ref b_716), .val (.ref b720), .val (.ref b730), .val (.ref b740), .val (.ref b750), .val (.ref b761), .val (.int (0 : Int32)), .val (.int cq), .val (.ref b_790), .val (.ref b811), .val (.ref b821), .val (.ref b811), .val (.ref b811)] [(.int (1 : Int32))])) _
          exact retN X846 hx (t := .boolean) Bd.returns (by simp) (hb hby at_319) hr
        · show Q_rm0 Z p1 p2 p3 p4 p5 p6 wz h0 n0 _ T846.heap _
          rw [e846]
          exact ⟨rfl, N846, trivial⟩
      · have pre848 : ∀ t, Steps p.tables e below (T823.setTop (mkF m 233 #[.val (.int p1), .val (.int p2), .val (.int p3), .val (.int p4), .val (.int p5), .val (.int p6), .val (.ref b_706), .val (.ref b_711), .val (.ref b_716), .val (.ref b720), .val (.ref b730), .val (.ref b740), .val (.ref b750), .val (.ref b761), .val (.int (1 : Int32)), .val (.int cq), .val (.ref b_790), .val (.ref b811), .val (.ref b821), .unset, .unset] [(.ref b_790), (.ref b_706)])) t → Steps p.tables e below (s₁.setTop (entryFrame m #[(.int p1), (.int p2), (.int p3), (.int p4), (.int p5), (.int p6)] maxLocals)) t := by
          intro t kt
          refine pre845 _ ?_
          show Steps p.tables e below (T823.setTop (mkF m 224 #[.val (.int p1), .val (.int p2), .val (.int p3), .val (.int p4), .val (.int p5), .val (.int p6), .val (.ref b_706), .val (.ref b_711), .val (.ref b_716), .val (.ref b720), .val (.ref b730), .val (.ref b740), .val (.ref b750), .val (.ref b761), .val (.int (1 : Int32)), .val (.int cq), .val (.ref b_790), .val (.ref b811), .val (.ref b821), .unset, .unset] [])) _
          refine XS.iload X823.here hx rfl (hb hby at_224) rfl ?_
          refine XS.ifNo X823.here hx rfl (hb hby at_226) rfl ((if0 _ _).trans (tlt (by decide)).2.2.2) ?_
          refine XS.aload X823.here hx rfl (hb hby at_229) rfl rfl ?_
          refine XS.aload X823.here hx rfl (hb hby at_231) rfl rfl ?_
          exact kt
        by_cases hc233_847 : (nar .byte (cA.toInt8.toInt32)) = (nar .byte (cq.toInt8.toInt32))
        · obtain ⟨cq849, kq849, q849a, q849b, q849c⟩ := isOf hZ rfl (f826)
          obtain ⟨_, _, ⟨T849, L849, k849, n849⟩, -, X849, ⟨Lc849, hQ849, l849, y849, z849⟩, st849⟩ := X823.virtualBack hx (y := (⟨"java/lang/String", "equals", "(Ljava/lang/Object;)Z"⟩ : MethodName)) (z := (⟨"java/lang/String", "equals", "(Ljava/lang/Object;)Z"⟩ : MethodName)) hown (mvT hZ (wd_58 hw)) (mvT hZ (wd_59 hw)) (notFace_of_selects (args := #[]) (mvT hZ (wd_61 hw))) (mvT hZ (wd_61 hw)) (mvT hZ (wd_60 hw)) (by decide) (backOf (W := 0) (rmeq11eq l Z a0 hw [] b_706 b_790 t_706 t_790 wz kb_706 kb_790 (nar .byte (cA.toInt8.toInt32)) (nar .byte (cq.toInt8.toInt32)) T823.heap n0 Z824 f826 f840 f827 f841 f828 f842 f829 f843 f825 S_COMPACT_STRINGS hz ne_b_706_b_790 hc233_847) hZ (wd_62 hw) (wd_2 hw) (by decide) (by decide)) q849a q849c (g := (mkF m 233 #[.val (.int p1), .val (.int p2), .val (.int p3), .val (.int p4), .val (.int p5), .val (.int p6), .val (.ref b_706), .val (.ref b_711), .val (.ref b_716), .val (.ref b720), .val (.ref b730), .val (.ref b740), .val (.ref b750), .val (.ref b761), .val (.int (1 : Int32)), .val (.int cq), .val (.ref b_790), .val (.ref b811), .val (.ref b821), .unset, .unset] [(.ref b_790), (.ref b_706)])) rfl (by rw [hml]; rfl) (Steps.refl _) (argsL := [(.ref b_790)]) (rest := []) (lenOf pd__Ljava_lang_Object__Z rfl) rfl (by show 2 * 0 + _ ≤ _; exact Nat.le_of_eq rfl) (hb hby at_233) (fun _ _ => ⟨rfl, rfl, (by decide : 23 + 0 ≤ _), (by decide : 53 + 0 ≤ _)⟩)
          dsimp only [Pt.U, Pt.locs, Pt.cells, Pt.slots] at X849 l849 y849 z849 st849 hQ849
          rw [l849, y849, z849] at X849
          obtain ⟨rfl, N849q, e849⟩ := hQ849
          have N849 := Fr.app N823 N849q
          obtain ⟨cq850, kq850, q850a, q850b, q850c⟩ := isOf hZ e849 (f844)
          obtain ⟨_, _, ⟨T850, L850, k850, n850⟩, -, X850, ⟨Lc850, hQ850, l850, y850, z850⟩, st850⟩ := X849.virtualBack hx (y := (⟨"com/example/kawi/kawi/xml/Attributes", "getOrDefault", "(Ljava/lang/String;Ljava/lang/String;)Ljava/lang/String;"⟩ : MethodName)) (z := (⟨"com/example/kawi/kawi/xml/Attributes", "getOrDefault", "(Ljava/lang/String;Ljava/lang/String;)Ljava/lang/String;"⟩ : MethodName)) hown (mvT hZ (wd_66 hw)) (mvT hZ (wd_67 hw)) (notFace_of_selects (args := #[]) (mvT hZ (wd_69 hw))) (mvT hZ (wd_69 hw)) (mvT hZ (wd_68 hw)) (by decide) (backOf (W := 0) (rmg101 l Z a0 hw [] b821 b_790 b811 b750 b761 k750 k761 b_706 b_711 b_716 b720 b730 b740 t_706 kb_706 (nar .byte (cA.toInt8.toInt32)) (nar .byte (cq.toInt8.toInt32)) t_790 kb_790 wz T823.heap n0 Z824 g823_0 g823_1 g823_2 f838 f839 f826 f827 f828 f829 ne_b_706_b_790 f840 f841 f842 f843 f825 S_COMPACT_STRINGS hz hc233_847) hZ (wd_70 hw) (wd_47 hw) (by decide) (by decide)) q850a q850c (g := (mkF m 302 #[.val (.int p1), .val (.int p2), .val (.int p3), .val (.int p4), .val (.int p5), .val (.int p6), .val (.ref b_706), .val (.ref b_711), .val (.ref b_716), .val (.ref b720), .val (.ref b730), .val (.ref b740), .val (.ref b750), .val (.ref b761), .val (.int (1 : Int32)), .val (.int cq), .val (.ref b_790), .val (.ref b811), .val (.ref b821), .val (.ref b720), .unset] [(.ref b811), (.ref b_790), (.ref b821)])) rfl (by rw [hml]; rfl) (Steps.refl _) (argsL := [(.ref b_790), (.ref b811)]) (rest := []) (lenOf pd__Ljava_lang_String_Ljava_lang_String__Ljava_lang_String_ rfl) rfl (by show 2 * 0 + _ ≤ _; exact Nat.le_of_eq rfl) (hb hby at_302) (fun _ _ => ⟨rfl, e849, (by decide : 23 + 0 ≤ _), (by decide : 53 + 0 ≤ _)⟩)
          dsimp only [Pt.U, Pt.locs, Pt.cells, Pt.slots] at X850 l850 y850 z850 st850 hQ850
          rw [l850, y850, z850] at X850
          obtain ⟨rfl, N850q, e850⟩ := hQ850
          have N850 := Fr.app N849 N850q
          obtain ⟨fs, hr, hrun, hended, hW, hsame⟩ := X850.leave (v := some (.int (1 : Int32))) (fun h => by rw [Bd.returns] at h; cases h)
          refine ⟨_, _, pre848 _ ?_, hrun, hended, _, _, rfl, ?_, ⟨_, rfl⟩, hW, hsame.mono (by decide) (by decide)⟩
          · show Steps p.tables e below (T823.setTop (mkF m 233 #[.val (.int p1), .val (.int p2), .val (.int p3), .val (.int p4), .val (.int p5), .val (.int p6), .val (.ref b_706), .val (.ref b_711), .val (.ref b_716), .val (.ref b720), .val (.ref b730), .val (.ref b740), .val (.ref b750), .val (.ref b761), .val (.int (1 : Int32)), .val (.int cq), .val (.ref b_790), .val (.ref b811), .val (.ref b821), .unset, .unset] [(.ref b_790), (.ref b_706)])) _
            refine st849.trans ?_
            refine XS.ifNo X849.here hx rfl (hb hby at_236) rfl ((if0 _ _).trans (feq (by decide)).1) ?_
            refine XS.aload X849.here hx rfl (hb hby at_239) rfl rfl ?_
            refine XS.astore X849.here hx rfl (hb hby at_241) rfl rfl (l' := #[.val (.int p1), .val (.int p2), .val (.int p3), .val (.int p4), .val (.int p5), .val (.int p6), .val (.ref b_706), .val (.ref b_711), .val (.ref b_716), .val (.ref b720), .val (.ref b730), .val (.ref b740), .val (.ref b750), .val (.ref b761), .val (.int (1 : Int32)), .val (.int cq), .val (.ref b_790), .val (.ref b811), .val (.ref b821), .val (.ref b720), .unset]) rfl ?_
            refine XS.goto X849.here hx rfl (pc0 := 243) (pc' := 296) rfl (hb hby at_243) (by decide) (by decide) ?_
            refine XS.aload X849.here hx rfl (hb hby at_296) rfl rfl ?_
            show Steps p.tables e below (T849.setTop (mkF m 298 #[.val (.int p1), .val (.int p2), .val (.int p3), .val (.int p4), .val (.int p5), .val (.int p6), .val (.ref b_706), .val (.ref b_711), .val (.ref b_716), .val (.ref b720), .val (.ref b730), .val (.ref b740), .val (.ref b750), .val (.ref b761), .val (.int (1 : Int32)), .val (.int cq), .val (.ref b_790), .val (.ref b811), .val (.ref b821), .val (.ref b720), .unset] [(.ref b821)])) _
            refine XS.aload X849.here hx rfl (hb hby at_298) rfl rfl ?_
            refine XS.aload X849.here hx rfl (hb hby at_300) rfl rfl ?_
            refine st850.trans ?_
            refine XS.astore X850.here hx rfl (hb hby at_305) rfl rfl (l' := #[.val (.int p1), .val (.int p2), .val (.int p3), .val (.int p4), .val (.int p5), .val (.int p6), .val (.ref b_706), .val (.ref b_711), .val (.ref b_716), .val (.ref b720), .val (.ref b730), .val (.ref b740), .val (.ref b750), .val (.ref b761), .val (.int (1 : Int32)), .val (.int cq), .val (.ref b_790), .val (.ref b811), .val (.ref b821), .val (.ref b720), .val (.ref b720)]) rfl ?_
            refine XS.aload X850.here hx rfl (hb hby at_307) rfl rfl ?_
            refine XS.aload X850.here hx rfl (hb hby at_309) rfl rfl ?_
            refine Jvm.RoadKit.acmp (g := (mkF m 311 #[.val (.int p1), .val (.int p2), .val (.int p3), .val (.int p4), .val (.int p5), .val (.int p6), .val (.ref b_706), .val (.ref b_711), .val (.ref b_716), .val (.ref b720), .val (.ref b730), .val (.ref b740), .val (.ref b750), .val (.ref b761), .val (.int (1 : Int32)), .val (.int cq), .val (.ref b_790), .val (.ref b811), .val (.ref b821), .val (.ref b720), .val (.ref b720)] [(.ref b720), (.ref b720)])) X850 hx rfl rfl rfl (pc0 := 311) (pc' := 314) (same := true) rfl (hb hby at_311) rfl (decide_eq_true rfl) (by decide) (by decide) ?_
            refine XS.iconst X850.here hx rfl (hb hby at_314) ?_
            refine XS.goto X850.here hx rfl (pc0 := 315) (pc' := 319) rfl (hb hby at_315) (by decide) (by decide) ?_
            exact retN X850 hx (t := .boolean) Bd.returns (by simp) (hb hby at_319) hr
          · show Q_rm0 Z p1 p2 p3 p4 p5 p6 wz h0 n0 _ T850.heap _
            rw [e850]
            exact ⟨rfl, N850, trivial⟩
        · obtain ⟨cq851, kq851, q851a, q851b, q851c⟩ := isOf hZ rfl (f826)
          obtain ⟨_, _, ⟨T851, L851, k851, n851⟩, -, X851, ⟨Lc851, hQ851, l851, y851, z851⟩, st851⟩ := X823.virtualBack hx (y := (⟨"java/lang/String", "equals", "(Ljava/lang/Object;)Z"⟩ : MethodName)) (z := (⟨"java/lang/String", "equals", "(Ljava/lang/Object;)Z"⟩ : MethodName)) hown (mvT hZ (wd_58 hw)) (mvT hZ (wd_59 hw)) (notFace_of_selects (args := #[]) (mvT hZ (wd_61 hw))) (mvT hZ (wd_61 hw)) (mvT hZ (wd_60 hw)) (by decide) (backOf (W := 0) (rmeq110 l Z a0 hw [] b_706 b_790 t_706 t_790 wz kb_706 kb_790 (nar .byte (cA.toInt8.toInt32)) (nar .byte (cq.toInt8.toInt32)) T823.heap n0 Z824 f826 f840 f827 f841 f828 f842 f829 f843 f825 S_COMPACT_STRINGS hz ne_b_706_b_790 hc233_847) hZ (wd_62 hw) (wd_2 hw) (by decide) (by decide)) q851a q851c (g := (mkF m 233 #[.val (.int p1), .val (.int p2), .val (.int p3), .val (.int p4), .val (.int p5), .val (.int p6), .val (.ref b_706), .val (.ref b_711), .val (.ref b_716), .val (.ref b720), .val (.ref b730), .val (.ref b740), .val (.ref b750), .val (.ref b761), .val (.int (1 : Int32)), .val (.int cq), .val (.ref b_790), .val (.ref b811), .val (.ref b821), .unset, .unset] [(.ref b_790), (.ref b_706)])) rfl (by rw [hml]; rfl) (Steps.refl _) (argsL := [(.ref b_790)]) (rest := []) (lenOf pd__Ljava_lang_Object__Z rfl) rfl (by show 2 * 0 + _ ≤ _; exact Nat.le_of_eq rfl) (hb hby at_233) (fun _ _ => ⟨rfl, rfl, (by decide : 23 + 0 ≤ _), (by decide : 53 + 0 ≤ _)⟩)
          dsimp only [Pt.U, Pt.locs, Pt.cells, Pt.slots] at X851 l851 y851 z851 st851 hQ851
          rw [l851, y851, z851] at X851
          obtain ⟨rfl, N851q, e851⟩ := hQ851
          have N851 := Fr.app N823 N851q
          obtain ⟨cq852, kq852, q852a, q852b, q852c⟩ := isOf hZ e851 (f844)
          obtain ⟨_, _, ⟨T852, L852, k852, n852⟩, -, X852, ⟨Lc852, hQ852, l852, y852, z852⟩, st852⟩ := X851.virtualBack hx (y := (⟨"com/example/kawi/kawi/xml/Attributes", "getOrDefault", "(Ljava/lang/String;Ljava/lang/String;)Ljava/lang/String;"⟩ : MethodName)) (z := (⟨"com/example/kawi/kawi/xml/Attributes", "getOrDefault", "(Ljava/lang/String;Ljava/lang/String;)Ljava/lang/String;"⟩ : MethodName)) hown (mvT hZ (wd_66 hw)) (mvT hZ (wd_67 hw)) (notFace_of_selects (args := #[]) (mvT hZ (wd_69 hw))) (mvT hZ (wd_69 hw)) (mvT hZ (wd_68 hw)) (by decide) (backOf (W := 0) (rmg1x1 l Z a0 hw [] b821 b_790 b811 b750 b761 k750 k761 b_706 b_711 b_716 b720 b730 b740 t_706 kb_706 (nar .byte (cA.toInt8.toInt32)) (nar .byte (cq.toInt8.toInt32)) t_790 kb_790 wz T823.heap n0 Z824 g823_0 g823_1 g823_2 f838 f839 f826 f827 f828 f829 ne_b_706_b_790 f840 f841 f842 f843 f825 S_COMPACT_STRINGS hz hc233_847) hZ (wd_70 hw) (wd_47 hw) (by decide) (by decide)) q852a q852c (g := (mkF m 302 #[.val (.int p1), .val (.int p2), .val (.int p3), .val (.int p4), .val (.int p5), .val (.int p6), .val (.ref b_706), .val (.ref b_711), .val (.ref b_716), .val (.ref b720), .val (.ref b730), .val (.ref b740), .val (.ref b750), .val (.ref b761), .val (.int (1 : Int32)), .val (.int cq), .val (.ref b_790), .val (.ref b811), .val (.ref b821), .val (.ref b811), .unset] [(.ref b811), (.ref b_790), (.ref b821)])) rfl (by rw [hml]; rfl) (Steps.refl _) (argsL := [(.ref b_790), (.ref b811)]) (rest := []) (lenOf pd__Ljava_lang_String_Ljava_lang_String__Ljava_lang_String_ rfl) rfl (by show 2 * 0 + _ ≤ _; exact Nat.le_of_eq rfl) (hb hby at_302) (fun _ _ => ⟨rfl, e851, (by decide : 23 + 0 ≤ _), (by decide : 53 + 0 ≤ _)⟩)
          dsimp only [Pt.U, Pt.locs, Pt.cells, Pt.slots] at X852 l852 y852 z852 st852 hQ852
          rw [l852, y852, z852] at X852
          obtain ⟨rfl, N852q, e852⟩ := hQ852
          have N852 := Fr.app N851 N852q
          obtain ⟨fs, hr, hrun, hended, hW, hsame⟩ := X852.leave (v := some (.int (1 : Int32))) (fun h => by rw [Bd.returns] at h; cases h)
          refine ⟨_, _, pre848 _ ?_, hrun, hended, _, _, rfl, ?_, ⟨_, rfl⟩, hW, hsame.mono (by decide) (by decide)⟩
          · show Steps p.tables e below (T823.setTop (mkF m 233 #[.val (.int p1), .val (.int p2), .val (.int p3), .val (.int p4), .val (.int p5), .val (.int p6), .val (.ref b_706), .val (.ref b_711), .val (.ref b_716), .val (.ref b720), .val (.ref b730), .val (.ref b740), .val (.ref b750), .val (.ref b761), .val (.int (1 : Int32)), .val (.int cq), .val (.ref b_790), .val (.ref b811), .val (.ref b821), .unset, .unset] [(.ref b_790), (.ref b_706)])) _
            refine st851.trans ?_
            refine XS.ifYes X851.here hx rfl (pc0 := 236) (pc' := 246) rfl (hb hby at_236) rfl ((if0 _ _).trans (teq (rfl : (0 : Int32) = (0 : Int32))).1) (by decide) (by decide) ?_
            refine XS.iload X851.here hx rfl (hb hby at_246) rfl ?_
            refine XS.iconst X851.here hx rfl (hb hby at_248) ?_
            refine XS.icmpYes X851.here hx rfl (pc0 := 249) (pc' := 269) rfl (hb hby at_249) rfl (flt (by decide)).2.2.2 (by decide) (by decide) ?_
            refine XS.iload X851.here hx rfl (hb hby at_269) rfl ?_
            show Steps p.tables e below (T851.setTop (mkF m 271 #[.val (.int p1), .val (.int p2), .val (.int p3), .val (.int p4), .val (.int p5), .val (.int p6), .val (.ref b_706), .val (.ref b_711), .val (.ref b_716), .val (.ref b720), .val (.ref b730), .val (.ref b740), .val (.ref b750), .val (.ref b761), .val (.int (1 : Int32)), .val (.int cq), .val (.ref b_790), .val (.ref b811), .val (.ref b821), .unset, .unset] [(.int (1 : Int32))])) _
            refine XS.iconst X851.here hx rfl (hb hby at_271) ?_
            refine XS.icmpYes X851.here hx rfl (pc0 := 272) (pc' := 292) rfl (hb hby at_272) rfl (flt (by decide)).2.2.2 (by decide) (by decide) ?_
            refine XS.aload X851.here hx rfl (hb hby at_292) rfl rfl ?_
            refine XS.astore X851.here hx rfl (hb hby at_294) rfl rfl (l' := #[.val (.int p1), .val (.int p2), .val (.int p3), .val (.int p4), .val (.int p5), .val (.int p6), .val (.ref b_706), .val (.ref b_711), .val (.ref b_716), .val (.ref b720), .val (.ref b730), .val (.ref b740), .val (.ref b750), .val (.ref b761), .val (.int (1 : Int32)), .val (.int cq), .val (.ref b_790), .val (.ref b811), .val (.ref b821), .val (.ref b811), .unset]) rfl ?_
            refine XS.aload X851.here hx rfl (hb hby at_296) rfl rfl ?_
            refine XS.aload X851.here hx rfl (hb hby at_298) rfl rfl ?_
            refine XS.aload X851.here hx rfl (hb hby at_300) rfl rfl ?_
            refine st852.trans ?_
            refine XS.astore X852.here hx rfl (hb hby at_305) rfl rfl (l' := #[.val (.int p1), .val (.int p2), .val (.int p3), .val (.int p4), .val (.int p5), .val (.int p6), .val (.ref b_706), .val (.ref b_711), .val (.ref b_716), .val (.ref b720), .val (.ref b730), .val (.ref b740), .val (.ref b750), .val (.ref b761), .val (.int (1 : Int32)), .val (.int cq), .val (.ref b_790), .val (.ref b811), .val (.ref b821), .val (.ref b811), .val (.ref b811)]) rfl ?_
            refine XS.aload X852.here hx rfl (hb hby at_307) rfl rfl ?_
            show Steps p.tables e below (T852.setTop (mkF m 309 #[.val (.int p1), .val (.int p2), .val (.int p3), .val (.int p4), .val (.int p5), .val (.int p6), .val (.ref b_706), .val (.ref b_711), .val (.ref b_716), .val (.ref b720), .val (.ref b730), .val (.ref b740), .val (.ref b750), .val (.ref b761), .val (.int (1 : Int32)), .val (.int cq), .val (.ref b_790), .val (.ref b811), .val (.ref b821), .val (.ref b811), .val (.ref b811)] [(.ref b811)])) _
            refine XS.aload X852.here hx rfl (hb hby at_309) rfl rfl ?_
            refine Jvm.RoadKit.acmp (g := (mkF m 311 #[.val (.int p1), .val (.int p2), .val (.int p3), .val (.int p4), .val (.int p5), .val (.int p6), .val (.ref b_706), .val (.ref b_711), .val (.ref b_716), .val (.ref b720), .val (.ref b730), .val (.ref b740), .val (.ref b750), .val (.ref b761), .val (.int (1 : Int32)), .val (.int cq), .val (.ref b_790), .val (.ref b811), .val (.ref b821), .val (.ref b811), .val (.ref b811)] [(.ref b811), (.ref b811)])) X852 hx rfl rfl rfl (pc0 := 311) (pc' := 314) (same := true) rfl (hb hby at_311) rfl (decide_eq_true rfl) (by decide) (by decide) ?_
            refine XS.iconst X852.here hx rfl (hb hby at_314) ?_
            refine XS.goto X852.here hx rfl (pc0 := 315) (pc' := 319) rfl (hb hby at_315) (by decide) (by decide) ?_
            exact retN X852 hx (t := .boolean) Bd.returns (by simp) (hb hby at_319) hr
          · show Q_rm0 Z p1 p2 p3 p4 p5 p6 wz h0 n0 _ T852.heap _
            rw [e852]
            exact ⟨rfl, N852, trivial⟩
      · have pre854 : ∀ t, Steps p.tables e below (T823.setTop (mkF m 233 #[.val (.int p1), .val (.int p2), .val (.int p3), .val (.int p4), .val (.int p5), .val (.int p6), .val (.ref b_706), .val (.ref b_711), .val (.ref b_716), .val (.ref b720), .val (.ref b730), .val (.ref b740), .val (.ref b750), .val (.ref b761), .val (.int (2 : Int32)), .val (.int cq), .val (.ref b_790), .val (.ref b811), .val (.ref b821), .unset, .unset] [(.ref b_790), (.ref b_706)])) t → Steps p.tables e below (s₁.setTop (entryFrame m #[(.int p1), (.int p2), (.int p3), (.int p4), (.int p5), (.int p6)] maxLocals)) t := by
          intro t kt
          refine pre845 _ ?_
          show Steps p.tables e below (T823.setTop (mkF m 224 #[.val (.int p1), .val (.int p2), .val (.int p3), .val (.int p4), .val (.int p5), .val (.int p6), .val (.ref b_706), .val (.ref b_711), .val (.ref b_716), .val (.ref b720), .val (.ref b730), .val (.ref b740), .val (.ref b750), .val (.ref b761), .val (.int (2 : Int32)), .val (.int cq), .val (.ref b_790), .val (.ref b811), .val (.ref b821), .unset, .unset] [])) _
          refine XS.iload X823.here hx rfl (hb hby at_224) rfl ?_
          refine XS.ifNo X823.here hx rfl (hb hby at_226) rfl ((if0 _ _).trans (tlt (by decide)).2.2.2) ?_
          refine XS.aload X823.here hx rfl (hb hby at_229) rfl rfl ?_
          refine XS.aload X823.here hx rfl (hb hby at_231) rfl rfl ?_
          exact kt
        by_cases hc233_853 : (nar .byte (cA.toInt8.toInt32)) = (nar .byte (cq.toInt8.toInt32))
        · obtain ⟨cq855, kq855, q855a, q855b, q855c⟩ := isOf hZ rfl (f826)
          obtain ⟨_, _, ⟨T855, L855, k855, n855⟩, -, X855, ⟨Lc855, hQ855, l855, y855, z855⟩, st855⟩ := X823.virtualBack hx (y := (⟨"java/lang/String", "equals", "(Ljava/lang/Object;)Z"⟩ : MethodName)) (z := (⟨"java/lang/String", "equals", "(Ljava/lang/Object;)Z"⟩ : MethodName)) hown (mvT hZ (wd_58 hw)) (mvT hZ (wd_59 hw)) (notFace_of_selects (args := #[]) (mvT hZ (wd_61 hw))) (mvT hZ (wd_61 hw)) (mvT hZ (wd_60 hw)) (by decide) (backOf (W := 0) (rmeq11eq l Z a0 hw [] b_706 b_790 t_706 t_790 wz kb_706 kb_790 (nar .byte (cA.toInt8.toInt32)) (nar .byte (cq.toInt8.toInt32)) T823.heap n0 Z824 f826 f840 f827 f841 f828 f842 f829 f843 f825 S_COMPACT_STRINGS hz ne_b_706_b_790 hc233_853) hZ (wd_62 hw) (wd_2 hw) (by decide) (by decide)) q855a q855c (g := (mkF m 233 #[.val (.int p1), .val (.int p2), .val (.int p3), .val (.int p4), .val (.int p5), .val (.int p6), .val (.ref b_706), .val (.ref b_711), .val (.ref b_716), .val (.ref b720), .val (.ref b730), .val (.ref b740), .val (.ref b750), .val (.ref b761), .val (.int (2 : Int32)), .val (.int cq), .val (.ref b_790), .val (.ref b811), .val (.ref b821), .unset, .unset] [(.ref b_790), (.ref b_706)])) rfl (by rw [hml]; rfl) (Steps.refl _) (argsL := [(.ref b_790)]) (rest := []) (lenOf pd__Ljava_lang_Object__Z rfl) rfl (by show 2 * 0 + _ ≤ _; exact Nat.le_of_eq rfl) (hb hby at_233) (fun _ _ => ⟨rfl, rfl, (by decide : 23 + 0 ≤ _), (by decide : 53 + 0 ≤ _)⟩)
          dsimp only [Pt.U, Pt.locs, Pt.cells, Pt.slots] at X855 l855 y855 z855 st855 hQ855
          rw [l855, y855, z855] at X855
          obtain ⟨rfl, N855q, e855⟩ := hQ855
          have N855 := Fr.app N823 N855q
          obtain ⟨cq856, kq856, q856a, q856b, q856c⟩ := isOf hZ e855 (f844)
          obtain ⟨_, _, ⟨T856, L856, k856, n856⟩, -, X856, ⟨Lc856, hQ856, l856, y856, z856⟩, st856⟩ := X855.virtualBack hx (y := (⟨"com/example/kawi/kawi/xml/Attributes", "getOrDefault", "(Ljava/lang/String;Ljava/lang/String;)Ljava/lang/String;"⟩ : MethodName)) (z := (⟨"com/example/kawi/kawi/xml/Attributes", "getOrDefault", "(Ljava/lang/String;Ljava/lang/String;)Ljava/lang/String;"⟩ : MethodName)) hown (mvT hZ (wd_66 hw)) (mvT hZ (wd_67 hw)) (notFace_of_selects (args := #[]) (mvT hZ (wd_69 hw))) (mvT hZ (wd_69 hw)) (mvT hZ (wd_68 hw)) (by decide) (backOf (W := 0) (rmg201 l Z a0 hw [] b821 b_790 b811 b750 b761 k750 k761 b_706 b_711 b_716 b720 b730 b740 t_706 kb_706 (nar .byte (cA.toInt8.toInt32)) (nar .byte (cq.toInt8.toInt32)) t_790 kb_790 wz T823.heap n0 Z824 g823_0 g823_1 g823_2 f838 f839 f826 f827 f828 f829 ne_b_706_b_790 f840 f841 f842 f843 f825 S_COMPACT_STRINGS hz hc233_853) hZ (wd_70 hw) (wd_47 hw) (by decide) (by decide)) q856a q856c (g := (mkF m 302 #[.val (.int p1), .val (.int p2), .val (.int p3), .val (.int p4), .val (.int p5), .val (.int p6), .val (.ref b_706), .val (.ref b_711), .val (.ref b_716), .val (.ref b720), .val (.ref b730), .val (.ref b740), .val (.ref b750), .val (.ref b761), .val (.int (2 : Int32)), .val (.int cq), .val (.ref b_790), .val (.ref b811), .val (.ref b821), .val (.ref b720), .unset] [(.ref b811), (.ref b_790), (.ref b821)])) rfl (by rw [hml]; rfl) (Steps.refl _) (argsL := [(.ref b_790), (.ref b811)]) (rest := []) (lenOf pd__Ljava_lang_String_Ljava_lang_String__Ljava_lang_String_ rfl) rfl (by show 2 * 0 + _ ≤ _; exact Nat.le_of_eq rfl) (hb hby at_302) (fun _ _ => ⟨rfl, e855, (by decide : 23 + 0 ≤ _), (by decide : 53 + 0 ≤ _)⟩)
          dsimp only [Pt.U, Pt.locs, Pt.cells, Pt.slots] at X856 l856 y856 z856 st856 hQ856
          rw [l856, y856, z856] at X856
          obtain ⟨rfl, N856q, e856⟩ := hQ856
          have N856 := Fr.app N855 N856q
          obtain ⟨fs, hr, hrun, hended, hW, hsame⟩ := X856.leave (v := some (.int (1 : Int32))) (fun h => by rw [Bd.returns] at h; cases h)
          refine ⟨_, _, pre854 _ ?_, hrun, hended, _, _, rfl, ?_, ⟨_, rfl⟩, hW, hsame.mono (by decide) (by decide)⟩
          · show Steps p.tables e below (T823.setTop (mkF m 233 #[.val (.int p1), .val (.int p2), .val (.int p3), .val (.int p4), .val (.int p5), .val (.int p6), .val (.ref b_706), .val (.ref b_711), .val (.ref b_716), .val (.ref b720), .val (.ref b730), .val (.ref b740), .val (.ref b750), .val (.ref b761), .val (.int (2 : Int32)), .val (.int cq), .val (.ref b_790), .val (.ref b811), .val (.ref b821), .unset, .unset] [(.ref b_790), (.ref b_706)])) _
            refine st855.trans ?_
            refine XS.ifNo X855.here hx rfl (hb hby at_236) rfl ((if0 _ _).trans (feq (by decide)).1) ?_
            refine XS.aload X855.here hx rfl (hb hby at_239) rfl rfl ?_
            refine XS.astore X855.here hx rfl (hb hby at_241) rfl rfl (l' := #[.val (.int p1), .val (.int p2), .val (.int p3), .val (.int p4), .val (.int p5), .val (.int p6), .val (.ref b_706), .val (.ref b_711), .val (.ref b_716), .val (.ref b720), .val (.ref b730), .val (.ref b740), .val (.ref b750), .val (.ref b761), .val (.int (2 : Int32)), .val (.int cq), .val (.ref b_790), .val (.ref b811), .val (.ref b821), .val (.ref b720), .unset]) rfl ?_
            refine XS.goto X855.here hx rfl (pc0 := 243) (pc' := 296) rfl (hb hby at_243) (by decide) (by decide) ?_
            refine XS.aload X855.here hx rfl (hb hby at_296) rfl rfl ?_
            show Steps p.tables e below (T855.setTop (mkF m 298 #[.val (.int p1), .val (.int p2), .val (.int p3), .val (.int p4), .val (.int p5), .val (.int p6), .val (.ref b_706), .val (.ref b_711), .val (.ref b_716), .val (.ref b720), .val (.ref b730), .val (.ref b740), .val (.ref b750), .val (.ref b761), .val (.int (2 : Int32)), .val (.int cq), .val (.ref b_790), .val (.ref b811), .val (.ref b821), .val (.ref b720), .unset] [(.ref b821)])) _
            refine XS.aload X855.here hx rfl (hb hby at_298) rfl rfl ?_
            refine XS.aload X855.here hx rfl (hb hby at_300) rfl rfl ?_
            refine st856.trans ?_
            refine XS.astore X856.here hx rfl (hb hby at_305) rfl rfl (l' := #[.val (.int p1), .val (.int p2), .val (.int p3), .val (.int p4), .val (.int p5), .val (.int p6), .val (.ref b_706), .val (.ref b_711), .val (.ref b_716), .val (.ref b720), .val (.ref b730), .val (.ref b740), .val (.ref b750), .val (.ref b761), .val (.int (2 : Int32)), .val (.int cq), .val (.ref b_790), .val (.ref b811), .val (.ref b821), .val (.ref b720), .val (.ref b720)]) rfl ?_
            refine XS.aload X856.here hx rfl (hb hby at_307) rfl rfl ?_
            refine XS.aload X856.here hx rfl (hb hby at_309) rfl rfl ?_
            refine Jvm.RoadKit.acmp (g := (mkF m 311 #[.val (.int p1), .val (.int p2), .val (.int p3), .val (.int p4), .val (.int p5), .val (.int p6), .val (.ref b_706), .val (.ref b_711), .val (.ref b_716), .val (.ref b720), .val (.ref b730), .val (.ref b740), .val (.ref b750), .val (.ref b761), .val (.int (2 : Int32)), .val (.int cq), .val (.ref b_790), .val (.ref b811), .val (.ref b821), .val (.ref b720), .val (.ref b720)] [(.ref b720), (.ref b720)])) X856 hx rfl rfl rfl (pc0 := 311) (pc' := 314) (same := true) rfl (hb hby at_311) rfl (decide_eq_true rfl) (by decide) (by decide) ?_
            refine XS.iconst X856.here hx rfl (hb hby at_314) ?_
            refine XS.goto X856.here hx rfl (pc0 := 315) (pc' := 319) rfl (hb hby at_315) (by decide) (by decide) ?_
            exact retN X856 hx (t := .boolean) Bd.returns (by simp) (hb hby at_319) hr
          · show Q_rm0 Z p1 p2 p3 p4 p5 p6 wz h0 n0 _ T856.heap _
            rw [e856]
            exact ⟨rfl, N856, trivial⟩
        · obtain ⟨cq857, kq857, q857a, q857b, q857c⟩ := isOf hZ rfl (f826)
          obtain ⟨_, _, ⟨T857, L857, k857, n857⟩, -, X857, ⟨Lc857, hQ857, l857, y857, z857⟩, st857⟩ := X823.virtualBack hx (y := (⟨"java/lang/String", "equals", "(Ljava/lang/Object;)Z"⟩ : MethodName)) (z := (⟨"java/lang/String", "equals", "(Ljava/lang/Object;)Z"⟩ : MethodName)) hown (mvT hZ (wd_58 hw)) (mvT hZ (wd_59 hw)) (notFace_of_selects (args := #[]) (mvT hZ (wd_61 hw))) (mvT hZ (wd_61 hw)) (mvT hZ (wd_60 hw)) (by decide) (backOf (W := 0) (rmeq110 l Z a0 hw [] b_706 b_790 t_706 t_790 wz kb_706 kb_790 (nar .byte (cA.toInt8.toInt32)) (nar .byte (cq.toInt8.toInt32)) T823.heap n0 Z824 f826 f840 f827 f841 f828 f842 f829 f843 f825 S_COMPACT_STRINGS hz ne_b_706_b_790 hc233_853) hZ (wd_62 hw) (wd_2 hw) (by decide) (by decide)) q857a q857c (g := (mkF m 233 #[.val (.int p1), .val (.int p2), .val (.int p3), .val (.int p4), .val (.int p5), .val (.int p6), .val (.ref b_706), .val (.ref b_711), .val (.ref b_716), .val (.ref b720), .val (.ref b730), .val (.ref b740), .val (.ref b750), .val (.ref b761), .val (.int (2 : Int32)), .val (.int cq), .val (.ref b_790), .val (.ref b811), .val (.ref b821), .unset, .unset] [(.ref b_790), (.ref b_706)])) rfl (by rw [hml]; rfl) (Steps.refl _) (argsL := [(.ref b_790)]) (rest := []) (lenOf pd__Ljava_lang_Object__Z rfl) rfl (by show 2 * 0 + _ ≤ _; exact Nat.le_of_eq rfl) (hb hby at_233) (fun _ _ => ⟨rfl, rfl, (by decide : 23 + 0 ≤ _), (by decide : 53 + 0 ≤ _)⟩)
          dsimp only [Pt.U, Pt.locs, Pt.cells, Pt.slots] at X857 l857 y857 z857 st857 hQ857
          rw [l857, y857, z857] at X857
          obtain ⟨rfl, N857q, e857⟩ := hQ857
          have N857 := Fr.app N823 N857q
          have pre859 : ∀ t, Steps p.tables e below (T857.setTop (mkF m 256 #[.val (.int p1), .val (.int p2), .val (.int p3), .val (.int p4), .val (.int p5), .val (.int p6), .val (.ref b_706), .val (.ref b_711), .val (.ref b_716), .val (.ref b720), .val (.ref b730), .val (.ref b740), .val (.ref b750), .val (.ref b761), .val (.int (2 : Int32)), .val (.int cq), .val (.ref b_790), .val (.ref b811), .val (.ref b821), .unset, .unset] [(.ref b_790), (.ref b_711)])) t → Steps p.tables e below (s₁.setTop (entryFrame m #[(.int p1), (.int p2), (.int p3), (.int p4), (.int p5), (.int p6)] maxLocals)) t := by
            intro t kt
            refine pre854 _ ?_
            show Steps p.tables e below (T823.setTop (mkF m 233 #[.val (.int p1), .val (.int p2), .val (.int p3), .val (.int p4), .val (.int p5), .val (.int p6), .val (.ref b_706), .val (.ref b_711), .val (.ref b_716), .val (.ref b720), .val (.ref b730), .val (.ref b740), .val (.ref b750), .val (.ref b761), .val (.int (2 : Int32)), .val (.int cq), .val (.ref b_790), .val (.ref b811), .val (.ref b821), .unset, .unset] [(.ref b_790), (.ref b_706)])) _
            refine st857.trans ?_
            refine XS.ifYes X857.here hx rfl (pc0 := 236) (pc' := 246) rfl (hb hby at_236) rfl ((if0 _ _).trans (teq (rfl : (0 : Int32) = (0 : Int32))).1) (by decide) (by decide) ?_
            refine XS.iload X857.here hx rfl (hb hby at_246) rfl ?_
            refine XS.iconst X857.here hx rfl (hb hby at_248) ?_
            refine XS.icmpNo X857.here hx rfl (hb hby at_249) rfl (tlt (by decide)).2.2.2 ?_
            refine XS.aload X857.here hx rfl (hb hby at_252) rfl rfl ?_
            show Steps p.tables e below (T857.setTop (mkF m 254 #[.val (.int p1), .val (.int p2), .val (.int p3), .val (.int p4), .val (.int p5), .val (.int p6), .val (.ref b_706), .val (.ref b_711), .val (.ref b_716), .val (.ref b720), .val (.ref b730), .val (.ref b740), .val (.ref b750), .val (.ref b761), .val (.int (2 : Int32)), .val (.int cq), .val (.ref b_790), .val (.ref b811), .val (.ref b821), .unset, .unset] [(.ref b_711)])) _
            refine XS.aload X857.here hx rfl (hb hby at_254) rfl rfl ?_
            exact kt
          by_cases hc256_858 : (nar .byte (cB.toInt8.toInt32)) = (nar .byte (cq.toInt8.toInt32))
          · obtain ⟨cq860, kq860, q860a, q860b, q860c⟩ := isOf hZ e857 (f830)
            obtain ⟨_, _, ⟨T860, L860, k860, n860⟩, -, X860, ⟨Lc860, hQ860, l860, y860, z860⟩, st860⟩ := X857.virtualBack hx (y := (⟨"java/lang/String", "equals", "(Ljava/lang/Object;)Z"⟩ : MethodName)) (z := (⟨"java/lang/String", "equals", "(Ljava/lang/Object;)Z"⟩ : MethodName)) hown (mvT hZ (wd_58 hw)) (mvT hZ (wd_59 hw)) (notFace_of_selects (args := #[]) (mvT hZ (wd_61 hw))) (mvT hZ (wd_61 hw)) (mvT hZ (wd_60 hw)) (by decide) (backOf (W := 0) (rmeq11eq l Z a0 hw [] b_711 b_790 t_711 t_790 wz kb_711 kb_790 (nar .byte (cB.toInt8.toInt32)) (nar .byte (cq.toInt8.toInt32)) T823.heap n0 Z824 f830 f840 f831 f841 f832 f842 f833 f843 f825 S_COMPACT_STRINGS hz ne_b_711_b_790 hc256_858) hZ (wd_62 hw) (wd_2 hw) (by decide) (by decide)) q860a q860c (g := (mkF m 256 #[.val (.int p1), .val (.int p2), .val (.int p3), .val (.int p4), .val (.int p5), .val (.int p6), .val (.ref b_706), .val (.ref b_711), .val (.ref b_716), .val (.ref b720), .val (.ref b730), .val (.ref b740), .val (.ref b750), .val (.ref b761), .val (.int (2 : Int32)), .val (.int cq), .val (.ref b_790), .val (.ref b811), .val (.ref b821), .unset, .unset] [(.ref b_790), (.ref b_711)])) rfl (by rw [hml]; rfl) (Steps.refl _) (argsL := [(.ref b_790)]) (rest := []) (lenOf pd__Ljava_lang_Object__Z rfl) rfl (by show 2 * 0 + _ ≤ _; exact Nat.le_of_eq rfl) (hb hby at_256) (fun _ _ => ⟨rfl, e857, (by decide : 23 + 0 ≤ _), (by decide : 53 + 0 ≤ _)⟩)
            dsimp only [Pt.U, Pt.locs, Pt.cells, Pt.slots] at X860 l860 y860 z860 st860 hQ860
            rw [l860, y860, z860] at X860
            obtain ⟨rfl, N860q, e860⟩ := hQ860
            have N860 := Fr.app N857 N860q
            obtain ⟨cq861, kq861, q861a, q861b, q861c⟩ := isOf hZ e860 (f844)
            obtain ⟨_, _, ⟨T861, L861, k861, n861⟩, -, X861, ⟨Lc861, hQ861, l861, y861, z861⟩, st861⟩ := X860.virtualBack hx (y := (⟨"com/example/kawi/kawi/xml/Attributes", "getOrDefault", "(Ljava/lang/String;Ljava/lang/String;)Ljava/lang/String;"⟩ : MethodName)) (z := (⟨"com/example/kawi/kawi/xml/Attributes", "getOrDefault", "(Ljava/lang/String;Ljava/lang/String;)Ljava/lang/String;"⟩ : MethodName)) hown (mvT hZ (wd_66 hw)) (mvT hZ (wd_67 hw)) (notFace_of_selects (args := #[]) (mvT hZ (wd_69 hw))) (mvT hZ (wd_69 hw)) (mvT hZ (wd_68 hw)) (by decide) (backOf (W := 0) (rmg211 l Z a0 hw [] b821 b_790 b811 b750 b761 k750 k761 b_706 b_711 b_716 b720 b730 b740 t_706 t_711 kb_706 kb_711 (nar .byte (cA.toInt8.toInt32)) (nar .byte (cB.toInt8.toInt32)) (nar .byte (cq.toInt8.toInt32)) t_790 kb_790 wz T823.heap n0 Z824 g823_0 g823_1 g823_2 f838 f839 f826 f827 f828 f829 ne_b_706_b_790 f830 f831 f832 f833 ne_b_711_b_790 f840 f841 f842 f843 f825 S_COMPACT_STRINGS hz hc233_853 hc256_858) hZ (wd_70 hw) (wd_47 hw) (by decide) (by decide)) q861a q861c (g := (mkF m 302 #[.val (.int p1), .val (.int p2), .val (.int p3), .val (.int p4), .val (.int p5), .val (.int p6), .val (.ref b_706), .val (.ref b_711), .val (.ref b_716), .val (.ref b720), .val (.ref b730), .val (.ref b740), .val (.ref b750), .val (.ref b761), .val (.int (2 : Int32)), .val (.int cq), .val (.ref b_790), .val (.ref b811), .val (.ref b821), .val (.ref b730), .unset] [(.ref b811), (.ref b_790), (.ref b821)])) rfl (by rw [hml]; rfl) (Steps.refl _) (argsL := [(.ref b_790), (.ref b811)]) (rest := []) (lenOf pd__Ljava_lang_String_Ljava_lang_String__Ljava_lang_String_ rfl) rfl (by show 2 * 0 + _ ≤ _; exact Nat.le_of_eq rfl) (hb hby at_302) (fun _ _ => ⟨rfl, e860, (by decide : 23 + 0 ≤ _), (by decide : 53 + 0 ≤ _)⟩)
            dsimp only [Pt.U, Pt.locs, Pt.cells, Pt.slots] at X861 l861 y861 z861 st861 hQ861
            rw [l861, y861, z861] at X861
            obtain ⟨rfl, N861q, e861⟩ := hQ861
            have N861 := Fr.app N860 N861q
            obtain ⟨fs, hr, hrun, hended, hW, hsame⟩ := X861.leave (v := some (.int (1 : Int32))) (fun h => by rw [Bd.returns] at h; cases h)
            refine ⟨_, _, pre859 _ ?_, hrun, hended, _, _, rfl, ?_, ⟨_, rfl⟩, hW, hsame.mono (by decide) (by decide)⟩
            · show Steps p.tables e below (T857.setTop (mkF m 256 #[.val (.int p1), .val (.int p2), .val (.int p3), .val (.int p4), .val (.int p5), .val (.int p6), .val (.ref b_706), .val (.ref b_711), .val (.ref b_716), .val (.ref b720), .val (.ref b730), .val (.ref b740), .val (.ref b750), .val (.ref b761), .val (.int (2 : Int32)), .val (.int cq), .val (.ref b_790), .val (.ref b811), .val (.ref b821), .unset, .unset] [(.ref b_790), (.ref b_711)])) _
              refine st860.trans ?_
              refine XS.ifNo X860.here hx rfl (hb hby at_259) rfl ((if0 _ _).trans (feq (by decide)).1) ?_
              refine XS.aload X860.here hx rfl (hb hby at_262) rfl rfl ?_
              refine XS.astore X860.here hx rfl (hb hby at_264) rfl rfl (l' := #[.val (.int p1), .val (.int p2), .val (.int p3), .val (.int p4), .val (.int p5), .val (.int p6), .val (.ref b_706), .val (.ref b_711), .val (.ref b_716), .val (.ref b720), .val (.ref b730), .val (.ref b740), .val (.ref b750), .val (.ref b761), .val (.int (2 : Int32)), .val (.int cq), .val (.ref b_790), .val (.ref b811), .val (.ref b821), .val (.ref b730), .unset]) rfl ?_
              refine XS.goto X860.here hx rfl (pc0 := 266) (pc' := 296) rfl (hb hby at_266) (by decide) (by decide) ?_
              refine XS.aload X860.here hx rfl (hb hby at_296) rfl rfl ?_
              refine XS.aload X860.here hx rfl (hb hby at_298) rfl rfl ?_
              refine XS.aload X860.here hx rfl (hb hby at_300) rfl rfl ?_
              refine st861.trans ?_
              show Steps p.tables e below (T861.setTop (mkF m 305 #[.val (.int p1), .val (.int p2), .val (.int p3), .val (.int p4), .val (.int p5), .val (.int p6), .val (.ref b_706), .val (.ref b_711), .val (.ref b_716), .val (.ref b720), .val (.ref b730), .val (.ref b740), .val (.ref b750), .val (.ref b761), .val (.int (2 : Int32)), .val (.int cq), .val (.ref b_790), .val (.ref b811), .val (.ref b821), .val (.ref b730), .unset] [(.ref b730)])) _
              refine XS.astore X861.here hx rfl (hb hby at_305) rfl rfl (l' := #[.val (.int p1), .val (.int p2), .val (.int p3), .val (.int p4), .val (.int p5), .val (.int p6), .val (.ref b_706), .val (.ref b_711), .val (.ref b_716), .val (.ref b720), .val (.ref b730), .val (.ref b740), .val (.ref b750), .val (.ref b761), .val (.int (2 : Int32)), .val (.int cq), .val (.ref b_790), .val (.ref b811), .val (.ref b821), .val (.ref b730), .val (.ref b730)]) rfl ?_
              refine XS.aload X861.here hx rfl (hb hby at_307) rfl rfl ?_
              refine XS.aload X861.here hx rfl (hb hby at_309) rfl rfl ?_
              refine Jvm.RoadKit.acmp (g := (mkF m 311 #[.val (.int p1), .val (.int p2), .val (.int p3), .val (.int p4), .val (.int p5), .val (.int p6), .val (.ref b_706), .val (.ref b_711), .val (.ref b_716), .val (.ref b720), .val (.ref b730), .val (.ref b740), .val (.ref b750), .val (.ref b761), .val (.int (2 : Int32)), .val (.int cq), .val (.ref b_790), .val (.ref b811), .val (.ref b821), .val (.ref b730), .val (.ref b730)] [(.ref b730), (.ref b730)])) X861 hx rfl rfl rfl (pc0 := 311) (pc' := 314) (same := true) rfl (hb hby at_311) rfl (decide_eq_true rfl) (by decide) (by decide) ?_
              refine XS.iconst X861.here hx rfl (hb hby at_314) ?_
              refine XS.goto X861.here hx rfl (pc0 := 315) (pc' := 319) rfl (hb hby at_315) (by decide) (by decide) ?_
              exact retN X861 hx (t := .boolean) Bd.returns (by simp) (hb hby at_319) hr
            · show Q_rm0 Z p1 p2 p3 p4 p5 p6 wz h0 n0 _ T861.heap _
              rw [e861]
              exact ⟨rfl, N861, trivial⟩
          · obtain ⟨cq862, kq862, q862a, q862b, q862c⟩ := isOf hZ e857 (f830)
            obtain ⟨_, _, ⟨T862, L862, k862, n862⟩, -, X862, ⟨Lc862, hQ862, l862, y862, z862⟩, st862⟩ := X857.virtualBack hx (y := (⟨"java/lang/String", "equals", "(Ljava/lang/Object;)Z"⟩ : MethodName)) (z := (⟨"java/lang/String", "equals", "(Ljava/lang/Object;)Z"⟩ : MethodName)) hown (mvT hZ (wd_58 hw)) (mvT hZ (wd_59 hw)) (notFace_of_selects (args := #[]) (mvT hZ (wd_61 hw))) (mvT hZ (wd_61 hw)) (mvT hZ (wd_60 hw)) (by decide) (backOf (W := 0) (rmeq110 l Z a0 hw [] b_711 b_790 t_711 t_790 wz kb_711 kb_790 (nar .byte (cB.toInt8.toInt32)) (nar .byte (cq.toInt8.toInt32)) T823.heap n0 Z824 f830 f840 f831 f841 f832 f842 f833 f843 f825 S_COMPACT_STRINGS hz ne_b_711_b_790 hc256_858) hZ (wd_62 hw) (wd_2 hw) (by decide) (by decide)) q862a q862c (g := (mkF m 256 #[.val (.int p1), .val (.int p2), .val (.int p3), .val (.int p4), .val (.int p5), .val (.int p6), .val (.ref b_706), .val (.ref b_711), .val (.ref b_716), .val (.ref b720), .val (.ref b730), .val (.ref b740), .val (.ref b750), .val (.ref b761), .val (.int (2 : Int32)), .val (.int cq), .val (.ref b_790), .val (.ref b811), .val (.ref b821), .unset, .unset] [(.ref b_790), (.ref b_711)])) rfl (by rw [hml]; rfl) (Steps.refl _) (argsL := [(.ref b_790)]) (rest := []) (lenOf pd__Ljava_lang_Object__Z rfl) rfl (by show 2 * 0 + _ ≤ _; exact Nat.le_of_eq rfl) (hb hby at_256) (fun _ _ => ⟨rfl, e857, (by decide : 23 + 0 ≤ _), (by decide : 53 + 0 ≤ _)⟩)
            dsimp only [Pt.U, Pt.locs, Pt.cells, Pt.slots] at X862 l862 y862 z862 st862 hQ862
            rw [l862, y862, z862] at X862
            obtain ⟨rfl, N862q, e862⟩ := hQ862
            have N862 := Fr.app N857 N862q
            obtain ⟨cq863, kq863, q863a, q863b, q863c⟩ := isOf hZ e862 (f844)
            obtain ⟨_, _, ⟨T863, L863, k863, n863⟩, -, X863, ⟨Lc863, hQ863, l863, y863, z863⟩, st863⟩ := X862.virtualBack hx (y := (⟨"com/example/kawi/kawi/xml/Attributes", "getOrDefault", "(Ljava/lang/String;Ljava/lang/String;)Ljava/lang/String;"⟩ : MethodName)) (z := (⟨"com/example/kawi/kawi/xml/Attributes", "getOrDefault", "(Ljava/lang/String;Ljava/lang/String;)Ljava/lang/String;"⟩ : MethodName)) hown (mvT hZ (wd_66 hw)) (mvT hZ (wd_67 hw)) (notFace_of_selects (args := #[]) (mvT hZ (wd_69 hw))) (mvT hZ (wd_69 hw)) (mvT hZ (wd_68 hw)) (by decide) (backOf (W := 0) (rmg2x1 l Z a0 hw [] b821 b_790 b811 b750 b761 k750 k761 b_706 b_711 b_716 b720 b730 b740 t_706 t_711 kb_706 kb_711 (nar .byte (cA.toInt8.toInt32)) (nar .byte (cB.toInt8.toInt32)) (nar .byte (cq.toInt8.toInt32)) t_790 kb_790 wz T823.heap n0 Z824 g823_0 g823_1 g823_2 f838 f839 f826 f827 f828 f829 ne_b_706_b_790 f830 f831 f832 f833 ne_b_711_b_790 f840 f841 f842 f843 f825 S_COMPACT_STRINGS hz hc233_853 hc256_858) hZ (wd_70 hw) (wd_47 hw) (by decide) (by decide)) q863a q863c (g := (mkF m 302 #[.val (.int p1), .val (.int p2), .val (.int p3), .val (.int p4), .val (.int p5), .val (.int p6), .val (.ref b_706), .val (.ref b_711), .val (.ref b_716), .val (.ref b720), .val (.ref b730), .val (.ref b740), .val (.ref b750), .val (.ref b761), .val (.int (2 : Int32)), .val (.int cq), .val (.ref b_790), .val (.ref b811), .val (.ref b821), .val (.ref b811), .unset] [(.ref b811), (.ref b_790), (.ref b821)])) rfl (by rw [hml]; rfl) (Steps.refl _) (argsL := [(.ref b_790), (.ref b811)]) (rest := []) (lenOf pd__Ljava_lang_String_Ljava_lang_String__Ljava_lang_String_ rfl) rfl (by show 2 * 0 + _ ≤ _; exact Nat.le_of_eq rfl) (hb hby at_302) (fun _ _ => ⟨rfl, e862, (by decide : 23 + 0 ≤ _), (by decide : 53 + 0 ≤ _)⟩)
            dsimp only [Pt.U, Pt.locs, Pt.cells, Pt.slots] at X863 l863 y863 z863 st863 hQ863
            rw [l863, y863, z863] at X863
            obtain ⟨rfl, N863q, e863⟩ := hQ863
            have N863 := Fr.app N862 N863q
            obtain ⟨fs, hr, hrun, hended, hW, hsame⟩ := X863.leave (v := some (.int (1 : Int32))) (fun h => by rw [Bd.returns] at h; cases h)
            refine ⟨_, _, pre859 _ ?_, hrun, hended, _, _, rfl, ?_, ⟨_, rfl⟩, hW, hsame.mono (by decide) (by decide)⟩
            · show Steps p.tables e below (T857.setTop (mkF m 256 #[.val (.int p1), .val (.int p2), .val (.int p3), .val (.int p4), .val (.int p5), .val (.int p6), .val (.ref b_706), .val (.ref b_711), .val (.ref b_716), .val (.ref b720), .val (.ref b730), .val (.ref b740), .val (.ref b750), .val (.ref b761), .val (.int (2 : Int32)), .val (.int cq), .val (.ref b_790), .val (.ref b811), .val (.ref b821), .unset, .unset] [(.ref b_790), (.ref b_711)])) _
              refine st862.trans ?_
              refine XS.ifYes X862.here hx rfl (pc0 := 259) (pc' := 269) rfl (hb hby at_259) rfl ((if0 _ _).trans (teq (rfl : (0 : Int32) = (0 : Int32))).1) (by decide) (by decide) ?_
              refine XS.iload X862.here hx rfl (hb hby at_269) rfl ?_
              refine XS.iconst X862.here hx rfl (hb hby at_271) ?_
              refine XS.icmpYes X862.here hx rfl (pc0 := 272) (pc' := 292) rfl (hb hby at_272) rfl (flt (by decide)).2.2.2 (by decide) (by decide) ?_
              refine XS.aload X862.here hx rfl (hb hby at_292) rfl rfl ?_
              refine XS.astore X862.here hx rfl (hb hby at_294) rfl rfl (l' := #[.val (.int p1), .val (.int p2), .val (.int p3), .val (.int p4), .val (.int p5), .val (.int p6), .val (.ref b_706), .val (.ref b_711), .val (.ref b_716), .val (.ref b720), .val (.ref b730), .val (.ref b740), .val (.ref b750), .val (.ref b761), .val (.int (2 : Int32)), .val (.int cq), .val (.ref b_790), .val (.ref b811), .val (.ref b821), .val (.ref b811), .unset]) rfl ?_
              refine XS.aload X862.here hx rfl (hb hby at_296) rfl rfl ?_
              refine XS.aload X862.here hx rfl (hb hby at_298) rfl rfl ?_
              show Steps p.tables e below (T862.setTop (mkF m 300 #[.val (.int p1), .val (.int p2), .val (.int p3), .val (.int p4), .val (.int p5), .val (.int p6), .val (.ref b_706), .val (.ref b_711), .val (.ref b_716), .val (.ref b720), .val (.ref b730), .val (.ref b740), .val (.ref b750), .val (.ref b761), .val (.int (2 : Int32)), .val (.int cq), .val (.ref b_790), .val (.ref b811), .val (.ref b821), .val (.ref b811), .unset] [(.ref b_790), (.ref b821)])) _
              refine XS.aload X862.here hx rfl (hb hby at_300) rfl rfl ?_
              refine st863.trans ?_
              refine XS.astore X863.here hx rfl (hb hby at_305) rfl rfl (l' := #[.val (.int p1), .val (.int p2), .val (.int p3), .val (.int p4), .val (.int p5), .val (.int p6), .val (.ref b_706), .val (.ref b_711), .val (.ref b_716), .val (.ref b720), .val (.ref b730), .val (.ref b740), .val (.ref b750), .val (.ref b761), .val (.int (2 : Int32)), .val (.int cq), .val (.ref b_790), .val (.ref b811), .val (.ref b821), .val (.ref b811), .val (.ref b811)]) rfl ?_
              refine XS.aload X863.here hx rfl (hb hby at_307) rfl rfl ?_
              refine XS.aload X863.here hx rfl (hb hby at_309) rfl rfl ?_
              refine Jvm.RoadKit.acmp (g := (mkF m 311 #[.val (.int p1), .val (.int p2), .val (.int p3), .val (.int p4), .val (.int p5), .val (.int p6), .val (.ref b_706), .val (.ref b_711), .val (.ref b_716), .val (.ref b720), .val (.ref b730), .val (.ref b740), .val (.ref b750), .val (.ref b761), .val (.int (2 : Int32)), .val (.int cq), .val (.ref b_790), .val (.ref b811), .val (.ref b821), .val (.ref b811), .val (.ref b811)] [(.ref b811), (.ref b811)])) X863 hx rfl rfl rfl (pc0 := 311) (pc' := 314) (same := true) rfl (hb hby at_311) rfl (decide_eq_true rfl) (by decide) (by decide) ?_
              refine XS.iconst X863.here hx rfl (hb hby at_314) ?_
              refine XS.goto X863.here hx rfl (pc0 := 315) (pc' := 319) rfl (hb hby at_315) (by decide) (by decide) ?_
              exact retN X863 hx (t := .boolean) Bd.returns (by simp) (hb hby at_319) hr
            · show Q_rm0 Z p1 p2 p3 p4 p5 p6 wz h0 n0 _ T863.heap _
              rw [e863]
              exact ⟨rfl, N863, trivial⟩
      · have pre865 : ∀ t, Steps p.tables e below (T823.setTop (mkF m 233 #[.val (.int p1), .val (.int p2), .val (.int p3), .val (.int p4), .val (.int p5), .val (.int p6), .val (.ref b_706), .val (.ref b_711), .val (.ref b_716), .val (.ref b720), .val (.ref b730), .val (.ref b740), .val (.ref b750), .val (.ref b761), .val (.int (3 : Int32)), .val (.int cq), .val (.ref b_790), .val (.ref b811), .val (.ref b821), .unset, .unset] [(.ref b_790), (.ref b_706)])) t → Steps p.tables e below (s₁.setTop (entryFrame m #[(.int p1), (.int p2), (.int p3), (.int p4), (.int p5), (.int p6)] maxLocals)) t := by
          intro t kt
          refine pre845 _ ?_
          show Steps p.tables e below (T823.setTop (mkF m 224 #[.val (.int p1), .val (.int p2), .val (.int p3), .val (.int p4), .val (.int p5), .val (.int p6), .val (.ref b_706), .val (.ref b_711), .val (.ref b_716), .val (.ref b720), .val (.ref b730), .val (.ref b740), .val (.ref b750), .val (.ref b761), .val (.int (3 : Int32)), .val (.int cq), .val (.ref b_790), .val (.ref b811), .val (.ref b821), .unset, .unset] [])) _
          refine XS.iload X823.here hx rfl (hb hby at_224) rfl ?_
          refine XS.ifNo X823.here hx rfl (hb hby at_226) rfl ((if0 _ _).trans (tlt (by decide)).2.2.2) ?_
          refine XS.aload X823.here hx rfl (hb hby at_229) rfl rfl ?_
          refine XS.aload X823.here hx rfl (hb hby at_231) rfl rfl ?_
          exact kt
        by_cases hc233_864 : (nar .byte (cA.toInt8.toInt32)) = (nar .byte (cq.toInt8.toInt32))
        · obtain ⟨cq866, kq866, q866a, q866b, q866c⟩ := isOf hZ rfl (f826)
          obtain ⟨_, _, ⟨T866, L866, k866, n866⟩, -, X866, ⟨Lc866, hQ866, l866, y866, z866⟩, st866⟩ := X823.virtualBack hx (y := (⟨"java/lang/String", "equals", "(Ljava/lang/Object;)Z"⟩ : MethodName)) (z := (⟨"java/lang/String", "equals", "(Ljava/lang/Object;)Z"⟩ : MethodName)) hown (mvT hZ (wd_58 hw)) (mvT hZ (wd_59 hw)) (notFace_of_selects (args := #[]) (mvT hZ (wd_61 hw))) (mvT hZ (wd_61 hw)) (mvT hZ (wd_60 hw)) (by decide) (backOf (W := 0) (rmeq11eq l Z a0 hw [] b_706 b_790 t_706 t_790 wz kb_706 kb_790 (nar .byte (cA.toInt8.toInt32)) (nar .byte (cq.toInt8.toInt32)) T823.heap n0 Z824 f826 f840 f827 f841 f828 f842 f829 f843 f825 S_COMPACT_STRINGS hz ne_b_706_b_790 hc233_864) hZ (wd_62 hw) (wd_2 hw) (by decide) (by decide)) q866a q866c (g := (mkF m 233 #[.val (.int p1), .val (.int p2), .val (.int p3), .val (.int p4), .val (.int p5), .val (.int p6), .val (.ref b_706), .val (.ref b_711), .val (.ref b_716), .val (.ref b720), .val (.ref b730), .val (.ref b740), .val (.ref b750), .val (.ref b761), .val (.int (3 : Int32)), .val (.int cq), .val (.ref b_790), .val (.ref b811), .val (.ref b821), .unset, .unset] [(.ref b_790), (.ref b_706)])) rfl (by rw [hml]; rfl) (Steps.refl _) (argsL := [(.ref b_790)]) (rest := []) (lenOf pd__Ljava_lang_Object__Z rfl) rfl (by show 2 * 0 + _ ≤ _; exact Nat.le_of_eq rfl) (hb hby at_233) (fun _ _ => ⟨rfl, rfl, (by decide : 23 + 0 ≤ _), (by decide : 53 + 0 ≤ _)⟩)
          dsimp only [Pt.U, Pt.locs, Pt.cells, Pt.slots] at X866 l866 y866 z866 st866 hQ866
          rw [l866, y866, z866] at X866
          obtain ⟨rfl, N866q, e866⟩ := hQ866
          have N866 := Fr.app N823 N866q
          obtain ⟨cq867, kq867, q867a, q867b, q867c⟩ := isOf hZ e866 (f844)
          obtain ⟨_, _, ⟨T867, L867, k867, n867⟩, -, X867, ⟨Lc867, hQ867, l867, y867, z867⟩, st867⟩ := X866.virtualBack hx (y := (⟨"com/example/kawi/kawi/xml/Attributes", "getOrDefault", "(Ljava/lang/String;Ljava/lang/String;)Ljava/lang/String;"⟩ : MethodName)) (z := (⟨"com/example/kawi/kawi/xml/Attributes", "getOrDefault", "(Ljava/lang/String;Ljava/lang/String;)Ljava/lang/String;"⟩ : MethodName)) hown (mvT hZ (wd_66 hw)) (mvT hZ (wd_67 hw)) (notFace_of_selects (args := #[]) (mvT hZ (wd_69 hw))) (mvT hZ (wd_69 hw)) (mvT hZ (wd_68 hw)) (by decide) (backOf (W := 0) (rmg301 l Z a0 hw [] b821 b_790 b811 b750 b761 k750 k761 b_706 b_711 b_716 b720 b730 b740 t_706 kb_706 (nar .byte (cA.toInt8.toInt32)) (nar .byte (cq.toInt8.toInt32)) t_790 kb_790 wz T823.heap n0 Z824 g823_0 g823_1 g823_2 f838 f839 f826 f827 f828 f829 ne_b_706_b_790 f840 f841 f842 f843 f825 S_COMPACT_STRINGS hz hc233_864) hZ (wd_70 hw) (wd_47 hw) (by decide) (by decide)) q867a q867c (g := (mkF m 302 #[.val (.int p1), .val (.int p2), .val (.int p3), .val (.int p4), .val (.int p5), .val (.int p6), .val (.ref b_706), .val (.ref b_711), .val (.ref b_716), .val (.ref b720), .val (.ref b730), .val (.ref b740), .val (.ref b750), .val (.ref b761), .val (.int (3 : Int32)), .val (.int cq), .val (.ref b_790), .val (.ref b811), .val (.ref b821), .val (.ref b720), .unset] [(.ref b811), (.ref b_790), (.ref b821)])) rfl (by rw [hml]; rfl) (Steps.refl _) (argsL := [(.ref b_790), (.ref b811)]) (rest := []) (lenOf pd__Ljava_lang_String_Ljava_lang_String__Ljava_lang_String_ rfl) rfl (by show 2 * 0 + _ ≤ _; exact Nat.le_of_eq rfl) (hb hby at_302) (fun _ _ => ⟨rfl, e866, (by decide : 23 + 0 ≤ _), (by decide : 53 + 0 ≤ _)⟩)
          dsimp only [Pt.U, Pt.locs, Pt.cells, Pt.slots] at X867 l867 y867 z867 st867 hQ867
          rw [l867, y867, z867] at X867
          obtain ⟨rfl, N867q, e867⟩ := hQ867
          have N867 := Fr.app N866 N867q
          obtain ⟨fs, hr, hrun, hended, hW, hsame⟩ := X867.leave (v := some (.int (1 : Int32))) (fun h => by rw [Bd.returns] at h; cases h)
          refine ⟨_, _, pre865 _ ?_, hrun, hended, _, _, rfl, ?_, ⟨_, rfl⟩, hW, hsame.mono (by decide) (by decide)⟩
          · show Steps p.tables e below (T823.setTop (mkF m 233 #[.val (.int p1), .val (.int p2), .val (.int p3), .val (.int p4), .val (.int p5), .val (.int p6), .val (.ref b_706), .val (.ref b_711), .val (.ref b_716), .val (.ref b720), .val (.ref b730), .val (.ref b740), .val (.ref b750), .val (.ref b761), .val (.int (3 : Int32)), .val (.int cq), .val (.ref b_790), .val (.ref b811), .val (.ref b821), .unset, .unset] [(.ref b_790), (.ref b_706)])) _
            refine st866.trans ?_
            refine XS.ifNo X866.here hx rfl (hb hby at_236) rfl ((if0 _ _).trans (feq (by decide)).1) ?_
            refine XS.aload X866.here hx rfl (hb hby at_239) rfl rfl ?_
            refine XS.astore X866.here hx rfl (hb hby at_241) rfl rfl (l' := #[.val (.int p1), .val (.int p2), .val (.int p3), .val (.int p4), .val (.int p5), .val (.int p6), .val (.ref b_706), .val (.ref b_711), .val (.ref b_716), .val (.ref b720), .val (.ref b730), .val (.ref b740), .val (.ref b750), .val (.ref b761), .val (.int (3 : Int32)), .val (.int cq), .val (.ref b_790), .val (.ref b811), .val (.ref b821), .val (.ref b720), .unset]) rfl ?_
            refine XS.goto X866.here hx rfl (pc0 := 243) (pc' := 296) rfl (hb hby at_243) (by decide) (by decide) ?_
            refine XS.aload X866.here hx rfl (hb hby at_296) rfl rfl ?_
            show Steps p.tables e below (T866.setTop (mkF m 298 #[.val (.int p1), .val (.int p2), .val (.int p3), .val (.int p4), .val (.int p5), .val (.int p6), .val (.ref b_706), .val (.ref b_711), .val (.ref b_716), .val (.ref b720), .val (.ref b730), .val (.ref b740), .val (.ref b750), .val (.ref b761), .val (.int (3 : Int32)), .val (.int cq), .val (.ref b_790), .val (.ref b811), .val (.ref b821), .val (.ref b720), .unset] [(.ref b821)])) _
            refine XS.aload X866.here hx rfl (hb hby at_298) rfl rfl ?_
            refine XS.aload X866.here hx rfl (hb hby at_300) rfl rfl ?_
            refine st867.trans ?_
            refine XS.astore X867.here hx rfl (hb hby at_305) rfl rfl (l' := #[.val (.int p1), .val (.int p2), .val (.int p3), .val (.int p4), .val (.int p5), .val (.int p6), .val (.ref b_706), .val (.ref b_711), .val (.ref b_716), .val (.ref b720), .val (.ref b730), .val (.ref b740), .val (.ref b750), .val (.ref b761), .val (.int (3 : Int32)), .val (.int cq), .val (.ref b_790), .val (.ref b811), .val (.ref b821), .val (.ref b720), .val (.ref b720)]) rfl ?_
            refine XS.aload X867.here hx rfl (hb hby at_307) rfl rfl ?_
            refine XS.aload X867.here hx rfl (hb hby at_309) rfl rfl ?_
            refine Jvm.RoadKit.acmp (g := (mkF m 311 #[.val (.int p1), .val (.int p2), .val (.int p3), .val (.int p4), .val (.int p5), .val (.int p6), .val (.ref b_706), .val (.ref b_711), .val (.ref b_716), .val (.ref b720), .val (.ref b730), .val (.ref b740), .val (.ref b750), .val (.ref b761), .val (.int (3 : Int32)), .val (.int cq), .val (.ref b_790), .val (.ref b811), .val (.ref b821), .val (.ref b720), .val (.ref b720)] [(.ref b720), (.ref b720)])) X867 hx rfl rfl rfl (pc0 := 311) (pc' := 314) (same := true) rfl (hb hby at_311) rfl (decide_eq_true rfl) (by decide) (by decide) ?_
            refine XS.iconst X867.here hx rfl (hb hby at_314) ?_
            refine XS.goto X867.here hx rfl (pc0 := 315) (pc' := 319) rfl (hb hby at_315) (by decide) (by decide) ?_
            exact retN X867 hx (t := .boolean) Bd.returns (by simp) (hb hby at_319) hr
          · show Q_rm0 Z p1 p2 p3 p4 p5 p6 wz h0 n0 _ T867.heap _
            rw [e867]
            exact ⟨rfl, N867, trivial⟩
        · obtain ⟨cq868, kq868, q868a, q868b, q868c⟩ := isOf hZ rfl (f826)
          obtain ⟨_, _, ⟨T868, L868, k868, n868⟩, -, X868, ⟨Lc868, hQ868, l868, y868, z868⟩, st868⟩ := X823.virtualBack hx (y := (⟨"java/lang/String", "equals", "(Ljava/lang/Object;)Z"⟩ : MethodName)) (z := (⟨"java/lang/String", "equals", "(Ljava/lang/Object;)Z"⟩ : MethodName)) hown (mvT hZ (wd_58 hw)) (mvT hZ (wd_59 hw)) (notFace_of_selects (args := #[]) (mvT hZ (wd_61 hw))) (mvT hZ (wd_61 hw)) (mvT hZ (wd_60 hw)) (by decide) (backOf (W := 0) (rmeq110 l Z a0 hw [] b_706 b_790 t_706 t_790 wz kb_706 kb_790 (nar .byte (cA.toInt8.toInt32)) (nar .byte (cq.toInt8.toInt32)) T823.heap n0 Z824 f826 f840 f827 f841 f828 f842 f829 f843 f825 S_COMPACT_STRINGS hz ne_b_706_b_790 hc233_864) hZ (wd_62 hw) (wd_2 hw) (by decide) (by decide)) q868a q868c (g := (mkF m 233 #[.val (.int p1), .val (.int p2), .val (.int p3), .val (.int p4), .val (.int p5), .val (.int p6), .val (.ref b_706), .val (.ref b_711), .val (.ref b_716), .val (.ref b720), .val (.ref b730), .val (.ref b740), .val (.ref b750), .val (.ref b761), .val (.int (3 : Int32)), .val (.int cq), .val (.ref b_790), .val (.ref b811), .val (.ref b821), .unset, .unset] [(.ref b_790), (.ref b_706)])) rfl (by rw [hml]; rfl) (Steps.refl _) (argsL := [(.ref b_790)]) (rest := []) (lenOf pd__Ljava_lang_Object__Z rfl) rfl (by show 2 * 0 + _ ≤ _; exact Nat.le_of_eq rfl) (hb hby at_233) (fun _ _ => ⟨rfl, rfl, (by decide : 23 + 0 ≤ _), (by decide : 53 + 0 ≤ _)⟩)
          dsimp only [Pt.U, Pt.locs, Pt.cells, Pt.slots] at X868 l868 y868 z868 st868 hQ868
          rw [l868, y868, z868] at X868
          obtain ⟨rfl, N868q, e868⟩ := hQ868
          have N868 := Fr.app N823 N868q
          have pre870 : ∀ t, Steps p.tables e below (T868.setTop (mkF m 256 #[.val (.int p1), .val (.int p2), .val (.int p3), .val (.int p4), .val (.int p5), .val (.int p6), .val (.ref b_706), .val (.ref b_711), .val (.ref b_716), .val (.ref b720), .val (.ref b730), .val (.ref b740), .val (.ref b750), .val (.ref b761), .val (.int (3 : Int32)), .val (.int cq), .val (.ref b_790), .val (.ref b811), .val (.ref b821), .unset, .unset] [(.ref b_790), (.ref b_711)])) t → Steps p.tables e below (s₁.setTop (entryFrame m #[(.int p1), (.int p2), (.int p3), (.int p4), (.int p5), (.int p6)] maxLocals)) t := by
            intro t kt
            refine pre865 _ ?_
            show Steps p.tables e below (T823.setTop (mkF m 233 #[.val (.int p1), .val (.int p2), .val (.int p3), .val (.int p4), .val (.int p5), .val (.int p6), .val (.ref b_706), .val (.ref b_711), .val (.ref b_716), .val (.ref b720), .val (.ref b730), .val (.ref b740), .val (.ref b750), .val (.ref b761), .val (.int (3 : Int32)), .val (.int cq), .val (.ref b_790), .val (.ref b811), .val (.ref b821), .unset, .unset] [(.ref b_790), (.ref b_706)])) _
            refine st868.trans ?_
            refine XS.ifYes X868.here hx rfl (pc0 := 236) (pc' := 246) rfl (hb hby at_236) rfl ((if0 _ _).trans (teq (rfl : (0 : Int32) = (0 : Int32))).1) (by decide) (by decide) ?_
            refine XS.iload X868.here hx rfl (hb hby at_246) rfl ?_
            refine XS.iconst X868.here hx rfl (hb hby at_248) ?_
            refine XS.icmpNo X868.here hx rfl (hb hby at_249) rfl (tlt (by decide)).2.2.2 ?_
            refine XS.aload X868.here hx rfl (hb hby at_252) rfl rfl ?_
            show Steps p.tables e below (T868.setTop (mkF m 254 #[.val (.int p1), .val (.int p2), .val (.int p3), .val (.int p4), .val (.int p5), .val (.int p6), .val (.ref b_706), .val (.ref b_711), .val (.ref b_716), .val (.ref b720), .val (.ref b730), .val (.ref b740), .val (.ref b750), .val (.ref b761), .val (.int (3 : Int32)), .val (.int cq), .val (.ref b_790), .val (.ref b811), .val (.ref b821), .unset, .unset] [(.ref b_711)])) _
            refine XS.aload X868.here hx rfl (hb hby at_254) rfl rfl ?_
            exact kt
          by_cases hc256_869 : (nar .byte (cB.toInt8.toInt32)) = (nar .byte (cq.toInt8.toInt32))
          · obtain ⟨cq871, kq871, q871a, q871b, q871c⟩ := isOf hZ e868 (f830)
            obtain ⟨_, _, ⟨T871, L871, k871, n871⟩, -, X871, ⟨Lc871, hQ871, l871, y871, z871⟩, st871⟩ := X868.virtualBack hx (y := (⟨"java/lang/String", "equals", "(Ljava/lang/Object;)Z"⟩ : MethodName)) (z := (⟨"java/lang/String", "equals", "(Ljava/lang/Object;)Z"⟩ : MethodName)) hown (mvT hZ (wd_58 hw)) (mvT hZ (wd_59 hw)) (notFace_of_selects (args := #[]) (mvT hZ (wd_61 hw))) (mvT hZ (wd_61 hw)) (mvT hZ (wd_60 hw)) (by decide) (backOf (W := 0) (rmeq11eq l Z a0 hw [] b_711 b_790 t_711 t_790 wz kb_711 kb_790 (nar .byte (cB.toInt8.toInt32)) (nar .byte (cq.toInt8.toInt32)) T823.heap n0 Z824 f830 f840 f831 f841 f832 f842 f833 f843 f825 S_COMPACT_STRINGS hz ne_b_711_b_790 hc256_869) hZ (wd_62 hw) (wd_2 hw) (by decide) (by decide)) q871a q871c (g := (mkF m 256 #[.val (.int p1), .val (.int p2), .val (.int p3), .val (.int p4), .val (.int p5), .val (.int p6), .val (.ref b_706), .val (.ref b_711), .val (.ref b_716), .val (.ref b720), .val (.ref b730), .val (.ref b740), .val (.ref b750), .val (.ref b761), .val (.int (3 : Int32)), .val (.int cq), .val (.ref b_790), .val (.ref b811), .val (.ref b821), .unset, .unset] [(.ref b_790), (.ref b_711)])) rfl (by rw [hml]; rfl) (Steps.refl _) (argsL := [(.ref b_790)]) (rest := []) (lenOf pd__Ljava_lang_Object__Z rfl) rfl (by show 2 * 0 + _ ≤ _; exact Nat.le_of_eq rfl) (hb hby at_256) (fun _ _ => ⟨rfl, e868, (by decide : 23 + 0 ≤ _), (by decide : 53 + 0 ≤ _)⟩)
            dsimp only [Pt.U, Pt.locs, Pt.cells, Pt.slots] at X871 l871 y871 z871 st871 hQ871
            rw [l871, y871, z871] at X871
            obtain ⟨rfl, N871q, e871⟩ := hQ871
            have N871 := Fr.app N868 N871q
            obtain ⟨cq872, kq872, q872a, q872b, q872c⟩ := isOf hZ e871 (f844)
            obtain ⟨_, _, ⟨T872, L872, k872, n872⟩, -, X872, ⟨Lc872, hQ872, l872, y872, z872⟩, st872⟩ := X871.virtualBack hx (y := (⟨"com/example/kawi/kawi/xml/Attributes", "getOrDefault", "(Ljava/lang/String;Ljava/lang/String;)Ljava/lang/String;"⟩ : MethodName)) (z := (⟨"com/example/kawi/kawi/xml/Attributes", "getOrDefault", "(Ljava/lang/String;Ljava/lang/String;)Ljava/lang/String;"⟩ : MethodName)) hown (mvT hZ (wd_66 hw)) (mvT hZ (wd_67 hw)) (notFace_of_selects (args := #[]) (mvT hZ (wd_69 hw))) (mvT hZ (wd_69 hw)) (mvT hZ (wd_68 hw)) (by decide) (backOf (W := 0) (rmg311 l Z a0 hw [] b821 b_790 b811 b750 b761 k750 k761 b_706 b_711 b_716 b720 b730 b740 t_706 t_711 kb_706 kb_711 (nar .byte (cA.toInt8.toInt32)) (nar .byte (cB.toInt8.toInt32)) (nar .byte (cq.toInt8.toInt32)) t_790 kb_790 wz T823.heap n0 Z824 g823_0 g823_1 g823_2 f838 f839 f826 f827 f828 f829 ne_b_706_b_790 f830 f831 f832 f833 ne_b_711_b_790 f840 f841 f842 f843 f825 S_COMPACT_STRINGS hz hc233_864 hc256_869) hZ (wd_70 hw) (wd_47 hw) (by decide) (by decide)) q872a q872c (g := (mkF m 302 #[.val (.int p1), .val (.int p2), .val (.int p3), .val (.int p4), .val (.int p5), .val (.int p6), .val (.ref b_706), .val (.ref b_711), .val (.ref b_716), .val (.ref b720), .val (.ref b730), .val (.ref b740), .val (.ref b750), .val (.ref b761), .val (.int (3 : Int32)), .val (.int cq), .val (.ref b_790), .val (.ref b811), .val (.ref b821), .val (.ref b730), .unset] [(.ref b811), (.ref b_790), (.ref b821)])) rfl (by rw [hml]; rfl) (Steps.refl _) (argsL := [(.ref b_790), (.ref b811)]) (rest := []) (lenOf pd__Ljava_lang_String_Ljava_lang_String__Ljava_lang_String_ rfl) rfl (by show 2 * 0 + _ ≤ _; exact Nat.le_of_eq rfl) (hb hby at_302) (fun _ _ => ⟨rfl, e871, (by decide : 23 + 0 ≤ _), (by decide : 53 + 0 ≤ _)⟩)
            dsimp only [Pt.U, Pt.locs, Pt.cells, Pt.slots] at X872 l872 y872 z872 st872 hQ872
            rw [l872, y872, z872] at X872
            obtain ⟨rfl, N872q, e872⟩ := hQ872
            have N872 := Fr.app N871 N872q
            obtain ⟨fs, hr, hrun, hended, hW, hsame⟩ := X872.leave (v := some (.int (1 : Int32))) (fun h => by rw [Bd.returns] at h; cases h)
            refine ⟨_, _, pre870 _ ?_, hrun, hended, _, _, rfl, ?_, ⟨_, rfl⟩, hW, hsame.mono (by decide) (by decide)⟩
            · show Steps p.tables e below (T868.setTop (mkF m 256 #[.val (.int p1), .val (.int p2), .val (.int p3), .val (.int p4), .val (.int p5), .val (.int p6), .val (.ref b_706), .val (.ref b_711), .val (.ref b_716), .val (.ref b720), .val (.ref b730), .val (.ref b740), .val (.ref b750), .val (.ref b761), .val (.int (3 : Int32)), .val (.int cq), .val (.ref b_790), .val (.ref b811), .val (.ref b821), .unset, .unset] [(.ref b_790), (.ref b_711)])) _
              refine st871.trans ?_
              refine XS.ifNo X871.here hx rfl (hb hby at_259) rfl ((if0 _ _).trans (feq (by decide)).1) ?_
              refine XS.aload X871.here hx rfl (hb hby at_262) rfl rfl ?_
              refine XS.astore X871.here hx rfl (hb hby at_264) rfl rfl (l' := #[.val (.int p1), .val (.int p2), .val (.int p3), .val (.int p4), .val (.int p5), .val (.int p6), .val (.ref b_706), .val (.ref b_711), .val (.ref b_716), .val (.ref b720), .val (.ref b730), .val (.ref b740), .val (.ref b750), .val (.ref b761), .val (.int (3 : Int32)), .val (.int cq), .val (.ref b_790), .val (.ref b811), .val (.ref b821), .val (.ref b730), .unset]) rfl ?_
              refine XS.goto X871.here hx rfl (pc0 := 266) (pc' := 296) rfl (hb hby at_266) (by decide) (by decide) ?_
              refine XS.aload X871.here hx rfl (hb hby at_296) rfl rfl ?_
              refine XS.aload X871.here hx rfl (hb hby at_298) rfl rfl ?_
              refine XS.aload X871.here hx rfl (hb hby at_300) rfl rfl ?_
              refine st872.trans ?_
              show Steps p.tables e below (T872.setTop (mkF m 305 #[.val (.int p1), .val (.int p2), .val (.int p3), .val (.int p4), .val (.int p5), .val (.int p6), .val (.ref b_706), .val (.ref b_711), .val (.ref b_716), .val (.ref b720), .val (.ref b730), .val (.ref b740), .val (.ref b750), .val (.ref b761), .val (.int (3 : Int32)), .val (.int cq), .val (.ref b_790), .val (.ref b811), .val (.ref b821), .val (.ref b730), .unset] [(.ref b730)])) _
              refine XS.astore X872.here hx rfl (hb hby at_305) rfl rfl (l' := #[.val (.int p1), .val (.int p2), .val (.int p3), .val (.int p4), .val (.int p5), .val (.int p6), .val (.ref b_706), .val (.ref b_711), .val (.ref b_716), .val (.ref b720), .val (.ref b730), .val (.ref b740), .val (.ref b750), .val (.ref b761), .val (.int (3 : Int32)), .val (.int cq), .val (.ref b_790), .val (.ref b811), .val (.ref b821), .val (.ref b730), .val (.ref b730)]) rfl ?_
              refine XS.aload X872.here hx rfl (hb hby at_307) rfl rfl ?_
              refine XS.aload X872.here hx rfl (hb hby at_309) rfl rfl ?_
              refine Jvm.RoadKit.acmp (g := (mkF m 311 #[.val (.int p1), .val (.int p2), .val (.int p3), .val (.int p4), .val (.int p5), .val (.int p6), .val (.ref b_706), .val (.ref b_711), .val (.ref b_716), .val (.ref b720), .val (.ref b730), .val (.ref b740), .val (.ref b750), .val (.ref b761), .val (.int (3 : Int32)), .val (.int cq), .val (.ref b_790), .val (.ref b811), .val (.ref b821), .val (.ref b730), .val (.ref b730)] [(.ref b730), (.ref b730)])) X872 hx rfl rfl rfl (pc0 := 311) (pc' := 314) (same := true) rfl (hb hby at_311) rfl (decide_eq_true rfl) (by decide) (by decide) ?_
              refine XS.iconst X872.here hx rfl (hb hby at_314) ?_
              refine XS.goto X872.here hx rfl (pc0 := 315) (pc' := 319) rfl (hb hby at_315) (by decide) (by decide) ?_
              exact retN X872 hx (t := .boolean) Bd.returns (by simp) (hb hby at_319) hr
            · show Q_rm0 Z p1 p2 p3 p4 p5 p6 wz h0 n0 _ T872.heap _
              rw [e872]
              exact ⟨rfl, N872, trivial⟩
          · obtain ⟨cq873, kq873, q873a, q873b, q873c⟩ := isOf hZ e868 (f830)
            obtain ⟨_, _, ⟨T873, L873, k873, n873⟩, -, X873, ⟨Lc873, hQ873, l873, y873, z873⟩, st873⟩ := X868.virtualBack hx (y := (⟨"java/lang/String", "equals", "(Ljava/lang/Object;)Z"⟩ : MethodName)) (z := (⟨"java/lang/String", "equals", "(Ljava/lang/Object;)Z"⟩ : MethodName)) hown (mvT hZ (wd_58 hw)) (mvT hZ (wd_59 hw)) (notFace_of_selects (args := #[]) (mvT hZ (wd_61 hw))) (mvT hZ (wd_61 hw)) (mvT hZ (wd_60 hw)) (by decide) (backOf (W := 0) (rmeq110 l Z a0 hw [] b_711 b_790 t_711 t_790 wz kb_711 kb_790 (nar .byte (cB.toInt8.toInt32)) (nar .byte (cq.toInt8.toInt32)) T823.heap n0 Z824 f830 f840 f831 f841 f832 f842 f833 f843 f825 S_COMPACT_STRINGS hz ne_b_711_b_790 hc256_869) hZ (wd_62 hw) (wd_2 hw) (by decide) (by decide)) q873a q873c (g := (mkF m 256 #[.val (.int p1), .val (.int p2), .val (.int p3), .val (.int p4), .val (.int p5), .val (.int p6), .val (.ref b_706), .val (.ref b_711), .val (.ref b_716), .val (.ref b720), .val (.ref b730), .val (.ref b740), .val (.ref b750), .val (.ref b761), .val (.int (3 : Int32)), .val (.int cq), .val (.ref b_790), .val (.ref b811), .val (.ref b821), .unset, .unset] [(.ref b_790), (.ref b_711)])) rfl (by rw [hml]; rfl) (Steps.refl _) (argsL := [(.ref b_790)]) (rest := []) (lenOf pd__Ljava_lang_Object__Z rfl) rfl (by show 2 * 0 + _ ≤ _; exact Nat.le_of_eq rfl) (hb hby at_256) (fun _ _ => ⟨rfl, e868, (by decide : 23 + 0 ≤ _), (by decide : 53 + 0 ≤ _)⟩)
            dsimp only [Pt.U, Pt.locs, Pt.cells, Pt.slots] at X873 l873 y873 z873 st873 hQ873
            rw [l873, y873, z873] at X873
            obtain ⟨rfl, N873q, e873⟩ := hQ873
            have N873 := Fr.app N868 N873q
            have pre875 : ∀ t, Steps p.tables e below (T873.setTop (mkF m 279 #[.val (.int p1), .val (.int p2), .val (.int p3), .val (.int p4), .val (.int p5), .val (.int p6), .val (.ref b_706), .val (.ref b_711), .val (.ref b_716), .val (.ref b720), .val (.ref b730), .val (.ref b740), .val (.ref b750), .val (.ref b761), .val (.int (3 : Int32)), .val (.int cq), .val (.ref b_790), .val (.ref b811), .val (.ref b821), .unset, .unset] [(.ref b_790), (.ref b_716)])) t → Steps p.tables e below (s₁.setTop (entryFrame m #[(.int p1), (.int p2), (.int p3), (.int p4), (.int p5), (.int p6)] maxLocals)) t := by
              intro t kt
              refine pre870 _ ?_
              show Steps p.tables e below (T868.setTop (mkF m 256 #[.val (.int p1), .val (.int p2), .val (.int p3), .val (.int p4), .val (.int p5), .val (.int p6), .val (.ref b_706), .val (.ref b_711), .val (.ref b_716), .val (.ref b720), .val (.ref b730), .val (.ref b740), .val (.ref b750), .val (.ref b761), .val (.int (3 : Int32)), .val (.int cq), .val (.ref b_790), .val (.ref b811), .val (.ref b821), .unset, .unset] [(.ref b_790), (.ref b_711)])) _
              refine st873.trans ?_
              refine XS.ifYes X873.here hx rfl (pc0 := 259) (pc' := 269) rfl (hb hby at_259) rfl ((if0 _ _).trans (teq (rfl : (0 : Int32) = (0 : Int32))).1) (by decide) (by decide) ?_
              refine XS.iload X873.here hx rfl (hb hby at_269) rfl ?_
              refine XS.iconst X873.here hx rfl (hb hby at_271) ?_
              refine XS.icmpNo X873.here hx rfl (hb hby at_272) rfl (tlt (by decide)).2.2.2 ?_
              refine XS.aload X873.here hx rfl (hb hby at_275) rfl rfl ?_
              refine XS.aload X873.here hx rfl (hb hby at_277) rfl rfl ?_
              exact kt
            by_cases hc279_874 : (nar .byte (cC.toInt8.toInt32)) = (nar .byte (cq.toInt8.toInt32))
            · obtain ⟨cq876, kq876, q876a, q876b, q876c⟩ := isOf hZ e873 (f834)
              obtain ⟨_, _, ⟨T876, L876, k876, n876⟩, -, X876, ⟨Lc876, hQ876, l876, y876, z876⟩, st876⟩ := X873.virtualBack hx (y := (⟨"java/lang/String", "equals", "(Ljava/lang/Object;)Z"⟩ : MethodName)) (z := (⟨"java/lang/String", "equals", "(Ljava/lang/Object;)Z"⟩ : MethodName)) hown (mvT hZ (wd_58 hw)) (mvT hZ (wd_59 hw)) (notFace_of_selects (args := #[]) (mvT hZ (wd_61 hw))) (mvT hZ (wd_61 hw)) (mvT hZ (wd_60 hw)) (by decide) (backOf (W := 0) (rmeq11eq l Z a0 hw [] b_716 b_790 t_716 t_790 wz kb_716 kb_790 (nar .byte (cC.toInt8.toInt32)) (nar .byte (cq.toInt8.toInt32)) T823.heap n0 Z824 f834 f840 f835 f841 f836 f842 f837 f843 f825 S_COMPACT_STRINGS hz ne_b_716_b_790 hc279_874) hZ (wd_62 hw) (wd_2 hw) (by decide) (by decide)) q876a q876c (g := (mkF m 279 #[.val (.int p1), .val (.int p2), .val (.int p3), .val (.int p4), .val (.int p5), .val (.int p6), .val (.ref b_706), .val (.ref b_711), .val (.ref b_716), .val (.ref b720), .val (.ref b730), .val (.ref b740), .val (.ref b750), .val (.ref b761), .val (.int (3 : Int32)), .val (.int cq), .val (.ref b_790), .val (.ref b811), .val (.ref b821), .unset, .unset] [(.ref b_790), (.ref b_716)])) rfl (by rw [hml]; rfl) (Steps.refl _) (argsL := [(.ref b_790)]) (rest := []) (lenOf pd__Ljava_lang_Object__Z rfl) rfl (by show 2 * 0 + _ ≤ _; exact Nat.le_of_eq rfl) (hb hby at_279) (fun _ _ => ⟨rfl, e873, (by decide : 23 + 0 ≤ _), (by decide : 53 + 0 ≤ _)⟩)
              dsimp only [Pt.U, Pt.locs, Pt.cells, Pt.slots] at X876 l876 y876 z876 st876 hQ876
              rw [l876, y876, z876] at X876
              obtain ⟨rfl, N876q, e876⟩ := hQ876
              have N876 := Fr.app N873 N876q
              obtain ⟨cq877, kq877, q877a, q877b, q877c⟩ := isOf hZ e876 (f844)
              obtain ⟨_, _, ⟨T877, L877, k877, n877⟩, -, X877, ⟨Lc877, hQ877, l877, y877, z877⟩, st877⟩ := X876.virtualBack hx (y := (⟨"com/example/kawi/kawi/xml/Attributes", "getOrDefault", "(Ljava/lang/String;Ljava/lang/String;)Ljava/lang/String;"⟩ : MethodName)) (z := (⟨"com/example/kawi/kawi/xml/Attributes", "getOrDefault", "(Ljava/lang/String;Ljava/lang/String;)Ljava/lang/String;"⟩ : MethodName)) hown (mvT hZ (wd_66 hw)) (mvT hZ (wd_67 hw)) (notFace_of_selects (args := #[]) (mvT hZ (wd_69 hw))) (mvT hZ (wd_69 hw)) (mvT hZ (wd_68 hw)) (by decide) (backOf (W := 0) (rmg321 l Z a0 hw [] b821 b_790 b811 b750 b761 k750 k761 b_706 b_711 b_716 b720 b730 b740 t_706 t_711 t_716 kb_706 kb_711 kb_716 (nar .byte (cA.toInt8.toInt32)) (nar .byte (cB.toInt8.toInt32)) (nar .byte (cC.toInt8.toInt32)) (nar .byte (cq.toInt8.toInt32)) t_790 kb_790 wz T823.heap n0 Z824 g823_0 g823_1 g823_2 f838 f839 f826 f827 f828 f829 ne_b_706_b_790 f830 f831 f832 f833 ne_b_711_b_790 f834 f835 f836 f837 ne_b_716_b_790 f840 f841 f842 f843 f825 S_COMPACT_STRINGS hz hc233_864 hc256_869 hc279_874) hZ (wd_70 hw) (wd_47 hw) (by decide) (by decide)) q877a q877c (g := (mkF m 302 #[.val (.int p1), .val (.int p2), .val (.int p3), .val (.int p4), .val (.int p5), .val (.int p6), .val (.ref b_706), .val (.ref b_711), .val (.ref b_716), .val (.ref b720), .val (.ref b730), .val (.ref b740), .val (.ref b750), .val (.ref b761), .val (.int (3 : Int32)), .val (.int cq), .val (.ref b_790), .val (.ref b811), .val (.ref b821), .val (.ref b740), .unset] [(.ref b811), (.ref b_790), (.ref b821)])) rfl (by rw [hml]; rfl) (Steps.refl _) (argsL := [(.ref b_790), (.ref b811)]) (rest := []) (lenOf pd__Ljava_lang_String_Ljava_lang_String__Ljava_lang_String_ rfl) rfl (by show 2 * 0 + _ ≤ _; exact Nat.le_of_eq rfl) (hb hby at_302) (fun _ _ => ⟨rfl, e876, (by decide : 23 + 0 ≤ _), (by decide : 53 + 0 ≤ _)⟩)
              dsimp only [Pt.U, Pt.locs, Pt.cells, Pt.slots] at X877 l877 y877 z877 st877 hQ877
              rw [l877, y877, z877] at X877
              obtain ⟨rfl, N877q, e877⟩ := hQ877
              have N877 := Fr.app N876 N877q
              obtain ⟨fs, hr, hrun, hended, hW, hsame⟩ := X877.leave (v := some (.int (1 : Int32))) (fun h => by rw [Bd.returns] at h; cases h)
              refine ⟨_, _, pre875 _ ?_, hrun, hended, _, _, rfl, ?_, ⟨_, rfl⟩, hW, hsame.mono (by decide) (by decide)⟩
              · show Steps p.tables e below (T873.setTop (mkF m 279 #[.val (.int p1), .val (.int p2), .val (.int p3), .val (.int p4), .val (.int p5), .val (.int p6), .val (.ref b_706), .val (.ref b_711), .val (.ref b_716), .val (.ref b720), .val (.ref b730), .val (.ref b740), .val (.ref b750), .val (.ref b761), .val (.int (3 : Int32)), .val (.int cq), .val (.ref b_790), .val (.ref b811), .val (.ref b821), .unset, .unset] [(.ref b_790), (.ref b_716)])) _
                refine st876.trans ?_
                refine XS.ifNo X876.here hx rfl (hb hby at_282) rfl ((if0 _ _).trans (feq (by decide)).1) ?_
                show Steps p.tables e below (T876.setTop (mkF m 285 #[.val (.int p1), .val (.int p2), .val (.int p3), .val (.int p4), .val (.int p5), .val (.int p6), .val (.ref b_706), .val (.ref b_711), .val (.ref b_716), .val (.ref b720), .val (.ref b730), .val (.ref b740), .val (.ref b750), .val (.ref b761), .val (.int (3 : Int32)), .val (.int cq), .val (.ref b_790), .val (.ref b811), .val (.ref b821), .unset, .unset] [])) _
                refine XS.aload X876.here hx rfl (hb hby at_285) rfl rfl ?_
                refine XS.astore X876.here hx rfl (hb hby at_287) rfl rfl (l' := #[.val (.int p1), .val (.int p2), .val (.int p3), .val (.int p4), .val (.int p5), .val (.int p6), .val (.ref b_706), .val (.ref b_711), .val (.ref b_716), .val (.ref b720), .val (.ref b730), .val (.ref b740), .val (.ref b750), .val (.ref b761), .val (.int (3 : Int32)), .val (.int cq), .val (.ref b_790), .val (.ref b811), .val (.ref b821), .val (.ref b740), .unset]) rfl ?_
                refine XS.goto X876.here hx rfl (pc0 := 289) (pc' := 296) rfl (hb hby at_289) (by decide) (by decide) ?_
                refine XS.aload X876.here hx rfl (hb hby at_296) rfl rfl ?_
                refine XS.aload X876.here hx rfl (hb hby at_298) rfl rfl ?_
                refine XS.aload X876.here hx rfl (hb hby at_300) rfl rfl ?_
                refine st877.trans ?_
                refine XS.astore X877.here hx rfl (hb hby at_305) rfl rfl (l' := #[.val (.int p1), .val (.int p2), .val (.int p3), .val (.int p4), .val (.int p5), .val (.int p6), .val (.ref b_706), .val (.ref b_711), .val (.ref b_716), .val (.ref b720), .val (.ref b730), .val (.ref b740), .val (.ref b750), .val (.ref b761), .val (.int (3 : Int32)), .val (.int cq), .val (.ref b_790), .val (.ref b811), .val (.ref b821), .val (.ref b740), .val (.ref b740)]) rfl ?_
                refine XS.aload X877.here hx rfl (hb hby at_307) rfl rfl ?_
                refine XS.aload X877.here hx rfl (hb hby at_309) rfl rfl ?_
                show Steps p.tables e below (T877.setTop (mkF m 311 #[.val (.int p1), .val (.int p2), .val (.int p3), .val (.int p4), .val (.int p5), .val (.int p6), .val (.ref b_706), .val (.ref b_711), .val (.ref b_716), .val (.ref b720), .val (.ref b730), .val (.ref b740), .val (.ref b750), .val (.ref b761), .val (.int (3 : Int32)), .val (.int cq), .val (.ref b_790), .val (.ref b811), .val (.ref b821), .val (.ref b740), .val (.ref b740)] [(.ref b740), (.ref b740)])) _
                refine Jvm.RoadKit.acmp (g := (mkF m 311 #[.val (.int p1), .val (.int p2), .val (.int p3), .val (.int p4), .val (.int p5), .val (.int p6), .val (.ref b_706), .val (.ref b_711), .val (.ref b_716), .val (.ref b720), .val (.ref b730), .val (.ref b740), .val (.ref b750), .val (.ref b761), .val (.int (3 : Int32)), .val (.int cq), .val (.ref b_790), .val (.ref b811), .val (.ref b821), .val (.ref b740), .val (.ref b740)] [(.ref b740), (.ref b740)])) X877 hx rfl rfl rfl (pc0 := 311) (pc' := 314) (same := true) rfl (hb hby at_311) rfl (decide_eq_true rfl) (by decide) (by decide) ?_
                refine XS.iconst X877.here hx rfl (hb hby at_314) ?_
                refine XS.goto X877.here hx rfl (pc0 := 315) (pc' := 319) rfl (hb hby at_315) (by decide) (by decide) ?_
                exact retN X877 hx (t := .boolean) Bd.returns (by simp) (hb hby at_319) hr
              · show Q_rm0 Z p1 p2 p3 p4 p5 p6 wz h0 n0 _ T877.heap _
                rw [e877]
                exact ⟨rfl, N877, trivial⟩
            · obtain ⟨cq878, kq878, q878a, q878b, q878c⟩ := isOf hZ e873 (f834)
              obtain ⟨_, _, ⟨T878, L878, k878, n878⟩, -, X878, ⟨Lc878, hQ878, l878, y878, z878⟩, st878⟩ := X873.virtualBack hx (y := (⟨"java/lang/String", "equals", "(Ljava/lang/Object;)Z"⟩ : MethodName)) (z := (⟨"java/lang/String", "equals", "(Ljava/lang/Object;)Z"⟩ : MethodName)) hown (mvT hZ (wd_58 hw)) (mvT hZ (wd_59 hw)) (notFace_of_selects (args := #[]) (mvT hZ (wd_61 hw))) (mvT hZ (wd_61 hw)) (mvT hZ (wd_60 hw)) (by decide) (backOf (W := 0) (rmeq110 l Z a0 hw [] b_716 b_790 t_716 t_790 wz kb_716 kb_790 (nar .byte (cC.toInt8.toInt32)) (nar .byte (cq.toInt8.toInt32)) T823.heap n0 Z824 f834 f840 f835 f841 f836 f842 f837 f843 f825 S_COMPACT_STRINGS hz ne_b_716_b_790 hc279_874) hZ (wd_62 hw) (wd_2 hw) (by decide) (by decide)) q878a q878c (g := (mkF m 279 #[.val (.int p1), .val (.int p2), .val (.int p3), .val (.int p4), .val (.int p5), .val (.int p6), .val (.ref b_706), .val (.ref b_711), .val (.ref b_716), .val (.ref b720), .val (.ref b730), .val (.ref b740), .val (.ref b750), .val (.ref b761), .val (.int (3 : Int32)), .val (.int cq), .val (.ref b_790), .val (.ref b811), .val (.ref b821), .unset, .unset] [(.ref b_790), (.ref b_716)])) rfl (by rw [hml]; rfl) (Steps.refl _) (argsL := [(.ref b_790)]) (rest := []) (lenOf pd__Ljava_lang_Object__Z rfl) rfl (by show 2 * 0 + _ ≤ _; exact Nat.le_of_eq rfl) (hb hby at_279) (fun _ _ => ⟨rfl, e873, (by decide : 23 + 0 ≤ _), (by decide : 53 + 0 ≤ _)⟩)
              dsimp only [Pt.U, Pt.locs, Pt.cells, Pt.slots] at X878 l878 y878 z878 st878 hQ878
              rw [l878, y878, z878] at X878
              obtain ⟨rfl, N878q, e878⟩ := hQ878
              have N878 := Fr.app N873 N878q
              obtain ⟨cq879, kq879, q879a, q879b, q879c⟩ := isOf hZ e878 (f844)
              obtain ⟨_, _, ⟨T879, L879, k879, n879⟩, -, X879, ⟨Lc879, hQ879, l879, y879, z879⟩, st879⟩ := X878.virtualBack hx (y := (⟨"com/example/kawi/kawi/xml/Attributes", "getOrDefault", "(Ljava/lang/String;Ljava/lang/String;)Ljava/lang/String;"⟩ : MethodName)) (z := (⟨"com/example/kawi/kawi/xml/Attributes", "getOrDefault", "(Ljava/lang/String;Ljava/lang/String;)Ljava/lang/String;"⟩ : MethodName)) hown (mvT hZ (wd_66 hw)) (mvT hZ (wd_67 hw)) (notFace_of_selects (args := #[]) (mvT hZ (wd_69 hw))) (mvT hZ (wd_69 hw)) (mvT hZ (wd_68 hw)) (by decide) (backOf (W := 0) (rmg3x1 l Z a0 hw [] b821 b_790 b811 b750 b761 k750 k761 b_706 b_711 b_716 b720 b730 b740 t_706 t_711 t_716 kb_706 kb_711 kb_716 (nar .byte (cA.toInt8.toInt32)) (nar .byte (cB.toInt8.toInt32)) (nar .byte (cC.toInt8.toInt32)) (nar .byte (cq.toInt8.toInt32)) t_790 kb_790 wz T823.heap n0 Z824 g823_0 g823_1 g823_2 f838 f839 f826 f827 f828 f829 ne_b_706_b_790 f830 f831 f832 f833 ne_b_711_b_790 f834 f835 f836 f837 ne_b_716_b_790 f840 f841 f842 f843 f825 S_COMPACT_STRINGS hz hc233_864 hc256_869 hc279_874) hZ (wd_70 hw) (wd_47 hw) (by decide) (by decide)) q879a q879c (g := (mkF m 302 #[.val (.int p1), .val (.int p2), .val (.int p3), .val (.int p4), .val (.int p5), .val (.int p6), .val (.ref b_706), .val (.ref b_711), .val (.ref b_716), .val (.ref b720), .val (.ref b730), .val (.ref b740), .val (.ref b750), .val (.ref b761), .val (.int (3 : Int32)), .val (.int cq), .val (.ref b_790), .val (.ref b811), .val (.ref b821), .val (.ref b811), .unset] [(.ref b811), (.ref b_790), (.ref b821)])) rfl (by rw [hml]; rfl) (Steps.refl _) (argsL := [(.ref b_790), (.ref b811)]) (rest := []) (lenOf pd__Ljava_lang_String_Ljava_lang_String__Ljava_lang_String_ rfl) rfl (by show 2 * 0 + _ ≤ _; exact Nat.le_of_eq rfl) (hb hby at_302) (fun _ _ => ⟨rfl, e878, (by decide : 23 + 0 ≤ _), (by decide : 53 + 0 ≤ _)⟩)
              dsimp only [Pt.U, Pt.locs, Pt.cells, Pt.slots] at X879 l879 y879 z879 st879 hQ879
              rw [l879, y879, z879] at X879
              obtain ⟨rfl, N879q, e879⟩ := hQ879
              have N879 := Fr.app N878 N879q
              obtain ⟨fs, hr, hrun, hended, hW, hsame⟩ := X879.leave (v := some (.int (1 : Int32))) (fun h => by rw [Bd.returns] at h; cases h)
              refine ⟨_, _, pre875 _ ?_, hrun, hended, _, _, rfl, ?_, ⟨_, rfl⟩, hW, hsame.mono (by decide) (by decide)⟩
              · show Steps p.tables e below (T873.setTop (mkF m 279 #[.val (.int p1), .val (.int p2), .val (.int p3), .val (.int p4), .val (.int p5), .val (.int p6), .val (.ref b_706), .val (.ref b_711), .val (.ref b_716), .val (.ref b720), .val (.ref b730), .val (.ref b740), .val (.ref b750), .val (.ref b761), .val (.int (3 : Int32)), .val (.int cq), .val (.ref b_790), .val (.ref b811), .val (.ref b821), .unset, .unset] [(.ref b_790), (.ref b_716)])) _
                refine st878.trans ?_
                refine XS.ifYes X878.here hx rfl (pc0 := 282) (pc' := 292) rfl (hb hby at_282) rfl ((if0 _ _).trans (teq (rfl : (0 : Int32) = (0 : Int32))).1) (by decide) (by decide) ?_
                show Steps p.tables e below (T878.setTop (mkF m 292 #[.val (.int p1), .val (.int p2), .val (.int p3), .val (.int p4), .val (.int p5), .val (.int p6), .val (.ref b_706), .val (.ref b_711), .val (.ref b_716), .val (.ref b720), .val (.ref b730), .val (.ref b740), .val (.ref b750), .val (.ref b761), .val (.int (3 : Int32)), .val (.int cq), .val (.ref b_790), .val (.ref b811), .val (.ref b821), .unset, .unset] [])) _
                refine XS.aload X878.here hx rfl (hb hby at_292) rfl rfl ?_
                refine XS.astore X878.here hx rfl (hb hby at_294) rfl rfl (l' := #[.val (.int p1), .val (.int p2), .val (.int p3), .val (.int p4), .val (.int p5), .val (.int p6), .val (.ref b_706), .val (.ref b_711), .val (.ref b_716), .val (.ref b720), .val (.ref b730), .val (.ref b740), .val (.ref b750), .val (.ref b761), .val (.int (3 : Int32)), .val (.int cq), .val (.ref b_790), .val (.ref b811), .val (.ref b821), .val (.ref b811), .unset]) rfl ?_
                refine XS.aload X878.here hx rfl (hb hby at_296) rfl rfl ?_
                refine XS.aload X878.here hx rfl (hb hby at_298) rfl rfl ?_
                refine XS.aload X878.here hx rfl (hb hby at_300) rfl rfl ?_
                refine st879.trans ?_
                refine XS.astore X879.here hx rfl (hb hby at_305) rfl rfl (l' := #[.val (.int p1), .val (.int p2), .val (.int p3), .val (.int p4), .val (.int p5), .val (.int p6), .val (.ref b_706), .val (.ref b_711), .val (.ref b_716), .val (.ref b720), .val (.ref b730), .val (.ref b740), .val (.ref b750), .val (.ref b761), .val (.int (3 : Int32)), .val (.int cq), .val (.ref b_790), .val (.ref b811), .val (.ref b821), .val (.ref b811), .val (.ref b811)]) rfl ?_
                refine XS.aload X879.here hx rfl (hb hby at_307) rfl rfl ?_
                refine XS.aload X879.here hx rfl (hb hby at_309) rfl rfl ?_
                refine Jvm.RoadKit.acmp (g := (mkF m 311 #[.val (.int p1), .val (.int p2), .val (.int p3), .val (.int p4), .val (.int p5), .val (.int p6), .val (.ref b_706), .val (.ref b_711), .val (.ref b_716), .val (.ref b720), .val (.ref b730), .val (.ref b740), .val (.ref b750), .val (.ref b761), .val (.int (3 : Int32)), .val (.int cq), .val (.ref b_790), .val (.ref b811), .val (.ref b821), .val (.ref b811), .val (.ref b811)] [(.ref b811), (.ref b811)])) X879 hx rfl rfl rfl (pc0 := 311) (pc' := 314) (same := true) rfl (hb hby at_311) rfl (decide_eq_true rfl) (by decide) (by decide) ?_
                show Steps p.tables e below (T879.setTop (mkF m 314 #[.val (.int p1), .val (.int p2), .val (.int p3), .val (.int p4), .val (.int p5), .val (.int p6), .val (.ref b_706), .val (.ref b_711), .val (.ref b_716), .val (.ref b720), .val (.ref b730), .val (.ref b740), .val (.ref b750), .val (.ref b761), .val (.int (3 : Int32)), .val (.int cq), .val (.ref b_790), .val (.ref b811), .val (.ref b821), .val (.ref b811), .val (.ref b811)] [])) _
                refine XS.iconst X879.here hx rfl (hb hby at_314) ?_
                refine XS.goto X879.here hx rfl (pc0 := 315) (pc' := 319) rfl (hb hby at_315) (by decide) (by decide) ?_
                exact retN X879 hx (t := .boolean) Bd.returns (by simp) (hb hby at_319) hr
              · show Q_rm0 Z p1 p2 p3 p4 p5 p6 wz h0 n0 _ T879.heap _
                rw [e879]
                exact ⟨rfl, N879, trivial⟩
    · obtain ⟨T880, h880, X880, e880, E880, A880, D880, -, st880⟩ := newO X790 hx hZ hown (wd_45 hw) (wd_46 hw) (wd_47 hw) rfl (g := (mkF m 209 #[.val (.int p1), .val (.int p2), .val (.int p3), .val (.int p4), .val (.int p5), .val (.int p6), .val (.ref b_706), .val (.ref b_711), .val (.ref b_716), .val (.ref b720), .val (.ref b730), .val (.ref b740), .val (.ref b750), .val (.ref b761), .val (.int kk), .val (.int cq), .val (.ref b_790), .val .null, .unset, .unset, .unset] [])) rfl (hb hby at_209) (by decide) (by decide)
      obtain ⟨b880, g880⟩ : ∃ z, z = T790.heap.size := ⟨_, rfl⟩
      rw [← g880] at A880 D880 st880
      have g_b880 : n0 ≤ b880 := Nat.le_trans Z791 (Nat.le_of_eq g880.symm)
      have ne_b_706_b880 : b_706 ≠ b880 := Nat.ne_of_lt (Nat.lt_of_lt_of_le (f795).lt (Nat.le_of_eq g880.symm))
      have ne_t_706_b880 : t_706 ≠ b880 := Nat.ne_of_lt (Nat.lt_of_lt_of_le (f798).lt (Nat.le_of_eq g880.symm))
      have ne_b_711_b880 : b_711 ≠ b880 := Nat.ne_of_lt (Nat.lt_of_lt_of_le (f799).lt (Nat.le_of_eq g880.symm))
      have ne_t_711_b880 : t_711 ≠ b880 := Nat.ne_of_lt (Nat.lt_of_lt_of_le (f802).lt (Nat.le_of_eq g880.symm))
      have ne_b_716_b880 : b_716 ≠ b880 := Nat.ne_of_lt (Nat.lt_of_lt_of_le (f803).lt (Nat.le_of_eq g880.symm))
      have ne_t_716_b880 : t_716 ≠ b880 := Nat.ne_of_lt (Nat.lt_of_lt_of_le (f806).lt (Nat.le_of_eq g880.symm))
      have ne_b750_b880 : b750 ≠ b880 := Nat.ne_of_lt (Nat.lt_of_lt_of_le (f807).lt (Nat.le_of_eq g880.symm))
      have ne_b761_b880 : b761 ≠ b880 := Nat.ne_of_lt (Nat.lt_of_lt_of_le (f808).lt (Nat.le_of_eq g880.symm))
      have ne_b_790_b880 : b_790 ≠ b880 := Nat.ne_of_lt (Nat.lt_of_lt_of_le (g790_3).lt (Nat.le_of_eq g880.symm))
      have ne_t_790_b880 : t_790 ≠ b880 := Nat.ne_of_lt (Nat.lt_of_lt_of_le (g790_6).lt (Nat.le_of_eq g880.symm))
      have Z881 : n0 ≤ h880.size := Nat.le_trans Z791 E880.1
      have F_names_b880 : Fld Z h880 b880 "com/example/kawi/kawi/xml/Attributes" "names" "[Ljava/lang/String;" .null := D880 (Or.inr (wd_53 hw)) (ty := (.array (.object "java/lang/String"))) (by decide)
      have F_values_b880 : Fld Z h880 b880 "com/example/kawi/kawi/xml/Attributes" "values" "[Ljava/lang/String;" .null := D880 (Or.inr (wd_55 hw)) (ty := (.array (.object "java/lang/String"))) (by decide)
      have F_size_b880 : Fld Z h880 b880 "com/example/kawi/kawi/xml/Attributes" "size" "I" (.int (0 : Int32)) := D880 (Or.inr (wd_57 hw)) (ty := .int) (by decide)
      obtain ⟨_, _, ⟨T882, L882, k882, n882⟩, -, X882, ⟨Lc882, hQ882, l882, y882, z882⟩, st882⟩ := X880.specialBack hx (y := (⟨"com/example/kawi/kawi/xml/Attributes", "<init>", "([Ljava/lang/String;[Ljava/lang/String;I)V"⟩ : MethodName)) rfl hown (mvT hZ (wd_48 hw)) (mvT hZ (wd_49 hw)) (mvT hZ (wd_50 hw)) (by decide) (backOf (W := 1) (rm11 l Z a0 hw [] b880 b750 b761 kk .null .null (.int (0 : Int32)) h880 n0 Z881 F_names_b880 F_values_b880 F_size_b880 A880 g_b880) hZ (wd_50 hw) (wd_47 hw) (by decide) (by decide)) (g := (mkF m 219 #[.val (.int p1), .val (.int p2), .val (.int p3), .val (.int p4), .val (.int p5), .val (.int p6), .val (.ref b_706), .val (.ref b_711), .val (.ref b_716), .val (.ref b720), .val (.ref b730), .val (.ref b740), .val (.ref b750), .val (.ref b761), .val (.int kk), .val (.int cq), .val (.ref b_790), .val .null, .unset, .unset, .unset] [(.int kk), (.ref b761), (.ref b750), (.ref b880), (.ref b880)])) rfl (by rw [hml]; rfl) (Steps.refl _) (a := b880) (argsL := [(.ref b750), (.ref b761), (.int kk)]) (rest := [(.ref b880)]) (lenOf pd___Ljava_lang_String__Ljava_lang_String_I_V rfl) rfl (by show 2 * 0 + _ ≤ _; exact Nat.le_of_eq rfl) (hb hby at_219) (fun _ _ => ⟨rfl, e880, (by decide : 20 + 0 ≤ _), (by decide : 47 + 0 ≤ _)⟩)
      dsimp only [Pt.U, Pt.locs, Pt.cells, Pt.slots] at X882 l882 y882 z882 st882 hQ882
      rw [l882, y882, z882] at X882
      obtain ⟨rfl, N882q, K882q, g882_0, g882_1, g882_2⟩ := hQ882
      have N882 := Fr.app N790 N882q
      have Z883 : n0 ≤ T882.heap.size := Nat.le_trans Z881 K882q.1
      have f884 : Old Z n0 T882.heap := ((f794.ext E880).keep K882q (allS g_b880 all0))
      have f885 : Exa Z T882.heap b_706 "java/lang/String" := ((f795.ext E880).keep K882q)
      have f886 : Fld Z T882.heap b_706 "java/lang/String" "value" "[B" (.ref t_706) := ((f796.ext E880).keep K882q (ninS ne_b_706_b880 nin0))
      have f887 : Fld Z T882.heap b_706 "java/lang/String" "coder" "B" (.int (0 : Int32)) := ((f797.ext E880).keep K882q (ninS ne_b_706_b880 nin0))
      have f888 : Arv Z T882.heap t_706 kb_706 .byte (1 : Int32) [(.int (nar .byte (cA.toInt8.toInt32)))] (.int (0 : Int32)) := ((f798.ext E880).keep K882q (ninS ne_t_706_b880 nin0))
      have f889 : Exa Z T882.heap b_711 "java/lang/String" := ((f799.ext E880).keep K882q)
      have f890 : Fld Z T882.heap b_711 "java/lang/String" "value" "[B" (.ref t_711) := ((f800.ext E880).keep K882q (ninS ne_b_711_b880 nin0))
      have f891 : Fld Z T882.heap b_711 "java/lang/String" "coder" "B" (.int (0 : Int32)) := ((f801.ext E880).keep K882q (ninS ne_b_711_b880 nin0))
      have f892 : Arv Z T882.heap t_711 kb_711 .byte (1 : Int32) [(.int (nar .byte (cB.toInt8.toInt32)))] (.int (0 : Int32)) := ((f802.ext E880).keep K882q (ninS ne_t_711_b880 nin0))
      have f893 : Exa Z T882.heap b_716 "java/lang/String" := ((f803.ext E880).keep K882q)
      have f894 : Fld Z T882.heap b_716 "java/lang/String" "value" "[B" (.ref t_716) := ((f804.ext E880).keep K882q (ninS ne_b_716_b880 nin0))
      have f895 : Fld Z T882.heap b_716 "java/lang/String" "coder" "B" (.int (0 : Int32)) := ((f805.ext E880).keep K882q (ninS ne_b_716_b880 nin0))
      have f896 : Arv Z T882.heap t_716 kb_716 .byte (1 : Int32) [(.int (nar .byte (cC.toInt8.toInt32)))] (.int (0 : Int32)) := ((f806.ext E880).keep K882q (ninS ne_t_716_b880 nin0))
      have f897 : Arv Z T882.heap b750 k750 (.object "java/lang/String") (3 : Int32) [(.ref b_706), (.ref b_711), (.ref b_716)] .null := ((f807.ext E880).keep K882q (ninS ne_b750_b880 nin0))
      have f898 : Arv Z T882.heap b761 k761 (.object "java/lang/String") (3 : Int32) [(.ref b720), (.ref b730), (.ref b740)] .null := ((f808.ext E880).keep K882q (ninS ne_b761_b880 nin0))
      have f899 : Exa Z T882.heap b_790 "java/lang/String" := ((g790_3.ext E880).keep K882q)
      have f900 : Fld Z T882.heap b_790 "java/lang/String" "value" "[B" (.ref t_790) := ((g790_4.ext E880).keep K882q (ninS ne_b_790_b880 nin0))
      have f901 : Fld Z T882.heap b_790 "java/lang/String" "coder" "B" (.int (0 : Int32)) := ((g790_5.ext E880).keep K882q (ninS ne_b_790_b880 nin0))
      have f902 : Arv Z T882.heap t_790 kb_790 .byte (1 : Int32) [(.int (nar .byte (cq.toInt8.toInt32)))] (.int (0 : Int32)) := ((g790_6.ext E880).keep K882q (ninS ne_t_790_b880 nin0))
      have f903 : Exa Z T882.heap b880 "com/example/kawi/kawi/xml/Attributes" := (A880.keep K882q)
      have hk4 := own_four p4
      rw [← hkk] at hk4
      have pre904 : ∀ t, Steps p.tables e below (T882.setTop (mkF m 224 #[.val (.int p1), .val (.int p2), .val (.int p3), .val (.int p4), .val (.int p5), .val (.int p6), .val (.ref b_706), .val (.ref b_711), .val (.ref b_716), .val (.ref b720), .val (.ref b730), .val (.ref b740), .val (.ref b750), .val (.ref b761), .val (.int kk), .val (.int cq), .val (.ref b_790), .val .null, .val (.ref b880), .unset, .unset] [])) t → Steps p.tables e below (s₁.setTop (entryFrame m #[(.int p1), (.int p2), (.int p3), (.int p4), (.int p5), (.int p6)] maxLocals)) t := by
        intro t kt
        refine pre810 _ ?_
        show Steps p.tables e below (T790.setTop (mkF m 183 #[.val (.int p1), .val (.int p2), .val (.int p3), .val (.int p4), .val (.int p5), .val (.int p6), .val (.ref b_706), .val (.ref b_711), .val (.ref b_716), .val (.ref b720), .val (.ref b730), .val (.ref b740), .val (.ref b750), .val (.ref b761), .val (.int kk), .val (.int cq), .val (.ref b_790), .unset, .unset, .unset, .unset] [(.int (p6 &&& (1 : Int32)))])) _
        refine XS.ifNo X790.here hx rfl (hb hby at_183) rfl ((if0 _ _).trans (feq hc183_809).1) ?_
        refine XS.aconstNull X790.here hx rfl (hb hby at_186) ?_
        refine XS.astore X790.here hx rfl (hb hby at_187) rfl rfl (l' := #[.val (.int p1), .val (.int p2), .val (.int p3), .val (.int p4), .val (.int p5), .val (.int p6), .val (.ref b_706), .val (.ref b_711), .val (.ref b_716), .val (.ref b720), .val (.ref b730), .val (.ref b740), .val (.ref b750), .val (.ref b761), .val (.int kk), .val (.int cq), .val (.ref b_790), .val .null, .unset, .unset, .unset]) rfl ?_
        refine XS.goto X790.here hx rfl (pc0 := 189) (pc' := 209) rfl (hb hby at_189) (by decide) (by decide) ?_
        refine st880 _ ?_
        refine XS.dup X880.here hx rfl (hb hby at_212) rfl rfl ?_
        refine XS.aload X880.here hx rfl (hb hby at_213) rfl rfl ?_
        refine XS.aload X880.here hx rfl (hb hby at_215) rfl rfl ?_
        refine XS.iload X880.here hx rfl (hb hby at_217) rfl ?_
        show Steps p.tables e below (T880.setTop (mkF m 219 #[.val (.int p1), .val (.int p2), .val (.int p3), .val (.int p4), .val (.int p5), .val (.int p6), .val (.ref b_706), .val (.ref b_711), .val (.ref b_716), .val (.ref b720), .val (.ref b730), .val (.ref b740), .val (.ref b750), .val (.ref b761), .val (.int kk), .val (.int cq), .val (.ref b_790), .val .null, .unset, .unset, .unset] [(.int kk), (.ref b761), (.ref b750), (.ref b880), (.ref b880)])) _
        refine st882.trans ?_
        refine XS.astore X882.here hx rfl (hb hby at_222) rfl rfl (l' := #[.val (.int p1), .val (.int p2), .val (.int p3), .val (.int p4), .val (.int p5), .val (.int p6), .val (.ref b_706), .val (.ref b_711), .val (.ref b_716), .val (.ref b720), .val (.ref b730), .val (.ref b740), .val (.ref b750), .val (.ref b761), .val (.int kk), .val (.int cq), .val (.ref b_790), .val .null, .val (.ref b880), .unset, .unset]) rfl ?_
        exact kt
      rcases hk4 with rfl | rfl | rfl | rfl
      · obtain ⟨cq905, kq905, q905a, q905b, q905c⟩ := isOf hZ rfl (f903)
        obtain ⟨_, _, ⟨T905, L905, k905, n905⟩, -, X905, ⟨Lc905, hQ905, l905, y905, z905⟩, st905⟩ := X882.virtualBack hx (y := (⟨"com/example/kawi/kawi/xml/Attributes", "getOrDefault", "(Ljava/lang/String;Ljava/lang/String;)Ljava/lang/String;"⟩ : MethodName)) (z := (⟨"com/example/kawi/kawi/xml/Attributes", "getOrDefault", "(Ljava/lang/String;Ljava/lang/String;)Ljava/lang/String;"⟩ : MethodName)) hown (mvT hZ (wd_66 hw)) (mvT hZ (wd_67 hw)) (notFace_of_selects (args := #[]) (mvT hZ (wd_69 hw))) (mvT hZ (wd_69 hw)) (mvT hZ (wd_68 hw)) (by decide) (backOf (W := 0) (rmg0x1n l Z a0 hw [] b880 b_790 b750 b761 k750 k761 b_706 b_711 b_716 b720 b730 b740 (nar .byte (cq.toInt8.toInt32)) t_790 kb_790 wz T882.heap n0 Z883 g882_0 g882_1 g882_2 f897 f898 f899 f900 f901 f902 f884 S_COMPACT_STRINGS hz) hZ (wd_70 hw) (wd_47 hw) (by decide) (by decide)) q905a q905c (g := (mkF m 302 #[.val (.int p1), .val (.int p2), .val (.int p3), .val (.int p4), .val (.int p5), .val (.int p6), .val (.ref b_706), .val (.ref b_711), .val (.ref b_716), .val (.ref b720), .val (.ref b730), .val (.ref b740), .val (.ref b750), .val (.ref b761), .val (.int (0 : Int32)), .val (.int cq), .val (.ref b_790), .val .null, .val (.ref b880), .val .null, .unset] [.null, (.ref b_790), (.ref b880)])) rfl (by rw [hml]; rfl) (Steps.refl _) (argsL := [(.ref b_790), .null]) (rest := []) (lenOf pd__Ljava_lang_String_Ljava_lang_String__Ljava_lang_String_ rfl) rfl (by show 2 * 0 + _ ≤ _; exact Nat.le_of_eq rfl) (hb hby at_302) (fun _ _ => ⟨rfl, rfl, (by decide : 20 + 0 ≤ _), (by decide : 47 + 0 ≤ _)⟩)
        dsimp only [Pt.U, Pt.locs, Pt.cells, Pt.slots] at X905 l905 y905 z905 st905 hQ905
        rw [l905, y905, z905] at X905
        obtain ⟨rfl, N905q, e905⟩ := hQ905
        have N905 := Fr.app N882 N905q
        obtain ⟨fs, hr, hrun, hended, hW, hsame⟩ := X905.leave (v := some (.int (1 : Int32))) (fun h => by rw [Bd.returns] at h; cases h)
        refine ⟨_, _, pre904 _ ?_, hrun, hended, _, _, rfl, ?_, ⟨_, rfl⟩, hW, hsame.mono (by decide) (by decide)⟩
        · show Steps p.tables e below (T882.setTop (mkF m 224 #[.val (.int p1), .val (.int p2), .val (.int p3), .val (.int p4), .val (.int p5), .val (.int p6), .val (.ref b_706), .val (.ref b_711), .val (.ref b_716), .val (.ref b720), .val (.ref b730), .val (.ref b740), .val (.ref b750), .val (.ref b761), .val (.int (0 : Int32)), .val (.int cq), .val (.ref b_790), .val .null, .val (.ref b880), .unset, .unset] [])) _
          refine XS.iload X882.here hx rfl (hb hby at_224) rfl ?_
          refine XS.ifYes X882.here hx rfl (pc0 := 226) (pc' := 246) rfl (hb hby at_226) rfl ((if0 _ _).trans (flt (by decide)).2.2.2) (by decide) (by decide) ?_
          refine XS.iload X882.here hx rfl (hb hby at_246) rfl ?_
          refine XS.iconst X882.here hx rfl (hb hby at_248) ?_
          refine XS.icmpYes X882.here hx rfl (pc0 := 249) (pc' := 269) rfl (hb hby at_249) rfl (flt (by decide)).2.2.2 (by decide) (by decide) ?_
          refine XS.iload X882.here hx rfl (hb hby at_269) rfl ?_
          refine XS.iconst X882.here hx rfl (hb hby at_271) ?_
          refine XS.icmpYes X882.here hx rfl (pc0 := 272) (pc' := 292) rfl (hb hby at_272) rfl (flt (by decide)).2.2.2 (by decide) (by decide) ?_
          refine XS.aload X882.here hx rfl (hb hby at_292) rfl rfl ?_
          refine XS.astore X882.here hx rfl (hb hby at_294) rfl rfl (l' := #[.val (.int p1), .val (.int p2), .val (.int p3), .val (.int p4), .val (.int p5), .val (.int p6), .val (.ref b_706), .val (.ref b_711), .val (.ref b_716), .val (.ref b720), .val (.ref b730), .val (.ref b740), .val (.ref b750), .val (.ref b761), .val (.int (0 : Int32)), .val (.int cq), .val (.ref b_790), .val .null, .val (.ref b880), .val .null, .unset]) rfl ?_
          show Steps p.tables e below (T882.setTop (mkF m 296 #[.val (.int p1), .val (.int p2), .val (.int p3), .val (.int p4), .val (.int p5), .val (.int p6), .val (.ref b_706), .val (.ref b_711), .val (.ref b_716), .val (.ref b720), .val (.ref b730), .val (.ref b740), .val (.ref b750), .val (.ref b761), .val (.int (0 : Int32)), .val (.int cq), .val (.ref b_790), .val .null, .val (.ref b880), .val .null, .unset] [])) _
          refine XS.aload X882.here hx rfl (hb hby at_296) rfl rfl ?_
          refine XS.aload X882.here hx rfl (hb hby at_298) rfl rfl ?_
          refine XS.aload X882.here hx rfl (hb hby at_300) rfl rfl ?_
          refine st905.trans ?_
          refine XS.astore X905.here hx rfl (hb hby at_305) rfl rfl (l' := #[.val (.int p1), .val (.int p2), .val (.int p3), .val (.int p4), .val (.int p5), .val (.int p6), .val (.ref b_706), .val (.ref b_711), .val (.ref b_716), .val (.ref b720), .val (.ref b730), .val (.ref b740), .val (.ref b750), .val (.ref b761), .val (.int (0 : Int32)), .val (.int cq), .val (.ref b_790), .val .null, .val (.ref b880), .val .null, .val .null]) rfl ?_
          refine XS.aload X905.here hx rfl (hb hby at_307) rfl rfl ?_
          refine XS.aload X905.here hx rfl (hb hby at_309) rfl rfl ?_
          refine Jvm.RoadKit.acmp (g := (mkF m 311 #[.val (.int p1), .val (.int p2), .val (.int p3), .val (.int p4), .val (.int p5), .val (.int p6), .val (.ref b_706), .val (.ref b_711), .val (.ref b_716), .val (.ref b720), .val (.ref b730), .val (.ref b740), .val (.ref b750), .val (.ref b761), .val (.int (0 : Int32)), .val (.int cq), .val (.ref b_790), .val .null, .val (.ref b880), .val .null, .val .null] [.null, .null])) X905 hx rfl rfl rfl (pc0 := 311) (pc' := 314) (same := true) rfl (hb hby at_311) rfl (decide_eq_true rfl) (by decide) (by decide) ?_
          refine XS.iconst X905.here hx rfl (hb hby at_314) ?_
          refine XS.goto X905.here hx rfl (pc0 := 315) (pc' := 319) rfl (hb hby at_315) (by decide) (by decide) ?_
          show Steps p.tables e below (T905.setTop (mkF m 319 #[.val (.int p1), .val (.int p2), .val (.int p3), .val (.int p4), .val (.int p5), .val (.int p6), .val (.ref b_706), .val (.ref b_711), .val (.ref b_716), .val (.ref b720), .val (.ref b730), .val (.ref b740), .val (.ref b750), .val (.ref b761), .val (.int (0 : Int32)), .val (.int cq), .val (.ref b_790), .val .null, .val (.ref b880), .val .null, .val .null] [(.int (1 : Int32))])) _
          exact retN X905 hx (t := .boolean) Bd.returns (by simp) (hb hby at_319) hr
        · show Q_rm0 Z p1 p2 p3 p4 p5 p6 wz h0 n0 _ T905.heap _
          rw [e905]
          exact ⟨rfl, N905, trivial⟩
      · have pre907 : ∀ t, Steps p.tables e below (T882.setTop (mkF m 233 #[.val (.int p1), .val (.int p2), .val (.int p3), .val (.int p4), .val (.int p5), .val (.int p6), .val (.ref b_706), .val (.ref b_711), .val (.ref b_716), .val (.ref b720), .val (.ref b730), .val (.ref b740), .val (.ref b750), .val (.ref b761), .val (.int (1 : Int32)), .val (.int cq), .val (.ref b_790), .val .null, .val (.ref b880), .unset, .unset] [(.ref b_790), (.ref b_706)])) t → Steps p.tables e below (s₁.setTop (entryFrame m #[(.int p1), (.int p2), (.int p3), (.int p4), (.int p5), (.int p6)] maxLocals)) t := by
          intro t kt
          refine pre904 _ ?_
          show Steps p.tables e below (T882.setTop (mkF m 224 #[.val (.int p1), .val (.int p2), .val (.int p3), .val (.int p4), .val (.int p5), .val (.int p6), .val (.ref b_706), .val (.ref b_711), .val (.ref b_716), .val (.ref b720), .val (.ref b730), .val (.ref b740), .val (.ref b750), .val (.ref b761), .val (.int (1 : Int32)), .val (.int cq), .val (.ref b_790), .val .null, .val (.ref b880), .unset, .unset] [])) _
          refine XS.iload X882.here hx rfl (hb hby at_224) rfl ?_
          refine XS.ifNo X882.here hx rfl (hb hby at_226) rfl ((if0 _ _).trans (tlt (by decide)).2.2.2) ?_
          refine XS.aload X882.here hx rfl (hb hby at_229) rfl rfl ?_
          refine XS.aload X882.here hx rfl (hb hby at_231) rfl rfl ?_
          exact kt
        by_cases hc233_906 : (nar .byte (cA.toInt8.toInt32)) = (nar .byte (cq.toInt8.toInt32))
        · obtain ⟨cq908, kq908, q908a, q908b, q908c⟩ := isOf hZ rfl (f885)
          obtain ⟨_, _, ⟨T908, L908, k908, n908⟩, -, X908, ⟨Lc908, hQ908, l908, y908, z908⟩, st908⟩ := X882.virtualBack hx (y := (⟨"java/lang/String", "equals", "(Ljava/lang/Object;)Z"⟩ : MethodName)) (z := (⟨"java/lang/String", "equals", "(Ljava/lang/Object;)Z"⟩ : MethodName)) hown (mvT hZ (wd_58 hw)) (mvT hZ (wd_59 hw)) (notFace_of_selects (args := #[]) (mvT hZ (wd_61 hw))) (mvT hZ (wd_61 hw)) (mvT hZ (wd_60 hw)) (by decide) (backOf (W := 0) (rmeq11eq l Z a0 hw [] b_706 b_790 t_706 t_790 wz kb_706 kb_790 (nar .byte (cA.toInt8.toInt32)) (nar .byte (cq.toInt8.toInt32)) T882.heap n0 Z883 f885 f899 f886 f900 f887 f901 f888 f902 f884 S_COMPACT_STRINGS hz ne_b_706_b_790 hc233_906) hZ (wd_62 hw) (wd_2 hw) (by decide) (by decide)) q908a q908c (g := (mkF m 233 #[.val (.int p1), .val (.int p2), .val (.int p3), .val (.int p4), .val (.int p5), .val (.int p6), .val (.ref b_706), .val (.ref b_711), .val (.ref b_716), .val (.ref b720), .val (.ref b730), .val (.ref b740), .val (.ref b750), .val (.ref b761), .val (.int (1 : Int32)), .val (.int cq), .val (.ref b_790), .val .null, .val (.ref b880), .unset, .unset] [(.ref b_790), (.ref b_706)])) rfl (by rw [hml]; rfl) (Steps.refl _) (argsL := [(.ref b_790)]) (rest := []) (lenOf pd__Ljava_lang_Object__Z rfl) rfl (by show 2 * 0 + _ ≤ _; exact Nat.le_of_eq rfl) (hb hby at_233) (fun _ _ => ⟨rfl, rfl, (by decide : 20 + 0 ≤ _), (by decide : 47 + 0 ≤ _)⟩)
          dsimp only [Pt.U, Pt.locs, Pt.cells, Pt.slots] at X908 l908 y908 z908 st908 hQ908
          rw [l908, y908, z908] at X908
          obtain ⟨rfl, N908q, e908⟩ := hQ908
          have N908 := Fr.app N882 N908q
          obtain ⟨cq909, kq909, q909a, q909b, q909c⟩ := isOf hZ e908 (f903)
          obtain ⟨_, _, ⟨T909, L909, k909, n909⟩, -, X909, ⟨Lc909, hQ909, l909, y909, z909⟩, st909⟩ := X908.virtualBack hx (y := (⟨"com/example/kawi/kawi/xml/Attributes", "getOrDefault", "(Ljava/lang/String;Ljava/lang/String;)Ljava/lang/String;"⟩ : MethodName)) (z := (⟨"com/example/kawi/kawi/xml/Attributes", "getOrDefault", "(Ljava/lang/String;Ljava/lang/String;)Ljava/lang/String;"⟩ : MethodName)) hown (mvT hZ (wd_66 hw)) (mvT hZ (wd_67 hw)) (notFace_of_selects (args := #[]) (mvT hZ (wd_69 hw))) (mvT hZ (wd_69 hw)) (mvT hZ (wd_68 hw)) (by decide) (backOf (W := 0) (rmg101n l Z a0 hw [] b880 b_790 b750 b761 k750 k761 b_706 b_711 b_716 b720 b730 b740 t_706 kb_706 (nar .byte (cA.toInt8.toInt32)) (nar .byte (cq.toInt8.toInt32)) t_790 kb_790 wz T882.heap n0 Z883 g882_0 g882_1 g882_2 f897 f898 f885 f886 f887 f888 ne_b_706_b_790 f899 f900 f901 f902 f884 S_COMPACT_STRINGS hz hc233_906) hZ (wd_70 hw) (wd_47 hw) (by decide) (by decide)) q909a q909c (g := (mkF m 302 #[.val (.int p1), .val (.int p2), .val (.int p3), .val (.int p4), .val (.int p5), .val (.int p6), .val (.ref b_706), .val (.ref b_711), .val (.ref b_716), .val (.ref b720), .val (.ref b730), .val (.ref b740), .val (.ref b750), .val (.ref b761), .val (.int (1 : Int32)), .val (.int cq), .val (.ref b_790), .val .null, .val (.ref b880), .val (.ref b720), .unset] [.null, (.ref b_790), (.ref b880)])) rfl (by rw [hml]; rfl) (Steps.refl _) (argsL := [(.ref b_790), .null]) (rest := []) (lenOf pd__Ljava_lang_String_Ljava_lang_String__Ljava_lang_String_ rfl) rfl (by show 2 * 0 + _ ≤ _; exact Nat.le_of_eq rfl) (hb hby at_302) (fun _ _ => ⟨rfl, e908, (by decide : 20 + 0 ≤ _), (by decide : 47 + 0 ≤ _)⟩)
          dsimp only [Pt.U, Pt.locs, Pt.cells, Pt.slots] at X909 l909 y909 z909 st909 hQ909
          rw [l909, y909, z909] at X909
          obtain ⟨rfl, N909q, e909⟩ := hQ909
          have N909 := Fr.app N908 N909q
          obtain ⟨fs, hr, hrun, hended, hW, hsame⟩ := X909.leave (v := some (.int (1 : Int32))) (fun h => by rw [Bd.returns] at h; cases h)
          refine ⟨_, _, pre907 _ ?_, hrun, hended, _, _, rfl, ?_, ⟨_, rfl⟩, hW, hsame.mono (by decide) (by decide)⟩
          · show Steps p.tables e below (T882.setTop (mkF m 233 #[.val (.int p1), .val (.int p2), .val (.int p3), .val (.int p4), .val (.int p5), .val (.int p6), .val (.ref b_706), .val (.ref b_711), .val (.ref b_716), .val (.ref b720), .val (.ref b730), .val (.ref b740), .val (.ref b750), .val (.ref b761), .val (.int (1 : Int32)), .val (.int cq), .val (.ref b_790), .val .null, .val (.ref b880), .unset, .unset] [(.ref b_790), (.ref b_706)])) _
            refine st908.trans ?_
            refine XS.ifNo X908.here hx rfl (hb hby at_236) rfl ((if0 _ _).trans (feq (by decide)).1) ?_
            refine XS.aload X908.here hx rfl (hb hby at_239) rfl rfl ?_
            refine XS.astore X908.here hx rfl (hb hby at_241) rfl rfl (l' := #[.val (.int p1), .val (.int p2), .val (.int p3), .val (.int p4), .val (.int p5), .val (.int p6), .val (.ref b_706), .val (.ref b_711), .val (.ref b_716), .val (.ref b720), .val (.ref b730), .val (.ref b740), .val (.ref b750), .val (.ref b761), .val (.int (1 : Int32)), .val (.int cq), .val (.ref b_790), .val .null, .val (.ref b880), .val (.ref b720), .unset]) rfl ?_
            refine XS.goto X908.here hx rfl (pc0 := 243) (pc' := 296) rfl (hb hby at_243) (by decide) (by decide) ?_
            refine XS.aload X908.here hx rfl (hb hby at_296) rfl rfl ?_
            show Steps p.tables e below (T908.setTop (mkF m 298 #[.val (.int p1), .val (.int p2), .val (.int p3), .val (.int p4), .val (.int p5), .val (.int p6), .val (.ref b_706), .val (.ref b_711), .val (.ref b_716), .val (.ref b720), .val (.ref b730), .val (.ref b740), .val (.ref b750), .val (.ref b761), .val (.int (1 : Int32)), .val (.int cq), .val (.ref b_790), .val .null, .val (.ref b880), .val (.ref b720), .unset] [(.ref b880)])) _
            refine XS.aload X908.here hx rfl (hb hby at_298) rfl rfl ?_
            refine XS.aload X908.here hx rfl (hb hby at_300) rfl rfl ?_
            refine st909.trans ?_
            refine XS.astore X909.here hx rfl (hb hby at_305) rfl rfl (l' := #[.val (.int p1), .val (.int p2), .val (.int p3), .val (.int p4), .val (.int p5), .val (.int p6), .val (.ref b_706), .val (.ref b_711), .val (.ref b_716), .val (.ref b720), .val (.ref b730), .val (.ref b740), .val (.ref b750), .val (.ref b761), .val (.int (1 : Int32)), .val (.int cq), .val (.ref b_790), .val .null, .val (.ref b880), .val (.ref b720), .val (.ref b720)]) rfl ?_
            refine XS.aload X909.here hx rfl (hb hby at_307) rfl rfl ?_
            refine XS.aload X909.here hx rfl (hb hby at_309) rfl rfl ?_
            refine Jvm.RoadKit.acmp (g := (mkF m 311 #[.val (.int p1), .val (.int p2), .val (.int p3), .val (.int p4), .val (.int p5), .val (.int p6), .val (.ref b_706), .val (.ref b_711), .val (.ref b_716), .val (.ref b720), .val (.ref b730), .val (.ref b740), .val (.ref b750), .val (.ref b761), .val (.int (1 : Int32)), .val (.int cq), .val (.ref b_790), .val .null, .val (.ref b880), .val (.ref b720), .val (.ref b720)] [(.ref b720), (.ref b720)])) X909 hx rfl rfl rfl (pc0 := 311) (pc' := 314) (same := true) rfl (hb hby at_311) rfl (decide_eq_true rfl) (by decide) (by decide) ?_
            refine XS.iconst X909.here hx rfl (hb hby at_314) ?_
            refine XS.goto X909.here hx rfl (pc0 := 315) (pc' := 319) rfl (hb hby at_315) (by decide) (by decide) ?_
            exact retN X909 hx (t := .boolean) Bd.returns (by simp) (hb hby at_319) hr
          · show Q_rm0 Z p1 p2 p3 p4 p5 p6 wz h0 n0 _ T909.heap _
            rw [e909]
            exact ⟨rfl, N909, trivial⟩
        · obtain ⟨cq910, kq910, q910a, q910b, q910c⟩ := isOf hZ rfl (f885)
          obtain ⟨_, _, ⟨T910, L910, k910, n910⟩, -, X910, ⟨Lc910, hQ910, l910, y910, z910⟩, st910⟩ := X882.virtualBack hx (y := (⟨"java/lang/String", "equals", "(Ljava/lang/Object;)Z"⟩ : MethodName)) (z := (⟨"java/lang/String", "equals", "(Ljava/lang/Object;)Z"⟩ : MethodName)) hown (mvT hZ (wd_58 hw)) (mvT hZ (wd_59 hw)) (notFace_of_selects (args := #[]) (mvT hZ (wd_61 hw))) (mvT hZ (wd_61 hw)) (mvT hZ (wd_60 hw)) (by decide) (backOf (W := 0) (rmeq110 l Z a0 hw [] b_706 b_790 t_706 t_790 wz kb_706 kb_790 (nar .byte (cA.toInt8.toInt32)) (nar .byte (cq.toInt8.toInt32)) T882.heap n0 Z883 f885 f899 f886 f900 f887 f901 f888 f902 f884 S_COMPACT_STRINGS hz ne_b_706_b_790 hc233_906) hZ (wd_62 hw) (wd_2 hw) (by decide) (by decide)) q910a q910c (g := (mkF m 233 #[.val (.int p1), .val (.int p2), .val (.int p3), .val (.int p4), .val (.int p5), .val (.int p6), .val (.ref b_706), .val (.ref b_711), .val (.ref b_716), .val (.ref b720), .val (.ref b730), .val (.ref b740), .val (.ref b750), .val (.ref b761), .val (.int (1 : Int32)), .val (.int cq), .val (.ref b_790), .val .null, .val (.ref b880), .unset, .unset] [(.ref b_790), (.ref b_706)])) rfl (by rw [hml]; rfl) (Steps.refl _) (argsL := [(.ref b_790)]) (rest := []) (lenOf pd__Ljava_lang_Object__Z rfl) rfl (by show 2 * 0 + _ ≤ _; exact Nat.le_of_eq rfl) (hb hby at_233) (fun _ _ => ⟨rfl, rfl, (by decide : 20 + 0 ≤ _), (by decide : 47 + 0 ≤ _)⟩)
          dsimp only [Pt.U, Pt.locs, Pt.cells, Pt.slots] at X910 l910 y910 z910 st910 hQ910
          rw [l910, y910, z910] at X910
          obtain ⟨rfl, N910q, e910⟩ := hQ910
          have N910 := Fr.app N882 N910q
          obtain ⟨cq911, kq911, q911a, q911b, q911c⟩ := isOf hZ e910 (f903)
          obtain ⟨_, _, ⟨T911, L911, k911, n911⟩, -, X911, ⟨Lc911, hQ911, l911, y911, z911⟩, st911⟩ := X910.virtualBack hx (y := (⟨"com/example/kawi/kawi/xml/Attributes", "getOrDefault", "(Ljava/lang/String;Ljava/lang/String;)Ljava/lang/String;"⟩ : MethodName)) (z := (⟨"com/example/kawi/kawi/xml/Attributes", "getOrDefault", "(Ljava/lang/String;Ljava/lang/String;)Ljava/lang/String;"⟩ : MethodName)) hown (mvT hZ (wd_66 hw)) (mvT hZ (wd_67 hw)) (notFace_of_selects (args := #[]) (mvT hZ (wd_69 hw))) (mvT hZ (wd_69 hw)) (mvT hZ (wd_68 hw)) (by decide) (backOf (W := 0) (rmg1x1n l Z a0 hw [] b880 b_790 b750 b761 k750 k761 b_706 b_711 b_716 b720 b730 b740 t_706 kb_706 (nar .byte (cA.toInt8.toInt32)) (nar .byte (cq.toInt8.toInt32)) t_790 kb_790 wz T882.heap n0 Z883 g882_0 g882_1 g882_2 f897 f898 f885 f886 f887 f888 ne_b_706_b_790 f899 f900 f901 f902 f884 S_COMPACT_STRINGS hz hc233_906) hZ (wd_70 hw) (wd_47 hw) (by decide) (by decide)) q911a q911c (g := (mkF m 302 #[.val (.int p1), .val (.int p2), .val (.int p3), .val (.int p4), .val (.int p5), .val (.int p6), .val (.ref b_706), .val (.ref b_711), .val (.ref b_716), .val (.ref b720), .val (.ref b730), .val (.ref b740), .val (.ref b750), .val (.ref b761), .val (.int (1 : Int32)), .val (.int cq), .val (.ref b_790), .val .null, .val (.ref b880), .val .null, .unset] [.null, (.ref b_790), (.ref b880)])) rfl (by rw [hml]; rfl) (Steps.refl _) (argsL := [(.ref b_790), .null]) (rest := []) (lenOf pd__Ljava_lang_String_Ljava_lang_String__Ljava_lang_String_ rfl) rfl (by show 2 * 0 + _ ≤ _; exact Nat.le_of_eq rfl) (hb hby at_302) (fun _ _ => ⟨rfl, e910, (by decide : 20 + 0 ≤ _), (by decide : 47 + 0 ≤ _)⟩)
          dsimp only [Pt.U, Pt.locs, Pt.cells, Pt.slots] at X911 l911 y911 z911 st911 hQ911
          rw [l911, y911, z911] at X911
          obtain ⟨rfl, N911q, e911⟩ := hQ911
          have N911 := Fr.app N910 N911q
          obtain ⟨fs, hr, hrun, hended, hW, hsame⟩ := X911.leave (v := some (.int (1 : Int32))) (fun h => by rw [Bd.returns] at h; cases h)
          refine ⟨_, _, pre907 _ ?_, hrun, hended, _, _, rfl, ?_, ⟨_, rfl⟩, hW, hsame.mono (by decide) (by decide)⟩
          · show Steps p.tables e below (T882.setTop (mkF m 233 #[.val (.int p1), .val (.int p2), .val (.int p3), .val (.int p4), .val (.int p5), .val (.int p6), .val (.ref b_706), .val (.ref b_711), .val (.ref b_716), .val (.ref b720), .val (.ref b730), .val (.ref b740), .val (.ref b750), .val (.ref b761), .val (.int (1 : Int32)), .val (.int cq), .val (.ref b_790), .val .null, .val (.ref b880), .unset, .unset] [(.ref b_790), (.ref b_706)])) _
            refine st910.trans ?_
            refine XS.ifYes X910.here hx rfl (pc0 := 236) (pc' := 246) rfl (hb hby at_236) rfl ((if0 _ _).trans (teq (rfl : (0 : Int32) = (0 : Int32))).1) (by decide) (by decide) ?_
            refine XS.iload X910.here hx rfl (hb hby at_246) rfl ?_
            refine XS.iconst X910.here hx rfl (hb hby at_248) ?_
            refine XS.icmpYes X910.here hx rfl (pc0 := 249) (pc' := 269) rfl (hb hby at_249) rfl (flt (by decide)).2.2.2 (by decide) (by decide) ?_
            refine XS.iload X910.here hx rfl (hb hby at_269) rfl ?_
            show Steps p.tables e below (T910.setTop (mkF m 271 #[.val (.int p1), .val (.int p2), .val (.int p3), .val (.int p4), .val (.int p5), .val (.int p6), .val (.ref b_706), .val (.ref b_711), .val (.ref b_716), .val (.ref b720), .val (.ref b730), .val (.ref b740), .val (.ref b750), .val (.ref b761), .val (.int (1 : Int32)), .val (.int cq), .val (.ref b_790), .val .null, .val (.ref b880), .unset, .unset] [(.int (1 : Int32))])) _
            refine XS.iconst X910.here hx rfl (hb hby at_271) ?_
            refine XS.icmpYes X910.here hx rfl (pc0 := 272) (pc' := 292) rfl (hb hby at_272) rfl (flt (by decide)).2.2.2 (by decide) (by decide) ?_
            refine XS.aload X910.here hx rfl (hb hby at_292) rfl rfl ?_
            refine XS.astore X910.here hx rfl (hb hby at_294) rfl rfl (l' := #[.val (.int p1), .val (.int p2), .val (.int p3), .val (.int p4), .val (.int p5), .val (.int p6), .val (.ref b_706), .val (.ref b_711), .val (.ref b_716), .val (.ref b720), .val (.ref b730), .val (.ref b740), .val (.ref b750), .val (.ref b761), .val (.int (1 : Int32)), .val (.int cq), .val (.ref b_790), .val .null, .val (.ref b880), .val .null, .unset]) rfl ?_
            refine XS.aload X910.here hx rfl (hb hby at_296) rfl rfl ?_
            refine XS.aload X910.here hx rfl (hb hby at_298) rfl rfl ?_
            refine XS.aload X910.here hx rfl (hb hby at_300) rfl rfl ?_
            refine st911.trans ?_
            refine XS.astore X911.here hx rfl (hb hby at_305) rfl rfl (l' := #[.val (.int p1), .val (.int p2), .val (.int p3), .val (.int p4), .val (.int p5), .val (.int p6), .val (.ref b_706), .val (.ref b_711), .val (.ref b_716), .val (.ref b720), .val (.ref b730), .val (.ref b740), .val (.ref b750), .val (.ref b761), .val (.int (1 : Int32)), .val (.int cq), .val (.ref b_790), .val .null, .val (.ref b880), .val .null, .val .null]) rfl ?_
            refine XS.aload X911.here hx rfl (hb hby at_307) rfl rfl ?_
            show Steps p.tables e below (T911.setTop (mkF m 309 #[.val (.int p1), .val (.int p2), .val (.int p3), .val (.int p4), .val (.int p5), .val (.int p6), .val (.ref b_706), .val (.ref b_711), .val (.ref b_716), .val (.ref b720), .val (.ref b730), .val (.ref b740), .val (.ref b750), .val (.ref b761), .val (.int (1 : Int32)), .val (.int cq), .val (.ref b_790), .val .null, .val (.ref b880), .val .null, .val .null] [.null])) _
            refine XS.aload X911.here hx rfl (hb hby at_309) rfl rfl ?_
            refine Jvm.RoadKit.acmp (g := (mkF m 311 #[.val (.int p1), .val (.int p2), .val (.int p3), .val (.int p4), .val (.int p5), .val (.int p6), .val (.ref b_706), .val (.ref b_711), .val (.ref b_716), .val (.ref b720), .val (.ref b730), .val (.ref b740), .val (.ref b750), .val (.ref b761), .val (.int (1 : Int32)), .val (.int cq), .val (.ref b_790), .val .null, .val (.ref b880), .val .null, .val .null] [.null, .null])) X911 hx rfl rfl rfl (pc0 := 311) (pc' := 314) (same := true) rfl (hb hby at_311) rfl (decide_eq_true rfl) (by decide) (by decide) ?_
            refine XS.iconst X911.here hx rfl (hb hby at_314) ?_
            refine XS.goto X911.here hx rfl (pc0 := 315) (pc' := 319) rfl (hb hby at_315) (by decide) (by decide) ?_
            exact retN X911 hx (t := .boolean) Bd.returns (by simp) (hb hby at_319) hr
          · show Q_rm0 Z p1 p2 p3 p4 p5 p6 wz h0 n0 _ T911.heap _
            rw [e911]
            exact ⟨rfl, N911, trivial⟩
      · have pre913 : ∀ t, Steps p.tables e below (T882.setTop (mkF m 233 #[.val (.int p1), .val (.int p2), .val (.int p3), .val (.int p4), .val (.int p5), .val (.int p6), .val (.ref b_706), .val (.ref b_711), .val (.ref b_716), .val (.ref b720), .val (.ref b730), .val (.ref b740), .val (.ref b750), .val (.ref b761), .val (.int (2 : Int32)), .val (.int cq), .val (.ref b_790), .val .null, .val (.ref b880), .unset, .unset] [(.ref b_790), (.ref b_706)])) t → Steps p.tables e below (s₁.setTop (entryFrame m #[(.int p1), (.int p2), (.int p3), (.int p4), (.int p5), (.int p6)] maxLocals)) t := by
          intro t kt
          refine pre904 _ ?_
          show Steps p.tables e below (T882.setTop (mkF m 224 #[.val (.int p1), .val (.int p2), .val (.int p3), .val (.int p4), .val (.int p5), .val (.int p6), .val (.ref b_706), .val (.ref b_711), .val (.ref b_716), .val (.ref b720), .val (.ref b730), .val (.ref b740), .val (.ref b750), .val (.ref b761), .val (.int (2 : Int32)), .val (.int cq), .val (.ref b_790), .val .null, .val (.ref b880), .unset, .unset] [])) _
          refine XS.iload X882.here hx rfl (hb hby at_224) rfl ?_
          refine XS.ifNo X882.here hx rfl (hb hby at_226) rfl ((if0 _ _).trans (tlt (by decide)).2.2.2) ?_
          refine XS.aload X882.here hx rfl (hb hby at_229) rfl rfl ?_
          refine XS.aload X882.here hx rfl (hb hby at_231) rfl rfl ?_
          exact kt
        by_cases hc233_912 : (nar .byte (cA.toInt8.toInt32)) = (nar .byte (cq.toInt8.toInt32))
        · obtain ⟨cq914, kq914, q914a, q914b, q914c⟩ := isOf hZ rfl (f885)
          obtain ⟨_, _, ⟨T914, L914, k914, n914⟩, -, X914, ⟨Lc914, hQ914, l914, y914, z914⟩, st914⟩ := X882.virtualBack hx (y := (⟨"java/lang/String", "equals", "(Ljava/lang/Object;)Z"⟩ : MethodName)) (z := (⟨"java/lang/String", "equals", "(Ljava/lang/Object;)Z"⟩ : MethodName)) hown (mvT hZ (wd_58 hw)) (mvT hZ (wd_59 hw)) (notFace_of_selects (args := #[]) (mvT hZ (wd_61 hw))) (mvT hZ (wd_61 hw)) (mvT hZ (wd_60 hw)) (by decide) (backOf (W := 0) (rmeq11eq l Z a0 hw [] b_706 b_790 t_706 t_790 wz kb_706 kb_790 (nar .byte (cA.toInt8.toInt32)) (nar .byte (cq.toInt8.toInt32)) T882.heap n0 Z883 f885 f899 f886 f900 f887 f901 f888 f902 f884 S_COMPACT_STRINGS hz ne_b_706_b_790 hc233_912) hZ (wd_62 hw) (wd_2 hw) (by decide) (by decide)) q914a q914c (g := (mkF m 233 #[.val (.int p1), .val (.int p2), .val (.int p3), .val (.int p4), .val (.int p5), .val (.int p6), .val (.ref b_706), .val (.ref b_711), .val (.ref b_716), .val (.ref b720), .val (.ref b730), .val (.ref b740), .val (.ref b750), .val (.ref b761), .val (.int (2 : Int32)), .val (.int cq), .val (.ref b_790), .val .null, .val (.ref b880), .unset, .unset] [(.ref b_790), (.ref b_706)])) rfl (by rw [hml]; rfl) (Steps.refl _) (argsL := [(.ref b_790)]) (rest := []) (lenOf pd__Ljava_lang_Object__Z rfl) rfl (by show 2 * 0 + _ ≤ _; exact Nat.le_of_eq rfl) (hb hby at_233) (fun _ _ => ⟨rfl, rfl, (by decide : 20 + 0 ≤ _), (by decide : 47 + 0 ≤ _)⟩)
          dsimp only [Pt.U, Pt.locs, Pt.cells, Pt.slots] at X914 l914 y914 z914 st914 hQ914
          rw [l914, y914, z914] at X914
          obtain ⟨rfl, N914q, e914⟩ := hQ914
          have N914 := Fr.app N882 N914q
          obtain ⟨cq915, kq915, q915a, q915b, q915c⟩ := isOf hZ e914 (f903)
          obtain ⟨_, _, ⟨T915, L915, k915, n915⟩, -, X915, ⟨Lc915, hQ915, l915, y915, z915⟩, st915⟩ := X914.virtualBack hx (y := (⟨"com/example/kawi/kawi/xml/Attributes", "getOrDefault", "(Ljava/lang/String;Ljava/lang/String;)Ljava/lang/String;"⟩ : MethodName)) (z := (⟨"com/example/kawi/kawi/xml/Attributes", "getOrDefault", "(Ljava/lang/String;Ljava/lang/String;)Ljava/lang/String;"⟩ : MethodName)) hown (mvT hZ (wd_66 hw)) (mvT hZ (wd_67 hw)) (notFace_of_selects (args := #[]) (mvT hZ (wd_69 hw))) (mvT hZ (wd_69 hw)) (mvT hZ (wd_68 hw)) (by decide) (backOf (W := 0) (rmg201n l Z a0 hw [] b880 b_790 b750 b761 k750 k761 b_706 b_711 b_716 b720 b730 b740 t_706 kb_706 (nar .byte (cA.toInt8.toInt32)) (nar .byte (cq.toInt8.toInt32)) t_790 kb_790 wz T882.heap n0 Z883 g882_0 g882_1 g882_2 f897 f898 f885 f886 f887 f888 ne_b_706_b_790 f899 f900 f901 f902 f884 S_COMPACT_STRINGS hz hc233_912) hZ (wd_70 hw) (wd_47 hw) (by decide) (by decide)) q915a q915c (g := (mkF m 302 #[.val (.int p1), .val (.int p2), .val (.int p3), .val (.int p4), .val (.int p5), .val (.int p6), .val (.ref b_706), .val (.ref b_711), .val (.ref b_716), .val (.ref b720), .val (.ref b730), .val (.ref b740), .val (.ref b750), .val (.ref b761), .val (.int (2 : Int32)), .val (.int cq), .val (.ref b_790), .val .null, .val (.ref b880), .val (.ref b720), .unset] [.null, (.ref b_790), (.ref b880)])) rfl (by rw [hml]; rfl) (Steps.refl _) (argsL := [(.ref b_790), .null]) (rest := []) (lenOf pd__Ljava_lang_String_Ljava_lang_String__Ljava_lang_String_ rfl) rfl (by show 2 * 0 + _ ≤ _; exact Nat.le_of_eq rfl) (hb hby at_302) (fun _ _ => ⟨rfl, e914, (by decide : 20 + 0 ≤ _), (by decide : 47 + 0 ≤ _)⟩)
          dsimp only [Pt.U, Pt.locs, Pt.cells, Pt.slots] at X915 l915 y915 z915 st915 hQ915
          rw [l915, y915, z915] at X915
          obtain ⟨rfl, N915q, e915⟩ := hQ915
          have N915 := Fr.app N914 N915q
          obtain ⟨fs, hr, hrun, hended, hW, hsame⟩ := X915.leave (v := some (.int (1 : Int32))) (fun h => by rw [Bd.returns] at h; cases h)
          refine ⟨_, _, pre913 _ ?_, hrun, hended, _, _, rfl, ?_, ⟨_, rfl⟩, hW, hsame.mono (by decide) (by decide)⟩
          · show Steps p.tables e below (T882.setTop (mkF m 233 #[.val (.int p1), .val (.int p2), .val (.int p3), .val (.int p4), .val (.int p5), .val (.int p6), .val (.ref b_706), .val (.ref b_711), .val (.ref b_716), .val (.ref b720), .val (.ref b730), .val (.ref b740), .val (.ref b750), .val (.ref b761), .val (.int (2 : Int32)), .val (.int cq), .val (.ref b_790), .val .null, .val (.ref b880), .unset, .unset] [(.ref b_790), (.ref b_706)])) _
            refine st914.trans ?_
            refine XS.ifNo X914.here hx rfl (hb hby at_236) rfl ((if0 _ _).trans (feq (by decide)).1) ?_
            refine XS.aload X914.here hx rfl (hb hby at_239) rfl rfl ?_
            refine XS.astore X914.here hx rfl (hb hby at_241) rfl rfl (l' := #[.val (.int p1), .val (.int p2), .val (.int p3), .val (.int p4), .val (.int p5), .val (.int p6), .val (.ref b_706), .val (.ref b_711), .val (.ref b_716), .val (.ref b720), .val (.ref b730), .val (.ref b740), .val (.ref b750), .val (.ref b761), .val (.int (2 : Int32)), .val (.int cq), .val (.ref b_790), .val .null, .val (.ref b880), .val (.ref b720), .unset]) rfl ?_
            refine XS.goto X914.here hx rfl (pc0 := 243) (pc' := 296) rfl (hb hby at_243) (by decide) (by decide) ?_
            refine XS.aload X914.here hx rfl (hb hby at_296) rfl rfl ?_
            show Steps p.tables e below (T914.setTop (mkF m 298 #[.val (.int p1), .val (.int p2), .val (.int p3), .val (.int p4), .val (.int p5), .val (.int p6), .val (.ref b_706), .val (.ref b_711), .val (.ref b_716), .val (.ref b720), .val (.ref b730), .val (.ref b740), .val (.ref b750), .val (.ref b761), .val (.int (2 : Int32)), .val (.int cq), .val (.ref b_790), .val .null, .val (.ref b880), .val (.ref b720), .unset] [(.ref b880)])) _
            refine XS.aload X914.here hx rfl (hb hby at_298) rfl rfl ?_
            refine XS.aload X914.here hx rfl (hb hby at_300) rfl rfl ?_
            refine st915.trans ?_
            refine XS.astore X915.here hx rfl (hb hby at_305) rfl rfl (l' := #[.val (.int p1), .val (.int p2), .val (.int p3), .val (.int p4), .val (.int p5), .val (.int p6), .val (.ref b_706), .val (.ref b_711), .val (.ref b_716), .val (.ref b720), .val (.ref b730), .val (.ref b740), .val (.ref b750), .val (.ref b761), .val (.int (2 : Int32)), .val (.int cq), .val (.ref b_790), .val .null, .val (.ref b880), .val (.ref b720), .val (.ref b720)]) rfl ?_
            refine XS.aload X915.here hx rfl (hb hby at_307) rfl rfl ?_
            refine XS.aload X915.here hx rfl (hb hby at_309) rfl rfl ?_
            refine Jvm.RoadKit.acmp (g := (mkF m 311 #[.val (.int p1), .val (.int p2), .val (.int p3), .val (.int p4), .val (.int p5), .val (.int p6), .val (.ref b_706), .val (.ref b_711), .val (.ref b_716), .val (.ref b720), .val (.ref b730), .val (.ref b740), .val (.ref b750), .val (.ref b761), .val (.int (2 : Int32)), .val (.int cq), .val (.ref b_790), .val .null, .val (.ref b880), .val (.ref b720), .val (.ref b720)] [(.ref b720), (.ref b720)])) X915 hx rfl rfl rfl (pc0 := 311) (pc' := 314) (same := true) rfl (hb hby at_311) rfl (decide_eq_true rfl) (by decide) (by decide) ?_
            refine XS.iconst X915.here hx rfl (hb hby at_314) ?_
            refine XS.goto X915.here hx rfl (pc0 := 315) (pc' := 319) rfl (hb hby at_315) (by decide) (by decide) ?_
            exact retN X915 hx (t := .boolean) Bd.returns (by simp) (hb hby at_319) hr
          · show Q_rm0 Z p1 p2 p3 p4 p5 p6 wz h0 n0 _ T915.heap _
            rw [e915]
            exact ⟨rfl, N915, trivial⟩
        · obtain ⟨cq916, kq916, q916a, q916b, q916c⟩ := isOf hZ rfl (f885)
          obtain ⟨_, _, ⟨T916, L916, k916, n916⟩, -, X916, ⟨Lc916, hQ916, l916, y916, z916⟩, st916⟩ := X882.virtualBack hx (y := (⟨"java/lang/String", "equals", "(Ljava/lang/Object;)Z"⟩ : MethodName)) (z := (⟨"java/lang/String", "equals", "(Ljava/lang/Object;)Z"⟩ : MethodName)) hown (mvT hZ (wd_58 hw)) (mvT hZ (wd_59 hw)) (notFace_of_selects (args := #[]) (mvT hZ (wd_61 hw))) (mvT hZ (wd_61 hw)) (mvT hZ (wd_60 hw)) (by decide) (backOf (W := 0) (rmeq110 l Z a0 hw [] b_706 b_790 t_706 t_790 wz kb_706 kb_790 (nar .byte (cA.toInt8.toInt32)) (nar .byte (cq.toInt8.toInt32)) T882.heap n0 Z883 f885 f899 f886 f900 f887 f901 f888 f902 f884 S_COMPACT_STRINGS hz ne_b_706_b_790 hc233_912) hZ (wd_62 hw) (wd_2 hw) (by decide) (by decide)) q916a q916c (g := (mkF m 233 #[.val (.int p1), .val (.int p2), .val (.int p3), .val (.int p4), .val (.int p5), .val (.int p6), .val (.ref b_706), .val (.ref b_711), .val (.ref b_716), .val (.ref b720), .val (.ref b730), .val (.ref b740), .val (.ref b750), .val (.ref b761), .val (.int (2 : Int32)), .val (.int cq), .val (.ref b_790), .val .null, .val (.ref b880), .unset, .unset] [(.ref b_790), (.ref b_706)])) rfl (by rw [hml]; rfl) (Steps.refl _) (argsL := [(.ref b_790)]) (rest := []) (lenOf pd__Ljava_lang_Object__Z rfl) rfl (by show 2 * 0 + _ ≤ _; exact Nat.le_of_eq rfl) (hb hby at_233) (fun _ _ => ⟨rfl, rfl, (by decide : 20 + 0 ≤ _), (by decide : 47 + 0 ≤ _)⟩)
          dsimp only [Pt.U, Pt.locs, Pt.cells, Pt.slots] at X916 l916 y916 z916 st916 hQ916
          rw [l916, y916, z916] at X916
          obtain ⟨rfl, N916q, e916⟩ := hQ916
          have N916 := Fr.app N882 N916q
          have pre918 : ∀ t, Steps p.tables e below (T916.setTop (mkF m 256 #[.val (.int p1), .val (.int p2), .val (.int p3), .val (.int p4), .val (.int p5), .val (.int p6), .val (.ref b_706), .val (.ref b_711), .val (.ref b_716), .val (.ref b720), .val (.ref b730), .val (.ref b740), .val (.ref b750), .val (.ref b761), .val (.int (2 : Int32)), .val (.int cq), .val (.ref b_790), .val .null, .val (.ref b880), .unset, .unset] [(.ref b_790), (.ref b_711)])) t → Steps p.tables e below (s₁.setTop (entryFrame m #[(.int p1), (.int p2), (.int p3), (.int p4), (.int p5), (.int p6)] maxLocals)) t := by
            intro t kt
            refine pre913 _ ?_
            show Steps p.tables e below (T882.setTop (mkF m 233 #[.val (.int p1), .val (.int p2), .val (.int p3), .val (.int p4), .val (.int p5), .val (.int p6), .val (.ref b_706), .val (.ref b_711), .val (.ref b_716), .val (.ref b720), .val (.ref b730), .val (.ref b740), .val (.ref b750), .val (.ref b761), .val (.int (2 : Int32)), .val (.int cq), .val (.ref b_790), .val .null, .val (.ref b880), .unset, .unset] [(.ref b_790), (.ref b_706)])) _
            refine st916.trans ?_
            refine XS.ifYes X916.here hx rfl (pc0 := 236) (pc' := 246) rfl (hb hby at_236) rfl ((if0 _ _).trans (teq (rfl : (0 : Int32) = (0 : Int32))).1) (by decide) (by decide) ?_
            refine XS.iload X916.here hx rfl (hb hby at_246) rfl ?_
            refine XS.iconst X916.here hx rfl (hb hby at_248) ?_
            refine XS.icmpNo X916.here hx rfl (hb hby at_249) rfl (tlt (by decide)).2.2.2 ?_
            refine XS.aload X916.here hx rfl (hb hby at_252) rfl rfl ?_
            show Steps p.tables e below (T916.setTop (mkF m 254 #[.val (.int p1), .val (.int p2), .val (.int p3), .val (.int p4), .val (.int p5), .val (.int p6), .val (.ref b_706), .val (.ref b_711), .val (.ref b_716), .val (.ref b720), .val (.ref b730), .val (.ref b740), .val (.ref b750), .val (.ref b761), .val (.int (2 : Int32)), .val (.int cq), .val (.ref b_790), .val .null, .val (.ref b880), .unset, .unset] [(.ref b_711)])) _
            refine XS.aload X916.here hx rfl (hb hby at_254) rfl rfl ?_
            exact kt
          by_cases hc256_917 : (nar .byte (cB.toInt8.toInt32)) = (nar .byte (cq.toInt8.toInt32))
          · obtain ⟨cq919, kq919, q919a, q919b, q919c⟩ := isOf hZ e916 (f889)
            obtain ⟨_, _, ⟨T919, L919, k919, n919⟩, -, X919, ⟨Lc919, hQ919, l919, y919, z919⟩, st919⟩ := X916.virtualBack hx (y := (⟨"java/lang/String", "equals", "(Ljava/lang/Object;)Z"⟩ : MethodName)) (z := (⟨"java/lang/String", "equals", "(Ljava/lang/Object;)Z"⟩ : MethodName)) hown (mvT hZ (wd_58 hw)) (mvT hZ (wd_59 hw)) (notFace_of_selects (args := #[]) (mvT hZ (wd_61 hw))) (mvT hZ (wd_61 hw)) (mvT hZ (wd_60 hw)) (by decide) (backOf (W := 0) (rmeq11eq l Z a0 hw [] b_711 b_790 t_711 t_790 wz kb_711 kb_790 (nar .byte (cB.toInt8.toInt32)) (nar .byte (cq.toInt8.toInt32)) T882.heap n0 Z883 f889 f899 f890 f900 f891 f901 f892 f902 f884 S_COMPACT_STRINGS hz ne_b_711_b_790 hc256_917) hZ (wd_62 hw) (wd_2 hw) (by decide) (by decide)) q919a q919c (g := (mkF m 256 #[.val (.int p1), .val (.int p2), .val (.int p3), .val (.int p4), .val (.int p5), .val (.int p6), .val (.ref b_706), .val (.ref b_711), .val (.ref b_716), .val (.ref b720), .val (.ref b730), .val (.ref b740), .val (.ref b750), .val (.ref b761), .val (.int (2 : Int32)), .val (.int cq), .val (.ref b_790), .val .null, .val (.ref b880), .unset, .unset] [(.ref b_790), (.ref b_711)])) rfl (by rw [hml]; rfl) (Steps.refl _) (argsL := [(.ref b_790)]) (rest := []) (lenOf pd__Ljava_lang_Object__Z rfl) rfl (by show 2 * 0 + _ ≤ _; exact Nat.le_of_eq rfl) (hb hby at_256) (fun _ _ => ⟨rfl, e916, (by decide : 20 + 0 ≤ _), (by decide : 47 + 0 ≤ _)⟩)
            dsimp only [Pt.U, Pt.locs, Pt.cells, Pt.slots] at X919 l919 y919 z919 st919 hQ919
            rw [l919, y919, z919] at X919
            obtain ⟨rfl, N919q, e919⟩ := hQ919
            have N919 := Fr.app N916 N919q
            obtain ⟨cq920, kq920, q920a, q920b, q920c⟩ := isOf hZ e919 (f903)
            obtain ⟨_, _, ⟨T920, L920, k920, n920⟩, -, X920, ⟨Lc920, hQ920, l920, y920, z920⟩, st920⟩ := X919.virtualBack hx (y := (⟨"com/example/kawi/kawi/xml/Attributes", "getOrDefault", "(Ljava/lang/String;Ljava/lang/String;)Ljava/lang/String;"⟩ : MethodName)) (z := (⟨"com/example/kawi/kawi/xml/Attributes", "getOrDefault", "(Ljava/lang/String;Ljava/lang/String;)Ljava/lang/String;"⟩ : MethodName)) hown (mvT hZ (wd_66 hw)) (mvT hZ (wd_67 hw)) (notFace_of_selects (args := #[]) (mvT hZ (wd_69 hw))) (mvT hZ (wd_69 hw)) (mvT hZ (wd_68 hw)) (by decide) (backOf (W := 0) (rmg211n l Z a0 hw [] b880 b_790 b750 b761 k750 k761 b_706 b_711 b_716 b720 b730 b740 t_706 t_711 kb_706 kb_711 (nar .byte (cA.toInt8.toInt32)) (nar .byte (cB.toInt8.toInt32)) (nar .byte (cq.toInt8.toInt32)) t_790 kb_790 wz T882.heap n0 Z883 g882_0 g882_1 g882_2 f897 f898 f885 f886 f887 f888 ne_b_706_b_790 f889 f890 f891 f892 ne_b_711_b_790 f899 f900 f901 f902 f884 S_COMPACT_STRINGS hz hc233_912 hc256_917) hZ (wd_70 hw) (wd_47 hw) (by decide) (by decide)) q920a q920c (g := (mkF m 302 #[.val (.int p1), .val (.int p2), .val (.int p3), .val (.int p4), .val (.int p5), .val (.int p6), .val (.ref b_706), .val (.ref b_711), .val (.ref b_716), .val (.ref b720), .val (.ref b730), .val (.ref b740), .val (.ref b750), .val (.ref b761), .val (.int (2 : Int32)), .val (.int cq), .val (.ref b_790), .val .null, .val (.ref b880), .val (.ref b730), .unset] [.null, (.ref b_790), (.ref b880)])) rfl (by rw [hml]; rfl) (Steps.refl _) (argsL := [(.ref b_790), .null]) (rest := []) (lenOf pd__Ljava_lang_String_Ljava_lang_String__Ljava_lang_String_ rfl) rfl (by show 2 * 0 + _ ≤ _; exact Nat.le_of_eq rfl) (hb hby at_302) (fun _ _ => ⟨rfl, e919, (by decide : 20 + 0 ≤ _), (by decide : 47 + 0 ≤ _)⟩)
            dsimp only [Pt.U, Pt.locs, Pt.cells, Pt.slots] at X920 l920 y920 z920 st920 hQ920
            rw [l920, y920, z920] at X920
            obtain ⟨rfl, N920q, e920⟩ := hQ920
            have N920 := Fr.app N919 N920q
            obtain ⟨fs, hr, hrun, hended, hW, hsame⟩ := X920.leave (v := some (.int (1 : Int32))) (fun h => by rw [Bd.returns] at h; cases h)
            refine ⟨_, _, pre918 _ ?_, hrun, hended, _, _, rfl, ?_, ⟨_, rfl⟩, hW, hsame.mono (by decide) (by decide)⟩
            · show Steps p.tables e below (T916.setTop (mkF m 256 #[.val (.int p1), .val (.int p2), .val (.int p3), .val (.int p4), .val (.int p5), .val (.int p6), .val (.ref b_706), .val (.ref b_711), .val (.ref b_716), .val (.ref b720), .val (.ref b730), .val (.ref b740), .val (.ref b750), .val (.ref b761), .val (.int (2 : Int32)), .val (.int cq), .val (.ref b_790), .val .null, .val (.ref b880), .unset, .unset] [(.ref b_790), (.ref b_711)])) _
              refine st919.trans ?_
              refine XS.ifNo X919.here hx rfl (hb hby at_259) rfl ((if0 _ _).trans (feq (by decide)).1) ?_
              refine XS.aload X919.here hx rfl (hb hby at_262) rfl rfl ?_
              refine XS.astore X919.here hx rfl (hb hby at_264) rfl rfl (l' := #[.val (.int p1), .val (.int p2), .val (.int p3), .val (.int p4), .val (.int p5), .val (.int p6), .val (.ref b_706), .val (.ref b_711), .val (.ref b_716), .val (.ref b720), .val (.ref b730), .val (.ref b740), .val (.ref b750), .val (.ref b761), .val (.int (2 : Int32)), .val (.int cq), .val (.ref b_790), .val .null, .val (.ref b880), .val (.ref b730), .unset]) rfl ?_
              refine XS.goto X919.here hx rfl (pc0 := 266) (pc' := 296) rfl (hb hby at_266) (by decide) (by decide) ?_
              refine XS.aload X919.here hx rfl (hb hby at_296) rfl rfl ?_
              refine XS.aload X919.here hx rfl (hb hby at_298) rfl rfl ?_
              refine XS.aload X919.here hx rfl (hb hby at_300) rfl rfl ?_
              refine st920.trans ?_
              show Steps p.tables e below (T920.setTop (mkF m 305 #[.val (.int p1), .val (.int p2), .val (.int p3), .val (.int p4), .val (.int p5), .val (.int p6), .val (.ref b_706), .val (.ref b_711), .val (.ref b_716), .val (.ref b720), .val (.ref b730), .val (.ref b740), .val (.ref b750), .val (.ref b761), .val (.int (2 : Int32)), .val (.int cq), .val (.ref b_790), .val .null, .val (.ref b880), .val (.ref b730), .unset] [(.ref b730)])) _
              refine XS.astore X920.here hx rfl (hb hby at_305) rfl rfl (l' := #[.val (.int p1), .val (.int p2), .val (.int p3), .val (.int p4), .val (.int p5), .val (.int p6), .val (.ref b_706), .val (.ref b_711), .val (.ref b_716), .val (.ref b720), .val (.ref b730), .val (.ref b740), .val (.ref b750), .val (.ref b761), .val (.int (2 : Int32)), .val (.int cq), .val (.ref b_790), .val .null, .val (.ref b880), .val (.ref b730), .val (.ref b730)]) rfl ?_
              refine XS.aload X920.here hx rfl (hb hby at_307) rfl rfl ?_
              refine XS.aload X920.here hx rfl (hb hby at_309) rfl rfl ?_
              refine Jvm.RoadKit.acmp (g := (mkF m 311 #[.val (.int p1), .val (.int p2), .val (.int p3), .val (.int p4), .val (.int p5), .val (.int p6), .val (.ref b_706), .val (.ref b_711), .val (.ref b_716), .val (.ref b720), .val (.ref b730), .val (.ref b740), .val (.ref b750), .val (.ref b761), .val (.int (2 : Int32)), .val (.int cq), .val (.ref b_790), .val .null, .val (.ref b880), .val (.ref b730), .val (.ref b730)] [(.ref b730), (.ref b730)])) X920 hx rfl rfl rfl (pc0 := 311) (pc' := 314) (same := true) rfl (hb hby at_311) rfl (decide_eq_true rfl) (by decide) (by decide) ?_
              refine XS.iconst X920.here hx rfl (hb hby at_314) ?_
              refine XS.goto X920.here hx rfl (pc0 := 315) (pc' := 319) rfl (hb hby at_315) (by decide) (by decide) ?_
              exact retN X920 hx (t := .boolean) Bd.returns (by simp) (hb hby at_319) hr
            · show Q_rm0 Z p1 p2 p3 p4 p5 p6 wz h0 n0 _ T920.heap _
              rw [e920]
              exact ⟨rfl, N920, trivial⟩
          · obtain ⟨cq921, kq921, q921a, q921b, q921c⟩ := isOf hZ e916 (f889)
            obtain ⟨_, _, ⟨T921, L921, k921, n921⟩, -, X921, ⟨Lc921, hQ921, l921, y921, z921⟩, st921⟩ := X916.virtualBack hx (y := (⟨"java/lang/String", "equals", "(Ljava/lang/Object;)Z"⟩ : MethodName)) (z := (⟨"java/lang/String", "equals", "(Ljava/lang/Object;)Z"⟩ : MethodName)) hown (mvT hZ (wd_58 hw)) (mvT hZ (wd_59 hw)) (notFace_of_selects (args := #[]) (mvT hZ (wd_61 hw))) (mvT hZ (wd_61 hw)) (mvT hZ (wd_60 hw)) (by decide) (backOf (W := 0) (rmeq110 l Z a0 hw [] b_711 b_790 t_711 t_790 wz kb_711 kb_790 (nar .byte (cB.toInt8.toInt32)) (nar .byte (cq.toInt8.toInt32)) T882.heap n0 Z883 f889 f899 f890 f900 f891 f901 f892 f902 f884 S_COMPACT_STRINGS hz ne_b_711_b_790 hc256_917) hZ (wd_62 hw) (wd_2 hw) (by decide) (by decide)) q921a q921c (g := (mkF m 256 #[.val (.int p1), .val (.int p2), .val (.int p3), .val (.int p4), .val (.int p5), .val (.int p6), .val (.ref b_706), .val (.ref b_711), .val (.ref b_716), .val (.ref b720), .val (.ref b730), .val (.ref b740), .val (.ref b750), .val (.ref b761), .val (.int (2 : Int32)), .val (.int cq), .val (.ref b_790), .val .null, .val (.ref b880), .unset, .unset] [(.ref b_790), (.ref b_711)])) rfl (by rw [hml]; rfl) (Steps.refl _) (argsL := [(.ref b_790)]) (rest := []) (lenOf pd__Ljava_lang_Object__Z rfl) rfl (by show 2 * 0 + _ ≤ _; exact Nat.le_of_eq rfl) (hb hby at_256) (fun _ _ => ⟨rfl, e916, (by decide : 20 + 0 ≤ _), (by decide : 47 + 0 ≤ _)⟩)
            dsimp only [Pt.U, Pt.locs, Pt.cells, Pt.slots] at X921 l921 y921 z921 st921 hQ921
            rw [l921, y921, z921] at X921
            obtain ⟨rfl, N921q, e921⟩ := hQ921
            have N921 := Fr.app N916 N921q
            obtain ⟨cq922, kq922, q922a, q922b, q922c⟩ := isOf hZ e921 (f903)
            obtain ⟨_, _, ⟨T922, L922, k922, n922⟩, -, X922, ⟨Lc922, hQ922, l922, y922, z922⟩, st922⟩ := X921.virtualBack hx (y := (⟨"com/example/kawi/kawi/xml/Attributes", "getOrDefault", "(Ljava/lang/String;Ljava/lang/String;)Ljava/lang/String;"⟩ : MethodName)) (z := (⟨"com/example/kawi/kawi/xml/Attributes", "getOrDefault", "(Ljava/lang/String;Ljava/lang/String;)Ljava/lang/String;"⟩ : MethodName)) hown (mvT hZ (wd_66 hw)) (mvT hZ (wd_67 hw)) (notFace_of_selects (args := #[]) (mvT hZ (wd_69 hw))) (mvT hZ (wd_69 hw)) (mvT hZ (wd_68 hw)) (by decide) (backOf (W := 0) (rmg2x1n l Z a0 hw [] b880 b_790 b750 b761 k750 k761 b_706 b_711 b_716 b720 b730 b740 t_706 t_711 kb_706 kb_711 (nar .byte (cA.toInt8.toInt32)) (nar .byte (cB.toInt8.toInt32)) (nar .byte (cq.toInt8.toInt32)) t_790 kb_790 wz T882.heap n0 Z883 g882_0 g882_1 g882_2 f897 f898 f885 f886 f887 f888 ne_b_706_b_790 f889 f890 f891 f892 ne_b_711_b_790 f899 f900 f901 f902 f884 S_COMPACT_STRINGS hz hc233_912 hc256_917) hZ (wd_70 hw) (wd_47 hw) (by decide) (by decide)) q922a q922c (g := (mkF m 302 #[.val (.int p1), .val (.int p2), .val (.int p3), .val (.int p4), .val (.int p5), .val (.int p6), .val (.ref b_706), .val (.ref b_711), .val (.ref b_716), .val (.ref b720), .val (.ref b730), .val (.ref b740), .val (.ref b750), .val (.ref b761), .val (.int (2 : Int32)), .val (.int cq), .val (.ref b_790), .val .null, .val (.ref b880), .val .null, .unset] [.null, (.ref b_790), (.ref b880)])) rfl (by rw [hml]; rfl) (Steps.refl _) (argsL := [(.ref b_790), .null]) (rest := []) (lenOf pd__Ljava_lang_String_Ljava_lang_String__Ljava_lang_String_ rfl) rfl (by show 2 * 0 + _ ≤ _; exact Nat.le_of_eq rfl) (hb hby at_302) (fun _ _ => ⟨rfl, e921, (by decide : 20 + 0 ≤ _), (by decide : 47 + 0 ≤ _)⟩)
            dsimp only [Pt.U, Pt.locs, Pt.cells, Pt.slots] at X922 l922 y922 z922 st922 hQ922
            rw [l922, y922, z922] at X922
            obtain ⟨rfl, N922q, e922⟩ := hQ922
            have N922 := Fr.app N921 N922q
            obtain ⟨fs, hr, hrun, hended, hW, hsame⟩ := X922.leave (v := some (.int (1 : Int32))) (fun h => by rw [Bd.returns] at h; cases h)
            refine ⟨_, _, pre918 _ ?_, hrun, hended, _, _, rfl, ?_, ⟨_, rfl⟩, hW, hsame.mono (by decide) (by decide)⟩
            · show Steps p.tables e below (T916.setTop (mkF m 256 #[.val (.int p1), .val (.int p2), .val (.int p3), .val (.int p4), .val (.int p5), .val (.int p6), .val (.ref b_706), .val (.ref b_711), .val (.ref b_716), .val (.ref b720), .val (.ref b730), .val (.ref b740), .val (.ref b750), .val (.ref b761), .val (.int (2 : Int32)), .val (.int cq), .val (.ref b_790), .val .null, .val (.ref b880), .unset, .unset] [(.ref b_790), (.ref b_711)])) _
              refine st921.trans ?_
              refine XS.ifYes X921.here hx rfl (pc0 := 259) (pc' := 269) rfl (hb hby at_259) rfl ((if0 _ _).trans (teq (rfl : (0 : Int32) = (0 : Int32))).1) (by decide) (by decide) ?_
              refine XS.iload X921.here hx rfl (hb hby at_269) rfl ?_
              refine XS.iconst X921.here hx rfl (hb hby at_271) ?_
              refine XS.icmpYes X921.here hx rfl (pc0 := 272) (pc' := 292) rfl (hb hby at_272) rfl (flt (by decide)).2.2.2 (by decide) (by decide) ?_
              refine XS.aload X921.here hx rfl (hb hby at_292) rfl rfl ?_
              refine XS.astore X921.here hx rfl (hb hby at_294) rfl rfl (l' := #[.val (.int p1), .val (.int p2), .val (.int p3), .val (.int p4), .val (.int p5), .val (.int p6), .val (.ref b_706), .val (.ref b_711), .val (.ref b_716), .val (.ref b720), .val (.ref b730), .val (.ref b740), .val (.ref b750), .val (.ref b761), .val (.int (2 : Int32)), .val (.int cq), .val (.ref b_790), .val .null, .val (.ref b880), .val .null, .unset]) rfl ?_
              refine XS.aload X921.here hx rfl (hb hby at_296) rfl rfl ?_
              refine XS.aload X921.here hx rfl (hb hby at_298) rfl rfl ?_
              show Steps p.tables e below (T921.setTop (mkF m 300 #[.val (.int p1), .val (.int p2), .val (.int p3), .val (.int p4), .val (.int p5), .val (.int p6), .val (.ref b_706), .val (.ref b_711), .val (.ref b_716), .val (.ref b720), .val (.ref b730), .val (.ref b740), .val (.ref b750), .val (.ref b761), .val (.int (2 : Int32)), .val (.int cq), .val (.ref b_790), .val .null, .val (.ref b880), .val .null, .unset] [(.ref b_790), (.ref b880)])) _
              refine XS.aload X921.here hx rfl (hb hby at_300) rfl rfl ?_
              refine st922.trans ?_
              refine XS.astore X922.here hx rfl (hb hby at_305) rfl rfl (l' := #[.val (.int p1), .val (.int p2), .val (.int p3), .val (.int p4), .val (.int p5), .val (.int p6), .val (.ref b_706), .val (.ref b_711), .val (.ref b_716), .val (.ref b720), .val (.ref b730), .val (.ref b740), .val (.ref b750), .val (.ref b761), .val (.int (2 : Int32)), .val (.int cq), .val (.ref b_790), .val .null, .val (.ref b880), .val .null, .val .null]) rfl ?_
              refine XS.aload X922.here hx rfl (hb hby at_307) rfl rfl ?_
              refine XS.aload X922.here hx rfl (hb hby at_309) rfl rfl ?_
              refine Jvm.RoadKit.acmp (g := (mkF m 311 #[.val (.int p1), .val (.int p2), .val (.int p3), .val (.int p4), .val (.int p5), .val (.int p6), .val (.ref b_706), .val (.ref b_711), .val (.ref b_716), .val (.ref b720), .val (.ref b730), .val (.ref b740), .val (.ref b750), .val (.ref b761), .val (.int (2 : Int32)), .val (.int cq), .val (.ref b_790), .val .null, .val (.ref b880), .val .null, .val .null] [.null, .null])) X922 hx rfl rfl rfl (pc0 := 311) (pc' := 314) (same := true) rfl (hb hby at_311) rfl (decide_eq_true rfl) (by decide) (by decide) ?_
              refine XS.iconst X922.here hx rfl (hb hby at_314) ?_
              refine XS.goto X922.here hx rfl (pc0 := 315) (pc' := 319) rfl (hb hby at_315) (by decide) (by decide) ?_
              exact retN X922 hx (t := .boolean) Bd.returns (by simp) (hb hby at_319) hr
            · show Q_rm0 Z p1 p2 p3 p4 p5 p6 wz h0 n0 _ T922.heap _
              rw [e922]
              exact ⟨rfl, N922, trivial⟩
      · have pre924 : ∀ t, Steps p.tables e below (T882.setTop (mkF m 233 #[.val (.int p1), .val (.int p2), .val (.int p3), .val (.int p4), .val (.int p5), .val (.int p6), .val (.ref b_706), .val (.ref b_711), .val (.ref b_716), .val (.ref b720), .val (.ref b730), .val (.ref b740), .val (.ref b750), .val (.ref b761), .val (.int (3 : Int32)), .val (.int cq), .val (.ref b_790), .val .null, .val (.ref b880), .unset, .unset] [(.ref b_790), (.ref b_706)])) t → Steps p.tables e below (s₁.setTop (entryFrame m #[(.int p1), (.int p2), (.int p3), (.int p4), (.int p5), (.int p6)] maxLocals)) t := by
          intro t kt
          refine pre904 _ ?_
          show Steps p.tables e below (T882.setTop (mkF m 224 #[.val (.int p1), .val (.int p2), .val (.int p3), .val (.int p4), .val (.int p5), .val (.int p6), .val (.ref b_706), .val (.ref b_711), .val (.ref b_716), .val (.ref b720), .val (.ref b730), .val (.ref b740), .val (.ref b750), .val (.ref b761), .val (.int (3 : Int32)), .val (.int cq), .val (.ref b_790), .val .null, .val (.ref b880), .unset, .unset] [])) _
          refine XS.iload X882.here hx rfl (hb hby at_224) rfl ?_
          refine XS.ifNo X882.here hx rfl (hb hby at_226) rfl ((if0 _ _).trans (tlt (by decide)).2.2.2) ?_
          refine XS.aload X882.here hx rfl (hb hby at_229) rfl rfl ?_
          refine XS.aload X882.here hx rfl (hb hby at_231) rfl rfl ?_
          exact kt
        by_cases hc233_923 : (nar .byte (cA.toInt8.toInt32)) = (nar .byte (cq.toInt8.toInt32))
        · obtain ⟨cq925, kq925, q925a, q925b, q925c⟩ := isOf hZ rfl (f885)
          obtain ⟨_, _, ⟨T925, L925, k925, n925⟩, -, X925, ⟨Lc925, hQ925, l925, y925, z925⟩, st925⟩ := X882.virtualBack hx (y := (⟨"java/lang/String", "equals", "(Ljava/lang/Object;)Z"⟩ : MethodName)) (z := (⟨"java/lang/String", "equals", "(Ljava/lang/Object;)Z"⟩ : MethodName)) hown (mvT hZ (wd_58 hw)) (mvT hZ (wd_59 hw)) (notFace_of_selects (args := #[]) (mvT hZ (wd_61 hw))) (mvT hZ (wd_61 hw)) (mvT hZ (wd_60 hw)) (by decide) (backOf (W := 0) (rmeq11eq l Z a0 hw [] b_706 b_790 t_706 t_790 wz kb_706 kb_790 (nar .byte (cA.toInt8.toInt32)) (nar .byte (cq.toInt8.toInt32)) T882.heap n0 Z883 f885 f899 f886 f900 f887 f901 f888 f902 f884 S_COMPACT_STRINGS hz ne_b_706_b_790 hc233_923) hZ (wd_62 hw) (wd_2 hw) (by decide) (by decide)) q925a q925c (g := (mkF m 233 #[.val (.int p1), .val (.int p2), .val (.int p3), .val (.int p4), .val (.int p5), .val (.int p6), .val (.ref b_706), .val (.ref b_711), .val (.ref b_716), .val (.ref b720), .val (.ref b730), .val (.ref b740), .val (.ref b750), .val (.ref b761), .val (.int (3 : Int32)), .val (.int cq), .val (.ref b_790), .val .null, .val (.ref b880), .unset, .unset] [(.ref b_790), (.ref b_706)])) rfl (by rw [hml]; rfl) (Steps.refl _) (argsL := [(.ref b_790)]) (rest := []) (lenOf pd__Ljava_lang_Object__Z rfl) rfl (by show 2 * 0 + _ ≤ _; exact Nat.le_of_eq rfl) (hb hby at_233) (fun _ _ => ⟨rfl, rfl, (by decide : 20 + 0 ≤ _), (by decide : 47 + 0 ≤ _)⟩)
          dsimp only [Pt.U, Pt.locs, Pt.cells, Pt.slots] at X925 l925 y925 z925 st925 hQ925
          rw [l925, y925, z925] at X925
          obtain ⟨rfl, N925q, e925⟩ := hQ925
          have N925 := Fr.app N882 N925q
          obtain ⟨cq926, kq926, q926a, q926b, q926c⟩ := isOf hZ e925 (f903)
          obtain ⟨_, _, ⟨T926, L926, k926, n926⟩, -, X926, ⟨Lc926, hQ926, l926, y926, z926⟩, st926⟩ := X925.virtualBack hx (y := (⟨"com/example/kawi/kawi/xml/Attributes", "getOrDefault", "(Ljava/lang/String;Ljava/lang/String;)Ljava/lang/String;"⟩ : MethodName)) (z := (⟨"com/example/kawi/kawi/xml/Attributes", "getOrDefault", "(Ljava/lang/String;Ljava/lang/String;)Ljava/lang/String;"⟩ : MethodName)) hown (mvT hZ (wd_66 hw)) (mvT hZ (wd_67 hw)) (notFace_of_selects (args := #[]) (mvT hZ (wd_69 hw))) (mvT hZ (wd_69 hw)) (mvT hZ (wd_68 hw)) (by decide) (backOf (W := 0) (rmg301n l Z a0 hw [] b880 b_790 b750 b761 k750 k761 b_706 b_711 b_716 b720 b730 b740 t_706 kb_706 (nar .byte (cA.toInt8.toInt32)) (nar .byte (cq.toInt8.toInt32)) t_790 kb_790 wz T882.heap n0 Z883 g882_0 g882_1 g882_2 f897 f898 f885 f886 f887 f888 ne_b_706_b_790 f899 f900 f901 f902 f884 S_COMPACT_STRINGS hz hc233_923) hZ (wd_70 hw) (wd_47 hw) (by decide) (by decide)) q926a q926c (g := (mkF m 302 #[.val (.int p1), .val (.int p2), .val (.int p3), .val (.int p4), .val (.int p5), .val (.int p6), .val (.ref b_706), .val (.ref b_711), .val (.ref b_716), .val (.ref b720), .val (.ref b730), .val (.ref b740), .val (.ref b750), .val (.ref b761), .val (.int (3 : Int32)), .val (.int cq), .val (.ref b_790), .val .null, .val (.ref b880), .val (.ref b720), .unset] [.null, (.ref b_790), (.ref b880)])) rfl (by rw [hml]; rfl) (Steps.refl _) (argsL := [(.ref b_790), .null]) (rest := []) (lenOf pd__Ljava_lang_String_Ljava_lang_String__Ljava_lang_String_ rfl) rfl (by show 2 * 0 + _ ≤ _; exact Nat.le_of_eq rfl) (hb hby at_302) (fun _ _ => ⟨rfl, e925, (by decide : 20 + 0 ≤ _), (by decide : 47 + 0 ≤ _)⟩)
          dsimp only [Pt.U, Pt.locs, Pt.cells, Pt.slots] at X926 l926 y926 z926 st926 hQ926
          rw [l926, y926, z926] at X926
          obtain ⟨rfl, N926q, e926⟩ := hQ926
          have N926 := Fr.app N925 N926q
          obtain ⟨fs, hr, hrun, hended, hW, hsame⟩ := X926.leave (v := some (.int (1 : Int32))) (fun h => by rw [Bd.returns] at h; cases h)
          refine ⟨_, _, pre924 _ ?_, hrun, hended, _, _, rfl, ?_, ⟨_, rfl⟩, hW, hsame.mono (by decide) (by decide)⟩
          · show Steps p.tables e below (T882.setTop (mkF m 233 #[.val (.int p1), .val (.int p2), .val (.int p3), .val (.int p4), .val (.int p5), .val (.int p6), .val (.ref b_706), .val (.ref b_711), .val (.ref b_716), .val (.ref b720), .val (.ref b730), .val (.ref b740), .val (.ref b750), .val (.ref b761), .val (.int (3 : Int32)), .val (.int cq), .val (.ref b_790), .val .null, .val (.ref b880), .unset, .unset] [(.ref b_790), (.ref b_706)])) _
            refine st925.trans ?_
            refine XS.ifNo X925.here hx rfl (hb hby at_236) rfl ((if0 _ _).trans (feq (by decide)).1) ?_
            refine XS.aload X925.here hx rfl (hb hby at_239) rfl rfl ?_
            refine XS.astore X925.here hx rfl (hb hby at_241) rfl rfl (l' := #[.val (.int p1), .val (.int p2), .val (.int p3), .val (.int p4), .val (.int p5), .val (.int p6), .val (.ref b_706), .val (.ref b_711), .val (.ref b_716), .val (.ref b720), .val (.ref b730), .val (.ref b740), .val (.ref b750), .val (.ref b761), .val (.int (3 : Int32)), .val (.int cq), .val (.ref b_790), .val .null, .val (.ref b880), .val (.ref b720), .unset]) rfl ?_
            refine XS.goto X925.here hx rfl (pc0 := 243) (pc' := 296) rfl (hb hby at_243) (by decide) (by decide) ?_
            refine XS.aload X925.here hx rfl (hb hby at_296) rfl rfl ?_
            show Steps p.tables e below (T925.setTop (mkF m 298 #[.val (.int p1), .val (.int p2), .val (.int p3), .val (.int p4), .val (.int p5), .val (.int p6), .val (.ref b_706), .val (.ref b_711), .val (.ref b_716), .val (.ref b720), .val (.ref b730), .val (.ref b740), .val (.ref b750), .val (.ref b761), .val (.int (3 : Int32)), .val (.int cq), .val (.ref b_790), .val .null, .val (.ref b880), .val (.ref b720), .unset] [(.ref b880)])) _
            refine XS.aload X925.here hx rfl (hb hby at_298) rfl rfl ?_
            refine XS.aload X925.here hx rfl (hb hby at_300) rfl rfl ?_
            refine st926.trans ?_
            refine XS.astore X926.here hx rfl (hb hby at_305) rfl rfl (l' := #[.val (.int p1), .val (.int p2), .val (.int p3), .val (.int p4), .val (.int p5), .val (.int p6), .val (.ref b_706), .val (.ref b_711), .val (.ref b_716), .val (.ref b720), .val (.ref b730), .val (.ref b740), .val (.ref b750), .val (.ref b761), .val (.int (3 : Int32)), .val (.int cq), .val (.ref b_790), .val .null, .val (.ref b880), .val (.ref b720), .val (.ref b720)]) rfl ?_
            refine XS.aload X926.here hx rfl (hb hby at_307) rfl rfl ?_
            refine XS.aload X926.here hx rfl (hb hby at_309) rfl rfl ?_
            refine Jvm.RoadKit.acmp (g := (mkF m 311 #[.val (.int p1), .val (.int p2), .val (.int p3), .val (.int p4), .val (.int p5), .val (.int p6), .val (.ref b_706), .val (.ref b_711), .val (.ref b_716), .val (.ref b720), .val (.ref b730), .val (.ref b740), .val (.ref b750), .val (.ref b761), .val (.int (3 : Int32)), .val (.int cq), .val (.ref b_790), .val .null, .val (.ref b880), .val (.ref b720), .val (.ref b720)] [(.ref b720), (.ref b720)])) X926 hx rfl rfl rfl (pc0 := 311) (pc' := 314) (same := true) rfl (hb hby at_311) rfl (decide_eq_true rfl) (by decide) (by decide) ?_
            refine XS.iconst X926.here hx rfl (hb hby at_314) ?_
            refine XS.goto X926.here hx rfl (pc0 := 315) (pc' := 319) rfl (hb hby at_315) (by decide) (by decide) ?_
            exact retN X926 hx (t := .boolean) Bd.returns (by simp) (hb hby at_319) hr
          · show Q_rm0 Z p1 p2 p3 p4 p5 p6 wz h0 n0 _ T926.heap _
            rw [e926]
            exact ⟨rfl, N926, trivial⟩
        · obtain ⟨cq927, kq927, q927a, q927b, q927c⟩ := isOf hZ rfl (f885)
          obtain ⟨_, _, ⟨T927, L927, k927, n927⟩, -, X927, ⟨Lc927, hQ927, l927, y927, z927⟩, st927⟩ := X882.virtualBack hx (y := (⟨"java/lang/String", "equals", "(Ljava/lang/Object;)Z"⟩ : MethodName)) (z := (⟨"java/lang/String", "equals", "(Ljava/lang/Object;)Z"⟩ : MethodName)) hown (mvT hZ (wd_58 hw)) (mvT hZ (wd_59 hw)) (notFace_of_selects (args := #[]) (mvT hZ (wd_61 hw))) (mvT hZ (wd_61 hw)) (mvT hZ (wd_60 hw)) (by decide) (backOf (W := 0) (rmeq110 l Z a0 hw [] b_706 b_790 t_706 t_790 wz kb_706 kb_790 (nar .byte (cA.toInt8.toInt32)) (nar .byte (cq.toInt8.toInt32)) T882.heap n0 Z883 f885 f899 f886 f900 f887 f901 f888 f902 f884 S_COMPACT_STRINGS hz ne_b_706_b_790 hc233_923) hZ (wd_62 hw) (wd_2 hw) (by decide) (by decide)) q927a q927c (g := (mkF m 233 #[.val (.int p1), .val (.int p2), .val (.int p3), .val (.int p4), .val (.int p5), .val (.int p6), .val (.ref b_706), .val (.ref b_711), .val (.ref b_716), .val (.ref b720), .val (.ref b730), .val (.ref b740), .val (.ref b750), .val (.ref b761), .val (.int (3 : Int32)), .val (.int cq), .val (.ref b_790), .val .null, .val (.ref b880), .unset, .unset] [(.ref b_790), (.ref b_706)])) rfl (by rw [hml]; rfl) (Steps.refl _) (argsL := [(.ref b_790)]) (rest := []) (lenOf pd__Ljava_lang_Object__Z rfl) rfl (by show 2 * 0 + _ ≤ _; exact Nat.le_of_eq rfl) (hb hby at_233) (fun _ _ => ⟨rfl, rfl, (by decide : 20 + 0 ≤ _), (by decide : 47 + 0 ≤ _)⟩)
          dsimp only [Pt.U, Pt.locs, Pt.cells, Pt.slots] at X927 l927 y927 z927 st927 hQ927
          rw [l927, y927, z927] at X927
          obtain ⟨rfl, N927q, e927⟩ := hQ927
          have N927 := Fr.app N882 N927q
          have pre929 : ∀ t, Steps p.tables e below (T927.setTop (mkF m 256 #[.val (.int p1), .val (.int p2), .val (.int p3), .val (.int p4), .val (.int p5), .val (.int p6), .val (.ref b_706), .val (.ref b_711), .val (.ref b_716), .val (.ref b720), .val (.ref b730), .val (.ref b740), .val (.ref b750), .val (.ref b761), .val (.int (3 : Int32)), .val (.int cq), .val (.ref b_790), .val .null, .val (.ref b880), .unset, .unset] [(.ref b_790), (.ref b_711)])) t → Steps p.tables e below (s₁.setTop (entryFrame m #[(.int p1), (.int p2), (.int p3), (.int p4), (.int p5), (.int p6)] maxLocals)) t := by
            intro t kt
            refine pre924 _ ?_
            show Steps p.tables e below (T882.setTop (mkF m 233 #[.val (.int p1), .val (.int p2), .val (.int p3), .val (.int p4), .val (.int p5), .val (.int p6), .val (.ref b_706), .val (.ref b_711), .val (.ref b_716), .val (.ref b720), .val (.ref b730), .val (.ref b740), .val (.ref b750), .val (.ref b761), .val (.int (3 : Int32)), .val (.int cq), .val (.ref b_790), .val .null, .val (.ref b880), .unset, .unset] [(.ref b_790), (.ref b_706)])) _
            refine st927.trans ?_
            refine XS.ifYes X927.here hx rfl (pc0 := 236) (pc' := 246) rfl (hb hby at_236) rfl ((if0 _ _).trans (teq (rfl : (0 : Int32) = (0 : Int32))).1) (by decide) (by decide) ?_
            refine XS.iload X927.here hx rfl (hb hby at_246) rfl ?_
            refine XS.iconst X927.here hx rfl (hb hby at_248) ?_
            refine XS.icmpNo X927.here hx rfl (hb hby at_249) rfl (tlt (by decide)).2.2.2 ?_
            refine XS.aload X927.here hx rfl (hb hby at_252) rfl rfl ?_
            show Steps p.tables e below (T927.setTop (mkF m 254 #[.val (.int p1), .val (.int p2), .val (.int p3), .val (.int p4), .val (.int p5), .val (.int p6), .val (.ref b_706), .val (.ref b_711), .val (.ref b_716), .val (.ref b720), .val (.ref b730), .val (.ref b740), .val (.ref b750), .val (.ref b761), .val (.int (3 : Int32)), .val (.int cq), .val (.ref b_790), .val .null, .val (.ref b880), .unset, .unset] [(.ref b_711)])) _
            refine XS.aload X927.here hx rfl (hb hby at_254) rfl rfl ?_
            exact kt
          by_cases hc256_928 : (nar .byte (cB.toInt8.toInt32)) = (nar .byte (cq.toInt8.toInt32))
          · obtain ⟨cq930, kq930, q930a, q930b, q930c⟩ := isOf hZ e927 (f889)
            obtain ⟨_, _, ⟨T930, L930, k930, n930⟩, -, X930, ⟨Lc930, hQ930, l930, y930, z930⟩, st930⟩ := X927.virtualBack hx (y := (⟨"java/lang/String", "equals", "(Ljava/lang/Object;)Z"⟩ : MethodName)) (z := (⟨"java/lang/String", "equals", "(Ljava/lang/Object;)Z"⟩ : MethodName)) hown (mvT hZ (wd_58 hw)) (mvT hZ (wd_59 hw)) (notFace_of_selects (args := #[]) (mvT hZ (wd_61 hw))) (mvT hZ (wd_61 hw)) (mvT hZ (wd_60 hw)) (by decide) (backOf (W := 0) (rmeq11eq l Z a0 hw [] b_711 b_790 t_711 t_790 wz kb_711 kb_790 (nar .byte (cB.toInt8.toInt32)) (nar .byte (cq.toInt8.toInt32)) T882.heap n0 Z883 f889 f899 f890 f900 f891 f901 f892 f902 f884 S_COMPACT_STRINGS hz ne_b_711_b_790 hc256_928) hZ (wd_62 hw) (wd_2 hw) (by decide) (by decide)) q930a q930c (g := (mkF m 256 #[.val (.int p1), .val (.int p2), .val (.int p3), .val (.int p4), .val (.int p5), .val (.int p6), .val (.ref b_706), .val (.ref b_711), .val (.ref b_716), .val (.ref b720), .val (.ref b730), .val (.ref b740), .val (.ref b750), .val (.ref b761), .val (.int (3 : Int32)), .val (.int cq), .val (.ref b_790), .val .null, .val (.ref b880), .unset, .unset] [(.ref b_790), (.ref b_711)])) rfl (by rw [hml]; rfl) (Steps.refl _) (argsL := [(.ref b_790)]) (rest := []) (lenOf pd__Ljava_lang_Object__Z rfl) rfl (by show 2 * 0 + _ ≤ _; exact Nat.le_of_eq rfl) (hb hby at_256) (fun _ _ => ⟨rfl, e927, (by decide : 20 + 0 ≤ _), (by decide : 47 + 0 ≤ _)⟩)
            dsimp only [Pt.U, Pt.locs, Pt.cells, Pt.slots] at X930 l930 y930 z930 st930 hQ930
            rw [l930, y930, z930] at X930
            obtain ⟨rfl, N930q, e930⟩ := hQ930
            have N930 := Fr.app N927 N930q
            obtain ⟨cq931, kq931, q931a, q931b, q931c⟩ := isOf hZ e930 (f903)
            obtain ⟨_, _, ⟨T931, L931, k931, n931⟩, -, X931, ⟨Lc931, hQ931, l931, y931, z931⟩, st931⟩ := X930.virtualBack hx (y := (⟨"com/example/kawi/kawi/xml/Attributes", "getOrDefault", "(Ljava/lang/String;Ljava/lang/String;)Ljava/lang/String;"⟩ : MethodName)) (z := (⟨"com/example/kawi/kawi/xml/Attributes", "getOrDefault", "(Ljava/lang/String;Ljava/lang/String;)Ljava/lang/String;"⟩ : MethodName)) hown (mvT hZ (wd_66 hw)) (mvT hZ (wd_67 hw)) (notFace_of_selects (args := #[]) (mvT hZ (wd_69 hw))) (mvT hZ (wd_69 hw)) (mvT hZ (wd_68 hw)) (by decide) (backOf (W := 0) (rmg311n l Z a0 hw [] b880 b_790 b750 b761 k750 k761 b_706 b_711 b_716 b720 b730 b740 t_706 t_711 kb_706 kb_711 (nar .byte (cA.toInt8.toInt32)) (nar .byte (cB.toInt8.toInt32)) (nar .byte (cq.toInt8.toInt32)) t_790 kb_790 wz T882.heap n0 Z883 g882_0 g882_1 g882_2 f897 f898 f885 f886 f887 f888 ne_b_706_b_790 f889 f890 f891 f892 ne_b_711_b_790 f899 f900 f901 f902 f884 S_COMPACT_STRINGS hz hc233_923 hc256_928) hZ (wd_70 hw) (wd_47 hw) (by decide) (by decide)) q931a q931c (g := (mkF m 302 #[.val (.int p1), .val (.int p2), .val (.int p3), .val (.int p4), .val (.int p5), .val (.int p6), .val (.ref b_706), .val (.ref b_711), .val (.ref b_716), .val (.ref b720), .val (.ref b730), .val (.ref b740), .val (.ref b750), .val (.ref b761), .val (.int (3 : Int32)), .val (.int cq), .val (.ref b_790), .val .null, .val (.ref b880), .val (.ref b730), .unset] [.null, (.ref b_790), (.ref b880)])) rfl (by rw [hml]; rfl) (Steps.refl _) (argsL := [(.ref b_790), .null]) (rest := []) (lenOf pd__Ljava_lang_String_Ljava_lang_String__Ljava_lang_String_ rfl) rfl (by show 2 * 0 + _ ≤ _; exact Nat.le_of_eq rfl) (hb hby at_302) (fun _ _ => ⟨rfl, e930, (by decide : 20 + 0 ≤ _), (by decide : 47 + 0 ≤ _)⟩)
            dsimp only [Pt.U, Pt.locs, Pt.cells, Pt.slots] at X931 l931 y931 z931 st931 hQ931
            rw [l931, y931, z931] at X931
            obtain ⟨rfl, N931q, e931⟩ := hQ931
            have N931 := Fr.app N930 N931q
            obtain ⟨fs, hr, hrun, hended, hW, hsame⟩ := X931.leave (v := some (.int (1 : Int32))) (fun h => by rw [Bd.returns] at h; cases h)
            refine ⟨_, _, pre929 _ ?_, hrun, hended, _, _, rfl, ?_, ⟨_, rfl⟩, hW, hsame.mono (by decide) (by decide)⟩
            · show Steps p.tables e below (T927.setTop (mkF m 256 #[.val (.int p1), .val (.int p2), .val (.int p3), .val (.int p4), .val (.int p5), .val (.int p6), .val (.ref b_706), .val (.ref b_711), .val (.ref b_716), .val (.ref b720), .val (.ref b730), .val (.ref b740), .val (.ref b750), .val (.ref b761), .val (.int (3 : Int32)), .val (.int cq), .val (.ref b_790), .val .null, .val (.ref b880), .unset, .unset] [(.ref b_790), (.ref b_711)])) _
              refine st930.trans ?_
              refine XS.ifNo X930.here hx rfl (hb hby at_259) rfl ((if0 _ _).trans (feq (by decide)).1) ?_
              refine XS.aload X930.here hx rfl (hb hby at_262) rfl rfl ?_
              refine XS.astore X930.here hx rfl (hb hby at_264) rfl rfl (l' := #[.val (.int p1), .val (.int p2), .val (.int p3), .val (.int p4), .val (.int p5), .val (.int p6), .val (.ref b_706), .val (.ref b_711), .val (.ref b_716), .val (.ref b720), .val (.ref b730), .val (.ref b740), .val (.ref b750), .val (.ref b761), .val (.int (3 : Int32)), .val (.int cq), .val (.ref b_790), .val .null, .val (.ref b880), .val (.ref b730), .unset]) rfl ?_
              refine XS.goto X930.here hx rfl (pc0 := 266) (pc' := 296) rfl (hb hby at_266) (by decide) (by decide) ?_
              refine XS.aload X930.here hx rfl (hb hby at_296) rfl rfl ?_
              refine XS.aload X930.here hx rfl (hb hby at_298) rfl rfl ?_
              refine XS.aload X930.here hx rfl (hb hby at_300) rfl rfl ?_
              refine st931.trans ?_
              show Steps p.tables e below (T931.setTop (mkF m 305 #[.val (.int p1), .val (.int p2), .val (.int p3), .val (.int p4), .val (.int p5), .val (.int p6), .val (.ref b_706), .val (.ref b_711), .val (.ref b_716), .val (.ref b720), .val (.ref b730), .val (.ref b740), .val (.ref b750), .val (.ref b761), .val (.int (3 : Int32)), .val (.int cq), .val (.ref b_790), .val .null, .val (.ref b880), .val (.ref b730), .unset] [(.ref b730)])) _
              refine XS.astore X931.here hx rfl (hb hby at_305) rfl rfl (l' := #[.val (.int p1), .val (.int p2), .val (.int p3), .val (.int p4), .val (.int p5), .val (.int p6), .val (.ref b_706), .val (.ref b_711), .val (.ref b_716), .val (.ref b720), .val (.ref b730), .val (.ref b740), .val (.ref b750), .val (.ref b761), .val (.int (3 : Int32)), .val (.int cq), .val (.ref b_790), .val .null, .val (.ref b880), .val (.ref b730), .val (.ref b730)]) rfl ?_
              refine XS.aload X931.here hx rfl (hb hby at_307) rfl rfl ?_
              refine XS.aload X931.here hx rfl (hb hby at_309) rfl rfl ?_
              refine Jvm.RoadKit.acmp (g := (mkF m 311 #[.val (.int p1), .val (.int p2), .val (.int p3), .val (.int p4), .val (.int p5), .val (.int p6), .val (.ref b_706), .val (.ref b_711), .val (.ref b_716), .val (.ref b720), .val (.ref b730), .val (.ref b740), .val (.ref b750), .val (.ref b761), .val (.int (3 : Int32)), .val (.int cq), .val (.ref b_790), .val .null, .val (.ref b880), .val (.ref b730), .val (.ref b730)] [(.ref b730), (.ref b730)])) X931 hx rfl rfl rfl (pc0 := 311) (pc' := 314) (same := true) rfl (hb hby at_311) rfl (decide_eq_true rfl) (by decide) (by decide) ?_
              refine XS.iconst X931.here hx rfl (hb hby at_314) ?_
              refine XS.goto X931.here hx rfl (pc0 := 315) (pc' := 319) rfl (hb hby at_315) (by decide) (by decide) ?_
              exact retN X931 hx (t := .boolean) Bd.returns (by simp) (hb hby at_319) hr
            · show Q_rm0 Z p1 p2 p3 p4 p5 p6 wz h0 n0 _ T931.heap _
              rw [e931]
              exact ⟨rfl, N931, trivial⟩
          · obtain ⟨cq932, kq932, q932a, q932b, q932c⟩ := isOf hZ e927 (f889)
            obtain ⟨_, _, ⟨T932, L932, k932, n932⟩, -, X932, ⟨Lc932, hQ932, l932, y932, z932⟩, st932⟩ := X927.virtualBack hx (y := (⟨"java/lang/String", "equals", "(Ljava/lang/Object;)Z"⟩ : MethodName)) (z := (⟨"java/lang/String", "equals", "(Ljava/lang/Object;)Z"⟩ : MethodName)) hown (mvT hZ (wd_58 hw)) (mvT hZ (wd_59 hw)) (notFace_of_selects (args := #[]) (mvT hZ (wd_61 hw))) (mvT hZ (wd_61 hw)) (mvT hZ (wd_60 hw)) (by decide) (backOf (W := 0) (rmeq110 l Z a0 hw [] b_711 b_790 t_711 t_790 wz kb_711 kb_790 (nar .byte (cB.toInt8.toInt32)) (nar .byte (cq.toInt8.toInt32)) T882.heap n0 Z883 f889 f899 f890 f900 f891 f901 f892 f902 f884 S_COMPACT_STRINGS hz ne_b_711_b_790 hc256_928) hZ (wd_62 hw) (wd_2 hw) (by decide) (by decide)) q932a q932c (g := (mkF m 256 #[.val (.int p1), .val (.int p2), .val (.int p3), .val (.int p4), .val (.int p5), .val (.int p6), .val (.ref b_706), .val (.ref b_711), .val (.ref b_716), .val (.ref b720), .val (.ref b730), .val (.ref b740), .val (.ref b750), .val (.ref b761), .val (.int (3 : Int32)), .val (.int cq), .val (.ref b_790), .val .null, .val (.ref b880), .unset, .unset] [(.ref b_790), (.ref b_711)])) rfl (by rw [hml]; rfl) (Steps.refl _) (argsL := [(.ref b_790)]) (rest := []) (lenOf pd__Ljava_lang_Object__Z rfl) rfl (by show 2 * 0 + _ ≤ _; exact Nat.le_of_eq rfl) (hb hby at_256) (fun _ _ => ⟨rfl, e927, (by decide : 20 + 0 ≤ _), (by decide : 47 + 0 ≤ _)⟩)
            dsimp only [Pt.U, Pt.locs, Pt.cells, Pt.slots] at X932 l932 y932 z932 st932 hQ932
            rw [l932, y932, z932] at X932
            obtain ⟨rfl, N932q, e932⟩ := hQ932
            have N932 := Fr.app N927 N932q
            have pre934 : ∀ t, Steps p.tables e below (T932.setTop (mkF m 279 #[.val (.int p1), .val (.int p2), .val (.int p3), .val (.int p4), .val (.int p5), .val (.int p6), .val (.ref b_706), .val (.ref b_711), .val (.ref b_716), .val (.ref b720), .val (.ref b730), .val (.ref b740), .val (.ref b750), .val (.ref b761), .val (.int (3 : Int32)), .val (.int cq), .val (.ref b_790), .val .null, .val (.ref b880), .unset, .unset] [(.ref b_790), (.ref b_716)])) t → Steps p.tables e below (s₁.setTop (entryFrame m #[(.int p1), (.int p2), (.int p3), (.int p4), (.int p5), (.int p6)] maxLocals)) t := by
              intro t kt
              refine pre929 _ ?_
              show Steps p.tables e below (T927.setTop (mkF m 256 #[.val (.int p1), .val (.int p2), .val (.int p3), .val (.int p4), .val (.int p5), .val (.int p6), .val (.ref b_706), .val (.ref b_711), .val (.ref b_716), .val (.ref b720), .val (.ref b730), .val (.ref b740), .val (.ref b750), .val (.ref b761), .val (.int (3 : Int32)), .val (.int cq), .val (.ref b_790), .val .null, .val (.ref b880), .unset, .unset] [(.ref b_790), (.ref b_711)])) _
              refine st932.trans ?_
              refine XS.ifYes X932.here hx rfl (pc0 := 259) (pc' := 269) rfl (hb hby at_259) rfl ((if0 _ _).trans (teq (rfl : (0 : Int32) = (0 : Int32))).1) (by decide) (by decide) ?_
              refine XS.iload X932.here hx rfl (hb hby at_269) rfl ?_
              refine XS.iconst X932.here hx rfl (hb hby at_271) ?_
              refine XS.icmpNo X932.here hx rfl (hb hby at_272) rfl (tlt (by decide)).2.2.2 ?_
              refine XS.aload X932.here hx rfl (hb hby at_275) rfl rfl ?_
              refine XS.aload X932.here hx rfl (hb hby at_277) rfl rfl ?_
              exact kt
            by_cases hc279_933 : (nar .byte (cC.toInt8.toInt32)) = (nar .byte (cq.toInt8.toInt32))
            · obtain ⟨cq935, kq935, q935a, q935b, q935c⟩ := isOf hZ e932 (f893)
              obtain ⟨_, _, ⟨T935, L935, k935, n935⟩, -, X935, ⟨Lc935, hQ935, l935, y935, z935⟩, st935⟩ := X932.virtualBack hx (y := (⟨"java/lang/String", "equals", "(Ljava/lang/Object;)Z"⟩ : MethodName)) (z := (⟨"java/lang/String", "equals", "(Ljava/lang/Object;)Z"⟩ : MethodName)) hown (mvT hZ (wd_58 hw)) (mvT hZ (wd_59 hw)) (notFace_of_selects (args := #[]) (mvT hZ (wd_61 hw))) (mvT hZ (wd_61 hw)) (mvT hZ (wd_60 hw)) (by decide) (backOf (W := 0) (rmeq11eq l Z a0 hw [] b_716 b_790 t_716 t_790 wz kb_716 kb_790 (nar .byte (cC.toInt8.toInt32)) (nar .byte (cq.toInt8.toInt32)) T882.heap n0 Z883 f893 f899 f894 f900 f895 f901 f896 f902 f884 S_COMPACT_STRINGS hz ne_b_716_b_790 hc279_933) hZ (wd_62 hw) (wd_2 hw) (by decide) (by decide)) q935a q935c (g := (mkF m 279 #[.val (.int p1), .val (.int p2), .val (.int p3), .val (.int p4), .val (.int p5), .val (.int p6), .val (.ref b_706), .val (.ref b_711), .val (.ref b_716), .val (.ref b720), .val (.ref b730), .val (.ref b740), .val (.ref b750), .val (.ref b761), .val (.int (3 : Int32)), .val (.int cq), .val (.ref b_790), .val .null, .val (.ref b880), .unset, .unset] [(.ref b_790), (.ref b_716)])) rfl (by rw [hml]; rfl) (Steps.refl _) (argsL := [(.ref b_790)]) (rest := []) (lenOf pd__Ljava_lang_Object__Z rfl) rfl (by show 2 * 0 + _ ≤ _; exact Nat.le_of_eq rfl) (hb hby at_279) (fun _ _ => ⟨rfl, e932, (by decide : 20 + 0 ≤ _), (by decide : 47 + 0 ≤ _)⟩)
              dsimp only [Pt.U, Pt.locs, Pt.cells, Pt.slots] at X935 l935 y935 z935 st935 hQ935
              rw [l935, y935, z935] at X935
              obtain ⟨rfl, N935q, e935⟩ := hQ935
              have N935 := Fr.app N932 N935q
              obtain ⟨cq936, kq936, q936a, q936b, q936c⟩ := isOf hZ e935 (f903)
              obtain ⟨_, _, ⟨T936, L936, k936, n936⟩, -, X936, ⟨Lc936, hQ936, l936, y936, z936⟩, st936⟩ := X935.virtualBack hx (y := (⟨"com/example/kawi/kawi/xml/Attributes", "getOrDefault", "(Ljava/lang/String;Ljava/lang/String;)Ljava/lang/String;"⟩ : MethodName)) (z := (⟨"com/example/kawi/kawi/xml/Attributes", "getOrDefault", "(Ljava/lang/String;Ljava/lang/String;)Ljava/lang/String;"⟩ : MethodName)) hown (mvT hZ (wd_66 hw)) (mvT hZ (wd_67 hw)) (notFace_of_selects (args := #[]) (mvT hZ (wd_69 hw))) (mvT hZ (wd_69 hw)) (mvT hZ (wd_68 hw)) (by decide) (backOf (W := 0) (rmg321n l Z a0 hw [] b880 b_790 b750 b761 k750 k761 b_706 b_711 b_716 b720 b730 b740 t_706 t_711 t_716 kb_706 kb_711 kb_716 (nar .byte (cA.toInt8.toInt32)) (nar .byte (cB.toInt8.toInt32)) (nar .byte (cC.toInt8.toInt32)) (nar .byte (cq.toInt8.toInt32)) t_790 kb_790 wz T882.heap n0 Z883 g882_0 g882_1 g882_2 f897 f898 f885 f886 f887 f888 ne_b_706_b_790 f889 f890 f891 f892 ne_b_711_b_790 f893 f894 f895 f896 ne_b_716_b_790 f899 f900 f901 f902 f884 S_COMPACT_STRINGS hz hc233_923 hc256_928 hc279_933) hZ (wd_70 hw) (wd_47 hw) (by decide) (by decide)) q936a q936c (g := (mkF m 302 #[.val (.int p1), .val (.int p2), .val (.int p3), .val (.int p4), .val (.int p5), .val (.int p6), .val (.ref b_706), .val (.ref b_711), .val (.ref b_716), .val (.ref b720), .val (.ref b730), .val (.ref b740), .val (.ref b750), .val (.ref b761), .val (.int (3 : Int32)), .val (.int cq), .val (.ref b_790), .val .null, .val (.ref b880), .val (.ref b740), .unset] [.null, (.ref b_790), (.ref b880)])) rfl (by rw [hml]; rfl) (Steps.refl _) (argsL := [(.ref b_790), .null]) (rest := []) (lenOf pd__Ljava_lang_String_Ljava_lang_String__Ljava_lang_String_ rfl) rfl (by show 2 * 0 + _ ≤ _; exact Nat.le_of_eq rfl) (hb hby at_302) (fun _ _ => ⟨rfl, e935, (by decide : 20 + 0 ≤ _), (by decide : 47 + 0 ≤ _)⟩)
              dsimp only [Pt.U, Pt.locs, Pt.cells, Pt.slots] at X936 l936 y936 z936 st936 hQ936
              rw [l936, y936, z936] at X936
              obtain ⟨rfl, N936q, e936⟩ := hQ936
              have N936 := Fr.app N935 N936q
              obtain ⟨fs, hr, hrun, hended, hW, hsame⟩ := X936.leave (v := some (.int (1 : Int32))) (fun h => by rw [Bd.returns] at h; cases h)
              refine ⟨_, _, pre934 _ ?_, hrun, hended, _, _, rfl, ?_, ⟨_, rfl⟩, hW, hsame.mono (by decide) (by decide)⟩
              · show Steps p.tables e below (T932.setTop (mkF m 279 #[.val (.int p1), .val (.int p2), .val (.int p3), .val (.int p4), .val (.int p5), .val (.int p6), .val (.ref b_706), .val (.ref b_711), .val (.ref b_716), .val (.ref b720), .val (.ref b730), .val (.ref b740), .val (.ref b750), .val (.ref b761), .val (.int (3 : Int32)), .val (.int cq), .val (.ref b_790), .val .null, .val (.ref b880), .unset, .unset] [(.ref b_790), (.ref b_716)])) _
                refine st935.trans ?_
                refine XS.ifNo X935.here hx rfl (hb hby at_282) rfl ((if0 _ _).trans (feq (by decide)).1) ?_
                show Steps p.tables e below (T935.setTop (mkF m 285 #[.val (.int p1), .val (.int p2), .val (.int p3), .val (.int p4), .val (.int p5), .val (.int p6), .val (.ref b_706), .val (.ref b_711), .val (.ref b_716), .val (.ref b720), .val (.ref b730), .val (.ref b740), .val (.ref b750), .val (.ref b761), .val (.int (3 : Int32)), .val (.int cq), .val (.ref b_790), .val .null, .val (.ref b880), .unset, .unset] [])) _
                refine XS.aload X935.here hx rfl (hb hby at_285) rfl rfl ?_
                refine XS.astore X935.here hx rfl (hb hby at_287) rfl rfl (l' := #[.val (.int p1), .val (.int p2), .val (.int p3), .val (.int p4), .val (.int p5), .val (.int p6), .val (.ref b_706), .val (.ref b_711), .val (.ref b_716), .val (.ref b720), .val (.ref b730), .val (.ref b740), .val (.ref b750), .val (.ref b761), .val (.int (3 : Int32)), .val (.int cq), .val (.ref b_790), .val .null, .val (.ref b880), .val (.ref b740), .unset]) rfl ?_
                refine XS.goto X935.here hx rfl (pc0 := 289) (pc' := 296) rfl (hb hby at_289) (by decide) (by decide) ?_
                refine XS.aload X935.here hx rfl (hb hby at_296) rfl rfl ?_
                refine XS.aload X935.here hx rfl (hb hby at_298) rfl rfl ?_
                refine XS.aload X935.here hx rfl (hb hby at_300) rfl rfl ?_
                refine st936.trans ?_
                refine XS.astore X936.here hx rfl (hb hby at_305) rfl rfl (l' := #[.val (.int p1), .val (.int p2), .val (.int p3), .val (.int p4), .val (.int p5), .val (.int p6), .val (.ref b_706), .val (.ref b_711), .val (.ref b_716), .val (.ref b720), .val (.ref b730), .val (.ref b740), .val (.ref b750), .val (.ref b761), .val (.int (3 : Int32)), .val (.int cq), .val (.ref b_790), .val .null, .val (.ref b880), .val (.ref b740), .val (.ref b740)]) rfl ?_
                refine XS.aload X936.here hx rfl (hb hby at_307) rfl rfl ?_
                refine XS.aload X936.here hx rfl (hb hby at_309) rfl rfl ?_
                show Steps p.tables e below (T936.setTop (mkF m 311 #[.val (.int p1), .val (.int p2), .val (.int p3), .val (.int p4), .val (.int p5), .val (.int p6), .val (.ref b_706), .val (.ref b_711), .val (.ref b_716), .val (.ref b720), .val (.ref b730), .val (.ref b740), .val (.ref b750), .val (.ref b761), .val (.int (3 : Int32)), .val (.int cq), .val (.ref b_790), .val .null, .val (.ref b880), .val (.ref b740), .val (.ref b740)] [(.ref b740), (.ref b740)])) _
                refine Jvm.RoadKit.acmp (g := (mkF m 311 #[.val (.int p1), .val (.int p2), .val (.int p3), .val (.int p4), .val (.int p5), .val (.int p6), .val (.ref b_706), .val (.ref b_711), .val (.ref b_716), .val (.ref b720), .val (.ref b730), .val (.ref b740), .val (.ref b750), .val (.ref b761), .val (.int (3 : Int32)), .val (.int cq), .val (.ref b_790), .val .null, .val (.ref b880), .val (.ref b740), .val (.ref b740)] [(.ref b740), (.ref b740)])) X936 hx rfl rfl rfl (pc0 := 311) (pc' := 314) (same := true) rfl (hb hby at_311) rfl (decide_eq_true rfl) (by decide) (by decide) ?_
                refine XS.iconst X936.here hx rfl (hb hby at_314) ?_
                refine XS.goto X936.here hx rfl (pc0 := 315) (pc' := 319) rfl (hb hby at_315) (by decide) (by decide) ?_
                exact retN X936 hx (t := .boolean) Bd.returns (by simp) (hb hby at_319) hr
              · show Q_rm0 Z p1 p2 p3 p4 p5 p6 wz h0 n0 _ T936.heap _
                rw [e936]
                exact ⟨rfl, N936, trivial⟩
            · obtain ⟨cq937, kq937, q937a, q937b, q937c⟩ := isOf hZ e932 (f893)
              obtain ⟨_, _, ⟨T937, L937, k937, n937⟩, -, X937, ⟨Lc937, hQ937, l937, y937, z937⟩, st937⟩ := X932.virtualBack hx (y := (⟨"java/lang/String", "equals", "(Ljava/lang/Object;)Z"⟩ : MethodName)) (z := (⟨"java/lang/String", "equals", "(Ljava/lang/Object;)Z"⟩ : MethodName)) hown (mvT hZ (wd_58 hw)) (mvT hZ (wd_59 hw)) (notFace_of_selects (args := #[]) (mvT hZ (wd_61 hw))) (mvT hZ (wd_61 hw)) (mvT hZ (wd_60 hw)) (by decide) (backOf (W := 0) (rmeq110 l Z a0 hw [] b_716 b_790 t_716 t_790 wz kb_716 kb_790 (nar .byte (cC.toInt8.toInt32)) (nar .byte (cq.toInt8.toInt32)) T882.heap n0 Z883 f893 f899 f894 f900 f895 f901 f896 f902 f884 S_COMPACT_STRINGS hz ne_b_716_b_790 hc279_933) hZ (wd_62 hw) (wd_2 hw) (by decide) (by decide)) q937a q937c (g := (mkF m 279 #[.val (.int p1), .val (.int p2), .val (.int p3), .val (.int p4), .val (.int p5), .val (.int p6), .val (.ref b_706), .val (.ref b_711), .val (.ref b_716), .val (.ref b720), .val (.ref b730), .val (.ref b740), .val (.ref b750), .val (.ref b761), .val (.int (3 : Int32)), .val (.int cq), .val (.ref b_790), .val .null, .val (.ref b880), .unset, .unset] [(.ref b_790), (.ref b_716)])) rfl (by rw [hml]; rfl) (Steps.refl _) (argsL := [(.ref b_790)]) (rest := []) (lenOf pd__Ljava_lang_Object__Z rfl) rfl (by show 2 * 0 + _ ≤ _; exact Nat.le_of_eq rfl) (hb hby at_279) (fun _ _ => ⟨rfl, e932, (by decide : 20 + 0 ≤ _), (by decide : 47 + 0 ≤ _)⟩)
              dsimp only [Pt.U, Pt.locs, Pt.cells, Pt.slots] at X937 l937 y937 z937 st937 hQ937
              rw [l937, y937, z937] at X937
              obtain ⟨rfl, N937q, e937⟩ := hQ937
              have N937 := Fr.app N932 N937q
              obtain ⟨cq938, kq938, q938a, q938b, q938c⟩ := isOf hZ e937 (f903)
              obtain ⟨_, _, ⟨T938, L938, k938, n938⟩, -, X938, ⟨Lc938, hQ938, l938, y938, z938⟩, st938⟩ := X937.virtualBack hx (y := (⟨"com/example/kawi/kawi/xml/Attributes", "getOrDefault", "(Ljava/lang/String;Ljava/lang/String;)Ljava/lang/String;"⟩ : MethodName)) (z := (⟨"com/example/kawi/kawi/xml/Attributes", "getOrDefault", "(Ljava/lang/String;Ljava/lang/String;)Ljava/lang/String;"⟩ : MethodName)) hown (mvT hZ (wd_66 hw)) (mvT hZ (wd_67 hw)) (notFace_of_selects (args := #[]) (mvT hZ (wd_69 hw))) (mvT hZ (wd_69 hw)) (mvT hZ (wd_68 hw)) (by decide) (backOf (W := 0) (rmg3x1n l Z a0 hw [] b880 b_790 b750 b761 k750 k761 b_706 b_711 b_716 b720 b730 b740 t_706 t_711 t_716 kb_706 kb_711 kb_716 (nar .byte (cA.toInt8.toInt32)) (nar .byte (cB.toInt8.toInt32)) (nar .byte (cC.toInt8.toInt32)) (nar .byte (cq.toInt8.toInt32)) t_790 kb_790 wz T882.heap n0 Z883 g882_0 g882_1 g882_2 f897 f898 f885 f886 f887 f888 ne_b_706_b_790 f889 f890 f891 f892 ne_b_711_b_790 f893 f894 f895 f896 ne_b_716_b_790 f899 f900 f901 f902 f884 S_COMPACT_STRINGS hz hc233_923 hc256_928 hc279_933) hZ (wd_70 hw) (wd_47 hw) (by decide) (by decide)) q938a q938c (g := (mkF m 302 #[.val (.int p1), .val (.int p2), .val (.int p3), .val (.int p4), .val (.int p5), .val (.int p6), .val (.ref b_706), .val (.ref b_711), .val (.ref b_716), .val (.ref b720), .val (.ref b730), .val (.ref b740), .val (.ref b750), .val (.ref b761), .val (.int (3 : Int32)), .val (.int cq), .val (.ref b_790), .val .null, .val (.ref b880), .val .null, .unset] [.null, (.ref b_790), (.ref b880)])) rfl (by rw [hml]; rfl) (Steps.refl _) (argsL := [(.ref b_790), .null]) (rest := []) (lenOf pd__Ljava_lang_String_Ljava_lang_String__Ljava_lang_String_ rfl) rfl (by show 2 * 0 + _ ≤ _; exact Nat.le_of_eq rfl) (hb hby at_302) (fun _ _ => ⟨rfl, e937, (by decide : 20 + 0 ≤ _), (by decide : 47 + 0 ≤ _)⟩)
              dsimp only [Pt.U, Pt.locs, Pt.cells, Pt.slots] at X938 l938 y938 z938 st938 hQ938
              rw [l938, y938, z938] at X938
              obtain ⟨rfl, N938q, e938⟩ := hQ938
              have N938 := Fr.app N937 N938q
              obtain ⟨fs, hr, hrun, hended, hW, hsame⟩ := X938.leave (v := some (.int (1 : Int32))) (fun h => by rw [Bd.returns] at h; cases h)
              refine ⟨_, _, pre934 _ ?_, hrun, hended, _, _, rfl, ?_, ⟨_, rfl⟩, hW, hsame.mono (by decide) (by decide)⟩
              · show Steps p.tables e below (T932.setTop (mkF m 279 #[.val (.int p1), .val (.int p2), .val (.int p3), .val (.int p4), .val (.int p5), .val (.int p6), .val (.ref b_706), .val (.ref b_711), .val (.ref b_716), .val (.ref b720), .val (.ref b730), .val (.ref b740), .val (.ref b750), .val (.ref b761), .val (.int (3 : Int32)), .val (.int cq), .val (.ref b_790), .val .null, .val (.ref b880), .unset, .unset] [(.ref b_790), (.ref b_716)])) _
                refine st937.trans ?_
                refine XS.ifYes X937.here hx rfl (pc0 := 282) (pc' := 292) rfl (hb hby at_282) rfl ((if0 _ _).trans (teq (rfl : (0 : Int32) = (0 : Int32))).1) (by decide) (by decide) ?_
                show Steps p.tables e below (T937.setTop (mkF m 292 #[.val (.int p1), .val (.int p2), .val (.int p3), .val (.int p4), .val (.int p5), .val (.int p6), .val (.ref b_706), .val (.ref b_711), .val (.ref b_716), .val (.ref b720), .val (.ref b730), .val (.ref b740), .val (.ref b750), .val (.ref b761), .val (.int (3 : Int32)), .val (.int cq), .val (.ref b_790), .val .null, .val (.ref b880), .unset, .unset] [])) _
                refine XS.aload X937.here hx rfl (hb hby at_292) rfl rfl ?_
                refine XS.astore X937.here hx rfl (hb hby at_294) rfl rfl (l' := #[.val (.int p1), .val (.int p2), .val (.int p3), .val (.int p4), .val (.int p5), .val (.int p6), .val (.ref b_706), .val (.ref b_711), .val (.ref b_716), .val (.ref b720), .val (.ref b730), .val (.ref b740), .val (.ref b750), .val (.ref b761), .val (.int (3 : Int32)), .val (.int cq), .val (.ref b_790), .val .null, .val (.ref b880), .val .null, .unset]) rfl ?_
                refine XS.aload X937.here hx rfl (hb hby at_296) rfl rfl ?_
                refine XS.aload X937.here hx rfl (hb hby at_298) rfl rfl ?_
                refine XS.aload X937.here hx rfl (hb hby at_300) rfl rfl ?_
                refine st938.trans ?_
                refine XS.astore X938.here hx rfl (hb hby at_305) rfl rfl (l' := #[.val (.int p1), .val (.int p2), .val (.int p3), .val (.int p4), .val (.int p5), .val (.int p6), .val (.ref b_706), .val (.ref b_711), .val (.ref b_716), .val (.ref b720), .val (.ref b730), .val (.ref b740), .val (.ref b750), .val (.ref b761), .val (.int (3 : Int32)), .val (.int cq), .val (.ref b_790), .val .null, .val (.ref b880), .val .null, .val .null]) rfl ?_
                refine XS.aload X938.here hx rfl (hb hby at_307) rfl rfl ?_
                refine XS.aload X938.here hx rfl (hb hby at_309) rfl rfl ?_
                refine Jvm.RoadKit.acmp (g := (mkF m 311 #[.val (.int p1), .val (.int p2), .val (.int p3), .val (.int p4), .val (.int p5), .val (.int p6), .val (.ref b_706), .val (.ref b_711), .val (.ref b_716), .val (.ref b720), .val (.ref b730), .val (.ref b740), .val (.ref b750), .val (.ref b761), .val (.int (3 : Int32)), .val (.int cq), .val (.ref b_790), .val .null, .val (.ref b880), .val .null, .val .null] [.null, .null])) X938 hx rfl rfl rfl (pc0 := 311) (pc' := 314) (same := true) rfl (hb hby at_311) rfl (decide_eq_true rfl) (by decide) (by decide) ?_
                show Steps p.tables e below (T938.setTop (mkF m 314 #[.val (.int p1), .val (.int p2), .val (.int p3), .val (.int p4), .val (.int p5), .val (.int p6), .val (.ref b_706), .val (.ref b_711), .val (.ref b_716), .val (.ref b720), .val (.ref b730), .val (.ref b740), .val (.ref b750), .val (.ref b761), .val (.int (3 : Int32)), .val (.int cq), .val (.ref b_790), .val .null, .val (.ref b880), .val .null, .val .null] [])) _
                refine XS.iconst X938.here hx rfl (hb hby at_314) ?_
                refine XS.goto X938.here hx rfl (pc0 := 315) (pc' := 319) rfl (hb hby at_315) (by decide) (by decide) ?_
                exact retN X938 hx (t := .boolean) Bd.returns (by simp) (hb hby at_319) hr
              · show Q_rm0 Z p1 p2 p3 p4 p5 p6 wz h0 n0 _ T938.heap _
                rw [e938]
                exact ⟨rfl, N938, trivial⟩
  · obtain ⟨T939, h939, X939, e939, E939, A939, D939, -, st939⟩ := newO X770 hx hZ hown (wd_26 hw) (wd_10 hw) (wd_2 hw) e770 (g := (mkF m 147 #[.val (.int p1), .val (.int p2), .val (.int p3), .val (.int p4), .val (.int p5), .val (.int p6), .val (.ref b_706), .val (.ref b_711), .val (.ref b_716), .val (.ref b720), .val (.ref b730), .val (.ref b740), .val (.ref b750), .val (.ref b761), .val (.int kk), .val (.int cq), .unset, .unset, .unset, .unset, .unset] [])) rfl (hb hby at_147) (by decide) (by decide)
    obtain ⟨b939, g939⟩ : ∃ z, z = h770.size := ⟨_, rfl⟩
    rw [← g939] at A939 D939 st939
    have g_b939 : n0 ≤ b939 := Nat.le_trans Z771 (Nat.le_of_eq g939.symm)
    have ne_b_706_b939 : b_706 ≠ b939 := Nat.ne_of_lt (Nat.lt_of_lt_of_le (f774).lt (Nat.le_of_eq g939.symm))
    have ne_t_706_b939 : t_706 ≠ b939 := Nat.ne_of_lt (Nat.lt_of_lt_of_le (f777).lt (Nat.le_of_eq g939.symm))
    have ne_b_711_b939 : b_711 ≠ b939 := Nat.ne_of_lt (Nat.lt_of_lt_of_le (f778).lt (Nat.le_of_eq g939.symm))
    have ne_t_711_b939 : t_711 ≠ b939 := Nat.ne_of_lt (Nat.lt_of_lt_of_le (f781).lt (Nat.le_of_eq g939.symm))
    have ne_b_716_b939 : b_716 ≠ b939 := Nat.ne_of_lt (Nat.lt_of_lt_of_le (f782).lt (Nat.le_of_eq g939.symm))
    have ne_t_716_b939 : t_716 ≠ b939 := Nat.ne_of_lt (Nat.lt_of_lt_of_le (f785).lt (Nat.le_of_eq g939.symm))
    have ne_b750_b939 : b750 ≠ b939 := Nat.ne_of_lt (Nat.lt_of_lt_of_le (f786).lt (Nat.le_of_eq g939.symm))
    have ne_b761_b939 : b761 ≠ b939 := Nat.ne_of_lt (Nat.lt_of_lt_of_le (V_b761_770).lt (Nat.le_of_eq g939.symm))
    have Z940 : n0 ≤ h939.size := Nat.le_trans Z771 E939.1
    have F_value_b939 : Fld Z h939 b939 "java/lang/String" "value" "[B" .null := D939 (Or.inr (wd_23 hw)) (ty := (.array .byte)) (by decide)
    have F_coder_b939 : Fld Z h939 b939 "java/lang/String" "coder" "B" (.int (0 : Int32)) := D939 (Or.inr (wd_25 hw)) (ty := .byte) (by decide)
    obtain ⟨T941, h941, k941, X941, e941, E941, A941, st941⟩ := newP (aty := .char) X939 hx hZ (wd_27 hw) e939 (g := (mkF m 152 #[.val (.int p1), .val (.int p2), .val (.int p3), .val (.int p4), .val (.int p5), .val (.int p6), .val (.ref b_706), .val (.ref b_711), .val (.ref b_716), .val (.ref b720), .val (.ref b730), .val (.ref b740), .val (.ref b750), .val (.ref b761), .val (.int kk), .val (.int cq), .unset, .unset, .unset, .unset, .unset] [(.int (2 : Int32)), (.ref b939), (.ref b939)])) rfl (hb hby at_152) rfl (by decide) (cap := 2) (by decide) (by decide) (by decide) (by decide)
    obtain ⟨b941, g941⟩ : ∃ z, z = h939.size := ⟨_, rfl⟩
    rw [← g941] at A941 st941
    have g_b941 : n0 ≤ b941 := Nat.le_trans Z940 (Nat.le_of_eq g941.symm)
    have ne_b_706_b941 : b_706 ≠ b941 := Nat.ne_of_lt (Nat.lt_of_lt_of_le ((f774.ext E939)).lt (Nat.le_of_eq g941.symm))
    have ne_t_706_b941 : t_706 ≠ b941 := Nat.ne_of_lt (Nat.lt_of_lt_of_le ((f777.ext E939)).lt (Nat.le_of_eq g941.symm))
    have ne_b_711_b941 : b_711 ≠ b941 := Nat.ne_of_lt (Nat.lt_of_lt_of_le ((f778.ext E939)).lt (Nat.le_of_eq g941.symm))
    have ne_t_711_b941 : t_711 ≠ b941 := Nat.ne_of_lt (Nat.lt_of_lt_of_le ((f781.ext E939)).lt (Nat.le_of_eq g941.symm))
    have ne_b_716_b941 : b_716 ≠ b941 := Nat.ne_of_lt (Nat.lt_of_lt_of_le ((f782.ext E939)).lt (Nat.le_of_eq g941.symm))
    have ne_t_716_b941 : t_716 ≠ b941 := Nat.ne_of_lt (Nat.lt_of_lt_of_le ((f785.ext E939)).lt (Nat.le_of_eq g941.symm))
    have ne_b750_b941 : b750 ≠ b941 := Nat.ne_of_lt (Nat.lt_of_lt_of_le ((f786.ext E939)).lt (Nat.le_of_eq g941.symm))
    have ne_b761_b941 : b761 ≠ b941 := Nat.ne_of_lt (Nat.lt_of_lt_of_le ((V_b761_770.ext E939)).lt (Nat.le_of_eq g941.symm))
    have ne_b939_b941 : b939 ≠ b941 := Nat.ne_of_lt (Nat.lt_of_lt_of_le (A939).lt (Nat.le_of_eq g941.symm))
    have Z942 : n0 ≤ h941.size := Nat.le_trans Z940 E941.1
    have V0_b941 := (Arv.new A941 (by decide)).pad (pad_rep [] (.int (0 : Int32)) 2)
    have V_b941 : Arv Z h941 b941 k941 .char (2 : Int32) [(.int (0 : Int32)), (.int (0 : Int32))] (.int (0 : Int32)) := V0_b941
    obtain ⟨cl943, Ar943, q943, S943, N943n, H943, G943⟩ := id (V_b941)
    have hin943 : ¬ ((0 : Int32) < 0 ∨ cl943.slots.size ≤ ((0 : Int32)).toNatClampNeg) := inb_of S943 ⟨by decide, by decide⟩
    obtain ⟨T944, h944, X944, e944, W944, st944⟩ := stC X941 hx hZ e941 Ar943 (j := (0 : Int32)) hin943 (g := (mkF m 158 #[.val (.int p1), .val (.int p2), .val (.int p3), .val (.int p4), .val (.int p5), .val (.int p6), .val (.ref b_706), .val (.ref b_711), .val (.ref b_716), .val (.ref b720), .val (.ref b730), .val (.ref b740), .val (.ref b750), .val (.ref b761), .val (.int kk), .val (.int cq), .unset, .unset, .unset, .unset, .unset] [(.int cq), (.int (0 : Int32)), (.ref b941), (.ref b941), (.ref b939), (.ref b939)])) rfl rfl (hb hby at_158)
    have V_b941_944 : Arv Z h944 b941 k941 .char (2 : Int32) [(.int (nar .char cq)), (.int (0 : Int32))] (.int (0 : Int32)) := Arv.set Ar943 q943 S943 N943n H943 G943 (fits_nar_char _) W944 0 rfl (Nat.le_of_ble_eq_true rfl)
    have Z945 : n0 ≤ h944.size := Nat.le_trans Z942 (Keep.of_wr W944).1
    have N944 := Fr.snoc X944 N770 g_b941
    obtain ⟨cl946, Ar946, q946, S946, N946n, H946, G946⟩ := id (V_b941_944)
    have hin946 : ¬ ((1 : Int32) < 0 ∨ cl946.slots.size ≤ ((1 : Int32)).toNatClampNeg) := inb_of S946 ⟨by decide, by decide⟩
    obtain ⟨T947, h947, X947, e947, W947, st947⟩ := stC X944 hx hZ e944 Ar946 (j := (1 : Int32)) hin946 (g := (mkF m 163 #[.val (.int p1), .val (.int p2), .val (.int p3), .val (.int p4), .val (.int p5), .val (.int p6), .val (.ref b_706), .val (.ref b_711), .val (.ref b_716), .val (.ref b720), .val (.ref b730), .val (.ref b740), .val (.ref b750), .val (.ref b761), .val (.int kk), .val (.int cq), .unset, .unset, .unset, .unset, .unset] [(.int cq), (.int (1 : Int32)), (.ref b941), (.ref b941), (.ref b939), (.ref b939)])) rfl rfl (hb hby at_163)
    have V_b941_947 : Arv Z h947 b941 k941 .char (2 : Int32) [(.int (nar .char cq)), (.int (nar .char cq))] (.int (0 : Int32)) := Arv.set Ar946 q946 S946 N946n H946 G946 (fits_nar_char _) W947 1 rfl (Nat.le_of_ble_eq_true rfl)
    have Z948 : n0 ≤ h947.size := Nat.le_trans Z945 (Keep.of_wr W947).1
    have N947 := Fr.snoc X947 N944 g_b941
    obtain ⟨_, _, ⟨T949, L949, k949, n949⟩, -, X949, ⟨Lc949, hQ949, l949, y949, z949⟩, st949⟩ := X947.specialBack hx (y := (⟨"java/lang/String", "<init>", "([C)V"⟩ : MethodName)) rfl hown (mvT hZ (wd_28 hw)) (mvT hZ (wd_29 hw)) (mvT hZ (wd_30 hw)) (by decide) (backOf (W := 1) (rmi1_2 l Z a0 hw [] b939 b941 .null (.int (0 : Int32)) k941 wz (nar .char cq) (nar .char cq) h947 n0 Z948 (((F_value_b939.ext E941).other W944 (Or.inl ne_b939_b941)).other W947 (Or.inl ne_b939_b941)) (((F_coder_b939.ext E941).other W944 (Or.inl ne_b939_b941)).other W947 (Or.inl ne_b939_b941)) (((A939.ext E941).wr W944).wr W947) g_b939 V_b941_947 hn_cq hn_cq ((((f773.ext E939).ext E941).wr W944 g_b941).wr W947 g_b941) S_COMPACT_STRINGS hz) hZ (wd_30 hw) (wd_2 hw) (by decide) (by decide)) (g := (mkF m 164 #[.val (.int p1), .val (.int p2), .val (.int p3), .val (.int p4), .val (.int p5), .val (.int p6), .val (.ref b_706), .val (.ref b_711), .val (.ref b_716), .val (.ref b720), .val (.ref b730), .val (.ref b740), .val (.ref b750), .val (.ref b761), .val (.int kk), .val (.int cq), .unset, .unset, .unset, .unset, .unset] [(.ref b941), (.ref b939), (.ref b939)])) rfl (by rw [hml]; rfl) (Steps.refl _) (a := b939) (argsL := [(.ref b941)]) (rest := [(.ref b939)]) (lenOf pd___C_V rfl) rfl (by show 2 * 0 + _ ≤ _; exact Nat.le_of_eq rfl) (hb hby at_164) (fun _ _ => ⟨rfl, e947, (by decide : 19 + 1 ≤ _), (by decide : 45 + 2 ≤ _)⟩)
    dsimp only [Pt.U, Pt.locs, Pt.cells, Pt.slots] at X949 l949 y949 z949 st949 hQ949
    rw [l949, y949, z949] at X949
    obtain ⟨b_949, kb_949, rfl, N949q, K949q, g949_0, g949_1, g949_2, g949_3⟩ := hQ949
    have N949 := Fr.app N947 N949q
    have Z950 : n0 ≤ T949.heap.size := Nat.le_trans Z948 K949q.1
    have ne_b_706_b_949 : b_706 ≠ b_949 := Nat.ne_of_lt (Nat.lt_of_lt_of_le (((((f774.ext E939).ext E941).wr W944).wr W947)).lt g949_0)
    have ne_t_706_b_949 : t_706 ≠ b_949 := Nat.ne_of_lt (Nat.lt_of_lt_of_le (((((f777.ext E939).ext E941).other W944 ne_t_706_b941).other W947 ne_t_706_b941)).lt g949_0)
    have ne_b_711_b_949 : b_711 ≠ b_949 := Nat.ne_of_lt (Nat.lt_of_lt_of_le (((((f778.ext E939).ext E941).wr W944).wr W947)).lt g949_0)
    have ne_t_711_b_949 : t_711 ≠ b_949 := Nat.ne_of_lt (Nat.lt_of_lt_of_le (((((f781.ext E939).ext E941).other W944 ne_t_711_b941).other W947 ne_t_711_b941)).lt g949_0)
    have ne_b_716_b_949 : b_716 ≠ b_949 := Nat.ne_of_lt (Nat.lt_of_lt_of_le (((((f782.ext E939).ext E941).wr W944).wr W947)).lt g949_0)
    have ne_t_716_b_949 : t_716 ≠ b_949 := Nat.ne_of_lt (Nat.lt_of_lt_of_le (((((f785.ext E939).ext E941).other W944 ne_t_716_b941).other W947 ne_t_716_b941)).lt g949_0)
    have ne_b750_b_949 : b750 ≠ b_949 := Nat.ne_of_lt (Nat.lt_of_lt_of_le (((((f786.ext E939).ext E941).other W944 ne_b750_b941).other W947 ne_b750_b941)).lt g949_0)
    have ne_b761_b_949 : b761 ≠ b_949 := Nat.ne_of_lt (Nat.lt_of_lt_of_le (((((V_b761_770.ext E939).ext E941).other W944 ne_b761_b941).other W947 ne_b761_b941)).lt g949_0)
    have ne_b939_b_949 : b939 ≠ b_949 := Nat.ne_of_lt (Nat.lt_of_lt_of_le ((((A939.ext E941).wr W944).wr W947)).lt g949_0)
    have ne_b941_b_949 : b941 ≠ b_949 := Nat.ne_of_lt (Nat.lt_of_lt_of_le (V_b941_947).lt g949_0)
    have g951 : n0 ≤ b_949 := Nat.le_trans Z948 g949_0
    have f952 : Old Z n0 T949.heap := (((((f773.ext E939).ext E941).wr W944 g_b941).wr W947 g_b941).keep K949q (allS g_b939 all0))
    have f953 : Exa Z T949.heap b_706 "java/lang/String" := (((((f774.ext E939).ext E941).wr W944).wr W947).keep K949q)
    have f954 : Fld Z T949.heap b_706 "java/lang/String" "value" "[B" (.ref t_706) := (((((f775.ext E939).ext E941).other W944 (Or.inl ne_b_706_b941)).other W947 (Or.inl ne_b_706_b941)).keep K949q (ninS ne_b_706_b939 nin0))
    have f955 : Fld Z T949.heap b_706 "java/lang/String" "coder" "B" (.int (0 : Int32)) := (((((f776.ext E939).ext E941).other W944 (Or.inl ne_b_706_b941)).other W947 (Or.inl ne_b_706_b941)).keep K949q (ninS ne_b_706_b939 nin0))
    have f956 : Arv Z T949.heap t_706 kb_706 .byte (1 : Int32) [(.int (nar .byte (cA.toInt8.toInt32)))] (.int (0 : Int32)) := (((((f777.ext E939).ext E941).other W944 ne_t_706_b941).other W947 ne_t_706_b941).keep K949q (ninS ne_t_706_b939 nin0))
    have f957 : Exa Z T949.heap b_711 "java/lang/String" := (((((f778.ext E939).ext E941).wr W944).wr W947).keep K949q)
    have f958 : Fld Z T949.heap b_711 "java/lang/String" "value" "[B" (.ref t_711) := (((((f779.ext E939).ext E941).other W944 (Or.inl ne_b_711_b941)).other W947 (Or.inl ne_b_711_b941)).keep K949q (ninS ne_b_711_b939 nin0))
    have f959 : Fld Z T949.heap b_711 "java/lang/String" "coder" "B" (.int (0 : Int32)) := (((((f780.ext E939).ext E941).other W944 (Or.inl ne_b_711_b941)).other W947 (Or.inl ne_b_711_b941)).keep K949q (ninS ne_b_711_b939 nin0))
    have f960 : Arv Z T949.heap t_711 kb_711 .byte (1 : Int32) [(.int (nar .byte (cB.toInt8.toInt32)))] (.int (0 : Int32)) := (((((f781.ext E939).ext E941).other W944 ne_t_711_b941).other W947 ne_t_711_b941).keep K949q (ninS ne_t_711_b939 nin0))
    have f961 : Exa Z T949.heap b_716 "java/lang/String" := (((((f782.ext E939).ext E941).wr W944).wr W947).keep K949q)
    have f962 : Fld Z T949.heap b_716 "java/lang/String" "value" "[B" (.ref t_716) := (((((f783.ext E939).ext E941).other W944 (Or.inl ne_b_716_b941)).other W947 (Or.inl ne_b_716_b941)).keep K949q (ninS ne_b_716_b939 nin0))
    have f963 : Fld Z T949.heap b_716 "java/lang/String" "coder" "B" (.int (0 : Int32)) := (((((f784.ext E939).ext E941).other W944 (Or.inl ne_b_716_b941)).other W947 (Or.inl ne_b_716_b941)).keep K949q (ninS ne_b_716_b939 nin0))
    have f964 : Arv Z T949.heap t_716 kb_716 .byte (1 : Int32) [(.int (nar .byte (cC.toInt8.toInt32)))] (.int (0 : Int32)) := (((((f785.ext E939).ext E941).other W944 ne_t_716_b941).other W947 ne_t_716_b941).keep K949q (ninS ne_t_716_b939 nin0))
    have f965 : Arv Z T949.heap b750 k750 (.object "java/lang/String") (3 : Int32) [(.ref b_706), (.ref b_711), (.ref b_716)] .null := (((((f786.ext E939).ext E941).other W944 ne_b750_b941).other W947 ne_b750_b941).keep K949q (ninS ne_b750_b939 nin0))
    have f966 : Arv Z T949.heap b761 k761 (.object "java/lang/String") (3 : Int32) [(.ref b720), (.ref b730), (.ref b740)] .null := (((((V_b761_770.ext E939).ext E941).other W944 ne_b761_b941).other W947 ne_b761_b941).keep K949q (ninS ne_b761_b939 nin0))
    have f967 : Exa Z T949.heap b939 "java/lang/String" := ((((A939.ext E941).wr W944).wr W947).keep K949q)
    have pre969 : ∀ t, Steps p.tables e below (T949.setTop (mkF m 183 #[.val (.int p1), .val (.int p2), .val (.int p3), .val (.int p4), .val (.int p5), .val (.int p6), .val (.ref b_706), .val (.ref b_711), .val (.ref b_716), .val (.ref b720), .val (.ref b730), .val (.ref b740), .val (.ref b750), .val (.ref b761), .val (.int kk), .val (.int cq), .val (.ref b939), .unset, .unset, .unset, .unset] [(.int (p6 &&& (1 : Int32)))])) t → Steps p.tables e below (s₁.setTop (entryFrame m #[(.int p1), (.int p2), (.int p3), (.int p4), (.int p5), (.int p6)] maxLocals)) t := by
      intro t kt
      refine pre789 _ ?_
      show Steps p.tables e below (T770.setTop (mkF m 144 #[.val (.int p1), .val (.int p2), .val (.int p3), .val (.int p4), .val (.int p5), .val (.int p6), .val (.ref b_706), .val (.ref b_711), .val (.ref b_716), .val (.ref b720), .val (.ref b730), .val (.ref b740), .val (.ref b750), .val (.ref b761), .val (.int kk), .val (.int cq), .unset, .unset, .unset, .unset, .unset] [(.int (p6 &&& (2 : Int32)))])) _
      refine XS.ifNo X770.here hx rfl (hb hby at_144) rfl ((if0 _ _).trans (feq hc144_788).1) ?_
      refine st939 _ ?_
      refine XS.dup X939.here hx rfl (hb hby at_150) rfl rfl ?_
      refine XS.iconst X939.here hx rfl (hb hby at_151) ?_
      refine st941 _ ?_
      refine XS.dup X941.here hx rfl (hb hby at_154) rfl rfl ?_
      show Steps p.tables e below (T941.setTop (mkF m 155 #[.val (.int p1), .val (.int p2), .val (.int p3), .val (.int p4), .val (.int p5), .val (.int p6), .val (.ref b_706), .val (.ref b_711), .val (.ref b_716), .val (.ref b720), .val (.ref b730), .val (.ref b740), .val (.ref b750), .val (.ref b761), .val (.int kk), .val (.int cq), .unset, .unset, .unset, .unset, .unset] [(.ref b941), (.ref b941), (.ref b939), (.ref b939)])) _
      refine XS.iconst X941.here hx rfl (hb hby at_155) ?_
      refine XS.iload X941.here hx rfl (hb hby at_156) rfl ?_
      refine st944 _ ?_
      refine XS.dup X944.here hx rfl (hb hby at_159) rfl rfl ?_
      refine XS.iconst X944.here hx rfl (hb hby at_160) ?_
      refine XS.iload X944.here hx rfl (hb hby at_161) rfl ?_
      refine st947 _ ?_
      refine st949.trans ?_
      refine XS.astore X949.here hx rfl (hb hby at_167) rfl rfl (l' := #[.val (.int p1), .val (.int p2), .val (.int p3), .val (.int p4), .val (.int p5), .val (.int p6), .val (.ref b_706), .val (.ref b_711), .val (.ref b_716), .val (.ref b720), .val (.ref b730), .val (.ref b740), .val (.ref b750), .val (.ref b761), .val (.int kk), .val (.int cq), .val (.ref b939), .unset, .unset, .unset, .unset]) rfl ?_
      refine XS.goto X949.here hx rfl (pc0 := 169) (pc' := 179) rfl (hb hby at_169) (by decide) (by decide) ?_
      show Steps p.tables e below (T949.setTop (mkF m 179 #[.val (.int p1), .val (.int p2), .val (.int p3), .val (.int p4), .val (.int p5), .val (.int p6), .val (.ref b_706), .val (.ref b_711), .val (.ref b_716), .val (.ref b720), .val (.ref b730), .val (.ref b740), .val (.ref b750), .val (.ref b761), .val (.int kk), .val (.int cq), .val (.ref b939), .unset, .unset, .unset, .unset] [])) _
      refine XS.iload X949.here hx rfl (hb hby at_179) rfl ?_
      refine XS.iconst X949.here hx rfl (hb hby at_181) ?_
      refine XS.iand X949.here hx rfl (hb hby at_182) rfl ?_
      exact kt
    by_cases hc183_968 : (p6 &&& (1 : Int32)) = (0 : Int32)
    · obtain ⟨T970, h970, X970, e970, E970, A970, D970, -, st970⟩ := newO X949 hx hZ hown (wd_26 hw) (wd_10 hw) (wd_2 hw) rfl (g := (mkF m 192 #[.val (.int p1), .val (.int p2), .val (.int p3), .val (.int p4), .val (.int p5), .val (.int p6), .val (.ref b_706), .val (.ref b_711), .val (.ref b_716), .val (.ref b720), .val (.ref b730), .val (.ref b740), .val (.ref b750), .val (.ref b761), .val (.int kk), .val (.int cq), .val (.ref b939), .unset, .unset, .unset, .unset] [])) rfl (hb hby at_192) (by decide) (by decide)
      obtain ⟨b970, g970⟩ : ∃ z, z = T949.heap.size := ⟨_, rfl⟩
      rw [← g970] at A970 D970 st970
      have g_b970 : n0 ≤ b970 := Nat.le_trans Z950 (Nat.le_of_eq g970.symm)
      have ne_b_706_b970 : b_706 ≠ b970 := Nat.ne_of_lt (Nat.lt_of_lt_of_le (f953).lt (Nat.le_of_eq g970.symm))
      have ne_t_706_b970 : t_706 ≠ b970 := Nat.ne_of_lt (Nat.lt_of_lt_of_le (f956).lt (Nat.le_of_eq g970.symm))
      have ne_b_711_b970 : b_711 ≠ b970 := Nat.ne_of_lt (Nat.lt_of_lt_of_le (f957).lt (Nat.le_of_eq g970.symm))
      have ne_t_711_b970 : t_711 ≠ b970 := Nat.ne_of_lt (Nat.lt_of_lt_of_le (f960).lt (Nat.le_of_eq g970.symm))
      have ne_b_716_b970 : b_716 ≠ b970 := Nat.ne_of_lt (Nat.lt_of_lt_of_le (f961).lt (Nat.le_of_eq g970.symm))
      have ne_t_716_b970 : t_716 ≠ b970 := Nat.ne_of_lt (Nat.lt_of_lt_of_le (f964).lt (Nat.le_of_eq g970.symm))
      have ne_b750_b970 : b750 ≠ b970 := Nat.ne_of_lt (Nat.lt_of_lt_of_le (f965).lt (Nat.le_of_eq g970.symm))
      have ne_b761_b970 : b761 ≠ b970 := Nat.ne_of_lt (Nat.lt_of_lt_of_le (f966).lt (Nat.le_of_eq g970.symm))
      have ne_b939_b970 : b939 ≠ b970 := Nat.ne_of_lt (Nat.lt_of_lt_of_le (f967).lt (Nat.le_of_eq g970.symm))
      have ne_b_949_b970 : b_949 ≠ b970 := Nat.ne_of_lt (Nat.lt_of_lt_of_le (g949_3).lt (Nat.le_of_eq g970.symm))
      have Z971 : n0 ≤ h970.size := Nat.le_trans Z950 E970.1
      have F_value_b970 : Fld Z h970 b970 "java/lang/String" "value" "[B" .null := D970 (Or.inr (wd_23 hw)) (ty := (.array .byte)) (by decide)
      have F_coder_b970 : Fld Z h970 b970 "java/lang/String" "coder" "B" (.int (0 : Int32)) := D970 (Or.inr (wd_25 hw)) (ty := .byte) (by decide)
      obtain ⟨T972, h972, k972, X972, e972, E972, A972, st972⟩ := newP (aty := .char) X970 hx hZ (wd_27 hw) e970 (g := (mkF m 197 #[.val (.int p1), .val (.int p2), .val (.int p3), .val (.int p4), .val (.int p5), .val (.int p6), .val (.ref b_706), .val (.ref b_711), .val (.ref b_716), .val (.ref b720), .val (.ref b730), .val (.ref b740), .val (.ref b750), .val (.ref b761), .val (.int kk), .val (.int cq), .val (.ref b939), .unset, .unset, .unset, .unset] [(.int (1 : Int32)), (.ref b970), (.ref b970)])) rfl (hb hby at_197) rfl (by decide) (cap := 1) (by decide) (by decide) (by decide) (by decide)
      obtain ⟨b972, g972⟩ : ∃ z, z = h970.size := ⟨_, rfl⟩
      rw [← g972] at A972 st972
      have g_b972 : n0 ≤ b972 := Nat.le_trans Z971 (Nat.le_of_eq g972.symm)
      have ne_b_706_b972 : b_706 ≠ b972 := Nat.ne_of_lt (Nat.lt_of_lt_of_le ((f953.ext E970)).lt (Nat.le_of_eq g972.symm))
      have ne_t_706_b972 : t_706 ≠ b972 := Nat.ne_of_lt (Nat.lt_of_lt_of_le ((f956.ext E970)).lt (Nat.le_of_eq g972.symm))
      have ne_b_711_b972 : b_711 ≠ b972 := Nat.ne_of_lt (Nat.lt_of_lt_of_le ((f957.ext E970)).lt (Nat.le_of_eq g972.symm))
      have ne_t_711_b972 : t_711 ≠ b972 := Nat.ne_of_lt (Nat.lt_of_lt_of_le ((f960.ext E970)).lt (Nat.le_of_eq g972.symm))
      have ne_b_716_b972 : b_716 ≠ b972 := Nat.ne_of_lt (Nat.lt_of_lt_of_le ((f961.ext E970)).lt (Nat.le_of_eq g972.symm))
      have ne_t_716_b972 : t_716 ≠ b972 := Nat.ne_of_lt (Nat.lt_of_lt_of_le ((f964.ext E970)).lt (Nat.le_of_eq g972.symm))
      have ne_b750_b972 : b750 ≠ b972 := Nat.ne_of_lt (Nat.lt_of_lt_of_le ((f965.ext E970)).lt (Nat.le_of_eq g972.symm))
      have ne_b761_b972 : b761 ≠ b972 := Nat.ne_of_lt (Nat.lt_of_lt_of_le ((f966.ext E970)).lt (Nat.le_of_eq g972.symm))
      have ne_b939_b972 : b939 ≠ b972 := Nat.ne_of_lt (Nat.lt_of_lt_of_le ((f967.ext E970)).lt (Nat.le_of_eq g972.symm))
      have ne_b_949_b972 : b_949 ≠ b972 := Nat.ne_of_lt (Nat.lt_of_lt_of_le ((g949_3.ext E970)).lt (Nat.le_of_eq g972.symm))
      have ne_b970_b972 : b970 ≠ b972 := Nat.ne_of_lt (Nat.lt_of_lt_of_le (A970).lt (Nat.le_of_eq g972.symm))
      have Z973 : n0 ≤ h972.size := Nat.le_trans Z971 E972.1
      have V0_b972 := (Arv.new A972 (by decide)).pad (pad_rep [] (.int (0 : Int32)) 1)
      have V_b972 : Arv Z h972 b972 k972 .char (1 : Int32) [(.int (0 : Int32))] (.int (0 : Int32)) := V0_b972
      obtain ⟨cl974, Ar974, q974, S974, N974n, H974, G974⟩ := id (V_b972)
      have hin974 : ¬ ((0 : Int32) < 0 ∨ cl974.slots.size ≤ ((0 : Int32)).toNatClampNeg) := inb_of S974 ⟨by decide, by decide⟩
      obtain ⟨T975, h975, X975, e975, W975, st975⟩ := stC X972 hx hZ e972 Ar974 (j := (0 : Int32)) hin974 (g := (mkF m 203 #[.val (.int p1), .val (.int p2), .val (.int p3), .val (.int p4), .val (.int p5), .val (.int p6), .val (.ref b_706), .val (.ref b_711), .val (.ref b_716), .val (.ref b720), .val (.ref b730), .val (.ref b740), .val (.ref b750), .val (.ref b761), .val (.int kk), .val (.int cq), .val (.ref b939), .unset, .unset, .unset, .unset] [(.int (120 : Int32)), (.int (0 : Int32)), (.ref b972), (.ref b972), (.ref b970), (.ref b970)])) rfl rfl (hb hby at_203)
      have V_b972_975 : Arv Z h975 b972 k972 .char (1 : Int32) [(.int (nar .char (120 : Int32)))] (.int (0 : Int32)) := Arv.set Ar974 q974 S974 N974n H974 G974 (fits_nar_char _) W975 0 rfl (Nat.le_of_ble_eq_true rfl)
      have Z976 : n0 ≤ h975.size := Nat.le_trans Z973 (Keep.of_wr W975).1
      have N975 := Fr.snoc X975 N949 g_b972
      obtain ⟨_, _, ⟨T977, L977, k977, n977⟩, -, X977, ⟨Lc977, hQ977, l977, y977, z977⟩, st977⟩ := X975.specialBack hx (y := (⟨"java/lang/String", "<init>", "([C)V"⟩ : MethodName)) rfl hown (mvT hZ (wd_28 hw)) (mvT hZ (wd_29 hw)) (mvT hZ (wd_30 hw)) (by decide) (backOf (W := 1) (rmi1_1 l Z a0 hw [] b970 b972 .null (.int (0 : Int32)) k972 wz (nar .char (120 : Int32)) h975 n0 Z976 ((F_value_b970.ext E972).other W975 (Or.inl ne_b970_b972)) ((F_coder_b970.ext E972).other W975 (Or.inl ne_b970_b972)) ((A970.ext E972).wr W975) g_b970 V_b972_975 (by first | assumption | decide | omega) (((f952.ext E970).ext E972).wr W975 g_b972) S_COMPACT_STRINGS hz) hZ (wd_30 hw) (wd_2 hw) (by decide) (by decide)) (g := (mkF m 204 #[.val (.int p1), .val (.int p2), .val (.int p3), .val (.int p4), .val (.int p5), .val (.int p6), .val (.ref b_706), .val (.ref b_711), .val (.ref b_716), .val (.ref b720), .val (.ref b730), .val (.ref b740), .val (.ref b750), .val (.ref b761), .val (.int kk), .val (.int cq), .val (.ref b939), .unset, .unset, .unset, .unset] [(.ref b972), (.ref b970), (.ref b970)])) rfl (by rw [hml]; rfl) (Steps.refl _) (a := b970) (argsL := [(.ref b972)]) (rest := [(.ref b970)]) (lenOf pd___C_V rfl) rfl (by show 2 * 0 + _ ≤ _; exact Nat.le_of_eq rfl) (hb hby at_204) (fun _ _ => ⟨rfl, e975, (by decide : 22 + 1 ≤ _), (by decide : 52 + 1 ≤ _)⟩)
      dsimp only [Pt.U, Pt.locs, Pt.cells, Pt.slots] at X977 l977 y977 z977 st977 hQ977
      rw [l977, y977, z977] at X977
      obtain ⟨b_977, kb_977, rfl, N977q, K977q, g977_0, g977_1, g977_2, g977_3⟩ := hQ977
      have N977 := Fr.app N975 N977q
      have Z978 : n0 ≤ T977.heap.size := Nat.le_trans Z976 K977q.1
      have ne_b_706_b_977 : b_706 ≠ b_977 := Nat.ne_of_lt (Nat.lt_of_lt_of_le ((((f953.ext E970).ext E972).wr W975)).lt g977_0)
      have ne_t_706_b_977 : t_706 ≠ b_977 := Nat.ne_of_lt (Nat.lt_of_lt_of_le ((((f956.ext E970).ext E972).other W975 ne_t_706_b972)).lt g977_0)
      have ne_b_711_b_977 : b_711 ≠ b_977 := Nat.ne_of_lt (Nat.lt_of_lt_of_le ((((f957.ext E970).ext E972).wr W975)).lt g977_0)
      have ne_t_711_b_977 : t_711 ≠ b_977 := Nat.ne_of_lt (Nat.lt_of_lt_of_le ((((f960.ext E970).ext E972).other W975 ne_t_711_b972)).lt g977_0)
      have ne_b_716_b_977 : b_716 ≠ b_977 := Nat.ne_of_lt (Nat.lt_of_lt_of_le ((((f961.ext E970).ext E972).wr W975)).lt g977_0)
      have ne_t_716_b_977 : t_716 ≠ b_977 := Nat.ne_of_lt (Nat.lt_of_lt_of_le ((((f964.ext E970).ext E972).other W975 ne_t_716_b972)).lt g977_0)
      have ne_b750_b_977 : b750 ≠ b_977 := Nat.ne_of_lt (Nat.lt_of_lt_of_le ((((f965.ext E970).ext E972).other W975 ne_b750_b972)).lt g977_0)
      have ne_b761_b_977 : b761 ≠ b_977 := Nat.ne_of_lt (Nat.lt_of_lt_of_le ((((f966.ext E970).ext E972).other W975 ne_b761_b972)).lt g977_0)
      have ne_b939_b_977 : b939 ≠ b_977 := Nat.ne_of_lt (Nat.lt_of_lt_of_le ((((f967.ext E970).ext E972).wr W975)).lt g977_0)
      have ne_b_949_b_977 : b_949 ≠ b_977 := Nat.ne_of_lt (Nat.lt_of_lt_of_le ((((g949_3.ext E970).ext E972).other W975 ne_b_949_b972)).lt g977_0)
      have ne_b970_b_977 : b970 ≠ b_977 := Nat.ne_of_lt (Nat.lt_of_lt_of_le (((A970.ext E972).wr W975)).lt g977_0)
      have ne_b972_b_977 : b972 ≠ b_977 := Nat.ne_of_lt (Nat.lt_of_lt_of_le (V_b972_975).lt g977_0)
      have g979 : n0 ≤ b_977 := Nat.le_trans Z976 g977_0
      obtain ⟨T980, h980, X980, e980, E980, A980, D980, -, st980⟩ := newO X977 hx hZ hown (wd_45 hw) (wd_46 hw) (wd_47 hw) rfl (g := (mkF m 209 #[.val (.int p1), .val (.int p2), .val (.int p3), .val (.int p4), .val (.int p5), .val (.int p6), .val (.ref b_706), .val (.ref b_711), .val (.ref b_716), .val (.ref b720), .val (.ref b730), .val (.ref b740), .val (.ref b750), .val (.ref b761), .val (.int kk), .val (.int cq), .val (.ref b939), .val (.ref b970), .unset, .unset, .unset] [])) rfl (hb hby at_209) (by decide) (by decide)
      obtain ⟨b980, g980⟩ : ∃ z, z = T977.heap.size := ⟨_, rfl⟩
      rw [← g980] at A980 D980 st980
      have g_b980 : n0 ≤ b980 := Nat.le_trans Z978 (Nat.le_of_eq g980.symm)
      have ne_b_706_b980 : b_706 ≠ b980 := Nat.ne_of_lt (Nat.lt_of_lt_of_le (((((f953.ext E970).ext E972).wr W975).keep K977q)).lt (Nat.le_of_eq g980.symm))
      have ne_t_706_b980 : t_706 ≠ b980 := Nat.ne_of_lt (Nat.lt_of_lt_of_le (((((f956.ext E970).ext E972).other W975 ne_t_706_b972).keep K977q (ninS ne_t_706_b970 nin0))).lt (Nat.le_of_eq g980.symm))
      have ne_b_711_b980 : b_711 ≠ b980 := Nat.ne_of_lt (Nat.lt_of_lt_of_le (((((f957.ext E970).ext E972).wr W975).keep K977q)).lt (Nat.le_of_eq g980.symm))
      have ne_t_711_b980 : t_711 ≠ b980 := Nat.ne_of_lt (Nat.lt_of_lt_of_le (((((f960.ext E970).ext E972).other W975 ne_t_711_b972).keep K977q (ninS ne_t_711_b970 nin0))).lt (Nat.le_of_eq g980.symm))
      have ne_b_716_b980 : b_716 ≠ b980 := Nat.ne_of_lt (Nat.lt_of_lt_of_le (((((f961.ext E970).ext E972).wr W975).keep K977q)).lt (Nat.le_of_eq g980.symm))
      have ne_t_716_b980 : t_716 ≠ b980 := Nat.ne_of_lt (Nat.lt_of_lt_of_le (((((f964.ext E970).ext E972).other W975 ne_t_716_b972).keep K977q (ninS ne_t_716_b970 nin0))).lt (Nat.le_of_eq g980.symm))
      have ne_b750_b980 : b750 ≠ b980 := Nat.ne_of_lt (Nat.lt_of_lt_of_le (((((f965.ext E970).ext E972).other W975 ne_b750_b972).keep K977q (ninS ne_b750_b970 nin0))).lt (Nat.le_of_eq g980.symm))
      have ne_b761_b980 : b761 ≠ b980 := Nat.ne_of_lt (Nat.lt_of_lt_of_le (((((f966.ext E970).ext E972).other W975 ne_b761_b972).keep K977q (ninS ne_b761_b970 nin0))).lt (Nat.le_of_eq g980.symm))
      have ne_b939_b980 : b939 ≠ b980 := Nat.ne_of_lt (Nat.lt_of_lt_of_le (((((f967.ext E970).ext E972).wr W975).keep K977q)).lt (Nat.le_of_eq g980.symm))
      have ne_b_949_b980 : b_949 ≠ b980 := Nat.ne_of_lt (Nat.lt_of_lt_of_le (((((g949_3.ext E970).ext E972).other W975 ne_b_949_b972).keep K977q (ninS ne_b_949_b970 nin0))).lt (Nat.le_of_eq g980.symm))
      have Z981 : n0 ≤ h980.size := Nat.le_trans Z978 E980.1
      have F_names_b980 : Fld Z h980 b980 "com/example/kawi/kawi/xml/Attributes" "names" "[Ljava/lang/String;" .null := D980 (Or.inr (wd_53 hw)) (ty := (.array (.object "java/lang/String"))) (by decide)
      have F_values_b980 : Fld Z h980 b980 "com/example/kawi/kawi/xml/Attributes" "values" "[Ljava/lang/String;" .null := D980 (Or.inr (wd_55 hw)) (ty := (.array (.object "java/lang/String"))) (by decide)
      have F_size_b980 : Fld Z h980 b980 "com/example/kawi/kawi/xml/Attributes" "size" "I" (.int (0 : Int32)) := D980 (Or.inr (wd_57 hw)) (ty := .int) (by decide)
      obtain ⟨_, _, ⟨T982, L982, k982, n982⟩, -, X982, ⟨Lc982, hQ982, l982, y982, z982⟩, st982⟩ := X980.specialBack hx (y := (⟨"com/example/kawi/kawi/xml/Attributes", "<init>", "([Ljava/lang/String;[Ljava/lang/String;I)V"⟩ : MethodName)) rfl hown (mvT hZ (wd_48 hw)) (mvT hZ (wd_49 hw)) (mvT hZ (wd_50 hw)) (by decide) (backOf (W := 1) (rm11 l Z a0 hw [] b980 b750 b761 kk .null .null (.int (0 : Int32)) h980 n0 Z981 F_names_b980 F_values_b980 F_size_b980 A980 g_b980) hZ (wd_50 hw) (wd_47 hw) (by decide) (by decide)) (g := (mkF m 219 #[.val (.int p1), .val (.int p2), .val (.int p3), .val (.int p4), .val (.int p5), .val (.int p6), .val (.ref b_706), .val (.ref b_711), .val (.ref b_716), .val (.ref b720), .val (.ref b730), .val (.ref b740), .val (.ref b750), .val (.ref b761), .val (.int kk), .val (.int cq), .val (.ref b939), .val (.ref b970), .unset, .unset, .unset] [(.int kk), (.ref b761), (.ref b750), (.ref b980), (.ref b980)])) rfl (by rw [hml]; rfl) (Steps.refl _) (a := b980) (argsL := [(.ref b750), (.ref b761), (.int kk)]) (rest := [(.ref b980)]) (lenOf pd___Ljava_lang_String__Ljava_lang_String_I_V rfl) rfl (by show 2 * 0 + _ ≤ _; exact Nat.le_of_eq rfl) (hb hby at_219) (fun _ _ => ⟨rfl, e980, (by decide : 24 + 0 ≤ _), (by decide : 56 + 0 ≤ _)⟩)
      dsimp only [Pt.U, Pt.locs, Pt.cells, Pt.slots] at X982 l982 y982 z982 st982 hQ982
      rw [l982, y982, z982] at X982
      obtain ⟨rfl, N982q, K982q, g982_0, g982_1, g982_2⟩ := hQ982
      have N982 := Fr.app N977 N982q
      have Z983 : n0 ≤ T982.heap.size := Nat.le_trans Z981 K982q.1
      have f984 : Old Z n0 T982.heap := ((((((f952.ext E970).ext E972).wr W975 g_b972).keep K977q (allS g_b970 all0)).ext E980).keep K982q (allS g_b980 all0))
      have f985 : Exa Z T982.heap b_706 "java/lang/String" := ((((((f953.ext E970).ext E972).wr W975).keep K977q).ext E980).keep K982q)
      have f986 : Fld Z T982.heap b_706 "java/lang/String" "value" "[B" (.ref t_706) := ((((((f954.ext E970).ext E972).other W975 (Or.inl ne_b_706_b972)).keep K977q (ninS ne_b_706_b970 nin0)).ext E980).keep K982q (ninS ne_b_706_b980 nin0))
      have f987 : Fld Z T982.heap b_706 "java/lang/String" "coder" "B" (.int (0 : Int32)) := ((((((f955.ext E970).ext E972).other W975 (Or.inl ne_b_706_b972)).keep K977q (ninS ne_b_706_b970 nin0)).ext E980).keep K982q (ninS ne_b_706_b980 nin0))
      have f988 : Arv Z T982.heap t_706 kb_706 .byte (1 : Int32) [(.int (nar .byte (cA.toInt8.toInt32)))] (.int (0 : Int32)) := ((((((f956.ext E970).ext E972).other W975 ne_t_706_b972).keep K977q (ninS ne_t_706_b970 nin0)).ext E980).keep K982q (ninS ne_t_706_b980 nin0))
      have f989 : Exa Z T982.heap b_711 "java/lang/String" := ((((((f957.ext E970).ext E972).wr W975).keep K977q).ext E980).keep K982q)
      have f990 : Fld Z T982.heap b_711 "java/lang/String" "value" "[B" (.ref t_711) := ((((((f958.ext E970).ext E972).other W975 (Or.inl ne_b_711_b972)).keep K977q (ninS ne_b_711_b970 nin0)).ext E980).keep K982q (ninS ne_b_711_b980 nin0))
      have f991 : Fld Z T982.heap b_711 "java/lang/String" "coder" "B" (.int (0 : Int32)) := ((((((f959.ext E970).ext E972).other W975 (Or.inl ne_b_711_b972)).keep K977q (ninS ne_b_711_b970 nin0)).ext E980).keep K982q (ninS ne_b_711_b980 nin0))
      have f992 : Arv Z T982.heap t_711 kb_711 .byte (1 : Int32) [(.int (nar .byte (cB.toInt8.toInt32)))] (.int (0 : Int32)) := ((((((f960.ext E970).ext E972).other W975 ne_t_711_b972).keep K977q (ninS ne_t_711_b970 nin0)).ext E980).keep K982q (ninS ne_t_711_b980 nin0))
      have f993 : Exa Z T982.heap b_716 "java/lang/String" := ((((((f961.ext E970).ext E972).wr W975).keep K977q).ext E980).keep K982q)
      have f994 : Fld Z T982.heap b_716 "java/lang/String" "value" "[B" (.ref t_716) := ((((((f962.ext E970).ext E972).other W975 (Or.inl ne_b_716_b972)).keep K977q (ninS ne_b_716_b970 nin0)).ext E980).keep K982q (ninS ne_b_716_b980 nin0))
      have f995 : Fld Z T982.heap b_716 "java/lang/String" "coder" "B" (.int (0 : Int32)) := ((((((f963.ext E970).ext E972).other W975 (Or.inl ne_b_716_b972)).keep K977q (ninS ne_b_716_b970 nin0)).ext E980).keep K982q (ninS ne_b_716_b980 nin0))
      have f996 : Arv Z T982.heap t_716 kb_716 .byte (1 : Int32) [(.int (nar .byte (cC.toInt8.toInt32)))] (.int (0 : Int32)) := ((((((f964.ext E970).ext E972).other W975 ne_t_716_b972).keep K977q (ninS ne_t_716_b970 nin0)).ext E980).keep K982q (ninS ne_t_716_b980 nin0))
      have f997 : Arv Z T982.heap b750 k750 (.object "java/lang/String") (3 : Int32) [(.ref b_706), (.ref b_711), (.ref b_716)] .null := ((((((f965.ext E970).ext E972).other W975 ne_b750_b972).keep K977q (ninS ne_b750_b970 nin0)).ext E980).keep K982q (ninS ne_b750_b980 nin0))
      have f998 : Arv Z T982.heap b761 k761 (.object "java/lang/String") (3 : Int32) [(.ref b720), (.ref b730), (.ref b740)] .null := ((((((f966.ext E970).ext E972).other W975 ne_b761_b972).keep K977q (ninS ne_b761_b970 nin0)).ext E980).keep K982q (ninS ne_b761_b980 nin0))
      have f999 : Exa Z T982.heap b939 "java/lang/String" := ((((((f967.ext E970).ext E972).wr W975).keep K977q).ext E980).keep K982q)
      have f1000 : Fld Z T982.heap b939 "java/lang/String" "value" "[B" (.ref b_949) := ((((((g949_1.ext E970).ext E972).other W975 (Or.inl ne_b939_b972)).keep K977q (ninS ne_b939_b970 nin0)).ext E980).keep K982q (ninS ne_b939_b980 nin0))
      have f1001 : Fld Z T982.heap b939 "java/lang/String" "coder" "B" (.int (0 : Int32)) := ((((((g949_2.ext E970).ext E972).other W975 (Or.inl ne_b939_b972)).keep K977q (ninS ne_b939_b970 nin0)).ext E980).keep K982q (ninS ne_b939_b980 nin0))
      have f1002 : Arv Z T982.heap b_949 kb_949 .byte (2 : Int32) [(.int (nar .byte ((nar .char cq).toInt8.toInt32))), (.int (nar .byte ((nar .char cq).toInt8.toInt32)))] (.int (0 : Int32)) := ((((((g949_3.ext E970).ext E972).other W975 ne_b_949_b972).keep K977q (ninS ne_b_949_b970 nin0)).ext E980).keep K982q (ninS ne_b_949_b980 nin0))
      have f1003 : Exa Z T982.heap b980 "com/example/kawi/kawi/xml/Attributes" := (A980.keep K982q)
      have hk4 := own_four p4
      rw [← hkk] at hk4
      have pre1004 : ∀ t, Steps p.tables e below (T982.setTop (mkF m 224 #[.val (.int p1), .val (.int p2), .val (.int p3), .val (.int p4), .val (.int p5), .val (.int p6), .val (.ref b_706), .val (.ref b_711), .val (.ref b_716), .val (.ref b720), .val (.ref b730), .val (.ref b740), .val (.ref b750), .val (.ref b761), .val (.int kk), .val (.int cq), .val (.ref b939), .val (.ref b970), .val (.ref b980), .unset, .unset] [])) t → Steps p.tables e below (s₁.setTop (entryFrame m #[(.int p1), (.int p2), (.int p3), (.int p4), (.int p5), (.int p6)] maxLocals)) t := by
        intro t kt
        refine pre969 _ ?_
        show Steps p.tables e below (T949.setTop (mkF m 183 #[.val (.int p1), .val (.int p2), .val (.int p3), .val (.int p4), .val (.int p5), .val (.int p6), .val (.ref b_706), .val (.ref b_711), .val (.ref b_716), .val (.ref b720), .val (.ref b730), .val (.ref b740), .val (.ref b750), .val (.ref b761), .val (.int kk), .val (.int cq), .val (.ref b939), .unset, .unset, .unset, .unset] [(.int (p6 &&& (1 : Int32)))])) _
        refine XS.ifYes X949.here hx rfl (pc0 := 183) (pc' := 192) rfl (hb hby at_183) rfl ((if0 _ _).trans (teq hc183_968).1) (by decide) (by decide) ?_
        refine st970 _ ?_
        refine XS.dup X970.here hx rfl (hb hby at_195) rfl rfl ?_
        refine XS.iconst X970.here hx rfl (hb hby at_196) ?_
        refine st972 _ ?_
        refine XS.dup X972.here hx rfl (hb hby at_199) rfl rfl ?_
        refine XS.iconst X972.here hx rfl (hb hby at_200) ?_
        show Steps p.tables e below (T972.setTop (mkF m 201 #[.val (.int p1), .val (.int p2), .val (.int p3), .val (.int p4), .val (.int p5), .val (.int p6), .val (.ref b_706), .val (.ref b_711), .val (.ref b_716), .val (.ref b720), .val (.ref b730), .val (.ref b740), .val (.ref b750), .val (.ref b761), .val (.int kk), .val (.int cq), .val (.ref b939), .unset, .unset, .unset, .unset] [(.int (0 : Int32)), (.ref b972), (.ref b972), (.ref b970), (.ref b970)])) _
        refine XS.bipush X972.here hx rfl (hb hby at_201) ?_
        refine st975 _ ?_
        refine st977.trans ?_
        refine XS.astore X977.here hx rfl (hb hby at_207) rfl rfl (l' := #[.val (.int p1), .val (.int p2), .val (.int p3), .val (.int p4), .val (.int p5), .val (.int p6), .val (.ref b_706), .val (.ref b_711), .val (.ref b_716), .val (.ref b720), .val (.ref b730), .val (.ref b740), .val (.ref b750), .val (.ref b761), .val (.int kk), .val (.int cq), .val (.ref b939), .val (.ref b970), .unset, .unset, .unset]) rfl ?_
        refine st980 _ ?_
        refine XS.dup X980.here hx rfl (hb hby at_212) rfl rfl ?_
        refine XS.aload X980.here hx rfl (hb hby at_213) rfl rfl ?_
        refine XS.aload X980.here hx rfl (hb hby at_215) rfl rfl ?_
        refine XS.iload X980.here hx rfl (hb hby at_217) rfl ?_
        refine st982.trans ?_
        show Steps p.tables e below (T982.setTop (mkF m 222 #[.val (.int p1), .val (.int p2), .val (.int p3), .val (.int p4), .val (.int p5), .val (.int p6), .val (.ref b_706), .val (.ref b_711), .val (.ref b_716), .val (.ref b720), .val (.ref b730), .val (.ref b740), .val (.ref b750), .val (.ref b761), .val (.int kk), .val (.int cq), .val (.ref b939), .val (.ref b970), .unset, .unset, .unset] [(.ref b980)])) _
        refine XS.astore X982.here hx rfl (hb hby at_222) rfl rfl (l' := #[.val (.int p1), .val (.int p2), .val (.int p3), .val (.int p4), .val (.int p5), .val (.int p6), .val (.ref b_706), .val (.ref b_711), .val (.ref b_716), .val (.ref b720), .val (.ref b730), .val (.ref b740), .val (.ref b750), .val (.ref b761), .val (.int kk), .val (.int cq), .val (.ref b939), .val (.ref b970), .val (.ref b980), .unset, .unset]) rfl ?_
        exact kt
      rcases hk4 with rfl | rfl | rfl | rfl
      · obtain ⟨cq1005, kq1005, q1005a, q1005b, q1005c⟩ := isOf hZ rfl (f1003)
        obtain ⟨_, _, ⟨T1005, L1005, k1005, n1005⟩, -, X1005, ⟨Lc1005, hQ1005, l1005, y1005, z1005⟩, st1005⟩ := X982.virtualBack hx (y := (⟨"com/example/kawi/kawi/xml/Attributes", "getOrDefault", "(Ljava/lang/String;Ljava/lang/String;)Ljava/lang/String;"⟩ : MethodName)) (z := (⟨"com/example/kawi/kawi/xml/Attributes", "getOrDefault", "(Ljava/lang/String;Ljava/lang/String;)Ljava/lang/String;"⟩ : MethodName)) hown (mvT hZ (wd_66 hw)) (mvT hZ (wd_67 hw)) (notFace_of_selects (args := #[]) (mvT hZ (wd_69 hw))) (mvT hZ (wd_69 hw)) (mvT hZ (wd_68 hw)) (by decide) (backOf (W := 0) (rmg0x2 l Z a0 hw [] b980 b939 b970 b750 b761 k750 k761 b_706 b_711 b_716 b720 b730 b740 (nar .byte ((nar .char cq).toInt8.toInt32)) (nar .byte ((nar .char cq).toInt8.toInt32)) b_949 kb_949 wz T982.heap n0 Z983 g982_0 g982_1 g982_2 f997 f998 f999 f1000 f1001 f1002 f984 S_COMPACT_STRINGS hz) hZ (wd_70 hw) (wd_47 hw) (by decide) (by decide)) q1005a q1005c (g := (mkF m 302 #[.val (.int p1), .val (.int p2), .val (.int p3), .val (.int p4), .val (.int p5), .val (.int p6), .val (.ref b_706), .val (.ref b_711), .val (.ref b_716), .val (.ref b720), .val (.ref b730), .val (.ref b740), .val (.ref b750), .val (.ref b761), .val (.int (0 : Int32)), .val (.int cq), .val (.ref b939), .val (.ref b970), .val (.ref b980), .val (.ref b970), .unset] [(.ref b970), (.ref b939), (.ref b980)])) rfl (by rw [hml]; rfl) (Steps.refl _) (argsL := [(.ref b939), (.ref b970)]) (rest := []) (lenOf pd__Ljava_lang_String_Ljava_lang_String__Ljava_lang_String_ rfl) rfl (by show 2 * 0 + _ ≤ _; exact Nat.le_of_eq rfl) (hb hby at_302) (fun _ _ => ⟨rfl, rfl, (by decide : 24 + 0 ≤ _), (by decide : 56 + 0 ≤ _)⟩)
        dsimp only [Pt.U, Pt.locs, Pt.cells, Pt.slots] at X1005 l1005 y1005 z1005 st1005 hQ1005
        rw [l1005, y1005, z1005] at X1005
        obtain ⟨rfl, N1005q, e1005⟩ := hQ1005
        have N1005 := Fr.app N982 N1005q
        obtain ⟨fs, hr, hrun, hended, hW, hsame⟩ := X1005.leave (v := some (.int (1 : Int32))) (fun h => by rw [Bd.returns] at h; cases h)
        refine ⟨_, _, pre1004 _ ?_, hrun, hended, _, _, rfl, ?_, ⟨_, rfl⟩, hW, hsame.mono (by decide) (by decide)⟩
        · show Steps p.tables e below (T982.setTop (mkF m 224 #[.val (.int p1), .val (.int p2), .val (.int p3), .val (.int p4), .val (.int p5), .val (.int p6), .val (.ref b_706), .val (.ref b_711), .val (.ref b_716), .val (.ref b720), .val (.ref b730), .val (.ref b740), .val (.ref b750), .val (.ref b761), .val (.int (0 : Int32)), .val (.int cq), .val (.ref b939), .val (.ref b970), .val (.ref b980), .unset, .unset] [])) _
          refine XS.iload X982.here hx rfl (hb hby at_224) rfl ?_
          refine XS.ifYes X982.here hx rfl (pc0 := 226) (pc' := 246) rfl (hb hby at_226) rfl ((if0 _ _).trans (flt (by decide)).2.2.2) (by decide) (by decide) ?_
          refine XS.iload X982.here hx rfl (hb hby at_246) rfl ?_
          refine XS.iconst X982.here hx rfl (hb hby at_248) ?_
          refine XS.icmpYes X982.here hx rfl (pc0 := 249) (pc' := 269) rfl (hb hby at_249) rfl (flt (by decide)).2.2.2 (by decide) (by decide) ?_
          refine XS.iload X982.here hx rfl (hb hby at_269) rfl ?_
          refine XS.iconst X982.here hx rfl (hb hby at_271) ?_
          refine XS.icmpYes X982.here hx rfl (pc0 := 272) (pc' := 292) rfl (hb hby at_272) rfl (flt (by decide)).2.2.2 (by decide) (by decide) ?_
          refine XS.aload X982.here hx rfl (hb hby at_292) rfl rfl ?_
          refine XS.astore X982.here hx rfl (hb hby at_294) rfl rfl (l' := #[.val (.int p1), .val (.int p2), .val (.int p3), .val (.int p4), .val (.int p5), .val (.int p6), .val (.ref b_706), .val (.ref b_711), .val (.ref b_716), .val (.ref b720), .val (.ref b730), .val (.ref b740), .val (.ref b750), .val (.ref b761), .val (.int (0 : Int32)), .val (.int cq), .val (.ref b939), .val (.ref b970), .val (.ref b980), .val (.ref b970), .unset]) rfl ?_
          show Steps p.tables e below (T982.setTop (mkF m 296 #[.val (.int p1), .val (.int p2), .val (.int p3), .val (.int p4), .val (.int p5), .val (.int p6), .val (.ref b_706), .val (.ref b_711), .val (.ref b_716), .val (.ref b720), .val (.ref b730), .val (.ref b740), .val (.ref b750), .val (.ref b761), .val (.int (0 : Int32)), .val (.int cq), .val (.ref b939), .val (.ref b970), .val (.ref b980), .val (.ref b970), .unset] [])) _
          refine XS.aload X982.here hx rfl (hb hby at_296) rfl rfl ?_
          refine XS.aload X982.here hx rfl (hb hby at_298) rfl rfl ?_
          refine XS.aload X982.here hx rfl (hb hby at_300) rfl rfl ?_
          refine st1005.trans ?_
          refine XS.astore X1005.here hx rfl (hb hby at_305) rfl rfl (l' := #[.val (.int p1), .val (.int p2), .val (.int p3), .val (.int p4), .val (.int p5), .val (.int p6), .val (.ref b_706), .val (.ref b_711), .val (.ref b_716), .val (.ref b720), .val (.ref b730), .val (.ref b740), .val (.ref b750), .val (.ref b761), .val (.int (0 : Int32)), .val (.int cq), .val (.ref b939), .val (.ref b970), .val (.ref b980), .val (.ref b970), .val (.ref b970)]) rfl ?_
          refine XS.aload X1005.here hx rfl (hb hby at_307) rfl rfl ?_
          refine XS.aload X1005.here hx rfl (hb hby at_309) rfl rfl ?_
          refine Jvm.RoadKit.acmp (g := (mkF m 311 #[.val (.int p1), .val (.int p2), .val (.int p3), .val (.int p4), .val (.int p5), .val (.int p6), .val (.ref b_706), .val (.ref b_711), .val (.ref b_716), .val (.ref b720), .val (.ref b730), .val (.ref b740), .val (.ref b750), .val (.ref b761), .val (.int (0 : Int32)), .val (.int cq), .val (.ref b939), .val (.ref b970), .val (.ref b980), .val (.ref b970), .val (.ref b970)] [(.ref b970), (.ref b970)])) X1005 hx rfl rfl rfl (pc0 := 311) (pc' := 314) (same := true) rfl (hb hby at_311) rfl (decide_eq_true rfl) (by decide) (by decide) ?_
          refine XS.iconst X1005.here hx rfl (hb hby at_314) ?_
          refine XS.goto X1005.here hx rfl (pc0 := 315) (pc' := 319) rfl (hb hby at_315) (by decide) (by decide) ?_
          show Steps p.tables e below (T1005.setTop (mkF m 319 #[.val (.int p1), .val (.int p2), .val (.int p3), .val (.int p4), .val (.int p5), .val (.int p6), .val (.ref b_706), .val (.ref b_711), .val (.ref b_716), .val (.ref b720), .val (.ref b730), .val (.ref b740), .val (.ref b750), .val (.ref b761), .val (.int (0 : Int32)), .val (.int cq), .val (.ref b939), .val (.ref b970), .val (.ref b980), .val (.ref b970), .val (.ref b970)] [(.int (1 : Int32))])) _
          exact retN X1005 hx (t := .boolean) Bd.returns (by simp) (hb hby at_319) hr
        · show Q_rm0 Z p1 p2 p3 p4 p5 p6 wz h0 n0 _ T1005.heap _
          rw [e1005]
          exact ⟨rfl, N1005, trivial⟩
      · obtain ⟨cq1006, kq1006, q1006a, q1006b, q1006c⟩ := isOf hZ rfl (f985)
        obtain ⟨_, _, ⟨T1006, L1006, k1006, n1006⟩, -, X1006, ⟨Lc1006, hQ1006, l1006, y1006, z1006⟩, st1006⟩ := X982.virtualBack hx (y := (⟨"java/lang/String", "equals", "(Ljava/lang/Object;)Z"⟩ : MethodName)) (z := (⟨"java/lang/String", "equals", "(Ljava/lang/Object;)Z"⟩ : MethodName)) hown (mvT hZ (wd_58 hw)) (mvT hZ (wd_59 hw)) (notFace_of_selects (args := #[]) (mvT hZ (wd_61 hw))) (mvT hZ (wd_61 hw)) (mvT hZ (wd_60 hw)) (by decide) (backOf (W := 0) (rmeq12 l Z a0 hw [] b_706 b939 t_706 b_949 wz kb_706 kb_949 (nar .byte (cA.toInt8.toInt32)) (nar .byte ((nar .char cq).toInt8.toInt32)) (nar .byte ((nar .char cq).toInt8.toInt32)) T982.heap n0 Z983 f985 f999 f986 f1000 f987 f1001 f988 f1002 f984 S_COMPACT_STRINGS hz ne_b_706_b939) hZ (wd_62 hw) (wd_2 hw) (by decide) (by decide)) q1006a q1006c (g := (mkF m 233 #[.val (.int p1), .val (.int p2), .val (.int p3), .val (.int p4), .val (.int p5), .val (.int p6), .val (.ref b_706), .val (.ref b_711), .val (.ref b_716), .val (.ref b720), .val (.ref b730), .val (.ref b740), .val (.ref b750), .val (.ref b761), .val (.int (1 : Int32)), .val (.int cq), .val (.ref b939), .val (.ref b970), .val (.ref b980), .unset, .unset] [(.ref b939), (.ref b_706)])) rfl (by rw [hml]; rfl) (Steps.refl _) (argsL := [(.ref b939)]) (rest := []) (lenOf pd__Ljava_lang_Object__Z rfl) rfl (by show 2 * 0 + _ ≤ _; exact Nat.le_of_eq rfl) (hb hby at_233) (fun _ _ => ⟨rfl, rfl, (by decide : 24 + 0 ≤ _), (by decide : 56 + 0 ≤ _)⟩)
        dsimp only [Pt.U, Pt.locs, Pt.cells, Pt.slots] at X1006 l1006 y1006 z1006 st1006 hQ1006
        rw [l1006, y1006, z1006] at X1006
        obtain ⟨rfl, N1006q, e1006⟩ := hQ1006
        have N1006 := Fr.app N982 N1006q
        obtain ⟨cq1007, kq1007, q1007a, q1007b, q1007c⟩ := isOf hZ e1006 (f1003)
        obtain ⟨_, _, ⟨T1007, L1007, k1007, n1007⟩, -, X1007, ⟨Lc1007, hQ1007, l1007, y1007, z1007⟩, st1007⟩ := X1006.virtualBack hx (y := (⟨"com/example/kawi/kawi/xml/Attributes", "getOrDefault", "(Ljava/lang/String;Ljava/lang/String;)Ljava/lang/String;"⟩ : MethodName)) (z := (⟨"com/example/kawi/kawi/xml/Attributes", "getOrDefault", "(Ljava/lang/String;Ljava/lang/String;)Ljava/lang/String;"⟩ : MethodName)) hown (mvT hZ (wd_66 hw)) (mvT hZ (wd_67 hw)) (notFace_of_selects (args := #[]) (mvT hZ (wd_69 hw))) (mvT hZ (wd_69 hw)) (mvT hZ (wd_68 hw)) (by decide) (backOf (W := 0) (rmg1x2 l Z a0 hw [] b980 b939 b970 b750 b761 k750 k761 b_706 b_711 b_716 b720 b730 b740 t_706 kb_706 (nar .byte (cA.toInt8.toInt32)) (nar .byte ((nar .char cq).toInt8.toInt32)) (nar .byte ((nar .char cq).toInt8.toInt32)) b_949 kb_949 wz T982.heap n0 Z983 g982_0 g982_1 g982_2 f997 f998 f985 f986 f987 f988 ne_b_706_b939 f999 f1000 f1001 f1002 f984 S_COMPACT_STRINGS hz) hZ (wd_70 hw) (wd_47 hw) (by decide) (by decide)) q1007a q1007c (g := (mkF m 302 #[.val (.int p1), .val (.int p2), .val (.int p3), .val (.int p4), .val (.int p5), .val (.int p6), .val (.ref b_706), .val (.ref b_711), .val (.ref b_716), .val (.ref b720), .val (.ref b730), .val (.ref b740), .val (.ref b750), .val (.ref b761), .val (.int (1 : Int32)), .val (.int cq), .val (.ref b939), .val (.ref b970), .val (.ref b980), .val (.ref b970), .unset] [(.ref b970), (.ref b939), (.ref b980)])) rfl (by rw [hml]; rfl) (Steps.refl _) (argsL := [(.ref b939), (.ref b970)]) (rest := []) (lenOf pd__Ljava_lang_String_Ljava_lang_String__Ljava_lang_String_ rfl) rfl (by show 2 * 0 + _ ≤ _; exact Nat.le_of_eq rfl) (hb hby at_302) (fun _ _ => ⟨rfl, e1006, (by decide : 24 + 0 ≤ _), (by decide : 56 + 0 ≤ _)⟩)
        dsimp only [Pt.U, Pt.locs, Pt.cells, Pt.slots] at X1007 l1007 y1007 z1007 st1007 hQ1007
        rw [l1007, y1007, z1007] at X1007
        obtain ⟨rfl, N1007q, e1007⟩ := hQ1007
        have N1007 := Fr.app N1006 N1007q
        obtain ⟨fs, hr, hrun, hended, hW, hsame⟩ := X1007.leave (v := some (.int (1 : Int32))) (fun h => by rw [Bd.returns] at h; cases h)
        refine ⟨_, _, pre1004 _ ?_, hrun, hended, _, _, rfl, ?_, ⟨_, rfl⟩, hW, hsame.mono (by decide) (by decide)⟩
        · show Steps p.tables e below (T982.setTop (mkF m 224 #[.val (.int p1), .val (.int p2), .val (.int p3), .val (.int p4), .val (.int p5), .val (.int p6), .val (.ref b_706), .val (.ref b_711), .val (.ref b_716), .val (.ref b720), .val (.ref b730), .val (.ref b740), .val (.ref b750), .val (.ref b761), .val (.int (1 : Int32)), .val (.int cq), .val (.ref b939), .val (.ref b970), .val (.ref b980), .unset, .unset] [])) _
          refine XS.iload X982.here hx rfl (hb hby at_224) rfl ?_
          refine XS.ifNo X982.here hx rfl (hb hby at_226) rfl ((if0 _ _).trans (tlt (by decide)).2.2.2) ?_
          refine XS.aload X982.here hx rfl (hb hby at_229) rfl rfl ?_
          refine XS.aload X982.here hx rfl (hb hby at_231) rfl rfl ?_
          refine st1006.trans ?_
          refine XS.ifYes X1006.here hx rfl (pc0 := 236) (pc' := 246) rfl (hb hby at_236) rfl ((if0 _ _).trans (teq (rfl : (0 : Int32) = (0 : Int32))).1) (by decide) (by decide) ?_
          refine XS.iload X1006.here hx rfl (hb hby at_246) rfl ?_
          refine XS.iconst X1006.here hx rfl (hb hby at_248) ?_
          refine XS.icmpYes X1006.here hx rfl (pc0 := 249) (pc' := 269) rfl (hb hby at_249) rfl (flt (by decide)).2.2.2 (by decide) (by decide) ?_
          refine XS.iload X1006.here hx rfl (hb hby at_269) rfl ?_
          show Steps p.tables e below (T1006.setTop (mkF m 271 #[.val (.int p1), .val (.int p2), .val (.int p3), .val (.int p4), .val (.int p5), .val (.int p6), .val (.ref b_706), .val (.ref b_711), .val (.ref b_716), .val (.ref b720), .val (.ref b730), .val (.ref b740), .val (.ref b750), .val (.ref b761), .val (.int (1 : Int32)), .val (.int cq), .val (.ref b939), .val (.ref b970), .val (.ref b980), .unset, .unset] [(.int (1 : Int32))])) _
          refine XS.iconst X1006.here hx rfl (hb hby at_271) ?_
          refine XS.icmpYes X1006.here hx rfl (pc0 := 272) (pc' := 292) rfl (hb hby at_272) rfl (flt (by decide)).2.2.2 (by decide) (by decide) ?_
          refine XS.aload X1006.here hx rfl (hb hby at_292) rfl rfl ?_
          refine XS.astore X1006.here hx rfl (hb hby at_294) rfl rfl (l' := #[.val (.int p1), .val (.int p2), .val (.int p3), .val (.int p4), .val (.int p5), .val (.int p6), .val (.ref b_706), .val (.ref b_711), .val (.ref b_716), .val (.ref b720), .val (.ref b730), .val (.ref b740), .val (.ref b750), .val (.ref b761), .val (.int (1 : Int32)), .val (.int cq), .val (.ref b939), .val (.ref b970), .val (.ref b980), .val (.ref b970), .unset]) rfl ?_
          refine XS.aload X1006.here hx rfl (hb hby at_296) rfl rfl ?_
          refine XS.aload X1006.here hx rfl (hb hby at_298) rfl rfl ?_
          refine XS.aload X1006.here hx rfl (hb hby at_300) rfl rfl ?_
          refine st1007.trans ?_
          refine XS.astore X1007.here hx rfl (hb hby at_305) rfl rfl (l' := #[.val (.int p1), .val (.int p2), .val (.int p3), .val (.int p4), .val (.int p5), .val (.int p6), .val (.ref b_706), .val (.ref b_711), .val (.ref b_716), .val (.ref b720), .val (.ref b730), .val (.ref b740), .val (.ref b750), .val (.ref b761), .val (.int (1 : Int32)), .val (.int cq), .val (.ref b939), .val (.ref b970), .val (.ref b980), .val (.ref b970), .val (.ref b970)]) rfl ?_
          refine XS.aload X1007.here hx rfl (hb hby at_307) rfl rfl ?_
          show Steps p.tables e below (T1007.setTop (mkF m 309 #[.val (.int p1), .val (.int p2), .val (.int p3), .val (.int p4), .val (.int p5), .val (.int p6), .val (.ref b_706), .val (.ref b_711), .val (.ref b_716), .val (.ref b720), .val (.ref b730), .val (.ref b740), .val (.ref b750), .val (.ref b761), .val (.int (1 : Int32)), .val (.int cq), .val (.ref b939), .val (.ref b970), .val (.ref b980), .val (.ref b970), .val (.ref b970)] [(.ref b970)])) _
          refine XS.aload X1007.here hx rfl (hb hby at_309) rfl rfl ?_
          refine Jvm.RoadKit.acmp (g := (mkF m 311 #[.val (.int p1), .val (.int p2), .val (.int p3), .val (.int p4), .val (.int p5), .val (.int p6), .val (.ref b_706), .val (.ref b_711), .val (.ref b_716), .val (.ref b720), .val (.ref b730), .val (.ref b740), .val (.ref b750), .val (.ref b761), .val (.int (1 : Int32)), .val (.int cq), .val (.ref b939), .val (.ref b970), .val (.ref b980), .val (.ref b970), .val (.ref b970)] [(.ref b970), (.ref b970)])) X1007 hx rfl rfl rfl (pc0 := 311) (pc' := 314) (same := true) rfl (hb hby at_311) rfl (decide_eq_true rfl) (by decide) (by decide) ?_
          refine XS.iconst X1007.here hx rfl (hb hby at_314) ?_
          refine XS.goto X1007.here hx rfl (pc0 := 315) (pc' := 319) rfl (hb hby at_315) (by decide) (by decide) ?_
          exact retN X1007 hx (t := .boolean) Bd.returns (by simp) (hb hby at_319) hr
        · show Q_rm0 Z p1 p2 p3 p4 p5 p6 wz h0 n0 _ T1007.heap _
          rw [e1007]
          exact ⟨rfl, N1007, trivial⟩
      · obtain ⟨cq1008, kq1008, q1008a, q1008b, q1008c⟩ := isOf hZ rfl (f985)
        obtain ⟨_, _, ⟨T1008, L1008, k1008, n1008⟩, -, X1008, ⟨Lc1008, hQ1008, l1008, y1008, z1008⟩, st1008⟩ := X982.virtualBack hx (y := (⟨"java/lang/String", "equals", "(Ljava/lang/Object;)Z"⟩ : MethodName)) (z := (⟨"java/lang/String", "equals", "(Ljava/lang/Object;)Z"⟩ : MethodName)) hown (mvT hZ (wd_58 hw)) (mvT hZ (wd_59 hw)) (notFace_of_selects (args := #[]) (mvT hZ (wd_61 hw))) (mvT hZ (wd_61 hw)) (mvT hZ (wd_60 hw)) (by decide) (backOf (W := 0) (rmeq12 l Z a0 hw [] b_706 b939 t_706 b_949 wz kb_706 kb_949 (nar .byte (cA.toInt8.toInt32)) (nar .byte ((nar .char cq).toInt8.toInt32)) (nar .byte ((nar .char cq).toInt8.toInt32)) T982.heap n0 Z983 f985 f999 f986 f1000 f987 f1001 f988 f1002 f984 S_COMPACT_STRINGS hz ne_b_706_b939) hZ (wd_62 hw) (wd_2 hw) (by decide) (by decide)) q1008a q1008c (g := (mkF m 233 #[.val (.int p1), .val (.int p2), .val (.int p3), .val (.int p4), .val (.int p5), .val (.int p6), .val (.ref b_706), .val (.ref b_711), .val (.ref b_716), .val (.ref b720), .val (.ref b730), .val (.ref b740), .val (.ref b750), .val (.ref b761), .val (.int (2 : Int32)), .val (.int cq), .val (.ref b939), .val (.ref b970), .val (.ref b980), .unset, .unset] [(.ref b939), (.ref b_706)])) rfl (by rw [hml]; rfl) (Steps.refl _) (argsL := [(.ref b939)]) (rest := []) (lenOf pd__Ljava_lang_Object__Z rfl) rfl (by show 2 * 0 + _ ≤ _; exact Nat.le_of_eq rfl) (hb hby at_233) (fun _ _ => ⟨rfl, rfl, (by decide : 24 + 0 ≤ _), (by decide : 56 + 0 ≤ _)⟩)
        dsimp only [Pt.U, Pt.locs, Pt.cells, Pt.slots] at X1008 l1008 y1008 z1008 st1008 hQ1008
        rw [l1008, y1008, z1008] at X1008
        obtain ⟨rfl, N1008q, e1008⟩ := hQ1008
        have N1008 := Fr.app N982 N1008q
        obtain ⟨cq1009, kq1009, q1009a, q1009b, q1009c⟩ := isOf hZ e1008 (f989)
        obtain ⟨_, _, ⟨T1009, L1009, k1009, n1009⟩, -, X1009, ⟨Lc1009, hQ1009, l1009, y1009, z1009⟩, st1009⟩ := X1008.virtualBack hx (y := (⟨"java/lang/String", "equals", "(Ljava/lang/Object;)Z"⟩ : MethodName)) (z := (⟨"java/lang/String", "equals", "(Ljava/lang/Object;)Z"⟩ : MethodName)) hown (mvT hZ (wd_58 hw)) (mvT hZ (wd_59 hw)) (notFace_of_selects (args := #[]) (mvT hZ (wd_61 hw))) (mvT hZ (wd_61 hw)) (mvT hZ (wd_60 hw)) (by decide) (backOf (W := 0) (rmeq12 l Z a0 hw [] b_711 b939 t_711 b_949 wz kb_711 kb_949 (nar .byte (cB.toInt8.toInt32)) (nar .byte ((nar .char cq).toInt8.toInt32)) (nar .byte ((nar .char cq).toInt8.toInt32)) T982.heap n0 Z983 f989 f999 f990 f1000 f991 f1001 f992 f1002 f984 S_COMPACT_STRINGS hz ne_b_711_b939) hZ (wd_62 hw) (wd_2 hw) (by decide) (by decide)) q1009a q1009c (g := (mkF m 256 #[.val (.int p1), .val (.int p2), .val (.int p3), .val (.int p4), .val (.int p5), .val (.int p6), .val (.ref b_706), .val (.ref b_711), .val (.ref b_716), .val (.ref b720), .val (.ref b730), .val (.ref b740), .val (.ref b750), .val (.ref b761), .val (.int (2 : Int32)), .val (.int cq), .val (.ref b939), .val (.ref b970), .val (.ref b980), .unset, .unset] [(.ref b939), (.ref b_711)])) rfl (by rw [hml]; rfl) (Steps.refl _) (argsL := [(.ref b939)]) (rest := []) (lenOf pd__Ljava_lang_Object__Z rfl) rfl (by show 2 * 0 + _ ≤ _; exact Nat.le_of_eq rfl) (hb hby at_256) (fun _ _ => ⟨rfl, e1008, (by decide : 24 + 0 ≤ _), (by decide : 56 + 0 ≤ _)⟩)
        dsimp only [Pt.U, Pt.locs, Pt.cells, Pt.slots] at X1009 l1009 y1009 z1009 st1009 hQ1009
        rw [l1009, y1009, z1009] at X1009
        obtain ⟨rfl, N1009q, e1009⟩ := hQ1009
        have N1009 := Fr.app N1008 N1009q
        obtain ⟨cq1010, kq1010, q1010a, q1010b, q1010c⟩ := isOf hZ e1009 (f1003)
        obtain ⟨_, _, ⟨T1010, L1010, k1010, n1010⟩, -, X1010, ⟨Lc1010, hQ1010, l1010, y1010, z1010⟩, st1010⟩ := X1009.virtualBack hx (y := (⟨"com/example/kawi/kawi/xml/Attributes", "getOrDefault", "(Ljava/lang/String;Ljava/lang/String;)Ljava/lang/String;"⟩ : MethodName)) (z := (⟨"com/example/kawi/kawi/xml/Attributes", "getOrDefault", "(Ljava/lang/String;Ljava/lang/String;)Ljava/lang/String;"⟩ : MethodName)) hown (mvT hZ (wd_66 hw)) (mvT hZ (wd_67 hw)) (notFace_of_selects (args := #[]) (mvT hZ (wd_69 hw))) (mvT hZ (wd_69 hw)) (mvT hZ (wd_68 hw)) (by decide) (backOf (W := 0) (rmg2x2 l Z a0 hw [] b980 b939 b970 b750 b761 k750 k761 b_706 b_711 b_716 b720 b730 b740 t_706 t_711 kb_706 kb_711 (nar .byte (cA.toInt8.toInt32)) (nar .byte (cB.toInt8.toInt32)) (nar .byte ((nar .char cq).toInt8.toInt32)) (nar .byte ((nar .char cq).toInt8.toInt32)) b_949 kb_949 wz T982.heap n0 Z983 g982_0 g982_1 g982_2 f997 f998 f985 f986 f987 f988 ne_b_706_b939 f989 f990 f991 f992 ne_b_711_b939 f999 f1000 f1001 f1002 f984 S_COMPACT_STRINGS hz) hZ (wd_70 hw) (wd_47 hw) (by decide) (by decide)) q1010a q1010c (g := (mkF m 302 #[.val (.int p1), .val (.int p2), .val (.int p3), .val (.int p4), .val (.int p5), .val (.int p6), .val (.ref b_706), .val (.ref b_711), .val (.ref b_716), .val (.ref b720), .val (.ref b730), .val (.ref b740), .val (.ref b750), .val (.ref b761), .val (.int (2 : Int32)), .val (.int cq), .val (.ref b939), .val (.ref b970), .val (.ref b980), .val (.ref b970), .unset] [(.ref b970), (.ref b939), (.ref b980)])) rfl (by rw [hml]; rfl) (Steps.refl _) (argsL := [(.ref b939), (.ref b970)]) (rest := []) (lenOf pd__Ljava_lang_String_Ljava_lang_String__Ljava_lang_String_ rfl) rfl (by show 2 * 0 + _ ≤ _; exact Nat.le_of_eq rfl) (hb hby at_302) (fun _ _ => ⟨rfl, e1009, (by decide : 24 + 0 ≤ _), (by decide : 56 + 0 ≤ _)⟩)
        dsimp only [Pt.U, Pt.locs, Pt.cells, Pt.slots] at X1010 l1010 y1010 z1010 st1010 hQ1010
        rw [l1010, y1010, z1010] at X1010
        obtain ⟨rfl, N1010q, e1010⟩ := hQ1010
        have N1010 := Fr.app N1009 N1010q
        obtain ⟨fs, hr, hrun, hended, hW, hsame⟩ := X1010.leave (v := some (.int (1 : Int32))) (fun h => by rw [Bd.returns] at h; cases h)
        refine ⟨_, _, pre1004 _ ?_, hrun, hended, _, _, rfl, ?_, ⟨_, rfl⟩, hW, hsame.mono (by decide) (by decide)⟩
        · show Steps p.tables e below (T982.setTop (mkF m 224 #[.val (.int p1), .val (.int p2), .val (.int p3), .val (.int p4), .val (.int p5), .val (.int p6), .val (.ref b_706), .val (.ref b_711), .val (.ref b_716), .val (.ref b720), .val (.ref b730), .val (.ref b740), .val (.ref b750), .val (.ref b761), .val (.int (2 : Int32)), .val (.int cq), .val (.ref b939), .val (.ref b970), .val (.ref b980), .unset, .unset] [])) _
          refine XS.iload X982.here hx rfl (hb hby at_224) rfl ?_
          refine XS.ifNo X982.here hx rfl (hb hby at_226) rfl ((if0 _ _).trans (tlt (by decide)).2.2.2) ?_
          refine XS.aload X982.here hx rfl (hb hby at_229) rfl rfl ?_
          refine XS.aload X982.here hx rfl (hb hby at_231) rfl rfl ?_
          refine st1008.trans ?_
          refine XS.ifYes X1008.here hx rfl (pc0 := 236) (pc' := 246) rfl (hb hby at_236) rfl ((if0 _ _).trans (teq (rfl : (0 : Int32) = (0 : Int32))).1) (by decide) (by decide) ?_
          refine XS.iload X1008.here hx rfl (hb hby at_246) rfl ?_
          refine XS.iconst X1008.here hx rfl (hb hby at_248) ?_
          refine XS.icmpNo X1008.here hx rfl (hb hby at_249) rfl (tlt (by decide)).2.2.2 ?_
          refine XS.aload X1008.here hx rfl (hb hby at_252) rfl rfl ?_
          show Steps p.tables e below (T1008.setTop (mkF m 254 #[.val (.int p1), .val (.int p2), .val (.int p3), .val (.int p4), .val (.int p5), .val (.int p6), .val (.ref b_706), .val (.ref b_711), .val (.ref b_716), .val (.ref b720), .val (.ref b730), .val (.ref b740), .val (.ref b750), .val (.ref b761), .val (.int (2 : Int32)), .val (.int cq), .val (.ref b939), .val (.ref b970), .val (.ref b980), .unset, .unset] [(.ref b_711)])) _
          refine XS.aload X1008.here hx rfl (hb hby at_254) rfl rfl ?_
          refine st1009.trans ?_
          refine XS.ifYes X1009.here hx rfl (pc0 := 259) (pc' := 269) rfl (hb hby at_259) rfl ((if0 _ _).trans (teq (rfl : (0 : Int32) = (0 : Int32))).1) (by decide) (by decide) ?_
          refine XS.iload X1009.here hx rfl (hb hby at_269) rfl ?_
          refine XS.iconst X1009.here hx rfl (hb hby at_271) ?_
          refine XS.icmpYes X1009.here hx rfl (pc0 := 272) (pc' := 292) rfl (hb hby at_272) rfl (flt (by decide)).2.2.2 (by decide) (by decide) ?_
          refine XS.aload X1009.here hx rfl (hb hby at_292) rfl rfl ?_
          refine XS.astore X1009.here hx rfl (hb hby at_294) rfl rfl (l' := #[.val (.int p1), .val (.int p2), .val (.int p3), .val (.int p4), .val (.int p5), .val (.int p6), .val (.ref b_706), .val (.ref b_711), .val (.ref b_716), .val (.ref b720), .val (.ref b730), .val (.ref b740), .val (.ref b750), .val (.ref b761), .val (.int (2 : Int32)), .val (.int cq), .val (.ref b939), .val (.ref b970), .val (.ref b980), .val (.ref b970), .unset]) rfl ?_
          refine XS.aload X1009.here hx rfl (hb hby at_296) rfl rfl ?_
          refine XS.aload X1009.here hx rfl (hb hby at_298) rfl rfl ?_
          show Steps p.tables e below (T1009.setTop (mkF m 300 #[.val (.int p1), .val (.int p2), .val (.int p3), .val (.int p4), .val (.int p5), .val (.int p6), .val (.ref b_706), .val (.ref b_711), .val (.ref b_716), .val (.ref b720), .val (.ref b730), .val (.ref b740), .val (.ref b750), .val (.ref b761), .val (.int (2 : Int32)), .val (.int cq), .val (.ref b939), .val (.ref b970), .val (.ref b980), .val (.ref b970), .unset] [(.ref b939), (.ref b980)])) _
          refine XS.aload X1009.here hx rfl (hb hby at_300) rfl rfl ?_
          refine st1010.trans ?_
          refine XS.astore X1010.here hx rfl (hb hby at_305) rfl rfl (l' := #[.val (.int p1), .val (.int p2), .val (.int p3), .val (.int p4), .val (.int p5), .val (.int p6), .val (.ref b_706), .val (.ref b_711), .val (.ref b_716), .val (.ref b720), .val (.ref b730), .val (.ref b740), .val (.ref b750), .val (.ref b761), .val (.int (2 : Int32)), .val (.int cq), .val (.ref b939), .val (.ref b970), .val (.ref b980), .val (.ref b970), .val (.ref b970)]) rfl ?_
          refine XS.aload X1010.here hx rfl (hb hby at_307) rfl rfl ?_
          refine XS.aload X1010.here hx rfl (hb hby at_309) rfl rfl ?_
          refine Jvm.RoadKit.acmp (g := (mkF m 311 #[.val (.int p1), .val (.int p2), .val (.int p3), .val (.int p4), .val (.int p5), .val (.int p6), .val (.ref b_706), .val (.ref b_711), .val (.ref b_716), .val (.ref b720), .val (.ref b730), .val (.ref b740), .val (.ref b750), .val (.ref b761), .val (.int (2 : Int32)), .val (.int cq), .val (.ref b939), .val (.ref b970), .val (.ref b980), .val (.ref b970), .val (.ref b970)] [(.ref b970), (.ref b970)])) X1010 hx rfl rfl rfl (pc0 := 311) (pc' := 314) (same := true) rfl (hb hby at_311) rfl (decide_eq_true rfl) (by decide) (by decide) ?_
          refine XS.iconst X1010.here hx rfl (hb hby at_314) ?_
          refine XS.goto X1010.here hx rfl (pc0 := 315) (pc' := 319) rfl (hb hby at_315) (by decide) (by decide) ?_
          exact retN X1010 hx (t := .boolean) Bd.returns (by simp) (hb hby at_319) hr
        · show Q_rm0 Z p1 p2 p3 p4 p5 p6 wz h0 n0 _ T1010.heap _
          rw [e1010]
          exact ⟨rfl, N1010, trivial⟩
      · obtain ⟨cq1011, kq1011, q1011a, q1011b, q1011c⟩ := isOf hZ rfl (f985)
        obtain ⟨_, _, ⟨T1011, L1011, k1011, n1011⟩, -, X1011, ⟨Lc1011, hQ1011, l1011, y1011, z1011⟩, st1011⟩ := X982.virtualBack hx (y := (⟨"java/lang/String", "equals", "(Ljava/lang/Object;)Z"⟩ : MethodName)) (z := (⟨"java/lang/String", "equals", "(Ljava/lang/Object;)Z"⟩ : MethodName)) hown (mvT hZ (wd_58 hw)) (mvT hZ (wd_59 hw)) (notFace_of_selects (args := #[]) (mvT hZ (wd_61 hw))) (mvT hZ (wd_61 hw)) (mvT hZ (wd_60 hw)) (by decide) (backOf (W := 0) (rmeq12 l Z a0 hw [] b_706 b939 t_706 b_949 wz kb_706 kb_949 (nar .byte (cA.toInt8.toInt32)) (nar .byte ((nar .char cq).toInt8.toInt32)) (nar .byte ((nar .char cq).toInt8.toInt32)) T982.heap n0 Z983 f985 f999 f986 f1000 f987 f1001 f988 f1002 f984 S_COMPACT_STRINGS hz ne_b_706_b939) hZ (wd_62 hw) (wd_2 hw) (by decide) (by decide)) q1011a q1011c (g := (mkF m 233 #[.val (.int p1), .val (.int p2), .val (.int p3), .val (.int p4), .val (.int p5), .val (.int p6), .val (.ref b_706), .val (.ref b_711), .val (.ref b_716), .val (.ref b720), .val (.ref b730), .val (.ref b740), .val (.ref b750), .val (.ref b761), .val (.int (3 : Int32)), .val (.int cq), .val (.ref b939), .val (.ref b970), .val (.ref b980), .unset, .unset] [(.ref b939), (.ref b_706)])) rfl (by rw [hml]; rfl) (Steps.refl _) (argsL := [(.ref b939)]) (rest := []) (lenOf pd__Ljava_lang_Object__Z rfl) rfl (by show 2 * 0 + _ ≤ _; exact Nat.le_of_eq rfl) (hb hby at_233) (fun _ _ => ⟨rfl, rfl, (by decide : 24 + 0 ≤ _), (by decide : 56 + 0 ≤ _)⟩)
        dsimp only [Pt.U, Pt.locs, Pt.cells, Pt.slots] at X1011 l1011 y1011 z1011 st1011 hQ1011
        rw [l1011, y1011, z1011] at X1011
        obtain ⟨rfl, N1011q, e1011⟩ := hQ1011
        have N1011 := Fr.app N982 N1011q
        obtain ⟨cq1012, kq1012, q1012a, q1012b, q1012c⟩ := isOf hZ e1011 (f989)
        obtain ⟨_, _, ⟨T1012, L1012, k1012, n1012⟩, -, X1012, ⟨Lc1012, hQ1012, l1012, y1012, z1012⟩, st1012⟩ := X1011.virtualBack hx (y := (⟨"java/lang/String", "equals", "(Ljava/lang/Object;)Z"⟩ : MethodName)) (z := (⟨"java/lang/String", "equals", "(Ljava/lang/Object;)Z"⟩ : MethodName)) hown (mvT hZ (wd_58 hw)) (mvT hZ (wd_59 hw)) (notFace_of_selects (args := #[]) (mvT hZ (wd_61 hw))) (mvT hZ (wd_61 hw)) (mvT hZ (wd_60 hw)) (by decide) (backOf (W := 0) (rmeq12 l Z a0 hw [] b_711 b939 t_711 b_949 wz kb_711 kb_949 (nar .byte (cB.toInt8.toInt32)) (nar .byte ((nar .char cq).toInt8.toInt32)) (nar .byte ((nar .char cq).toInt8.toInt32)) T982.heap n0 Z983 f989 f999 f990 f1000 f991 f1001 f992 f1002 f984 S_COMPACT_STRINGS hz ne_b_711_b939) hZ (wd_62 hw) (wd_2 hw) (by decide) (by decide)) q1012a q1012c (g := (mkF m 256 #[.val (.int p1), .val (.int p2), .val (.int p3), .val (.int p4), .val (.int p5), .val (.int p6), .val (.ref b_706), .val (.ref b_711), .val (.ref b_716), .val (.ref b720), .val (.ref b730), .val (.ref b740), .val (.ref b750), .val (.ref b761), .val (.int (3 : Int32)), .val (.int cq), .val (.ref b939), .val (.ref b970), .val (.ref b980), .unset, .unset] [(.ref b939), (.ref b_711)])) rfl (by rw [hml]; rfl) (Steps.refl _) (argsL := [(.ref b939)]) (rest := []) (lenOf pd__Ljava_lang_Object__Z rfl) rfl (by show 2 * 0 + _ ≤ _; exact Nat.le_of_eq rfl) (hb hby at_256) (fun _ _ => ⟨rfl, e1011, (by decide : 24 + 0 ≤ _), (by decide : 56 + 0 ≤ _)⟩)
        dsimp only [Pt.U, Pt.locs, Pt.cells, Pt.slots] at X1012 l1012 y1012 z1012 st1012 hQ1012
        rw [l1012, y1012, z1012] at X1012
        obtain ⟨rfl, N1012q, e1012⟩ := hQ1012
        have N1012 := Fr.app N1011 N1012q
        obtain ⟨cq1013, kq1013, q1013a, q1013b, q1013c⟩ := isOf hZ e1012 (f993)
        obtain ⟨_, _, ⟨T1013, L1013, k1013, n1013⟩, -, X1013, ⟨Lc1013, hQ1013, l1013, y1013, z1013⟩, st1013⟩ := X1012.virtualBack hx (y := (⟨"java/lang/String", "equals", "(Ljava/lang/Object;)Z"⟩ : MethodName)) (z := (⟨"java/lang/String", "equals", "(Ljava/lang/Object;)Z"⟩ : MethodName)) hown (mvT hZ (wd_58 hw)) (mvT hZ (wd_59 hw)) (notFace_of_selects (args := #[]) (mvT hZ (wd_61 hw))) (mvT hZ (wd_61 hw)) (mvT hZ (wd_60 hw)) (by decide) (backOf (W := 0) (rmeq12 l Z a0 hw [] b_716 b939 t_716 b_949 wz kb_716 kb_949 (nar .byte (cC.toInt8.toInt32)) (nar .byte ((nar .char cq).toInt8.toInt32)) (nar .byte ((nar .char cq).toInt8.toInt32)) T982.heap n0 Z983 f993 f999 f994 f1000 f995 f1001 f996 f1002 f984 S_COMPACT_STRINGS hz ne_b_716_b939) hZ (wd_62 hw) (wd_2 hw) (by decide) (by decide)) q1013a q1013c (g := (mkF m 279 #[.val (.int p1), .val (.int p2), .val (.int p3), .val (.int p4), .val (.int p5), .val (.int p6), .val (.ref b_706), .val (.ref b_711), .val (.ref b_716), .val (.ref b720), .val (.ref b730), .val (.ref b740), .val (.ref b750), .val (.ref b761), .val (.int (3 : Int32)), .val (.int cq), .val (.ref b939), .val (.ref b970), .val (.ref b980), .unset, .unset] [(.ref b939), (.ref b_716)])) rfl (by rw [hml]; rfl) (Steps.refl _) (argsL := [(.ref b939)]) (rest := []) (lenOf pd__Ljava_lang_Object__Z rfl) rfl (by show 2 * 0 + _ ≤ _; exact Nat.le_of_eq rfl) (hb hby at_279) (fun _ _ => ⟨rfl, e1012, (by decide : 24 + 0 ≤ _), (by decide : 56 + 0 ≤ _)⟩)
        dsimp only [Pt.U, Pt.locs, Pt.cells, Pt.slots] at X1013 l1013 y1013 z1013 st1013 hQ1013
        rw [l1013, y1013, z1013] at X1013
        obtain ⟨rfl, N1013q, e1013⟩ := hQ1013
        have N1013 := Fr.app N1012 N1013q
        obtain ⟨cq1014, kq1014, q1014a, q1014b, q1014c⟩ := isOf hZ e1013 (f1003)
        obtain ⟨_, _, ⟨T1014, L1014, k1014, n1014⟩, -, X1014, ⟨Lc1014, hQ1014, l1014, y1014, z1014⟩, st1014⟩ := X1013.virtualBack hx (y := (⟨"com/example/kawi/kawi/xml/Attributes", "getOrDefault", "(Ljava/lang/String;Ljava/lang/String;)Ljava/lang/String;"⟩ : MethodName)) (z := (⟨"com/example/kawi/kawi/xml/Attributes", "getOrDefault", "(Ljava/lang/String;Ljava/lang/String;)Ljava/lang/String;"⟩ : MethodName)) hown (mvT hZ (wd_66 hw)) (mvT hZ (wd_67 hw)) (notFace_of_selects (args := #[]) (mvT hZ (wd_69 hw))) (mvT hZ (wd_69 hw)) (mvT hZ (wd_68 hw)) (by decide) (backOf (W := 0) (rmg3x2 l Z a0 hw [] b980 b939 b970 b750 b761 k750 k761 b_706 b_711 b_716 b720 b730 b740 t_706 t_711 t_716 kb_706 kb_711 kb_716 (nar .byte (cA.toInt8.toInt32)) (nar .byte (cB.toInt8.toInt32)) (nar .byte (cC.toInt8.toInt32)) (nar .byte ((nar .char cq).toInt8.toInt32)) (nar .byte ((nar .char cq).toInt8.toInt32)) b_949 kb_949 wz T982.heap n0 Z983 g982_0 g982_1 g982_2 f997 f998 f985 f986 f987 f988 ne_b_706_b939 f989 f990 f991 f992 ne_b_711_b939 f993 f994 f995 f996 ne_b_716_b939 f999 f1000 f1001 f1002 f984 S_COMPACT_STRINGS hz) hZ (wd_70 hw) (wd_47 hw) (by decide) (by decide)) q1014a q1014c (g := (mkF m 302 #[.val (.int p1), .val (.int p2), .val (.int p3), .val (.int p4), .val (.int p5), .val (.int p6), .val (.ref b_706), .val (.ref b_711), .val (.ref b_716), .val (.ref b720), .val (.ref b730), .val (.ref b740), .val (.ref b750), .val (.ref b761), .val (.int (3 : Int32)), .val (.int cq), .val (.ref b939), .val (.ref b970), .val (.ref b980), .val (.ref b970), .unset] [(.ref b970), (.ref b939), (.ref b980)])) rfl (by rw [hml]; rfl) (Steps.refl _) (argsL := [(.ref b939), (.ref b970)]) (rest := []) (lenOf pd__Ljava_lang_String_Ljava_lang_String__Ljava_lang_String_ rfl) rfl (by show 2 * 0 + _ ≤ _; exact Nat.le_of_eq rfl) (hb hby at_302) (fun _ _ => ⟨rfl, e1013, (by decide : 24 + 0 ≤ _), (by decide : 56 + 0 ≤ _)⟩)
        dsimp only [Pt.U, Pt.locs, Pt.cells, Pt.slots] at X1014 l1014 y1014 z1014 st1014 hQ1014
        rw [l1014, y1014, z1014] at X1014
        obtain ⟨rfl, N1014q, e1014⟩ := hQ1014
        have N1014 := Fr.app N1013 N1014q
        obtain ⟨fs, hr, hrun, hended, hW, hsame⟩ := X1014.leave (v := some (.int (1 : Int32))) (fun h => by rw [Bd.returns] at h; cases h)
        refine ⟨_, _, pre1004 _ ?_, hrun, hended, _, _, rfl, ?_, ⟨_, rfl⟩, hW, hsame.mono (by decide) (by decide)⟩
        · show Steps p.tables e below (T982.setTop (mkF m 224 #[.val (.int p1), .val (.int p2), .val (.int p3), .val (.int p4), .val (.int p5), .val (.int p6), .val (.ref b_706), .val (.ref b_711), .val (.ref b_716), .val (.ref b720), .val (.ref b730), .val (.ref b740), .val (.ref b750), .val (.ref b761), .val (.int (3 : Int32)), .val (.int cq), .val (.ref b939), .val (.ref b970), .val (.ref b980), .unset, .unset] [])) _
          refine XS.iload X982.here hx rfl (hb hby at_224) rfl ?_
          refine XS.ifNo X982.here hx rfl (hb hby at_226) rfl ((if0 _ _).trans (tlt (by decide)).2.2.2) ?_
          refine XS.aload X982.here hx rfl (hb hby at_229) rfl rfl ?_
          refine XS.aload X982.here hx rfl (hb hby at_231) rfl rfl ?_
          refine st1011.trans ?_
          refine XS.ifYes X1011.here hx rfl (pc0 := 236) (pc' := 246) rfl (hb hby at_236) rfl ((if0 _ _).trans (teq (rfl : (0 : Int32) = (0 : Int32))).1) (by decide) (by decide) ?_
          refine XS.iload X1011.here hx rfl (hb hby at_246) rfl ?_
          refine XS.iconst X1011.here hx rfl (hb hby at_248) ?_
          refine XS.icmpNo X1011.here hx rfl (hb hby at_249) rfl (tlt (by decide)).2.2.2 ?_
          refine XS.aload X1011.here hx rfl (hb hby at_252) rfl rfl ?_
          show Steps p.tables e below (T1011.setTop (mkF m 254 #[.val (.int p1), .val (.int p2), .val (.int p3), .val (.int p4), .val (.int p5), .val (.int p6), .val (.ref b_706), .val (.ref b_711), .val (.ref b_716), .val (.ref b720), .val (.ref b730), .val (.ref b740), .val (.ref b750), .val (.ref b761), .val (.int (3 : Int32)), .val (.int cq), .val (.ref b939), .val (.ref b970), .val (.ref b980), .unset, .unset] [(.ref b_711)])) _
          refine XS.aload X1011.here hx rfl (hb hby at_254) rfl rfl ?_
          refine st1012.trans ?_
          refine XS.ifYes X1012.here hx rfl (pc0 := 259) (pc' := 269) rfl (hb hby at_259) rfl ((if0 _ _).trans (teq (rfl : (0 : Int32) = (0 : Int32))).1) (by decide) (by decide) ?_
          refine XS.iload X1012.here hx rfl (hb hby at_269) rfl ?_
          refine XS.iconst X1012.here hx rfl (hb hby at_271) ?_
          refine XS.icmpNo X1012.here hx rfl (hb hby at_272) rfl (tlt (by decide)).2.2.2 ?_
          refine XS.aload X1012.here hx rfl (hb hby at_275) rfl rfl ?_
          refine XS.aload X1012.here hx rfl (hb hby at_277) rfl rfl ?_
          refine st1013.trans ?_
          refine XS.ifYes X1013.here hx rfl (pc0 := 282) (pc' := 292) rfl (hb hby at_282) rfl ((if0 _ _).trans (teq (rfl : (0 : Int32) = (0 : Int32))).1) (by decide) (by decide) ?_
          show Steps p.tables e below (T1013.setTop (mkF m 292 #[.val (.int p1), .val (.int p2), .val (.int p3), .val (.int p4), .val (.int p5), .val (.int p6), .val (.ref b_706), .val (.ref b_711), .val (.ref b_716), .val (.ref b720), .val (.ref b730), .val (.ref b740), .val (.ref b750), .val (.ref b761), .val (.int (3 : Int32)), .val (.int cq), .val (.ref b939), .val (.ref b970), .val (.ref b980), .unset, .unset] [])) _
          refine XS.aload X1013.here hx rfl (hb hby at_292) rfl rfl ?_
          refine XS.astore X1013.here hx rfl (hb hby at_294) rfl rfl (l' := #[.val (.int p1), .val (.int p2), .val (.int p3), .val (.int p4), .val (.int p5), .val (.int p6), .val (.ref b_706), .val (.ref b_711), .val (.ref b_716), .val (.ref b720), .val (.ref b730), .val (.ref b740), .val (.ref b750), .val (.ref b761), .val (.int (3 : Int32)), .val (.int cq), .val (.ref b939), .val (.ref b970), .val (.ref b980), .val (.ref b970), .unset]) rfl ?_
          refine XS.aload X1013.here hx rfl (hb hby at_296) rfl rfl ?_
          refine XS.aload X1013.here hx rfl (hb hby at_298) rfl rfl ?_
          refine XS.aload X1013.here hx rfl (hb hby at_300) rfl rfl ?_
          refine st1014.trans ?_
          refine XS.astore X1014.here hx rfl (hb hby at_305) rfl rfl (l' := #[.val (.int p1), .val (.int p2), .val (.int p3), .val (.int p4), .val (.int p5), .val (.int p6), .val (.ref b_706), .val (.ref b_711), .val (.ref b_716), .val (.ref b720), .val (.ref b730), .val (.ref b740), .val (.ref b750), .val (.ref b761), .val (.int (3 : Int32)), .val (.int cq), .val (.ref b939), .val (.ref b970), .val (.ref b980), .val (.ref b970), .val (.ref b970)]) rfl ?_
          refine XS.aload X1014.here hx rfl (hb hby at_307) rfl rfl ?_
          refine XS.aload X1014.here hx rfl (hb hby at_309) rfl rfl ?_
          refine Jvm.RoadKit.acmp (g := (mkF m 311 #[.val (.int p1), .val (.int p2), .val (.int p3), .val (.int p4), .val (.int p5), .val (.int p6), .val (.ref b_706), .val (.ref b_711), .val (.ref b_716), .val (.ref b720), .val (.ref b730), .val (.ref b740), .val (.ref b750), .val (.ref b761), .val (.int (3 : Int32)), .val (.int cq), .val (.ref b939), .val (.ref b970), .val (.ref b980), .val (.ref b970), .val (.ref b970)] [(.ref b970), (.ref b970)])) X1014 hx rfl rfl rfl (pc0 := 311) (pc' := 314) (same := true) rfl (hb hby at_311) rfl (decide_eq_true rfl) (by decide) (by decide) ?_
          show Steps p.tables e below (T1014.setTop (mkF m 314 #[.val (.int p1), .val (.int p2), .val (.int p3), .val (.int p4), .val (.int p5), .val (.int p6), .val (.ref b_706), .val (.ref b_711), .val (.ref b_716), .val (.ref b720), .val (.ref b730), .val (.ref b740), .val (.ref b750), .val (.ref b761), .val (.int (3 : Int32)), .val (.int cq), .val (.ref b939), .val (.ref b970), .val (.ref b980), .val (.ref b970), .val (.ref b970)] [])) _
          refine XS.iconst X1014.here hx rfl (hb hby at_314) ?_
          refine XS.goto X1014.here hx rfl (pc0 := 315) (pc' := 319) rfl (hb hby at_315) (by decide) (by decide) ?_
          exact retN X1014 hx (t := .boolean) Bd.returns (by simp) (hb hby at_319) hr
        · show Q_rm0 Z p1 p2 p3 p4 p5 p6 wz h0 n0 _ T1014.heap _
          rw [e1014]
          exact ⟨rfl, N1014, trivial⟩
    · obtain ⟨T1015, h1015, X1015, e1015, E1015, A1015, D1015, -, st1015⟩ := newO X949 hx hZ hown (wd_45 hw) (wd_46 hw) (wd_47 hw) rfl (g := (mkF m 209 #[.val (.int p1), .val (.int p2), .val (.int p3), .val (.int p4), .val (.int p5), .val (.int p6), .val (.ref b_706), .val (.ref b_711), .val (.ref b_716), .val (.ref b720), .val (.ref b730), .val (.ref b740), .val (.ref b750), .val (.ref b761), .val (.int kk), .val (.int cq), .val (.ref b939), .val .null, .unset, .unset, .unset] [])) rfl (hb hby at_209) (by decide) (by decide)
      obtain ⟨b1015, g1015⟩ : ∃ z, z = T949.heap.size := ⟨_, rfl⟩
      rw [← g1015] at A1015 D1015 st1015
      have g_b1015 : n0 ≤ b1015 := Nat.le_trans Z950 (Nat.le_of_eq g1015.symm)
      have ne_b_706_b1015 : b_706 ≠ b1015 := Nat.ne_of_lt (Nat.lt_of_lt_of_le (f953).lt (Nat.le_of_eq g1015.symm))
      have ne_t_706_b1015 : t_706 ≠ b1015 := Nat.ne_of_lt (Nat.lt_of_lt_of_le (f956).lt (Nat.le_of_eq g1015.symm))
      have ne_b_711_b1015 : b_711 ≠ b1015 := Nat.ne_of_lt (Nat.lt_of_lt_of_le (f957).lt (Nat.le_of_eq g1015.symm))
      have ne_t_711_b1015 : t_711 ≠ b1015 := Nat.ne_of_lt (Nat.lt_of_lt_of_le (f960).lt (Nat.le_of_eq g1015.symm))
      have ne_b_716_b1015 : b_716 ≠ b1015 := Nat.ne_of_lt (Nat.lt_of_lt_of_le (f961).lt (Nat.le_of_eq g1015.symm))
      have ne_t_716_b1015 : t_716 ≠ b1015 := Nat.ne_of_lt (Nat.lt_of_lt_of_le (f964).lt (Nat.le_of_eq g1015.symm))
      have ne_b750_b1015 : b750 ≠ b1015 := Nat.ne_of_lt (Nat.lt_of_lt_of_le (f965).lt (Nat.le_of_eq g1015.symm))
      have ne_b761_b1015 : b761 ≠ b1015 := Nat.ne_of_lt (Nat.lt_of_lt_of_le (f966).lt (Nat.le_of_eq g1015.symm))
      have ne_b939_b1015 : b939 ≠ b1015 := Nat.ne_of_lt (Nat.lt_of_lt_of_le (f967).lt (Nat.le_of_eq g1015.symm))
      have ne_b_949_b1015 : b_949 ≠ b1015 := Nat.ne_of_lt (Nat.lt_of_lt_of_le (g949_3).lt (Nat.le_of_eq g1015.symm))
      have Z1016 : n0 ≤ h1015.size := Nat.le_trans Z950 E1015.1
      have F_names_b1015 : Fld Z h1015 b1015 "com/example/kawi/kawi/xml/Attributes" "names" "[Ljava/lang/String;" .null := D1015 (Or.inr (wd_53 hw)) (ty := (.array (.object "java/lang/String"))) (by decide)
      have F_values_b1015 : Fld Z h1015 b1015 "com/example/kawi/kawi/xml/Attributes" "values" "[Ljava/lang/String;" .null := D1015 (Or.inr (wd_55 hw)) (ty := (.array (.object "java/lang/String"))) (by decide)
      have F_size_b1015 : Fld Z h1015 b1015 "com/example/kawi/kawi/xml/Attributes" "size" "I" (.int (0 : Int32)) := D1015 (Or.inr (wd_57 hw)) (ty := .int) (by decide)
      obtain ⟨_, _, ⟨T1017, L1017, k1017, n1017⟩, -, X1017, ⟨Lc1017, hQ1017, l1017, y1017, z1017⟩, st1017⟩ := X1015.specialBack hx (y := (⟨"com/example/kawi/kawi/xml/Attributes", "<init>", "([Ljava/lang/String;[Ljava/lang/String;I)V"⟩ : MethodName)) rfl hown (mvT hZ (wd_48 hw)) (mvT hZ (wd_49 hw)) (mvT hZ (wd_50 hw)) (by decide) (backOf (W := 1) (rm11 l Z a0 hw [] b1015 b750 b761 kk .null .null (.int (0 : Int32)) h1015 n0 Z1016 F_names_b1015 F_values_b1015 F_size_b1015 A1015 g_b1015) hZ (wd_50 hw) (wd_47 hw) (by decide) (by decide)) (g := (mkF m 219 #[.val (.int p1), .val (.int p2), .val (.int p3), .val (.int p4), .val (.int p5), .val (.int p6), .val (.ref b_706), .val (.ref b_711), .val (.ref b_716), .val (.ref b720), .val (.ref b730), .val (.ref b740), .val (.ref b750), .val (.ref b761), .val (.int kk), .val (.int cq), .val (.ref b939), .val .null, .unset, .unset, .unset] [(.int kk), (.ref b761), (.ref b750), (.ref b1015), (.ref b1015)])) rfl (by rw [hml]; rfl) (Steps.refl _) (a := b1015) (argsL := [(.ref b750), (.ref b761), (.int kk)]) (rest := [(.ref b1015)]) (lenOf pd___Ljava_lang_String__Ljava_lang_String_I_V rfl) rfl (by show 2 * 0 + _ ≤ _; exact Nat.le_of_eq rfl) (hb hby at_219) (fun _ _ => ⟨rfl, e1015, (by decide : 21 + 0 ≤ _), (by decide : 50 + 0 ≤ _)⟩)
      dsimp only [Pt.U, Pt.locs, Pt.cells, Pt.slots] at X1017 l1017 y1017 z1017 st1017 hQ1017
      rw [l1017, y1017, z1017] at X1017
      obtain ⟨rfl, N1017q, K1017q, g1017_0, g1017_1, g1017_2⟩ := hQ1017
      have N1017 := Fr.app N949 N1017q
      have Z1018 : n0 ≤ T1017.heap.size := Nat.le_trans Z1016 K1017q.1
      have f1019 : Old Z n0 T1017.heap := ((f952.ext E1015).keep K1017q (allS g_b1015 all0))
      have f1020 : Exa Z T1017.heap b_706 "java/lang/String" := ((f953.ext E1015).keep K1017q)
      have f1021 : Fld Z T1017.heap b_706 "java/lang/String" "value" "[B" (.ref t_706) := ((f954.ext E1015).keep K1017q (ninS ne_b_706_b1015 nin0))
      have f1022 : Fld Z T1017.heap b_706 "java/lang/String" "coder" "B" (.int (0 : Int32)) := ((f955.ext E1015).keep K1017q (ninS ne_b_706_b1015 nin0))
      have f1023 : Arv Z T1017.heap t_706 kb_706 .byte (1 : Int32) [(.int (nar .byte (cA.toInt8.toInt32)))] (.int (0 : Int32)) := ((f956.ext E1015).keep K1017q (ninS ne_t_706_b1015 nin0))
      have f1024 : Exa Z T1017.heap b_711 "java/lang/String" := ((f957.ext E1015).keep K1017q)
      have f1025 : Fld Z T1017.heap b_711 "java/lang/String" "value" "[B" (.ref t_711) := ((f958.ext E1015).keep K1017q (ninS ne_b_711_b1015 nin0))
      have f1026 : Fld Z T1017.heap b_711 "java/lang/String" "coder" "B" (.int (0 : Int32)) := ((f959.ext E1015).keep K1017q (ninS ne_b_711_b1015 nin0))
      have f1027 : Arv Z T1017.heap t_711 kb_711 .byte (1 : Int32) [(.int (nar .byte (cB.toInt8.toInt32)))] (.int (0 : Int32)) := ((f960.ext E1015).keep K1017q (ninS ne_t_711_b1015 nin0))
      have f1028 : Exa Z T1017.heap b_716 "java/lang/String" := ((f961.ext E1015).keep K1017q)
      have f1029 : Fld Z T1017.heap b_716 "java/lang/String" "value" "[B" (.ref t_716) := ((f962.ext E1015).keep K1017q (ninS ne_b_716_b1015 nin0))
      have f1030 : Fld Z T1017.heap b_716 "java/lang/String" "coder" "B" (.int (0 : Int32)) := ((f963.ext E1015).keep K1017q (ninS ne_b_716_b1015 nin0))
      have f1031 : Arv Z T1017.heap t_716 kb_716 .byte (1 : Int32) [(.int (nar .byte (cC.toInt8.toInt32)))] (.int (0 : Int32)) := ((f964.ext E1015).keep K1017q (ninS ne_t_716_b1015 nin0))
      have f1032 : Arv Z T1017.heap b750 k750 (.object "java/lang/String") (3 : Int32) [(.ref b_706), (.ref b_711), (.ref b_716)] .null := ((f965.ext E1015).keep K1017q (ninS ne_b750_b1015 nin0))
      have f1033 : Arv Z T1017.heap b761 k761 (.object "java/lang/String") (3 : Int32) [(.ref b720), (.ref b730), (.ref b740)] .null := ((f966.ext E1015).keep K1017q (ninS ne_b761_b1015 nin0))
      have f1034 : Exa Z T1017.heap b939 "java/lang/String" := ((f967.ext E1015).keep K1017q)
      have f1035 : Fld Z T1017.heap b939 "java/lang/String" "value" "[B" (.ref b_949) := ((g949_1.ext E1015).keep K1017q (ninS ne_b939_b1015 nin0))
      have f1036 : Fld Z T1017.heap b939 "java/lang/String" "coder" "B" (.int (0 : Int32)) := ((g949_2.ext E1015).keep K1017q (ninS ne_b939_b1015 nin0))
      have f1037 : Arv Z T1017.heap b_949 kb_949 .byte (2 : Int32) [(.int (nar .byte ((nar .char cq).toInt8.toInt32))), (.int (nar .byte ((nar .char cq).toInt8.toInt32)))] (.int (0 : Int32)) := ((g949_3.ext E1015).keep K1017q (ninS ne_b_949_b1015 nin0))
      have f1038 : Exa Z T1017.heap b1015 "com/example/kawi/kawi/xml/Attributes" := (A1015.keep K1017q)
      have hk4 := own_four p4
      rw [← hkk] at hk4
      have pre1039 : ∀ t, Steps p.tables e below (T1017.setTop (mkF m 224 #[.val (.int p1), .val (.int p2), .val (.int p3), .val (.int p4), .val (.int p5), .val (.int p6), .val (.ref b_706), .val (.ref b_711), .val (.ref b_716), .val (.ref b720), .val (.ref b730), .val (.ref b740), .val (.ref b750), .val (.ref b761), .val (.int kk), .val (.int cq), .val (.ref b939), .val .null, .val (.ref b1015), .unset, .unset] [])) t → Steps p.tables e below (s₁.setTop (entryFrame m #[(.int p1), (.int p2), (.int p3), (.int p4), (.int p5), (.int p6)] maxLocals)) t := by
        intro t kt
        refine pre969 _ ?_
        show Steps p.tables e below (T949.setTop (mkF m 183 #[.val (.int p1), .val (.int p2), .val (.int p3), .val (.int p4), .val (.int p5), .val (.int p6), .val (.ref b_706), .val (.ref b_711), .val (.ref b_716), .val (.ref b720), .val (.ref b730), .val (.ref b740), .val (.ref b750), .val (.ref b761), .val (.int kk), .val (.int cq), .val (.ref b939), .unset, .unset, .unset, .unset] [(.int (p6 &&& (1 : Int32)))])) _
        refine XS.ifNo X949.here hx rfl (hb hby at_183) rfl ((if0 _ _).trans (feq hc183_968).1) ?_
        refine XS.aconstNull X949.here hx rfl (hb hby at_186) ?_
        refine XS.astore X949.here hx rfl (hb hby at_187) rfl rfl (l' := #[.val (.int p1), .val (.int p2), .val (.int p3), .val (.int p4), .val (.int p5), .val (.int p6), .val (.ref b_706), .val (.ref b_711), .val (.ref b_716), .val (.ref b720), .val (.ref b730), .val (.ref b740), .val (.ref b750), .val (.ref b761), .val (.int kk), .val (.int cq), .val (.ref b939), .val .null, .unset, .unset, .unset]) rfl ?_
        refine XS.goto X949.here hx rfl (pc0 := 189) (pc' := 209) rfl (hb hby at_189) (by decide) (by decide) ?_
        refine st1015 _ ?_
        refine XS.dup X1015.here hx rfl (hb hby at_212) rfl rfl ?_
        refine XS.aload X1015.here hx rfl (hb hby at_213) rfl rfl ?_
        show Steps p.tables e below (T1015.setTop (mkF m 215 #[.val (.int p1), .val (.int p2), .val (.int p3), .val (.int p4), .val (.int p5), .val (.int p6), .val (.ref b_706), .val (.ref b_711), .val (.ref b_716), .val (.ref b720), .val (.ref b730), .val (.ref b740), .val (.ref b750), .val (.ref b761), .val (.int kk), .val (.int cq), .val (.ref b939), .val .null, .unset, .unset, .unset] [(.ref b750), (.ref b1015), (.ref b1015)])) _
        refine XS.aload X1015.here hx rfl (hb hby at_215) rfl rfl ?_
        refine XS.iload X1015.here hx rfl (hb hby at_217) rfl ?_
        refine st1017.trans ?_
        refine XS.astore X1017.here hx rfl (hb hby at_222) rfl rfl (l' := #[.val (.int p1), .val (.int p2), .val (.int p3), .val (.int p4), .val (.int p5), .val (.int p6), .val (.ref b_706), .val (.ref b_711), .val (.ref b_716), .val (.ref b720), .val (.ref b730), .val (.ref b740), .val (.ref b750), .val (.ref b761), .val (.int kk), .val (.int cq), .val (.ref b939), .val .null, .val (.ref b1015), .unset, .unset]) rfl ?_
        exact kt
      rcases hk4 with rfl | rfl | rfl | rfl
      · obtain ⟨cq1040, kq1040, q1040a, q1040b, q1040c⟩ := isOf hZ rfl (f1038)
        obtain ⟨_, _, ⟨T1040, L1040, k1040, n1040⟩, -, X1040, ⟨Lc1040, hQ1040, l1040, y1040, z1040⟩, st1040⟩ := X1017.virtualBack hx (y := (⟨"com/example/kawi/kawi/xml/Attributes", "getOrDefault", "(Ljava/lang/String;Ljava/lang/String;)Ljava/lang/String;"⟩ : MethodName)) (z := (⟨"com/example/kawi/kawi/xml/Attributes", "getOrDefault", "(Ljava/lang/String;Ljava/lang/String;)Ljava/lang/String;"⟩ : MethodName)) hown (mvT hZ (wd_66 hw)) (mvT hZ (wd_67 hw)) (notFace_of_selects (args := #[]) (mvT hZ (wd_69 hw))) (mvT hZ (wd_69 hw)) (mvT hZ (wd_68 hw)) (by decide) (backOf (W := 0) (rmg0x2n l Z a0 hw [] b1015 b939 b750 b761 k750 k761 b_706 b_711 b_716 b720 b730 b740 (nar .byte ((nar .char cq).toInt8.toInt32)) (nar .byte ((nar .char cq).toInt8.toInt32)) b_949 kb_949 wz T1017.heap n0 Z1018 g1017_0 g1017_1 g1017_2 f1032 f1033 f1034 f1035 f1036 f1037 f1019 S_COMPACT_STRINGS hz) hZ (wd_70 hw) (wd_47 hw) (by decide) (by decide)) q1040a q1040c (g := (mkF m 302 #[.val (.int p1), .val (.int p2), .val (.int p3), .val (.int p4), .val (.int p5), .val (.int p6), .val (.ref b_706), .val (.ref b_711), .val (.ref b_716), .val (.ref b720), .val (.ref b730), .val (.ref b740), .val (.ref b750), .val (.ref b761), .val (.int (0 : Int32)), .val (.int cq), .val (.ref b939), .val .null, .val (.ref b1015), .val .null, .unset] [.null, (.ref b939), (.ref b1015)])) rfl (by rw [hml]; rfl) (Steps.refl _) (argsL := [(.ref b939), .null]) (rest := []) (lenOf pd__Ljava_lang_String_Ljava_lang_String__Ljava_lang_String_ rfl) rfl (by show 2 * 0 + _ ≤ _; exact Nat.le_of_eq rfl) (hb hby at_302) (fun _ _ => ⟨rfl, rfl, (by decide : 21 + 0 ≤ _), (by decide : 50 + 0 ≤ _)⟩)
        dsimp only [Pt.U, Pt.locs, Pt.cells, Pt.slots] at X1040 l1040 y1040 z1040 st1040 hQ1040
        rw [l1040, y1040, z1040] at X1040
        obtain ⟨rfl, N1040q, e1040⟩ := hQ1040
        have N1040 := Fr.app N1017 N1040q
        obtain ⟨fs, hr, hrun, hended, hW, hsame⟩ := X1040.leave (v := some (.int (1 : Int32))) (fun h => by rw [Bd.returns] at h; cases h)
        refine ⟨_, _, pre1039 _ ?_, hrun, hended, _, _, rfl, ?_, ⟨_, rfl⟩, hW, hsame.mono (by decide) (by decide)⟩
        · show Steps p.tables e below (T1017.setTop (mkF m 224 #[.val (.int p1), .val (.int p2), .val (.int p3), .val (.int p4), .val (.int p5), .val (.int p6), .val (.ref b_706), .val (.ref b_711), .val (.ref b_716), .val (.ref b720), .val (.ref b730), .val (.ref b740), .val (.ref b750), .val (.ref b761), .val (.int (0 : Int32)), .val (.int cq), .val (.ref b939), .val .null, .val (.ref b1015), .unset, .unset] [])) _
          refine XS.iload X1017.here hx rfl (hb hby at_224) rfl ?_
          refine XS.ifYes X1017.here hx rfl (pc0 := 226) (pc' := 246) rfl (hb hby at_226) rfl ((if0 _ _).trans (flt (by decide)).2.2.2) (by decide) (by decide) ?_
          refine XS.iload X1017.here hx rfl (hb hby at_246) rfl ?_
          refine XS.iconst X1017.here hx rfl (hb hby at_248) ?_
          refine XS.icmpYes X1017.here hx rfl (pc0 := 249) (pc' := 269) rfl (hb hby at_249) rfl (flt (by decide)).2.2.2 (by decide) (by decide) ?_
          refine XS.iload X1017.here hx rfl (hb hby at_269) rfl ?_
          refine XS.iconst X1017.here hx rfl (hb hby at_271) ?_
          refine XS.icmpYes X1017.here hx rfl (pc0 := 272) (pc' := 292) rfl (hb hby at_272) rfl (flt (by decide)).2.2.2 (by decide) (by decide) ?_
          refine XS.aload X1017.here hx rfl (hb hby at_292) rfl rfl ?_
          refine XS.astore X1017.here hx rfl (hb hby at_294) rfl rfl (l' := #[.val (.int p1), .val (.int p2), .val (.int p3), .val (.int p4), .val (.int p5), .val (.int p6), .val (.ref b_706), .val (.ref b_711), .val (.ref b_716), .val (.ref b720), .val (.ref b730), .val (.ref b740), .val (.ref b750), .val (.ref b761), .val (.int (0 : Int32)), .val (.int cq), .val (.ref b939), .val .null, .val (.ref b1015), .val .null, .unset]) rfl ?_
          show Steps p.tables e below (T1017.setTop (mkF m 296 #[.val (.int p1), .val (.int p2), .val (.int p3), .val (.int p4), .val (.int p5), .val (.int p6), .val (.ref b_706), .val (.ref b_711), .val (.ref b_716), .val (.ref b720), .val (.ref b730), .val (.ref b740), .val (.ref b750), .val (.ref b761), .val (.int (0 : Int32)), .val (.int cq), .val (.ref b939), .val .null, .val (.ref b1015), .val .null, .unset] [])) _
          refine XS.aload X1017.here hx rfl (hb hby at_296) rfl rfl ?_
          refine XS.aload X1017.here hx rfl (hb hby at_298) rfl rfl ?_
          refine XS.aload X1017.here hx rfl (hb hby at_300) rfl rfl ?_
          refine st1040.trans ?_
          refine XS.astore X1040.here hx rfl (hb hby at_305) rfl rfl (l' := #[.val (.int p1), .val (.int p2), .val (.int p3), .val (.int p4), .val (.int p5), .val (.int p6), .val (.ref b_706), .val (.ref b_711), .val (.ref b_716), .val (.ref b720), .val (.ref b730), .val (.ref b740), .val (.ref b750), .val (.ref b761), .val (.int (0 : Int32)), .val (.int cq), .val (.ref b939), .val .null, .val (.ref b1015), .val .null, .val .null]) rfl ?_
          refine XS.aload X1040.here hx rfl (hb hby at_307) rfl rfl ?_
          refine XS.aload X1040.here hx rfl (hb hby at_309) rfl rfl ?_
          refine Jvm.RoadKit.acmp (g := (mkF m 311 #[.val (.int p1), .val (.int p2), .val (.int p3), .val (.int p4), .val (.int p5), .val (.int p6), .val (.ref b_706), .val (.ref b_711), .val (.ref b_716), .val (.ref b720), .val (.ref b730), .val (.ref b740), .val (.ref b750), .val (.ref b761), .val (.int (0 : Int32)), .val (.int cq), .val (.ref b939), .val .null, .val (.ref b1015), .val .null, .val .null] [.null, .null])) X1040 hx rfl rfl rfl (pc0 := 311) (pc' := 314) (same := true) rfl (hb hby at_311) rfl (decide_eq_true rfl) (by decide) (by decide) ?_
          refine XS.iconst X1040.here hx rfl (hb hby at_314) ?_
          refine XS.goto X1040.here hx rfl (pc0 := 315) (pc' := 319) rfl (hb hby at_315) (by decide) (by decide) ?_
          show Steps p.tables e below (T1040.setTop (mkF m 319 #[.val (.int p1), .val (.int p2), .val (.int p3), .val (.int p4), .val (.int p5), .val (.int p6), .val (.ref b_706), .val (.ref b_711), .val (.ref b_716), .val (.ref b720), .val (.ref b730), .val (.ref b740), .val (.ref b750), .val (.ref b761), .val (.int (0 : Int32)), .val (.int cq), .val (.ref b939), .val .null, .val (.ref b1015), .val .null, .val .null] [(.int (1 : Int32))])) _
          exact retN X1040 hx (t := .boolean) Bd.returns (by simp) (hb hby at_319) hr
        · show Q_rm0 Z p1 p2 p3 p4 p5 p6 wz h0 n0 _ T1040.heap _
          rw [e1040]
          exact ⟨rfl, N1040, trivial⟩
      · obtain ⟨cq1041, kq1041, q1041a, q1041b, q1041c⟩ := isOf hZ rfl (f1020)
        obtain ⟨_, _, ⟨T1041, L1041, k1041, n1041⟩, -, X1041, ⟨Lc1041, hQ1041, l1041, y1041, z1041⟩, st1041⟩ := X1017.virtualBack hx (y := (⟨"java/lang/String", "equals", "(Ljava/lang/Object;)Z"⟩ : MethodName)) (z := (⟨"java/lang/String", "equals", "(Ljava/lang/Object;)Z"⟩ : MethodName)) hown (mvT hZ (wd_58 hw)) (mvT hZ (wd_59 hw)) (notFace_of_selects (args := #[]) (mvT hZ (wd_61 hw))) (mvT hZ (wd_61 hw)) (mvT hZ (wd_60 hw)) (by decide) (backOf (W := 0) (rmeq12 l Z a0 hw [] b_706 b939 t_706 b_949 wz kb_706 kb_949 (nar .byte (cA.toInt8.toInt32)) (nar .byte ((nar .char cq).toInt8.toInt32)) (nar .byte ((nar .char cq).toInt8.toInt32)) T1017.heap n0 Z1018 f1020 f1034 f1021 f1035 f1022 f1036 f1023 f1037 f1019 S_COMPACT_STRINGS hz ne_b_706_b939) hZ (wd_62 hw) (wd_2 hw) (by decide) (by decide)) q1041a q1041c (g := (mkF m 233 #[.val (.int p1), .val (.int p2), .val (.int p3), .val (.int p4), .val (.int p5), .val (.int p6), .val (.ref b_706), .val (.ref b_711), .val (.ref b_716), .val (.ref b720), .val (.ref b730), .val (.ref b740), .val (.ref b750), .val (.ref b761), .val (.int (1 : Int32)), .val (.int cq), .val (.ref b939), .val .null, .val (.ref b1015), .unset, .unset] [(.ref b939), (.ref b_706)])) rfl (by rw [hml]; rfl) (Steps.refl _) (argsL := [(.ref b939)]) (rest := []) (lenOf pd__Ljava_lang_Object__Z rfl) rfl (by show 2 * 0 + _ ≤ _; exact Nat.le_of_eq rfl) (hb hby at_233) (fun _ _ => ⟨rfl, rfl, (by decide : 21 + 0 ≤ _), (by decide : 50 + 0 ≤ _)⟩)
        dsimp only [Pt.U, Pt.locs, Pt.cells, Pt.slots] at X1041 l1041 y1041 z1041 st1041 hQ1041
        rw [l1041, y1041, z1041] at X1041
        obtain ⟨rfl, N1041q, e1041⟩ := hQ1041
        have N1041 := Fr.app N1017 N1041q
        obtain ⟨cq1042, kq1042, q1042a, q1042b, q1042c⟩ := isOf hZ e1041 (f1038)
        obtain ⟨_, _, ⟨T1042, L1042, k1042, n1042⟩, -, X1042, ⟨Lc1042, hQ1042, l1042, y1042, z1042⟩, st1042⟩ := X1041.virtualBack hx (y := (⟨"com/example/kawi/kawi/xml/Attributes", "getOrDefault", "(Ljava/lang/String;Ljava/lang/String;)Ljava/lang/String;"⟩ : MethodName)) (z := (⟨"com/example/kawi/kawi/xml/Attributes", "getOrDefault", "(Ljava/lang/String;Ljava/lang/String;)Ljava/lang/String;"⟩ : MethodName)) hown (mvT hZ (wd_66 hw)) (mvT hZ (wd_67 hw)) (notFace_of_selects (args := #[]) (mvT hZ (wd_69 hw))) (mvT hZ (wd_69 hw)) (mvT hZ (wd_68 hw)) (by decide) (backOf (W := 0) (rmg1x2n l Z a0 hw [] b1015 b939 b750 b761 k750 k761 b_706 b_711 b_716 b720 b730 b740 t_706 kb_706 (nar .byte (cA.toInt8.toInt32)) (nar .byte ((nar .char cq).toInt8.toInt32)) (nar .byte ((nar .char cq).toInt8.toInt32)) b_949 kb_949 wz T1017.heap n0 Z1018 g1017_0 g1017_1 g1017_2 f1032 f1033 f1020 f1021 f1022 f1023 ne_b_706_b939 f1034 f1035 f1036 f1037 f1019 S_COMPACT_STRINGS hz) hZ (wd_70 hw) (wd_47 hw) (by decide) (by decide)) q1042a q1042c (g := (mkF m 302 #[.val (.int p1), .val (.int p2), .val (.int p3), .val (.int p4), .val (.int p5), .val (.int p6), .val (.ref b_706), .val (.ref b_711), .val (.ref b_716), .val (.ref b720), .val (.ref b730), .val (.ref b740), .val (.ref b750), .val (.ref b761), .val (.int (1 : Int32)), .val (.int cq), .val (.ref b939), .val .null, .val (.ref b1015), .val .null, .unset] [.null, (.ref b939), (.ref b1015)])) rfl (by rw [hml]; rfl) (Steps.refl _) (argsL := [(.ref b939), .null]) (rest := []) (lenOf pd__Ljava_lang_String_Ljava_lang_String__Ljava_lang_String_ rfl) rfl (by show 2 * 0 + _ ≤ _; exact Nat.le_of_eq rfl) (hb hby at_302) (fun _ _ => ⟨rfl, e1041, (by decide : 21 + 0 ≤ _), (by decide : 50 + 0 ≤ _)⟩)
        dsimp only [Pt.U, Pt.locs, Pt.cells, Pt.slots] at X1042 l1042 y1042 z1042 st1042 hQ1042
        rw [l1042, y1042, z1042] at X1042
        obtain ⟨rfl, N1042q, e1042⟩ := hQ1042
        have N1042 := Fr.app N1041 N1042q
        obtain ⟨fs, hr, hrun, hended, hW, hsame⟩ := X1042.leave (v := some (.int (1 : Int32))) (fun h => by rw [Bd.returns] at h; cases h)
        refine ⟨_, _, pre1039 _ ?_, hrun, hended, _, _, rfl, ?_, ⟨_, rfl⟩, hW, hsame.mono (by decide) (by decide)⟩
        · show Steps p.tables e below (T1017.setTop (mkF m 224 #[.val (.int p1), .val (.int p2), .val (.int p3), .val (.int p4), .val (.int p5), .val (.int p6), .val (.ref b_706), .val (.ref b_711), .val (.ref b_716), .val (.ref b720), .val (.ref b730), .val (.ref b740), .val (.ref b750), .val (.ref b761), .val (.int (1 : Int32)), .val (.int cq), .val (.ref b939), .val .null, .val (.ref b1015), .unset, .unset] [])) _
          refine XS.iload X1017.here hx rfl (hb hby at_224) rfl ?_
          refine XS.ifNo X1017.here hx rfl (hb hby at_226) rfl ((if0 _ _).trans (tlt (by decide)).2.2.2) ?_
          refine XS.aload X1017.here hx rfl (hb hby at_229) rfl rfl ?_
          refine XS.aload X1017.here hx rfl (hb hby at_231) rfl rfl ?_
          refine st1041.trans ?_
          refine XS.ifYes X1041.here hx rfl (pc0 := 236) (pc' := 246) rfl (hb hby at_236) rfl ((if0 _ _).trans (teq (rfl : (0 : Int32) = (0 : Int32))).1) (by decide) (by decide) ?_
          refine XS.iload X1041.here hx rfl (hb hby at_246) rfl ?_
          refine XS.iconst X1041.here hx rfl (hb hby at_248) ?_
          refine XS.icmpYes X1041.here hx rfl (pc0 := 249) (pc' := 269) rfl (hb hby at_249) rfl (flt (by decide)).2.2.2 (by decide) (by decide) ?_
          refine XS.iload X1041.here hx rfl (hb hby at_269) rfl ?_
          show Steps p.tables e below (T1041.setTop (mkF m 271 #[.val (.int p1), .val (.int p2), .val (.int p3), .val (.int p4), .val (.int p5), .val (.int p6), .val (.ref b_706), .val (.ref b_711), .val (.ref b_716), .val (.ref b720), .val (.ref b730), .val (.ref b740), .val (.ref b750), .val (.ref b761), .val (.int (1 : Int32)), .val (.int cq), .val (.ref b939), .val .null, .val (.ref b1015), .unset, .unset] [(.int (1 : Int32))])) _
          refine XS.iconst X1041.here hx rfl (hb hby at_271) ?_
          refine XS.icmpYes X1041.here hx rfl (pc0 := 272) (pc' := 292) rfl (hb hby at_272) rfl (flt (by decide)).2.2.2 (by decide) (by decide) ?_
          refine XS.aload X1041.here hx rfl (hb hby at_292) rfl rfl ?_
          refine XS.astore X1041.here hx rfl (hb hby at_294) rfl rfl (l' := #[.val (.int p1), .val (.int p2), .val (.int p3), .val (.int p4), .val (.int p5), .val (.int p6), .val (.ref b_706), .val (.ref b_711), .val (.ref b_716), .val (.ref b720), .val (.ref b730), .val (.ref b740), .val (.ref b750), .val (.ref b761), .val (.int (1 : Int32)), .val (.int cq), .val (.ref b939), .val .null, .val (.ref b1015), .val .null, .unset]) rfl ?_
          refine XS.aload X1041.here hx rfl (hb hby at_296) rfl rfl ?_
          refine XS.aload X1041.here hx rfl (hb hby at_298) rfl rfl ?_
          refine XS.aload X1041.here hx rfl (hb hby at_300) rfl rfl ?_
          refine st1042.trans ?_
          refine XS.astore X1042.here hx rfl (hb hby at_305) rfl rfl (l' := #[.val (.int p1), .val (.int p2), .val (.int p3), .val (.int p4), .val (.int p5), .val (.int p6), .val (.ref b_706), .val (.ref b_711), .val (.ref b_716), .val (.ref b720), .val (.ref b730), .val (.ref b740), .val (.ref b750), .val (.ref b761), .val (.int (1 : Int32)), .val (.int cq), .val (.ref b939), .val .null, .val (.ref b1015), .val .null, .val .null]) rfl ?_
          refine XS.aload X1042.here hx rfl (hb hby at_307) rfl rfl ?_
          show Steps p.tables e below (T1042.setTop (mkF m 309 #[.val (.int p1), .val (.int p2), .val (.int p3), .val (.int p4), .val (.int p5), .val (.int p6), .val (.ref b_706), .val (.ref b_711), .val (.ref b_716), .val (.ref b720), .val (.ref b730), .val (.ref b740), .val (.ref b750), .val (.ref b761), .val (.int (1 : Int32)), .val (.int cq), .val (.ref b939), .val .null, .val (.ref b1015), .val .null, .val .null] [.null])) _
          refine XS.aload X1042.here hx rfl (hb hby at_309) rfl rfl ?_
          refine Jvm.RoadKit.acmp (g := (mkF m 311 #[.val (.int p1), .val (.int p2), .val (.int p3), .val (.int p4), .val (.int p5), .val (.int p6), .val (.ref b_706), .val (.ref b_711), .val (.ref b_716), .val (.ref b720), .val (.ref b730), .val (.ref b740), .val (.ref b750), .val (.ref b761), .val (.int (1 : Int32)), .val (.int cq), .val (.ref b939), .val .null, .val (.ref b1015), .val .null, .val .null] [.null, .null])) X1042 hx rfl rfl rfl (pc0 := 311) (pc' := 314) (same := true) rfl (hb hby at_311) rfl (decide_eq_true rfl) (by decide) (by decide) ?_
          refine XS.iconst X1042.here hx rfl (hb hby at_314) ?_
          refine XS.goto X1042.here hx rfl (pc0 := 315) (pc' := 319) rfl (hb hby at_315) (by decide) (by decide) ?_
          exact retN X1042 hx (t := .boolean) Bd.returns (by simp) (hb hby at_319) hr
        · show Q_rm0 Z p1 p2 p3 p4 p5 p6 wz h0 n0 _ T1042.heap _
          rw [e1042]
          exact ⟨rfl, N1042, trivial⟩
      · obtain ⟨cq1043, kq1043, q1043a, q1043b, q1043c⟩ := isOf hZ rfl (f1020)
        obtain ⟨_, _, ⟨T1043, L1043, k1043, n1043⟩, -, X1043, ⟨Lc1043, hQ1043, l1043, y1043, z1043⟩, st1043⟩ := X1017.virtualBack hx (y := (⟨"java/lang/String", "equals", "(Ljava/lang/Object;)Z"⟩ : MethodName)) (z := (⟨"java/lang/String", "equals", "(Ljava/lang/Object;)Z"⟩ : MethodName)) hown (mvT hZ (wd_58 hw)) (mvT hZ (wd_59 hw)) (notFace_of_selects (args := #[]) (mvT hZ (wd_61 hw))) (mvT hZ (wd_61 hw)) (mvT hZ (wd_60 hw)) (by decide) (backOf (W := 0) (rmeq12 l Z a0 hw [] b_706 b939 t_706 b_949 wz kb_706 kb_949 (nar .byte (cA.toInt8.toInt32)) (nar .byte ((nar .char cq).toInt8.toInt32)) (nar .byte ((nar .char cq).toInt8.toInt32)) T1017.heap n0 Z1018 f1020 f1034 f1021 f1035 f1022 f1036 f1023 f1037 f1019 S_COMPACT_STRINGS hz ne_b_706_b939) hZ (wd_62 hw) (wd_2 hw) (by decide) (by decide)) q1043a q1043c (g := (mkF m 233 #[.val (.int p1), .val (.int p2), .val (.int p3), .val (.int p4), .val (.int p5), .val (.int p6), .val (.ref b_706), .val (.ref b_711), .val (.ref b_716), .val (.ref b720), .val (.ref b730), .val (.ref b740), .val (.ref b750), .val (.ref b761), .val (.int (2 : Int32)), .val (.int cq), .val (.ref b939), .val .null, .val (.ref b1015), .unset, .unset] [(.ref b939), (.ref b_706)])) rfl (by rw [hml]; rfl) (Steps.refl _) (argsL := [(.ref b939)]) (rest := []) (lenOf pd__Ljava_lang_Object__Z rfl) rfl (by show 2 * 0 + _ ≤ _; exact Nat.le_of_eq rfl) (hb hby at_233) (fun _ _ => ⟨rfl, rfl, (by decide : 21 + 0 ≤ _), (by decide : 50 + 0 ≤ _)⟩)
        dsimp only [Pt.U, Pt.locs, Pt.cells, Pt.slots] at X1043 l1043 y1043 z1043 st1043 hQ1043
        rw [l1043, y1043, z1043] at X1043
        obtain ⟨rfl, N1043q, e1043⟩ := hQ1043
        have N1043 := Fr.app N1017 N1043q
        obtain ⟨cq1044, kq1044, q1044a, q1044b, q1044c⟩ := isOf hZ e1043 (f1024)
        obtain ⟨_, _, ⟨T1044, L1044, k1044, n1044⟩, -, X1044, ⟨Lc1044, hQ1044, l1044, y1044, z1044⟩, st1044⟩ := X1043.virtualBack hx (y := (⟨"java/lang/String", "equals", "(Ljava/lang/Object;)Z"⟩ : MethodName)) (z := (⟨"java/lang/String", "equals", "(Ljava/lang/Object;)Z"⟩ : MethodName)) hown (mvT hZ (wd_58 hw)) (mvT hZ (wd_59 hw)) (notFace_of_selects (args := #[]) (mvT hZ (wd_61 hw))) (mvT hZ (wd_61 hw)) (mvT hZ (wd_60 hw)) (by decide) (backOf (W := 0) (rmeq12 l Z a0 hw [] b_711 b939 t_711 b_949 wz kb_711 kb_949 (nar .byte (cB.toInt8.toInt32)) (nar .byte ((nar .char cq).toInt8.toInt32)) (nar .byte ((nar .char cq).toInt8.toInt32)) T1017.heap n0 Z1018 f1024 f1034 f1025 f1035 f1026 f1036 f1027 f1037 f1019 S_COMPACT_STRINGS hz ne_b_711_b939) hZ (wd_62 hw) (wd_2 hw) (by decide) (by decide)) q1044a q1044c (g := (mkF m 256 #[.val (.int p1), .val (.int p2), .val (.int p3), .val (.int p4), .val (.int p5), .val (.int p6), .val (.ref b_706), .val (.ref b_711), .val (.ref b_716), .val (.ref b720), .val (.ref b730), .val (.ref b740), .val (.ref b750), .val (.ref b761), .val (.int (2 : Int32)), .val (.int cq), .val (.ref b939), .val .null, .val (.ref b1015), .unset, .unset] [(.ref b939), (.ref b_711)])) rfl (by rw [hml]; rfl) (Steps.refl _) (argsL := [(.ref b939)]) (rest := []) (lenOf pd__Ljava_lang_Object__Z rfl) rfl (by show 2 * 0 + _ ≤ _; exact Nat.le_of_eq rfl) (hb hby at_256) (fun _ _ => ⟨rfl, e1043, (by decide : 21 + 0 ≤ _), (by decide : 50 + 0 ≤ _)⟩)
        dsimp only [Pt.U, Pt.locs, Pt.cells, Pt.slots] at X1044 l1044 y1044 z1044 st1044 hQ1044
        rw [l1044, y1044, z1044] at X1044
        obtain ⟨rfl, N1044q, e1044⟩ := hQ1044
        have N1044 := Fr.app N1043 N1044q
        obtain ⟨cq1045, kq1045, q1045a, q1045b, q1045c⟩ := isOf hZ e1044 (f1038)
        obtain ⟨_, _, ⟨T1045, L1045, k1045, n1045⟩, -, X1045, ⟨Lc1045, hQ1045, l1045, y1045, z1045⟩, st1045⟩ := X1044.virtualBack hx (y := (⟨"com/example/kawi/kawi/xml/Attributes", "getOrDefault", "(Ljava/lang/String;Ljava/lang/String;)Ljava/lang/String;"⟩ : MethodName)) (z := (⟨"com/example/kawi/kawi/xml/Attributes", "getOrDefault", "(Ljava/lang/String;Ljava/lang/String;)Ljava/lang/String;"⟩ : MethodName)) hown (mvT hZ (wd_66 hw)) (mvT hZ (wd_67 hw)) (notFace_of_selects (args := #[]) (mvT hZ (wd_69 hw))) (mvT hZ (wd_69 hw)) (mvT hZ (wd_68 hw)) (by decide) (backOf (W := 0) (rmg2x2n l Z a0 hw [] b1015 b939 b750 b761 k750 k761 b_706 b_711 b_716 b720 b730 b740 t_706 t_711 kb_706 kb_711 (nar .byte (cA.toInt8.toInt32)) (nar .byte (cB.toInt8.toInt32)) (nar .byte ((nar .char cq).toInt8.toInt32)) (nar .byte ((nar .char cq).toInt8.toInt32)) b_949 kb_949 wz T1017.heap n0 Z1018 g1017_0 g1017_1 g1017_2 f1032 f1033 f1020 f1021 f1022 f1023 ne_b_706_b939 f1024 f1025 f1026 f1027 ne_b_711_b939 f1034 f1035 f1036 f1037 f1019 S_COMPACT_STRINGS hz) hZ (wd_70 hw) (wd_47 hw) (by decide) (by decide)) q1045a q1045c (g := (mkF m 302 #[.val (.int p1), .val (.int p2), .val (.int p3), .val (.int p4), .val (.int p5), .val (.int p6), .val (.ref b_706), .val (.ref b_711), .val (.ref b_716), .val (.ref b720), .val (.ref b730), .val (.ref b740), .val (.ref b750), .val (.ref b761), .val (.int (2 : Int32)), .val (.int cq), .val (.ref b939), .val .null, .val (.ref b1015), .val .null, .unset] [.null, (.ref b939), (.ref b1015)])) rfl (by rw [hml]; rfl) (Steps.refl _) (argsL := [(.ref b939), .null]) (rest := []) (lenOf pd__Ljava_lang_String_Ljava_lang_String__Ljava_lang_String_ rfl) rfl (by show 2 * 0 + _ ≤ _; exact Nat.le_of_eq rfl) (hb hby at_302) (fun _ _ => ⟨rfl, e1044, (by decide : 21 + 0 ≤ _), (by decide : 50 + 0 ≤ _)⟩)
        dsimp only [Pt.U, Pt.locs, Pt.cells, Pt.slots] at X1045 l1045 y1045 z1045 st1045 hQ1045
        rw [l1045, y1045, z1045] at X1045
        obtain ⟨rfl, N1045q, e1045⟩ := hQ1045
        have N1045 := Fr.app N1044 N1045q
        obtain ⟨fs, hr, hrun, hended, hW, hsame⟩ := X1045.leave (v := some (.int (1 : Int32))) (fun h => by rw [Bd.returns] at h; cases h)
        refine ⟨_, _, pre1039 _ ?_, hrun, hended, _, _, rfl, ?_, ⟨_, rfl⟩, hW, hsame.mono (by decide) (by decide)⟩
        · show Steps p.tables e below (T1017.setTop (mkF m 224 #[.val (.int p1), .val (.int p2), .val (.int p3), .val (.int p4), .val (.int p5), .val (.int p6), .val (.ref b_706), .val (.ref b_711), .val (.ref b_716), .val (.ref b720), .val (.ref b730), .val (.ref b740), .val (.ref b750), .val (.ref b761), .val (.int (2 : Int32)), .val (.int cq), .val (.ref b939), .val .null, .val (.ref b1015), .unset, .unset] [])) _
          refine XS.iload X1017.here hx rfl (hb hby at_224) rfl ?_
          refine XS.ifNo X1017.here hx rfl (hb hby at_226) rfl ((if0 _ _).trans (tlt (by decide)).2.2.2) ?_
          refine XS.aload X1017.here hx rfl (hb hby at_229) rfl rfl ?_
          refine XS.aload X1017.here hx rfl (hb hby at_231) rfl rfl ?_
          refine st1043.trans ?_
          refine XS.ifYes X1043.here hx rfl (pc0 := 236) (pc' := 246) rfl (hb hby at_236) rfl ((if0 _ _).trans (teq (rfl : (0 : Int32) = (0 : Int32))).1) (by decide) (by decide) ?_
          refine XS.iload X1043.here hx rfl (hb hby at_246) rfl ?_
          refine XS.iconst X1043.here hx rfl (hb hby at_248) ?_
          refine XS.icmpNo X1043.here hx rfl (hb hby at_249) rfl (tlt (by decide)).2.2.2 ?_
          refine XS.aload X1043.here hx rfl (hb hby at_252) rfl rfl ?_
          show Steps p.tables e below (T1043.setTop (mkF m 254 #[.val (.int p1), .val (.int p2), .val (.int p3), .val (.int p4), .val (.int p5), .val (.int p6), .val (.ref b_706), .val (.ref b_711), .val (.ref b_716), .val (.ref b720), .val (.ref b730), .val (.ref b740), .val (.ref b750), .val (.ref b761), .val (.int (2 : Int32)), .val (.int cq), .val (.ref b939), .val .null, .val (.ref b1015), .unset, .unset] [(.ref b_711)])) _
          refine XS.aload X1043.here hx rfl (hb hby at_254) rfl rfl ?_
          refine st1044.trans ?_
          refine XS.ifYes X1044.here hx rfl (pc0 := 259) (pc' := 269) rfl (hb hby at_259) rfl ((if0 _ _).trans (teq (rfl : (0 : Int32) = (0 : Int32))).1) (by decide) (by decide) ?_
          refine XS.iload X1044.here hx rfl (hb hby at_269) rfl ?_
          refine XS.iconst X1044.here hx rfl (hb hby at_271) ?_
          refine XS.icmpYes X1044.here hx rfl (pc0 := 272) (pc' := 292) rfl (hb hby at_272) rfl (flt (by decide)).2.2.2 (by decide) (by decide) ?_
          refine XS.aload X1044.here hx rfl (hb hby at_292) rfl rfl ?_
          refine XS.astore X1044.here hx rfl (hb hby at_294) rfl rfl (l' := #[.val (.int p1), .val (.int p2), .val (.int p3), .val (.int p4), .val (.int p5), .val (.int p6), .val (.ref b_706), .val (.ref b_711), .val (.ref b_716), .val (.ref b720), .val (.ref b730), .val (.ref b740), .val (.ref b750), .val (.ref b761), .val (.int (2 : Int32)), .val (.int cq), .val (.ref b939), .val .null, .val (.ref b1015), .val .null, .unset]) rfl ?_
          refine XS.aload X1044.here hx rfl (hb hby at_296) rfl rfl ?_
          refine XS.aload X1044.here hx rfl (hb hby at_298) rfl rfl ?_
          show Steps p.tables e below (T1044.setTop (mkF m 300 #[.val (.int p1), .val (.int p2), .val (.int p3), .val (.int p4), .val (.int p5), .val (.int p6), .val (.ref b_706), .val (.ref b_711), .val (.ref b_716), .val (.ref b720), .val (.ref b730), .val (.ref b740), .val (.ref b750), .val (.ref b761), .val (.int (2 : Int32)), .val (.int cq), .val (.ref b939), .val .null, .val (.ref b1015), .val .null, .unset] [(.ref b939), (.ref b1015)])) _
          refine XS.aload X1044.here hx rfl (hb hby at_300) rfl rfl ?_
          refine st1045.trans ?_
          refine XS.astore X1045.here hx rfl (hb hby at_305) rfl rfl (l' := #[.val (.int p1), .val (.int p2), .val (.int p3), .val (.int p4), .val (.int p5), .val (.int p6), .val (.ref b_706), .val (.ref b_711), .val (.ref b_716), .val (.ref b720), .val (.ref b730), .val (.ref b740), .val (.ref b750), .val (.ref b761), .val (.int (2 : Int32)), .val (.int cq), .val (.ref b939), .val .null, .val (.ref b1015), .val .null, .val .null]) rfl ?_
          refine XS.aload X1045.here hx rfl (hb hby at_307) rfl rfl ?_
          refine XS.aload X1045.here hx rfl (hb hby at_309) rfl rfl ?_
          refine Jvm.RoadKit.acmp (g := (mkF m 311 #[.val (.int p1), .val (.int p2), .val (.int p3), .val (.int p4), .val (.int p5), .val (.int p6), .val (.ref b_706), .val (.ref b_711), .val (.ref b_716), .val (.ref b720), .val (.ref b730), .val (.ref b740), .val (.ref b750), .val (.ref b761), .val (.int (2 : Int32)), .val (.int cq), .val (.ref b939), .val .null, .val (.ref b1015), .val .null, .val .null] [.null, .null])) X1045 hx rfl rfl rfl (pc0 := 311) (pc' := 314) (same := true) rfl (hb hby at_311) rfl (decide_eq_true rfl) (by decide) (by decide) ?_
          refine XS.iconst X1045.here hx rfl (hb hby at_314) ?_
          refine XS.goto X1045.here hx rfl (pc0 := 315) (pc' := 319) rfl (hb hby at_315) (by decide) (by decide) ?_
          exact retN X1045 hx (t := .boolean) Bd.returns (by simp) (hb hby at_319) hr
        · show Q_rm0 Z p1 p2 p3 p4 p5 p6 wz h0 n0 _ T1045.heap _
          rw [e1045]
          exact ⟨rfl, N1045, trivial⟩
      · obtain ⟨cq1046, kq1046, q1046a, q1046b, q1046c⟩ := isOf hZ rfl (f1020)
        obtain ⟨_, _, ⟨T1046, L1046, k1046, n1046⟩, -, X1046, ⟨Lc1046, hQ1046, l1046, y1046, z1046⟩, st1046⟩ := X1017.virtualBack hx (y := (⟨"java/lang/String", "equals", "(Ljava/lang/Object;)Z"⟩ : MethodName)) (z := (⟨"java/lang/String", "equals", "(Ljava/lang/Object;)Z"⟩ : MethodName)) hown (mvT hZ (wd_58 hw)) (mvT hZ (wd_59 hw)) (notFace_of_selects (args := #[]) (mvT hZ (wd_61 hw))) (mvT hZ (wd_61 hw)) (mvT hZ (wd_60 hw)) (by decide) (backOf (W := 0) (rmeq12 l Z a0 hw [] b_706 b939 t_706 b_949 wz kb_706 kb_949 (nar .byte (cA.toInt8.toInt32)) (nar .byte ((nar .char cq).toInt8.toInt32)) (nar .byte ((nar .char cq).toInt8.toInt32)) T1017.heap n0 Z1018 f1020 f1034 f1021 f1035 f1022 f1036 f1023 f1037 f1019 S_COMPACT_STRINGS hz ne_b_706_b939) hZ (wd_62 hw) (wd_2 hw) (by decide) (by decide)) q1046a q1046c (g := (mkF m 233 #[.val (.int p1), .val (.int p2), .val (.int p3), .val (.int p4), .val (.int p5), .val (.int p6), .val (.ref b_706), .val (.ref b_711), .val (.ref b_716), .val (.ref b720), .val (.ref b730), .val (.ref b740), .val (.ref b750), .val (.ref b761), .val (.int (3 : Int32)), .val (.int cq), .val (.ref b939), .val .null, .val (.ref b1015), .unset, .unset] [(.ref b939), (.ref b_706)])) rfl (by rw [hml]; rfl) (Steps.refl _) (argsL := [(.ref b939)]) (rest := []) (lenOf pd__Ljava_lang_Object__Z rfl) rfl (by show 2 * 0 + _ ≤ _; exact Nat.le_of_eq rfl) (hb hby at_233) (fun _ _ => ⟨rfl, rfl, (by decide : 21 + 0 ≤ _), (by decide : 50 + 0 ≤ _)⟩)
        dsimp only [Pt.U, Pt.locs, Pt.cells, Pt.slots] at X1046 l1046 y1046 z1046 st1046 hQ1046
        rw [l1046, y1046, z1046] at X1046
        obtain ⟨rfl, N1046q, e1046⟩ := hQ1046
        have N1046 := Fr.app N1017 N1046q
        obtain ⟨cq1047, kq1047, q1047a, q1047b, q1047c⟩ := isOf hZ e1046 (f1024)
        obtain ⟨_, _, ⟨T1047, L1047, k1047, n1047⟩, -, X1047, ⟨Lc1047, hQ1047, l1047, y1047, z1047⟩, st1047⟩ := X1046.virtualBack hx (y := (⟨"java/lang/String", "equals", "(Ljava/lang/Object;)Z"⟩ : MethodName)) (z := (⟨"java/lang/String", "equals", "(Ljava/lang/Object;)Z"⟩ : MethodName)) hown (mvT hZ (wd_58 hw)) (mvT hZ (wd_59 hw)) (notFace_of_selects (args := #[]) (mvT hZ (wd_61 hw))) (mvT hZ (wd_61 hw)) (mvT hZ (wd_60 hw)) (by decide) (backOf (W := 0) (rmeq12 l Z a0 hw [] b_711 b939 t_711 b_949 wz kb_711 kb_949 (nar .byte (cB.toInt8.toInt32)) (nar .byte ((nar .char cq).toInt8.toInt32)) (nar .byte ((nar .char cq).toInt8.toInt32)) T1017.heap n0 Z1018 f1024 f1034 f1025 f1035 f1026 f1036 f1027 f1037 f1019 S_COMPACT_STRINGS hz ne_b_711_b939) hZ (wd_62 hw) (wd_2 hw) (by decide) (by decide)) q1047a q1047c (g := (mkF m 256 #[.val (.int p1), .val (.int p2), .val (.int p3), .val (.int p4), .val (.int p5), .val (.int p6), .val (.ref b_706), .val (.ref b_711), .val (.ref b_716), .val (.ref b720), .val (.ref b730), .val (.ref b740), .val (.ref b750), .val (.ref b761), .val (.int (3 : Int32)), .val (.int cq), .val (.ref b939), .val .null, .val (.ref b1015), .unset, .unset] [(.ref b939), (.ref b_711)])) rfl (by rw [hml]; rfl) (Steps.refl _) (argsL := [(.ref b939)]) (rest := []) (lenOf pd__Ljava_lang_Object__Z rfl) rfl (by show 2 * 0 + _ ≤ _; exact Nat.le_of_eq rfl) (hb hby at_256) (fun _ _ => ⟨rfl, e1046, (by decide : 21 + 0 ≤ _), (by decide : 50 + 0 ≤ _)⟩)
        dsimp only [Pt.U, Pt.locs, Pt.cells, Pt.slots] at X1047 l1047 y1047 z1047 st1047 hQ1047
        rw [l1047, y1047, z1047] at X1047
        obtain ⟨rfl, N1047q, e1047⟩ := hQ1047
        have N1047 := Fr.app N1046 N1047q
        obtain ⟨cq1048, kq1048, q1048a, q1048b, q1048c⟩ := isOf hZ e1047 (f1028)
        obtain ⟨_, _, ⟨T1048, L1048, k1048, n1048⟩, -, X1048, ⟨Lc1048, hQ1048, l1048, y1048, z1048⟩, st1048⟩ := X1047.virtualBack hx (y := (⟨"java/lang/String", "equals", "(Ljava/lang/Object;)Z"⟩ : MethodName)) (z := (⟨"java/lang/String", "equals", "(Ljava/lang/Object;)Z"⟩ : MethodName)) hown (mvT hZ (wd_58 hw)) (mvT hZ (wd_59 hw)) (notFace_of_selects (args := #[]) (mvT hZ (wd_61 hw))) (mvT hZ (wd_61 hw)) (mvT hZ (wd_60 hw)) (by decide) (backOf (W := 0) (rmeq12 l Z a0 hw [] b_716 b939 t_716 b_949 wz kb_716 kb_949 (nar .byte (cC.toInt8.toInt32)) (nar .byte ((nar .char cq).toInt8.toInt32)) (nar .byte ((nar .char cq).toInt8.toInt32)) T1017.heap n0 Z1018 f1028 f1034 f1029 f1035 f1030 f1036 f1031 f1037 f1019 S_COMPACT_STRINGS hz ne_b_716_b939) hZ (wd_62 hw) (wd_2 hw) (by decide) (by decide)) q1048a q1048c (g := (mkF m 279 #[.val (.int p1), .val (.int p2), .val (.int p3), .val (.int p4), .val (.int p5), .val (.int p6), .val (.ref b_706), .val (.ref b_711), .val (.ref b_716), .val (.ref b720), .val (.ref b730), .val (.ref b740), .val (.ref b750), .val (.ref b761), .val (.int (3 : Int32)), .val (.int cq), .val (.ref b939), .val .null, .val (.ref b1015), .unset, .unset] [(.ref b939), (.ref b_716)])) rfl (by rw [hml]; rfl) (Steps.refl _) (argsL := [(.ref b939)]) (rest := []) (lenOf pd__Ljava_lang_Object__Z rfl) rfl (by show 2 * 0 + _ ≤ _; exact Nat.le_of_eq rfl) (hb hby at_279) (fun _ _ => ⟨rfl, e1047, (by decide : 21 + 0 ≤ _), (by decide : 50 + 0 ≤ _)⟩)
        dsimp only [Pt.U, Pt.locs, Pt.cells, Pt.slots] at X1048 l1048 y1048 z1048 st1048 hQ1048
        rw [l1048, y1048, z1048] at X1048
        obtain ⟨rfl, N1048q, e1048⟩ := hQ1048
        have N1048 := Fr.app N1047 N1048q
        obtain ⟨cq1049, kq1049, q1049a, q1049b, q1049c⟩ := isOf hZ e1048 (f1038)
        obtain ⟨_, _, ⟨T1049, L1049, k1049, n1049⟩, -, X1049, ⟨Lc1049, hQ1049, l1049, y1049, z1049⟩, st1049⟩ := X1048.virtualBack hx (y := (⟨"com/example/kawi/kawi/xml/Attributes", "getOrDefault", "(Ljava/lang/String;Ljava/lang/String;)Ljava/lang/String;"⟩ : MethodName)) (z := (⟨"com/example/kawi/kawi/xml/Attributes", "getOrDefault", "(Ljava/lang/String;Ljava/lang/String;)Ljava/lang/String;"⟩ : MethodName)) hown (mvT hZ (wd_66 hw)) (mvT hZ (wd_67 hw)) (notFace_of_selects (args := #[]) (mvT hZ (wd_69 hw))) (mvT hZ (wd_69 hw)) (mvT hZ (wd_68 hw)) (by decide) (backOf (W := 0) (rmg3x2n l Z a0 hw [] b1015 b939 b750 b761 k750 k761 b_706 b_711 b_716 b720 b730 b740 t_706 t_711 t_716 kb_706 kb_711 kb_716 (nar .byte (cA.toInt8.toInt32)) (nar .byte (cB.toInt8.toInt32)) (nar .byte (cC.toInt8.toInt32)) (nar .byte ((nar .char cq).toInt8.toInt32)) (nar .byte ((nar .char cq).toInt8.toInt32)) b_949 kb_949 wz T1017.heap n0 Z1018 g1017_0 g1017_1 g1017_2 f1032 f1033 f1020 f1021 f1022 f1023 ne_b_706_b939 f1024 f1025 f1026 f1027 ne_b_711_b939 f1028 f1029 f1030 f1031 ne_b_716_b939 f1034 f1035 f1036 f1037 f1019 S_COMPACT_STRINGS hz) hZ (wd_70 hw) (wd_47 hw) (by decide) (by decide)) q1049a q1049c (g := (mkF m 302 #[.val (.int p1), .val (.int p2), .val (.int p3), .val (.int p4), .val (.int p5), .val (.int p6), .val (.ref b_706), .val (.ref b_711), .val (.ref b_716), .val (.ref b720), .val (.ref b730), .val (.ref b740), .val (.ref b750), .val (.ref b761), .val (.int (3 : Int32)), .val (.int cq), .val (.ref b939), .val .null, .val (.ref b1015), .val .null, .unset] [.null, (.ref b939), (.ref b1015)])) rfl (by rw [hml]; rfl) (Steps.refl _) (argsL := [(.ref b939), .null]) (rest := []) (lenOf pd__Ljava_lang_String_Ljava_lang_String__Ljava_lang_String_ rfl) rfl (by show 2 * 0 + _ ≤ _; exact Nat.le_of_eq rfl) (hb hby at_302) (fun _ _ => ⟨rfl, e1048, (by decide : 21 + 0 ≤ _), (by decide : 50 + 0 ≤ _)⟩)
        dsimp only [Pt.U, Pt.locs, Pt.cells, Pt.slots] at X1049 l1049 y1049 z1049 st1049 hQ1049
        rw [l1049, y1049, z1049] at X1049
        obtain ⟨rfl, N1049q, e1049⟩ := hQ1049
        have N1049 := Fr.app N1048 N1049q
        obtain ⟨fs, hr, hrun, hended, hW, hsame⟩ := X1049.leave (v := some (.int (1 : Int32))) (fun h => by rw [Bd.returns] at h; cases h)
        refine ⟨_, _, pre1039 _ ?_, hrun, hended, _, _, rfl, ?_, ⟨_, rfl⟩, hW, hsame.mono (by decide) (by decide)⟩
        · show Steps p.tables e below (T1017.setTop (mkF m 224 #[.val (.int p1), .val (.int p2), .val (.int p3), .val (.int p4), .val (.int p5), .val (.int p6), .val (.ref b_706), .val (.ref b_711), .val (.ref b_716), .val (.ref b720), .val (.ref b730), .val (.ref b740), .val (.ref b750), .val (.ref b761), .val (.int (3 : Int32)), .val (.int cq), .val (.ref b939), .val .null, .val (.ref b1015), .unset, .unset] [])) _
          refine XS.iload X1017.here hx rfl (hb hby at_224) rfl ?_
          refine XS.ifNo X1017.here hx rfl (hb hby at_226) rfl ((if0 _ _).trans (tlt (by decide)).2.2.2) ?_
          refine XS.aload X1017.here hx rfl (hb hby at_229) rfl rfl ?_
          refine XS.aload X1017.here hx rfl (hb hby at_231) rfl rfl ?_
          refine st1046.trans ?_
          refine XS.ifYes X1046.here hx rfl (pc0 := 236) (pc' := 246) rfl (hb hby at_236) rfl ((if0 _ _).trans (teq (rfl : (0 : Int32) = (0 : Int32))).1) (by decide) (by decide) ?_
          refine XS.iload X1046.here hx rfl (hb hby at_246) rfl ?_
          refine XS.iconst X1046.here hx rfl (hb hby at_248) ?_
          refine XS.icmpNo X1046.here hx rfl (hb hby at_249) rfl (tlt (by decide)).2.2.2 ?_
          refine XS.aload X1046.here hx rfl (hb hby at_252) rfl rfl ?_
          show Steps p.tables e below (T1046.setTop (mkF m 254 #[.val (.int p1), .val (.int p2), .val (.int p3), .val (.int p4), .val (.int p5), .val (.int p6), .val (.ref b_706), .val (.ref b_711), .val (.ref b_716), .val (.ref b720), .val (.ref b730), .val (.ref b740), .val (.ref b750), .val (.ref b761), .val (.int (3 : Int32)), .val (.int cq), .val (.ref b939), .val .null, .val (.ref b1015), .unset, .unset] [(.ref b_711)])) _
          refine XS.aload X1046.here hx rfl (hb hby at_254) rfl rfl ?_
          refine st1047.trans ?_
          refine XS.ifYes X1047.here hx rfl (pc0 := 259) (pc' := 269) rfl (hb hby at_259) rfl ((if0 _ _).trans (teq (rfl : (0 : Int32) = (0 : Int32))).1) (by decide) (by decide) ?_
          refine XS.iload X1047.here hx rfl (hb hby at_269) rfl ?_
          refine XS.iconst X1047.here hx rfl (hb hby at_271) ?_
          refine XS.icmpNo X1047.here hx rfl (hb hby at_272) rfl (tlt (by decide)).2.2.2 ?_
          refine XS.aload X1047.here hx rfl (hb hby at_275) rfl rfl ?_
          refine XS.aload X1047.here hx rfl (hb hby at_277) rfl rfl ?_
          refine st1048.trans ?_
          refine XS.ifYes X1048.here hx rfl (pc0 := 282) (pc' := 292) rfl (hb hby at_282) rfl ((if0 _ _).trans (teq (rfl : (0 : Int32) = (0 : Int32))).1) (by decide) (by decide) ?_
          show Steps p.tables e below (T1048.setTop (mkF m 292 #[.val (.int p1), .val (.int p2), .val (.int p3), .val (.int p4), .val (.int p5), .val (.int p6), .val (.ref b_706), .val (.ref b_711), .val (.ref b_716), .val (.ref b720), .val (.ref b730), .val (.ref b740), .val (.ref b750), .val (.ref b761), .val (.int (3 : Int32)), .val (.int cq), .val (.ref b939), .val .null, .val (.ref b1015), .unset, .unset] [])) _
          refine XS.aload X1048.here hx rfl (hb hby at_292) rfl rfl ?_
          refine XS.astore X1048.here hx rfl (hb hby at_294) rfl rfl (l' := #[.val (.int p1), .val (.int p2), .val (.int p3), .val (.int p4), .val (.int p5), .val (.int p6), .val (.ref b_706), .val (.ref b_711), .val (.ref b_716), .val (.ref b720), .val (.ref b730), .val (.ref b740), .val (.ref b750), .val (.ref b761), .val (.int (3 : Int32)), .val (.int cq), .val (.ref b939), .val .null, .val (.ref b1015), .val .null, .unset]) rfl ?_
          refine XS.aload X1048.here hx rfl (hb hby at_296) rfl rfl ?_
          refine XS.aload X1048.here hx rfl (hb hby at_298) rfl rfl ?_
          refine XS.aload X1048.here hx rfl (hb hby at_300) rfl rfl ?_
          refine st1049.trans ?_
          refine XS.astore X1049.here hx rfl (hb hby at_305) rfl rfl (l' := #[.val (.int p1), .val (.int p2), .val (.int p3), .val (.int p4), .val (.int p5), .val (.int p6), .val (.ref b_706), .val (.ref b_711), .val (.ref b_716), .val (.ref b720), .val (.ref b730), .val (.ref b740), .val (.ref b750), .val (.ref b761), .val (.int (3 : Int32)), .val (.int cq), .val (.ref b939), .val .null, .val (.ref b1015), .val .null, .val .null]) rfl ?_
          refine XS.aload X1049.here hx rfl (hb hby at_307) rfl rfl ?_
          refine XS.aload X1049.here hx rfl (hb hby at_309) rfl rfl ?_
          refine Jvm.RoadKit.acmp (g := (mkF m 311 #[.val (.int p1), .val (.int p2), .val (.int p3), .val (.int p4), .val (.int p5), .val (.int p6), .val (.ref b_706), .val (.ref b_711), .val (.ref b_716), .val (.ref b720), .val (.ref b730), .val (.ref b740), .val (.ref b750), .val (.ref b761), .val (.int (3 : Int32)), .val (.int cq), .val (.ref b939), .val .null, .val (.ref b1015), .val .null, .val .null] [.null, .null])) X1049 hx rfl rfl rfl (pc0 := 311) (pc' := 314) (same := true) rfl (hb hby at_311) rfl (decide_eq_true rfl) (by decide) (by decide) ?_
          show Steps p.tables e below (T1049.setTop (mkF m 314 #[.val (.int p1), .val (.int p2), .val (.int p3), .val (.int p4), .val (.int p5), .val (.int p6), .val (.ref b_706), .val (.ref b_711), .val (.ref b_716), .val (.ref b720), .val (.ref b730), .val (.ref b740), .val (.ref b750), .val (.ref b761), .val (.int (3 : Int32)), .val (.int cq), .val (.ref b939), .val .null, .val (.ref b1015), .val .null, .val .null] [])) _
          refine XS.iconst X1049.here hx rfl (hb hby at_314) ?_
          refine XS.goto X1049.here hx rfl (pc0 := 315) (pc' := 319) rfl (hb hby at_315) (by decide) (by decide) ?_
          exact retN X1049 hx (t := .boolean) Bd.returns (by simp) (hb hby at_319) hr
        · show Q_rm0 Z p1 p2 p3 p4 p5 p6 wz h0 n0 _ T1049.heap _
          rw [e1049]
          exact ⟨rfl, N1049, trivial⟩
set_option maxRecDepth 65536 in
set_option maxHeartbeats 40000000 in
theorem comes_1 {Post : Tables → Env → Array Value → State → Outcome → State → Prop} (hpost : ∀ tb e args s v u, (limb_1_1.after args s (.returned v) u = true ∧ limb_1_2.after args s (.returned v) u = true ∧ True) → FrameEnd s (.returned v) u (Jvm.fieldLocs frame_1_writes args s ++ Jvm.arrayLocs frame_1_arrays args s ++ Jvm.staticLocs frame_1_statics s) 56 192 → Post tb e args s (.returned v) u) :
    ArmFor flags0 classFile x code maxLocals ret World_1 tables_1 room_1 Calls_1 rest_1 Pre_1 Post := by
  intro l hfl _ _ p e ha hc hk s m args below hf hA hF happ hP
  obtain ⟨hcalls, hrest, hpre⟩ := hP
  obtain ⟨-, -, -, hnamed, -, -, -, hat⟩ := (Spec.applies_iff hf).mp happ
  obtain ⟨hg, hn⟩ := and_e (Cond.before_iff.mp (show (Jvm.Cond.and given_1 narrow_1).before args s = true from hpre))
  obtain ⟨g1050, g1051⟩ := and_e hg
  obtain ⟨g1052, g1053⟩ := and_e g1051
  obtain ⟨g1054, g1055⟩ := and_e g1053
  obtain ⟨g1056, g1057⟩ := and_e g1055
  obtain ⟨g1058, g1059⟩ := and_e g1057
  obtain ⟨g1060, g1061⟩ := and_e g1059
  obtain ⟨w0, w1, w2, w3, w4, w5, rfl⟩ : ∃ w0 w1 w2 w3 w4 w5 : Value, args = #[w0, w1, w2, w3, w4, w5] := by
    have hs : args.size = 6 := by simpa [Cond.value, given_1] using g1050
    obtain ⟨L⟩ := args
    match L, hs with
    | [w0, w1, w2, w3, w4, w5], _ => exact ⟨w0, w1, w2, w3, w4, w5, rfl⟩
  have hw := fun d (hd : d ∈ tables_1) => atoms_spec (ws := Jvm.Cond.code x code maxLocals ret :: tables_1) hat d (List.mem_cons_of_mem _ hd)
  have hfit : Fit s := fun {y c} hc i hi => by
    obtain ⟨ha, rfl⟩ := Array.getElem?_eq_some_iff.mp hc
    have q := List.all_eq_true.mp ((Array.all_eq_true_iff_forall_mem.mp hF) _ (Array.getElem_mem ha)) i (List.mem_range.mpr hi)
    simpa [Array.getElem?_eq_getElem hi] using q
  obtain ⟨hsets, hown0⟩ := atoms_of _ (rest_1_c_eq ▸ (show rest_1_c.before _ s = true from hrest))
  have hr0 := Cond.before_iff.mp hown0
  obtain ⟨i0, ei0⟩ := is_v g1052
  obtain rfl : w0 = (.int i0) := Option.some.inj ei0
  obtain ⟨i1, ei1⟩ := is_v g1054
  obtain rfl : w1 = (.int i1) := Option.some.inj ei1
  obtain ⟨i2, ei2⟩ := is_v g1056
  obtain rfl : w2 = (.int i2) := Option.some.inj ei2
  obtain ⟨i3, ei3⟩ := is_v g1058
  obtain rfl : w3 = (.int i3) := Option.some.inj ei3
  obtain ⟨i4, ei4⟩ := is_v g1060
  obtain rfl : w4 = (.int i4) := Option.some.inj ei4
  obtain ⟨i5, ei5⟩ := is_v g1061
  obtain rfl : w5 = (.int i5) := Option.some.inj ei5
  obtain ⟨iz, eiz⟩ := is_v (Cond.before_iff.mp (hsets _ (List.mem_of_getElem? (i := 1) rfl)))
  have n5 := not_v (Cond.before_iff.mp (hsets _ (List.mem_of_getElem? (i := 2) rfl)))
  have SZ : Sta s s.heap "java/lang/String" "COMPACT_STRINGS" "Z" (.int iz) := Sta.start eiz (Or.inl (hsets _ (List.mem_of_getElem? (i := 0) rfl)))
  have hz : ¬ (iz = (0 : Int32)) := gotF (Cond.eq_ints eiz (Term.int_eval (0))) n5
  obtain ⟨n, o, h1, h2, h3, _, L, rfl, ⟨rfl, N, -⟩, hq⟩ := rm0 l s _ hw tables_1 i0 i1 i2 i3 i4 i5 iz s.heap s.heap.size (Nat.le_refl _) (Old.start s) SZ hz p e ha hc hk s m _ below hf ((Spec.applies_iff_loose hf).mp happ).1 ⟨rfl, State.Warmed39.refl s, rfl⟩ trivial
  refine ⟨n, _, h1, h2, h3, hpost _ _ _ _ _ _ ⟨Cond.after_iff.mpr rfl, Cond.after_iff.mpr (eq_i res_at (Term.int_eval (1)) rfl), trivial⟩ ⟨hq.1, hq.2.1, (hq.2.2.sift fun y hy => Or.inr (N y hy)).mono (by decide) (by decide)⟩⟩
theorem main_1_1 : Claimed_1_1 := comes_1 fun _ _ _ _ _ _ h hF => ⟨h.1, hF⟩
theorem main_1_2 : Claimed_1_2 := comes_1 fun _ _ _ _ _ _ h hF => ⟨h.2.1, hF⟩
end Jvm.Pilot.@@N@@
namespace Jvm.Pilot.@@N@@
open Jvm Jvm.ClassFile Sem Op Lib Jvm.Free Jvm.Stand Jvm.Pilot.@@N@@.Jvm.D
/-! MADE BY PROGRAM (witnessworld.py) out of the Statement's table words and the real class files: 21 classes; the members and pool entries that the words name. The judged class is class 1, her method 1. -/
namespace start1
open Jvm.ClassFile
def u (s : String) : CpInfo := .utf8 (stringToUtf16 s)
/-- a pool by its gaps: so many unusable entries, then the entry; so many at the end -/
def gap : Nat → List CpInfo → List CpInfo
  | 0, r => r
  | n + 1, r => .unusable :: gap n r
def poolList (es : List (Nat × CpInfo)) (last : Nat) : List CpInfo := es.foldr (fun e r => gap e.1 (e.2 :: r)) (gap last [])
def pool (es : List (Nat × CpInfo)) (last : Nat) : Array CpInfo := ⟨poolList es last⟩
def fileOf (pool : Array CpInfo) (this : Nat) (attrs : Array Attribute := #[]) (ms : Array MethodInfo := #[]) (fl : Nat := 33) (sup : Nat := 0) (ifs : Array Nat := #[]) (fds : Array FieldInfo := #[]) : ClassFile where
  minorVersion := 0
  majorVersion := 65
  constantPool := pool
  accessFlags := fl
  thisClass := this
  superClass := sup
  interfaces := ifs
  fields := fds
  methods := ms
  attributes := attrs
def plain (name : String) (sup : Option ClassId) : Class where
  name := name
  kind := .ordinary
  loader := none
  accessFlags := 33
  super := sup
  interfaces := #[]
  cf := none
  fields := #[]
  methods := #[]
  instanceTypes := #[]
  staticTypes := #[]
  resolved := #[]
  callSites := []
  init := .initialized
  statics := none
  mirror := none

def pool0 : Array CpInfo := pool [(5, u "<init>"), (0, u "()V"), (1, .class_ 10), (1, u "java/lang/Object")] 113

def k0c0 : Code := { maxStack := 0, maxLocals := 1, code := object_method_1_code, exceptionTable := #[], attributes := #[] }
def k0m0 : Method := { name := "<init>", desc := "()V", sig := { parameters := [], returnType := none }, accessFlags := 1, code := some k0c0 }
/-- java/lang/Object -/
def k0 : Class := { plain "java/lang/Object" none with
  accessFlags := 33
  interfaces := #[]
  cf := some (fileOf pool0 8 #[] #[{ accessFlags := 1, nameIndex := 5, descriptorIndex := 6, attributes := #[] }] 33 0 #[] #[])
  fields := #[]
  methods := #[k0m0]
  instanceTypes := #[]
  staticTypes := #[]
  resolved := Array.replicate 124 none
  statics := none }

def pool1 : Array CpInfo := pool [(2, .class_ 4), (1, u "java/lang/Object"), (0, u "<init>"), (0, u "()V"), (0, .methodref 8 9), (0, .class_ 10), (0, .nameAndType 11 12), (0, u "java/lang/String"), (0, u "valueOf"), (0, u "(C)Ljava/lang/String;"), (0, .methodref 8 14), (0, .nameAndType 5 15), (0, u "([C)V"), (0, .class_ 17), (0, u "com/example/kawi/kawi/xml/Attributes"), (0, .methodref 16 19), (0, .nameAndType 5 20), (0, u "([Ljava/lang/String;[Ljava/lang/String;I)V"), (0, .methodref 8 22), (0, .nameAndType 23 24), (0, u "equals"), (0, u "(Ljava/lang/Object;)Z"), (0, .methodref 16 26), (0, .nameAndType 27 28), (0, u "getOrDefault"), (0, u "(Ljava/lang/String;Ljava/lang/String;)Ljava/lang/String;"), (0, .class_ 30), (0, u "com/example/kawi/kawi/xml/AttributesGetOrDefaultPinLaw"), (2, u "law"), (0, u "(IIIIII)Z")] 5

def k1m0 : Method := { name := "<init>", desc := "()V", sig := { parameters := [], returnType := none }, accessFlags := 2, code := none }
def k1c1 : Code := { maxStack := 6, maxLocals := 21, code := code, exceptionTable := #[], attributes := #[] }
def k1m1 : Method := { name := "law", desc := "(IIIIII)Z", sig := { parameters := [.int, .int, .int, .int, .int, .int], returnType := some .boolean }, accessFlags := 9, code := some k1c1 }
/-- com/example/kawi/kawi/xml/AttributesGetOrDefaultPinLaw -/
def k1 : Class := { plain "com/example/kawi/kawi/xml/AttributesGetOrDefaultPinLaw" (some 0) with
  accessFlags := 49
  interfaces := #[]
  cf := some (fileOf pool1 29 #[] #[{ accessFlags := 2, nameIndex := 5, descriptorIndex := 6, attributes := #[] }, { accessFlags := 9, nameIndex := 33, descriptorIndex := 34, attributes := #[] }] 49 2 #[] #[])
  fields := #[]
  methods := #[k1m0, k1m1]
  instanceTypes := #[]
  staticTypes := #[]
  resolved := Array.replicate 40 none
  statics := none }

def pool2 : Array CpInfo := pool [(1, .class_ 2), (0, u "java/io/Serializable"), (0, .class_ 4), (0, u "java/lang/Object")] 2

/-- java/io/Serializable -/
def k2 : Class := { plain "java/io/Serializable" (some 0) with
  accessFlags := 1537
  interfaces := #[]
  cf := some (fileOf pool2 1 #[] #[] 1537 3 #[] #[])
  fields := #[]
  methods := #[]
  instanceTypes := #[]
  staticTypes := #[]
  resolved := Array.replicate 7 none
  statics := none }

def pool3 : Array CpInfo := pool [(1, .class_ 2), (0, u "java/lang/Comparable"), (0, .class_ 4), (0, u "java/lang/Object")] 7

/-- java/lang/Comparable -/
def k3 : Class := { plain "java/lang/Comparable" (some 0) with
  accessFlags := 1537
  interfaces := #[]
  cf := some (fileOf pool3 1 #[] #[] 1537 3 #[] #[])
  fields := #[]
  methods := #[]
  instanceTypes := #[]
  staticTypes := #[]
  resolved := Array.replicate 12 none
  statics := none }

def pool4 : Array CpInfo := pool [(2, .class_ 4), (1, u "java/lang/CharSequence"), (42, .class_ 48), (0, u "java/lang/CharSequence$1CodePointIterator"), (10, .class_ 60), (0, u "java/lang/CharSequence$1CharIterator"), (5, .class_ 67), (0, u "java/lang/Object")] 63

/-- java/lang/CharSequence -/
def k4 : Class := { plain "java/lang/CharSequence" (some 0) with
  accessFlags := 1537
  interfaces := #[]
  cf := some (fileOf pool4 2 #[.nestMembers #[47, 59]] #[] 1537 66 #[] #[])
  fields := #[]
  methods := #[]
  instanceTypes := #[]
  staticTypes := #[]
  resolved := Array.replicate 131 none
  statics := none }

def pool5 : Array CpInfo := pool [(1, .class_ 2), (0, u "java/lang/constant/Constable"), (0, .class_ 4), (0, u "java/lang/Object")] 6

/-- java/lang/constant/Constable -/
def k5 : Class := { plain "java/lang/constant/Constable" (some 0) with
  accessFlags := 1537
  interfaces := #[]
  cf := some (fileOf pool5 1 #[] #[] 1537 3 #[] #[])
  fields := #[]
  methods := #[]
  instanceTypes := #[]
  staticTypes := #[]
  resolved := Array.replicate 11 none
  statics := none }

def pool6 : Array CpInfo := pool [(1, .class_ 2), (0, u "java/lang/constant/ConstantDesc"), (0, .class_ 4), (0, u "java/lang/Object")] 32

/-- java/lang/constant/ConstantDesc -/
def k6 : Class := { plain "java/lang/constant/ConstantDesc" (some 0) with
  accessFlags := 1537
  interfaces := #[]
  cf := some (fileOf pool6 1 #[] #[] 1537 3 #[] #[])
  fields := #[]
  methods := #[]
  instanceTypes := #[]
  staticTypes := #[]
  resolved := Array.replicate 37 none
  statics := none }

def pool7 : Array CpInfo := pool [(1, .methodref 2 3), (0, .class_ 4), (0, .nameAndType 5 6), (0, u "java/lang/Object"), (0, u "<init>"), (0, u "()V"), (2, .fieldref 10 11), (0, .class_ 12), (0, .nameAndType 13 14), (0, u "java/lang/String"), (0, u "value"), (0, u "[B"), (0, .fieldref 10 16), (0, .nameAndType 17 18), (0, u "coder"), (0, u "B"), (2, u "hash"), (0, u "I"), (2, u "hashIsZero"), (0, u "Z"), (0, .methodref 10 28), (0, .nameAndType 5 29), (0, u "([CIILjava/lang/Void;)V"), (8, .fieldref 10 39), (0, .nameAndType 40 26), (0, u "COMPACT_STRINGS"), (1, .class_ 44), (1, u "java/lang/StringUTF16"), (0, u "compress"), (1, .methodref 42 48), (0, .nameAndType 49 50), (0, u "coderFromArrayLen"), (0, u "([BI)B"), (2, u "toBytes"), (53, .class_ 109), (1, u "java/lang/StringLatin1"), (67, .methodref 42 178), (0, .nameAndType 45 179), (0, u "([CII)[B"), (29, .methodref 10 210), (0, .nameAndType 5 211), (0, u "([BB)V"), (157, u "(C)Z"), (171, .methodref 107 542), (0, .nameAndType 543 544), (0, u "equals"), (0, u "([B[B)Z"), (28, u "(Ljava/lang/Object;)Z"), (1, .class_ 576), (0, u "java/lang/CharSequence"), (22, u "CASE_INSENSITIVE_ORDER"), (0, u "Ljava/util/Comparator;"), (181, u "valueOf"), (0, u "(C)Ljava/lang/String;"), (226, u "([C)V"), (4, .methodref 107 1016), (0, .nameAndType 1017 369), (0, u "canEncode"), (0, .methodref 107 1019), (0, .nameAndType 53 1020), (0, u "(C)[B"), (80, u "serialPersistentFields"), (0, u "[Ljava/io/ObjectStreamField;"), (0, .class_ 1104), (0, u "java/lang/String$CaseInsensitiveComparator"), (1, .class_ 1107), (0, u "java/io/Serializable"), (0, .class_ 1109), (0, u "java/lang/Comparable"), (0, .class_ 1111), (0, u "java/lang/constant/Constable"), (0, .class_ 1113), (0, u "java/lang/constant/ConstantDesc"), (2, u "serialVersionUID"), (0, u "J"), (3, u "REPL"), (0, u "C"), (2, u "LATIN1"), (1, u "UTF16")] 323

def k7m0 : Method := { name := "<init>", desc := "()V", sig := { parameters := [], returnType := none }, accessFlags := 1, code := none }
def k7c1 : Code := { maxStack := 5, maxLocals := 2, code := jdk_42_method_3_code, exceptionTable := #[], attributes := #[] }
def k7m1 : Method := { name := "<init>", desc := "([C)V", sig := { parameters := [(.array .char)], returnType := none }, accessFlags := 1, code := some k7c1 }
def k7c2 : Code := { maxStack := 2, maxLocals := 3, code := jdk_42_method_66_code, exceptionTable := #[], attributes := #[] }
def k7m2 : Method := { name := "equals", desc := "(Ljava/lang/Object;)Z", sig := { parameters := [(.object "java/lang/Object")], returnType := some .boolean }, accessFlags := 1, code := some k7c2 }
def k7c3 : Code := { maxStack := 4, maxLocals := 1, code := jdk_42_method_139_code, exceptionTable := #[], attributes := #[] }
def k7m3 : Method := { name := "valueOf", desc := "(C)Ljava/lang/String;", sig := { parameters := [.char], returnType := some (.object "java/lang/String") }, accessFlags := 9, code := some k7c3 }
def k7c4 : Code := { maxStack := 4, maxLocals := 6, code := jdk_42_method_149_code, exceptionTable := #[], attributes := #[] }
def k7m4 : Method := { name := "<init>", desc := "([CIILjava/lang/Void;)V", sig := { parameters := [(.array .char), .int, .int, (.object "java/lang/Void")], returnType := none }, accessFlags := 2, code := some k7c4 }
def k7c5 : Code := { maxStack := 2, maxLocals := 3, code := jdk_42_method_151_code, exceptionTable := #[], attributes := #[] }
def k7m5 : Method := { name := "<init>", desc := "([BB)V", sig := { parameters := [(.array .byte), .byte], returnType := none }, accessFlags := 0, code := some k7c5 }
/-- java/lang/String -/
def k7 : Class := { plain "java/lang/String" (some 0) with
  accessFlags := 49
  interfaces := #[2, 3, 4, 5, 6]
  cf := some (fileOf pool7 10 #[.nestMembers #[1103]] #[{ accessFlags := 1, nameIndex := 5, descriptorIndex := 6, attributes := #[] }, { accessFlags := 1, nameIndex := 5, descriptorIndex := 1010, attributes := #[] }, { accessFlags := 1, nameIndex := 543, descriptorIndex := 573, attributes := #[] }, { accessFlags := 9, nameIndex := 782, descriptorIndex := 783, attributes := #[] }, { accessFlags := 2, nameIndex := 5, descriptorIndex := 29, attributes := #[] }, { accessFlags := 0, nameIndex := 5, descriptorIndex := 211, attributes := #[] }] 49 2 #[1106, 1108, 575, 1110, 1112] #[{ accessFlags := 18, nameIndex := 13, descriptorIndex := 14, attributes := #[] }, { accessFlags := 18, nameIndex := 17, descriptorIndex := 18, attributes := #[] }, { accessFlags := 2, nameIndex := 21, descriptorIndex := 22, attributes := #[] }, { accessFlags := 2, nameIndex := 25, descriptorIndex := 26, attributes := #[] }, { accessFlags := 26, nameIndex := 1116, descriptorIndex := 1117, attributes := #[] }, { accessFlags := 24, nameIndex := 40, descriptorIndex := 26, attributes := #[] }, { accessFlags := 26, nameIndex := 1101, descriptorIndex := 1102, attributes := #[] }, { accessFlags := 26, nameIndex := 1121, descriptorIndex := 1122, attributes := #[] }, { accessFlags := 25, nameIndex := 599, descriptorIndex := 600, attributes := #[] }, { accessFlags := 24, nameIndex := 1125, descriptorIndex := 18, attributes := #[] }, { accessFlags := 24, nameIndex := 1127, descriptorIndex := 18, attributes := #[] }])
  fields := #[{ name := "value", type := (.array .byte), accessFlags := 18, slot := 0, constantValue := 0 }, { name := "coder", type := .byte, accessFlags := 18, slot := 1, constantValue := 0 }, { name := "hash", type := .int, accessFlags := 2, slot := 2, constantValue := 0 }, { name := "hashIsZero", type := .boolean, accessFlags := 2, slot := 3, constantValue := 0 }, { name := "serialVersionUID", type := .long, accessFlags := 26, slot := 0, constantValue := 0 }, { name := "COMPACT_STRINGS", type := .boolean, accessFlags := 24, slot := 1, constantValue := 0 }, { name := "serialPersistentFields", type := (.array (.object "java/io/ObjectStreamField")), accessFlags := 26, slot := 2, constantValue := 0 }, { name := "REPL", type := .char, accessFlags := 26, slot := 3, constantValue := 0 }, { name := "CASE_INSENSITIVE_ORDER", type := (.object "java/util/Comparator"), accessFlags := 25, slot := 4, constantValue := 0 }, { name := "LATIN1", type := .byte, accessFlags := 24, slot := 5, constantValue := 0 }, { name := "UTF16", type := .byte, accessFlags := 24, slot := 6, constantValue := 0 }]
  methods := #[k7m0, k7m1, k7m2, k7m3, k7m4, k7m5]
  instanceTypes := #[(.array .byte), .byte, .int, .boolean]
  staticTypes := #[.long, .boolean, (.array (.object "java/io/ObjectStreamField")), .char, (.object "java/util/Comparator"), .byte, .byte]
  resolved := Array.replicate 1451 none
  statics := some 0 }

def pool8 : Array CpInfo := pool [(4, .class_ 6), (1, u "java/lang/Object"), (0, u "<init>"), (0, u "()V"), (5, .class_ 16), (1, u "java/lang/StringLatin1"), (73, u "canEncode"), (14, u "(C)Z"), (15, u "$assertionsDisabled"), (0, u "Z"), (98, .class_ 223), (1, u "java/lang/StringLatin1$LinesSpliterator"), (57, u "equals"), (0, u "([B[B)Z"), (97, u "toBytes"), (1, u "(C)[B"), (7, .class_ 391), (0, u "java/lang/StringLatin1$CharsSpliterator")] 3

def k8m0 : Method := { name := "<init>", desc := "()V", sig := { parameters := [], returnType := none }, accessFlags := 0, code := none }
def k8c1 : Code := { maxStack := 2, maxLocals := 1, code := jdk_43_method_3_code, exceptionTable := #[], attributes := #[] }
def k8m1 : Method := { name := "canEncode", desc := "(C)Z", sig := { parameters := [.char], returnType := some .boolean }, accessFlags := 9, code := some k8c1 }
def k8c2 : Code := { maxStack := 3, maxLocals := 3, code := jdk_43_method_13_code, exceptionTable := #[], attributes := #[] }
def k8m2 : Method := { name := "equals", desc := "([B[B)Z", sig := { parameters := [(.array .byte), (.array .byte)], returnType := some .boolean }, accessFlags := 9, code := some k8c2 }
def k8c3 : Code := { maxStack := 4, maxLocals := 1, code := jdk_43_method_46_code, exceptionTable := #[], attributes := #[] }
def k8m3 : Method := { name := "toBytes", desc := "(C)[B", sig := { parameters := [.char], returnType := some (.array .byte) }, accessFlags := 9, code := some k8c3 }
/-- java/lang/StringLatin1 -/
def k8 : Class := { plain "java/lang/StringLatin1" (some 0) with
  accessFlags := 48
  interfaces := #[]
  cf := some (fileOf pool8 14 #[.nestMembers #[390, 221]] #[{ accessFlags := 0, nameIndex := 7, descriptorIndex := 8, attributes := #[] }, { accessFlags := 9, nameIndex := 90, descriptorIndex := 105, attributes := #[] }, { accessFlags := 9, nameIndex := 281, descriptorIndex := 282, attributes := #[] }, { accessFlags := 9, nameIndex := 380, descriptorIndex := 382, attributes := #[] }] 48 4 #[] #[{ accessFlags := 4120, nameIndex := 121, descriptorIndex := 122, attributes := #[] }])
  fields := #[{ name := "$assertionsDisabled", type := .boolean, accessFlags := 4120, slot := 0, constantValue := 0 }]
  methods := #[k8m0, k8m1, k8m2, k8m3]
  instanceTypes := #[]
  staticTypes := #[.boolean]
  resolved := Array.replicate 395 none
  statics := none }

def pool9 : Array CpInfo := pool [(6, .class_ 8), (1, u "java/lang/Object"), (0, u "<init>"), (0, u "()V"), (1, .class_ 14), (1, u "java/lang/StringUTF16"), (31, u "$assertionsDisabled"), (0, u "Z"), (13, u "HI_BYTE_SHIFT"), (0, u "I"), (2, u "LO_BYTE_SHIFT"), (49, .methodref 12 116), (0, .nameAndType 117 118), (0, u "compress"), (0, u "([CI[BII)I"), (3, u "([CII)[B"), (138, u "coderFromArrayLen"), (0, u "([BI)B"), (106, .class_ 371), (1, u "java/lang/StringUTF16$LinesSpliterator"), (58, u "MAX_LENGTH"), (196, .class_ 628), (0, u "java/lang/StringUTF16$CodePointsSpliterator"), (0, .class_ 630), (0, u "java/lang/StringUTF16$CharsSpliterator")] 4

def k9m0 : Method := { name := "<init>", desc := "()V", sig := { parameters := [], returnType := none }, accessFlags := 0, code := none }
def k9c1 : Code := { maxStack := 2, maxLocals := 2, code := jdk_52_method_15_code, exceptionTable := #[], attributes := #[] }
def k9m1 : Method := { name := "coderFromArrayLen", desc := "([BI)B", sig := { parameters := [(.array .byte), .int], returnType := some .byte }, accessFlags := 8, code := some k9c1 }
def k9c2 : Code := { maxStack := 5, maxLocals := 6, code := jdk_52_method_16_code, exceptionTable := #[], attributes := #[] }
def k9m2 : Method := { name := "compress", desc := "([CII)[B", sig := { parameters := [(.array .char), .int, .int], returnType := some (.array .byte) }, accessFlags := 9, code := some k9c2 }
def k9c3 : Code := { maxStack := 3, maxLocals := 7, code := jdk_52_method_21_code, exceptionTable := #[], attributes := #[] }
def k9m3 : Method := { name := "compress", desc := "([CI[BII)I", sig := { parameters := [(.array .char), .int, (.array .byte), .int, .int], returnType := some .int }, accessFlags := 9, code := some k9c3 }
/-- java/lang/StringUTF16 -/
def k9 : Class := { plain "java/lang/StringUTF16" (some 0) with
  accessFlags := 48
  interfaces := #[]
  cf := some (fileOf pool9 12 #[.nestMembers #[627, 629, 369]] #[{ accessFlags := 0, nameIndex := 9, descriptorIndex := 10, attributes := #[] }, { accessFlags := 8, nameIndex := 261, descriptorIndex := 262, attributes := #[] }, { accessFlags := 9, nameIndex := 117, descriptorIndex := 122, attributes := #[] }, { accessFlags := 9, nameIndex := 117, descriptorIndex := 118, attributes := #[] }] 48 6 #[] #[{ accessFlags := 26, nameIndex := 61, descriptorIndex := 62, attributes := #[] }, { accessFlags := 26, nameIndex := 65, descriptorIndex := 62, attributes := #[] }, { accessFlags := 24, nameIndex := 430, descriptorIndex := 62, attributes := #[] }, { accessFlags := 4120, nameIndex := 46, descriptorIndex := 47, attributes := #[] }])
  fields := #[{ name := "HI_BYTE_SHIFT", type := .int, accessFlags := 26, slot := 0, constantValue := 0 }, { name := "LO_BYTE_SHIFT", type := .int, accessFlags := 26, slot := 1, constantValue := 0 }, { name := "MAX_LENGTH", type := .int, accessFlags := 24, slot := 2, constantValue := 0 }, { name := "$assertionsDisabled", type := .boolean, accessFlags := 4120, slot := 3, constantValue := 0 }]
  methods := #[k9m0, k9m1, k9m2, k9m3]
  instanceTypes := #[]
  staticTypes := #[.int, .int, .int, .boolean]
  resolved := Array.replicate 635 none
  statics := none }

def pool10 : Array CpInfo := pool [(1, .methodref 2 3), (0, .class_ 4), (0, .nameAndType 5 6), (0, u "java/lang/Object"), (0, u "<init>"), (0, u "()V"), (0, .fieldref 8 9), (0, .class_ 10), (0, .nameAndType 11 12), (0, u "com/example/kawi/kawi/xml/Attributes"), (0, u "names"), (0, u "[Ljava/lang/String;"), (0, .fieldref 8 14), (0, .nameAndType 15 12), (0, u "values"), (0, .fieldref 8 17), (0, .nameAndType 18 19), (0, u "size"), (0, u "I"), (2, u "getOrDefault"), (0, u "(Ljava/lang/String;Ljava/lang/String;)Ljava/lang/String;"), (0, .methodref 25 26), (0, .class_ 27), (0, .nameAndType 28 29), (0, u "java/lang/String"), (0, u "equals"), (0, u "(Ljava/lang/Object;)Z"), (4, u "([Ljava/lang/String;[Ljava/lang/String;I)V")] 10

def k10c0 : Code := { maxStack := 2, maxLocals := 4, code := prog_112_method_1_code, exceptionTable := #[], attributes := #[] }
def k10m0 : Method := { name := "<init>", desc := "([Ljava/lang/String;[Ljava/lang/String;I)V", sig := { parameters := [(.array (.object "java/lang/String")), (.array (.object "java/lang/String")), .int], returnType := none }, accessFlags := 0, code := some k10c0 }
def k10c1 : Code := { maxStack := 2, maxLocals := 4, code := prog_112_method_5_code, exceptionTable := #[], attributes := #[] }
def k10m1 : Method := { name := "getOrDefault", desc := "(Ljava/lang/String;Ljava/lang/String;)Ljava/lang/String;", sig := { parameters := [(.object "java/lang/String"), (.object "java/lang/String")], returnType := some (.object "java/lang/String") }, accessFlags := 0, code := some k10c1 }
/-- com/example/kawi/kawi/xml/Attributes -/
def k10 : Class := { plain "com/example/kawi/kawi/xml/Attributes" (some 0) with
  accessFlags := 48
  interfaces := #[]
  cf := some (fileOf pool10 8 #[] #[{ accessFlags := 0, nameIndex := 5, descriptorIndex := 34, attributes := #[] }, { accessFlags := 0, nameIndex := 22, descriptorIndex := 23, attributes := #[] }] 48 2 #[] #[{ accessFlags := 18, nameIndex := 11, descriptorIndex := 12, attributes := #[] }, { accessFlags := 18, nameIndex := 15, descriptorIndex := 12, attributes := #[] }, { accessFlags := 18, nameIndex := 18, descriptorIndex := 19, attributes := #[] }])
  fields := #[{ name := "names", type := (.array (.object "java/lang/String")), accessFlags := 18, slot := 0, constantValue := 0 }, { name := "values", type := (.array (.object "java/lang/String")), accessFlags := 18, slot := 1, constantValue := 0 }, { name := "size", type := .int, accessFlags := 18, slot := 2, constantValue := 0 }]
  methods := #[k10m0, k10m1]
  instanceTypes := #[(.array (.object "java/lang/String")), (.array (.object "java/lang/String")), .int]
  staticTypes := #[]
  resolved := Array.replicate 45 none
  statics := none }

def pool11 : Array CpInfo := pool [(2, .class_ 4), (1, u "java/lang/Object"), (0, u "<init>"), (0, u "()V"), (17, .class_ 26), (1, u "jdk/internal/util/Preconditions"), (28, .class_ 56), (0, u "jdk/internal/util/Preconditions$4"), (57, .class_ 115), (0, u "jdk/internal/util/Preconditions$1"), (7, u "SIOOBE_FORMATTER"), (0, u "Ljava/util/function/BiFunction;"), (0, .class_ 126), (0, u "jdk/internal/util/Preconditions$2"), (3, u "AIOOBE_FORMATTER"), (0, .class_ 132), (0, u "jdk/internal/util/Preconditions$3"), (3, u "IOOBE_FORMATTER")] 57

def k11m0 : Method := { name := "<init>", desc := "()V", sig := { parameters := [], returnType := none }, accessFlags := 1, code := none }
/-- jdk/internal/util/Preconditions -/
def k11 : Class := { plain "jdk/internal/util/Preconditions" (some 0) with
  accessFlags := 33
  interfaces := #[]
  cf := some (fileOf pool11 24 #[.nestMembers #[55, 131, 125, 114]] #[{ accessFlags := 1, nameIndex := 5, descriptorIndex := 6, attributes := #[] }] 33 2 #[] #[{ accessFlags := 25, nameIndex := 123, descriptorIndex := 124, attributes := #[] }, { accessFlags := 25, nameIndex := 130, descriptorIndex := 124, attributes := #[] }, { accessFlags := 25, nameIndex := 136, descriptorIndex := 124, attributes := #[] }])
  fields := #[{ name := "SIOOBE_FORMATTER", type := (.object "java/util/function/BiFunction"), accessFlags := 25, slot := 0, constantValue := 0 }, { name := "AIOOBE_FORMATTER", type := (.object "java/util/function/BiFunction"), accessFlags := 25, slot := 1, constantValue := 0 }, { name := "IOOBE_FORMATTER", type := (.object "java/util/function/BiFunction"), accessFlags := 25, slot := 2, constantValue := 0 }]
  methods := #[k11m0]
  instanceTypes := #[]
  staticTypes := #[(.object "java/util/function/BiFunction"), (.object "java/util/function/BiFunction"), (.object "java/util/function/BiFunction")]
  resolved := Array.replicate 194 none
  statics := some 1 }

def pool12 : Array CpInfo := pool [(9, u "<init>"), (6, .class_ 18), (1, u "java/lang/Object"), (0, u "()V"), (1, .class_ 23), (1, u "jdk/internal/util/ArraysSupport"), (0, u "LOG2_ARRAY_LONG_INDEX_SCALE"), (0, u "I"), (2, u "U"), (0, u "Ljdk/internal/misc/Unsafe;"), (8, u "BIG_ENDIAN"), (0, u "Z"), (8, u "LOG2_BYTE_BIT_SIZE"), (4, u "LOG2_ARRAY_INT_INDEX_SCALE"), (54, u "JLA"), (0, u "Ljdk/internal/access/JavaLangAccess;"), (11, u "LOG2_ARRAY_BOOLEAN_INDEX_SCALE"), (9, u "LOG2_ARRAY_BYTE_INDEX_SCALE"), (5, u "LOG2_ARRAY_CHAR_INDEX_SCALE"), (5, u "LOG2_ARRAY_SHORT_INDEX_SCALE"), (18, u "LOG2_ARRAY_FLOAT_INDEX_SCALE"), (24, u "LOG2_ARRAY_DOUBLE_INDEX_SCALE"), (89, u "T_BOOLEAN"), (2, u "T_CHAR"), (1, u "T_FLOAT"), (1, u "T_DOUBLE"), (1, u "T_BYTE"), (1, u "T_SHORT"), (1, u "T_INT"), (1, u "T_LONG"), (1, u "SOFT_MAX_ARRAY_LENGTH")] 83

def k12m0 : Method := { name := "<init>", desc := "()V", sig := { parameters := [], returnType := none }, accessFlags := 2, code := none }
/-- jdk/internal/util/ArraysSupport -/
def k12 : Class := { plain "jdk/internal/util/ArraysSupport" (some 0) with
  accessFlags := 33
  interfaces := #[]
  cf := some (fileOf pool12 21 #[] #[{ accessFlags := 2, nameIndex := 9, descriptorIndex := 19, attributes := #[] }] 33 16 #[] #[{ accessFlags := 24, nameIndex := 28, descriptorIndex := 29, attributes := #[] }, { accessFlags := 26, nameIndex := 38, descriptorIndex := 39, attributes := #[] }, { accessFlags := 25, nameIndex := 121, descriptorIndex := 25, attributes := #[] }, { accessFlags := 25, nameIndex := 131, descriptorIndex := 25, attributes := #[] }, { accessFlags := 25, nameIndex := 137, descriptorIndex := 25, attributes := #[] }, { accessFlags := 25, nameIndex := 143, descriptorIndex := 25, attributes := #[] }, { accessFlags := 25, nameIndex := 53, descriptorIndex := 25, attributes := #[] }, { accessFlags := 25, nameIndex := 24, descriptorIndex := 25, attributes := #[] }, { accessFlags := 25, nameIndex := 162, descriptorIndex := 25, attributes := #[] }, { accessFlags := 25, nameIndex := 187, descriptorIndex := 25, attributes := #[] }, { accessFlags := 26, nameIndex := 48, descriptorIndex := 25, attributes := #[] }, { accessFlags := 25, nameIndex := 277, descriptorIndex := 25, attributes := #[] }, { accessFlags := 25, nameIndex := 280, descriptorIndex := 25, attributes := #[] }, { accessFlags := 25, nameIndex := 282, descriptorIndex := 25, attributes := #[] }, { accessFlags := 25, nameIndex := 284, descriptorIndex := 25, attributes := #[] }, { accessFlags := 25, nameIndex := 286, descriptorIndex := 25, attributes := #[] }, { accessFlags := 25, nameIndex := 288, descriptorIndex := 25, attributes := #[] }, { accessFlags := 25, nameIndex := 290, descriptorIndex := 25, attributes := #[] }, { accessFlags := 25, nameIndex := 292, descriptorIndex := 25, attributes := #[] }, { accessFlags := 26, nameIndex := 108, descriptorIndex := 109, attributes := #[] }, { accessFlags := 25, nameIndex := 294, descriptorIndex := 25, attributes := #[] }])
  fields := #[{ name := "U", type := (.object "jdk/internal/misc/Unsafe"), accessFlags := 24, slot := 0, constantValue := 0 }, { name := "BIG_ENDIAN", type := .boolean, accessFlags := 26, slot := 1, constantValue := 0 }, { name := "LOG2_ARRAY_BOOLEAN_INDEX_SCALE", type := .int, accessFlags := 25, slot := 2, constantValue := 0 }, { name := "LOG2_ARRAY_BYTE_INDEX_SCALE", type := .int, accessFlags := 25, slot := 3, constantValue := 0 }, { name := "LOG2_ARRAY_CHAR_INDEX_SCALE", type := .int, accessFlags := 25, slot := 4, constantValue := 0 }, { name := "LOG2_ARRAY_SHORT_INDEX_SCALE", type := .int, accessFlags := 25, slot := 5, constantValue := 0 }, { name := "LOG2_ARRAY_INT_INDEX_SCALE", type := .int, accessFlags := 25, slot := 6, constantValue := 0 }, { name := "LOG2_ARRAY_LONG_INDEX_SCALE", type := .int, accessFlags := 25, slot := 7, constantValue := 0 }, { name := "LOG2_ARRAY_FLOAT_INDEX_SCALE", type := .int, accessFlags := 25, slot := 8, constantValue := 0 }, { name := "LOG2_ARRAY_DOUBLE_INDEX_SCALE", type := .int, accessFlags := 25, slot := 9, constantValue := 0 }, { name := "LOG2_BYTE_BIT_SIZE", type := .int, accessFlags := 26, slot := 10, constantValue := 0 }, { name := "T_BOOLEAN", type := .int, accessFlags := 25, slot := 11, constantValue := 0 }, { name := "T_CHAR", type := .int, accessFlags := 25, slot := 12, constantValue := 0 }, { name := "T_FLOAT", type := .int, accessFlags := 25, slot := 13, constantValue := 0 }, { name := "T_DOUBLE", type := .int, accessFlags := 25, slot := 14, constantValue := 0 }, { name := "T_BYTE", type := .int, accessFlags := 25, slot := 15, constantValue := 0 }, { name := "T_SHORT", type := .int, accessFlags := 25, slot := 16, constantValue := 0 }, { name := "T_INT", type := .int, accessFlags := 25, slot := 17, constantValue := 0 }, { name := "T_LONG", type := .int, accessFlags := 25, slot := 18, constantValue := 0 }, { name := "JLA", type := (.object "jdk/internal/access/JavaLangAccess"), accessFlags := 26, slot := 19, constantValue := 0 }, { name := "SOFT_MAX_ARRAY_LENGTH", type := .int, accessFlags := 25, slot := 20, constantValue := 0 }]
  methods := #[k12m0]
  instanceTypes := #[]
  staticTypes := #[(.object "jdk/internal/misc/Unsafe"), .boolean, .int, .int, .int, .int, .int, .int, .int, .int, .int, .int, .int, .int, .int, .int, .int, .int, .int, (.object "jdk/internal/access/JavaLangAccess"), .int]
  resolved := Array.replicate 378 none
  statics := none }

def pool13 : Array CpInfo := pool [(1, u "java/lang/Cloneable"), (0, .class_ 1), (0, u "java/lang/Object"), (0, .class_ 3)] 3

/-- java/lang/Cloneable -/
def k13 : Class := { plain "java/lang/Cloneable" (some 0) with
  accessFlags := 1537
  interfaces := #[]
  cf := some (fileOf pool13 2 #[] #[] 1537 4 #[] #[])
  fields := #[]
  methods := #[]
  instanceTypes := #[]
  staticTypes := #[]
  resolved := Array.replicate 8 none
  statics := none }

/-- the primitive byte -/
def k14 : Class := { plain "byte" none with kind := .primitive 'B', accessFlags := 0x411 }
/-- [B -/
def k15 : Class := { plain "[B" (some 0) with kind := .array 14 .byte, interfaces := #[13, 2], accessFlags := 1041 }

/-- the primitive char -/
def k16 : Class := { plain "char" none with kind := .primitive 'C', accessFlags := 0x411 }
/-- [C -/
def k17 : Class := { plain "[C" (some 0) with kind := .array 16 .char, interfaces := #[13, 2], accessFlags := 1041 }

/-- the primitive int -/
def k18 : Class := { plain "int" none with kind := .primitive 'I', accessFlags := 0x411 }
/-- [I -/
def k19 : Class := { plain "[I" (some 0) with kind := .array 18 .int, interfaces := #[13, 2], accessFlags := 1041 }

/-- [Ljava/lang/String; -/
def k20 : Class := { plain "[Ljava/lang/String;" (some 0) with kind := .array 7 (.object "java/lang/String"), interfaces := #[13, 2], accessFlags := 1041 }

def heap : Heap := #[{ cls := 7, slots := #[.long 0, .int 1, .null, .int 0, .null, .int 0, .int 0], vm := .statics 7 },
  { cls := 11, slots := #[.null, .null, .null], vm := .statics 11 }]
def classes : Array Class := #[k0, k1, k2, k3, k4, k5, k6, k7, k8, k9, k10, k11, k12, k13, k14, k15, k16, k17, k18, k19, k20]
def interned : List (Array UInt16 × Addr) := []
def slotsUsed : Nat := 10
def theMethod : MethodId := ⟨1, 1⟩
def args0 : Array Value := #[.int 65, .int 66, .int 67, .int 3, .int 66, .int 0]
def aboutOver (below : List Frame) : State where
  vm := { classes := classes, interned := interned.toArray }
  heap := heap
  slotsUsed := slotsUsed
  threads := #[{ frames := .invoking theMethod args0 :: below }]
def below0 : List Frame := [.native { method := ⟨0, 0⟩, args := #[] }]
def about1 : State := aboutOver below0
def p0 : Program := .bare "" "" ""
def e0 : Env := launch0.env 0 0 0
theorem w_frames : about1.frames = Frame.invoking theMethod args0 :: below0 := rfl
set_option maxRecDepth 65536 in
theorem w_args : argsFit about1.vm theMethod args0 = true := by decide +kernel
set_option maxRecDepth 65536 in
theorem w_heap : heapFits about1 = true := by decide +kernel
set_option maxRecDepth 65536 in
theorem w_runnable : about1.curStatus? = some .runnable := by decide +kernel
set_option maxRecDepth 65536 in
theorem w_alone : about1.alone = true := by decide +kernel
set_option maxRecDepth 65536 in
theorem w_named : about1.methodNamed? x = some theMethod := by decide +kernel
set_option maxRecDepth 65536 in
theorem w_hears : about1.hears theMethod below0 = true := by decide +kernel
set_option maxRecDepth 65536 in
theorem w_ripe : about1.ripe theMethod args0 below0 = true := by decide +kernel
theorem w_running : about1.status = .running := rfl
set_option maxRecDepth 65536 in
theorem w_room : about1.hasRoom e0.platform room_1 = true :=
  launch0.hasRoom_least _ room_1 (by decide +kernel) (by decide +kernel) (by decide +kernel) (by decide +kernel) (by decide +kernel) (by decide +kernel)
theorem allAtoms_all (ts : List Jvm.Cond) (a : Array Jvm.Value) (st : Jvm.State) : (allAtoms ts).before a st = ts.all (fun c => c.before a st) := by
  induction ts with
  | nil => rfl
  | cons c t ih =>
    show (Jvm.Cond.and c (allAtoms t)).before a st = _
    rw [Jvm.Cond.before_and, ih, List.all_cons]
def words1 : List Jvm.Cond := Jvm.Cond.code x code maxLocals ret :: tables_1
/-- a 'code' word, met by the world's own term for the bytes: nothing is compared byte by byte -/
theorem code_word {y : MethodName} {bytes : ByteArray} {mx : Nat} {rt : Option FieldType} {a : Array Value} {s : State} {m : MethodId} {meth : Method} {c : Code} (h1 : s.methodNamed? y = some m) (h2 : s.vm.method? m = some meth) (h3 : meth.code = some c) (h4 : c.code = bytes)
    (h5 : (c.maxLocals == mx && c.exceptionTable.isEmpty && decide (c.maxStack ≤ mostOperands) && decide (meth.sig.returnType = rt) && !meth.locks && decide (parseMethodDescriptor y.desc = some meth.sig)) = true) : (Jvm.Cond.code y bytes mx rt).before a s = true := by
  simp only [Bool.and_eq_true, beq_iff_eq, Bool.not_eq_true', decide_eq_true_eq] at h5
  obtain ⟨⟨⟨⟨⟨g1, g2⟩, g3⟩, g4⟩, g5⟩, g6⟩ := h5
  simp [Cond.before, Cond.holds, Cond.value, h1, h2, h3, h4, g1, g2, g3, g4, g5, g6]
def isCode : Jvm.Cond → Bool
  | .code _ _ _ _ => true
  | _ => false
theorem all_split {L : List Jvm.Cond} {P : Jvm.Cond → Bool} (h1 : L.all (fun c => isCode c || P c) = true) (h2 : ∀ c ∈ L.filter isCode, P c = true) : L.all P = true := by
  refine List.all_eq_true.mpr fun c hc => ?_
  have h := List.all_eq_true.mp h1 c hc
  rcases Bool.eq_false_or_eq_true (isCode c) with hi | hi
  · exact h2 c (List.mem_filter.mpr ⟨hc, hi⟩)
  · simpa [hi] using h
set_option maxRecDepth 65536 in
theorem w_c0 : (Jvm.Cond.code x code maxLocals ret).before args0 about1 = true := code_word (m := ⟨1, 1⟩) (meth := k1m1) (c := k1c1) (by decide +kernel) rfl rfl rfl (by decide +kernel)
set_option maxRecDepth 65536 in
theorem w_c1 : (Jvm.Cond.code ({ cls := "java/lang/String", name := "valueOf", desc := "(C)Ljava/lang/String;" } : Jvm.MethodName) jdk_42_method_139_code (1 : Nat) (Option.some (Jvm.ClassFile.FieldType.object "java/lang/String"))).before args0 about1 = true := code_word (m := ⟨7, 3⟩) (meth := k7m3) (c := k7c3) (by decide +kernel) rfl rfl rfl (by decide +kernel)
set_option maxRecDepth 65536 in
theorem w_c2 : (Jvm.Cond.code ({ cls := "java/lang/StringLatin1", name := "canEncode", desc := "(C)Z" } : Jvm.MethodName) jdk_43_method_3_code (1 : Nat) (Option.some Jvm.ClassFile.FieldType.boolean)).before args0 about1 = true := code_word (m := ⟨8, 1⟩) (meth := k8m1) (c := k8c1) (by decide +kernel) rfl rfl rfl (by decide +kernel)
set_option maxRecDepth 65536 in
theorem w_c3 : (Jvm.Cond.code ({ cls := "java/lang/StringLatin1", name := "toBytes", desc := "(C)[B" } : Jvm.MethodName) jdk_43_method_46_code (1 : Nat) (Option.some (Jvm.ClassFile.FieldType.array Jvm.ClassFile.FieldType.byte))).before args0 about1 = true := code_word (m := ⟨8, 3⟩) (meth := k8m3) (c := k8c3) (by decide +kernel) rfl rfl rfl (by decide +kernel)
set_option maxRecDepth 65536 in
theorem w_c4 : (Jvm.Cond.code ({ cls := "java/lang/String", name := "<init>", desc := "([BB)V" } : Jvm.MethodName) jdk_42_method_151_code (3 : Nat) (Option.none : Option Jvm.ClassFile.FieldType)).before args0 about1 = true := code_word (m := ⟨7, 5⟩) (meth := k7m5) (c := k7c5) (by decide +kernel) rfl rfl rfl (by decide +kernel)
set_option maxRecDepth 65536 in
theorem w_c5 : (Jvm.Cond.code ({ cls := "java/lang/Object", name := "<init>", desc := "()V" } : Jvm.MethodName) object_method_1_code (1 : Nat) (Option.none : Option Jvm.ClassFile.FieldType)).before args0 about1 = true := code_word (m := ⟨0, 0⟩) (meth := k0m0) (c := k0c0) (by decide +kernel) rfl rfl rfl (by decide +kernel)
set_option maxRecDepth 65536 in
theorem w_c6 : (Jvm.Cond.code ({ cls := "java/lang/String", name := "<init>", desc := "([C)V" } : Jvm.MethodName) jdk_42_method_3_code (2 : Nat) (Option.none : Option Jvm.ClassFile.FieldType)).before args0 about1 = true := code_word (m := ⟨7, 1⟩) (meth := k7m1) (c := k7c1) (by decide +kernel) rfl rfl rfl (by decide +kernel)
set_option maxRecDepth 65536 in
theorem w_c7 : (Jvm.Cond.code ({ cls := "java/lang/String", name := "<init>", desc := "([CIILjava/lang/Void;)V" } : Jvm.MethodName) jdk_42_method_149_code (6 : Nat) (Option.none : Option Jvm.ClassFile.FieldType)).before args0 about1 = true := code_word (m := ⟨7, 4⟩) (meth := k7m4) (c := k7c4) (by decide +kernel) rfl rfl rfl (by decide +kernel)
set_option maxRecDepth 65536 in
theorem w_c8 : (Jvm.Cond.code ({ cls := "java/lang/StringUTF16", name := "compress", desc := "([CII)[B" } : Jvm.MethodName) jdk_52_method_16_code (6 : Nat) (Option.some (Jvm.ClassFile.FieldType.array Jvm.ClassFile.FieldType.byte))).before args0 about1 = true := code_word (m := ⟨9, 2⟩) (meth := k9m2) (c := k9c2) (by decide +kernel) rfl rfl rfl (by decide +kernel)
set_option maxRecDepth 65536 in
theorem w_c9 : (Jvm.Cond.code ({ cls := "java/lang/StringUTF16", name := "compress", desc := "([CI[BII)I" } : Jvm.MethodName) jdk_52_method_21_code (7 : Nat) (Option.some Jvm.ClassFile.FieldType.int)).before args0 about1 = true := code_word (m := ⟨9, 3⟩) (meth := k9m3) (c := k9c3) (by decide +kernel) rfl rfl rfl (by decide +kernel)
set_option maxRecDepth 65536 in
theorem w_c10 : (Jvm.Cond.code ({ cls := "java/lang/StringUTF16", name := "coderFromArrayLen", desc := "([BI)B" } : Jvm.MethodName) jdk_52_method_15_code (2 : Nat) (Option.some Jvm.ClassFile.FieldType.byte)).before args0 about1 = true := code_word (m := ⟨9, 1⟩) (meth := k9m1) (c := k9c1) (by decide +kernel) rfl rfl rfl (by decide +kernel)
set_option maxRecDepth 65536 in
theorem w_c11 : (Jvm.Cond.code ({ cls := "com/example/kawi/kawi/xml/Attributes", name := "<init>", desc := "([Ljava/lang/String;[Ljava/lang/String;I)V" } : Jvm.MethodName) prog_112_method_1_code (4 : Nat) (Option.none : Option Jvm.ClassFile.FieldType)).before args0 about1 = true := code_word (m := ⟨10, 0⟩) (meth := k10m0) (c := k10c0) (by decide +kernel) rfl rfl rfl (by decide +kernel)
set_option maxRecDepth 65536 in
theorem w_c12 : (Jvm.Cond.code ({ cls := "java/lang/String", name := "equals", desc := "(Ljava/lang/Object;)Z" } : Jvm.MethodName) jdk_42_method_66_code (3 : Nat) (Option.some Jvm.ClassFile.FieldType.boolean)).before args0 about1 = true := code_word (m := ⟨7, 2⟩) (meth := k7m2) (c := k7c2) (by decide +kernel) rfl rfl rfl (by decide +kernel)
set_option maxRecDepth 65536 in
theorem w_c13 : (Jvm.Cond.code ({ cls := "java/lang/StringLatin1", name := "equals", desc := "([B[B)Z" } : Jvm.MethodName) jdk_43_method_13_code (3 : Nat) (Option.some Jvm.ClassFile.FieldType.boolean)).before args0 about1 = true := code_word (m := ⟨8, 2⟩) (meth := k8m2) (c := k8c2) (by decide +kernel) rfl rfl rfl (by decide +kernel)
set_option maxRecDepth 65536 in
theorem w_c14 : (Jvm.Cond.code ({ cls := "com/example/kawi/kawi/xml/Attributes", name := "getOrDefault", desc := "(Ljava/lang/String;Ljava/lang/String;)Ljava/lang/String;" } : Jvm.MethodName) prog_112_method_5_code (4 : Nat) (Option.some (Jvm.ClassFile.FieldType.object "java/lang/String"))).before args0 about1 = true := code_word (m := ⟨10, 1⟩) (meth := k10m1) (c := k10c1) (by decide +kernel) rfl rfl rfl (by decide +kernel)
def codes1 : List Jvm.Cond := [Jvm.Cond.code x code maxLocals ret, Jvm.Cond.code ({ cls := "java/lang/String", name := "valueOf", desc := "(C)Ljava/lang/String;" } : Jvm.MethodName) jdk_42_method_139_code (1 : Nat) (Option.some (Jvm.ClassFile.FieldType.object "java/lang/String")), Jvm.Cond.code ({ cls := "java/lang/StringLatin1", name := "canEncode", desc := "(C)Z" } : Jvm.MethodName) jdk_43_method_3_code (1 : Nat) (Option.some Jvm.ClassFile.FieldType.boolean), Jvm.Cond.code ({ cls := "java/lang/StringLatin1", name := "toBytes", desc := "(C)[B" } : Jvm.MethodName) jdk_43_method_46_code (1 : Nat) (Option.some (Jvm.ClassFile.FieldType.array Jvm.ClassFile.FieldType.byte)), Jvm.Cond.code ({ cls := "java/lang/String", name := "<init>", desc := "([BB)V" } : Jvm.MethodName) jdk_42_method_151_code (3 : Nat) (Option.none : Option Jvm.ClassFile.FieldType), Jvm.Cond.code ({ cls := "java/lang/Object", name := "<init>", desc := "()V" } : Jvm.MethodName) object_method_1_code (1 : Nat) (Option.none : Option Jvm.ClassFile.FieldType), Jvm.Cond.code ({ cls := "java/lang/String", name := "<init>", desc := "([C)V" } : Jvm.MethodName) jdk_42_method_3_code (2 : Nat) (Option.none : Option Jvm.ClassFile.FieldType), Jvm.Cond.code ({ cls := "java/lang/String", name := "<init>", desc := "([CIILjava/lang/Void;)V" } : Jvm.MethodName) jdk_42_method_149_code (6 : Nat) (Option.none : Option Jvm.ClassFile.FieldType), Jvm.Cond.code ({ cls := "java/lang/StringUTF16", name := "compress", desc := "([CII)[B" } : Jvm.MethodName) jdk_52_method_16_code (6 : Nat) (Option.some (Jvm.ClassFile.FieldType.array Jvm.ClassFile.FieldType.byte)), Jvm.Cond.code ({ cls := "java/lang/StringUTF16", name := "compress", desc := "([CI[BII)I" } : Jvm.MethodName) jdk_52_method_21_code (7 : Nat) (Option.some Jvm.ClassFile.FieldType.int), Jvm.Cond.code ({ cls := "java/lang/StringUTF16", name := "coderFromArrayLen", desc := "([BI)B" } : Jvm.MethodName) jdk_52_method_15_code (2 : Nat) (Option.some Jvm.ClassFile.FieldType.byte), Jvm.Cond.code ({ cls := "com/example/kawi/kawi/xml/Attributes", name := "<init>", desc := "([Ljava/lang/String;[Ljava/lang/String;I)V" } : Jvm.MethodName) prog_112_method_1_code (4 : Nat) (Option.none : Option Jvm.ClassFile.FieldType), Jvm.Cond.code ({ cls := "java/lang/String", name := "equals", desc := "(Ljava/lang/Object;)Z" } : Jvm.MethodName) jdk_42_method_66_code (3 : Nat) (Option.some Jvm.ClassFile.FieldType.boolean), Jvm.Cond.code ({ cls := "java/lang/StringLatin1", name := "equals", desc := "([B[B)Z" } : Jvm.MethodName) jdk_43_method_13_code (3 : Nat) (Option.some Jvm.ClassFile.FieldType.boolean), Jvm.Cond.code ({ cls := "com/example/kawi/kawi/xml/Attributes", name := "getOrDefault", desc := "(Ljava/lang/String;Ljava/lang/String;)Ljava/lang/String;" } : Jvm.MethodName) prog_112_method_5_code (4 : Nat) (Option.some (Jvm.ClassFile.FieldType.object "java/lang/String"))]
set_option maxRecDepth 65536 in
theorem codes_eq : words1.filter isCode = codes1 := rfl
theorem w_codes : ∀ c ∈ words1.filter isCode, c.before args0 about1 = true := by
  rw [codes_eq]
  intro c hc
  simp only [codes1, List.mem_cons, List.not_mem_nil, or_false] at hc
  rcases hc with rfl | rfl | rfl | rfl | rfl | rfl | rfl | rfl | rfl | rfl | rfl | rfl | rfl | rfl | rfl
  · exact w_c0
  · exact w_c1
  · exact w_c2
  · exact w_c3
  · exact w_c4
  · exact w_c5
  · exact w_c6
  · exact w_c7
  · exact w_c8
  · exact w_c9
  · exact w_c10
  · exact w_c11
  · exact w_c12
  · exact w_c13
  · exact w_c14
set_option maxRecDepth 65536 in
theorem w_t1 : (words1.take 24).all (fun c => isCode c || c.before args0 about1) = true := by decide +kernel
set_option maxRecDepth 65536 in
theorem w_t2 : ((words1.drop 24).take 24).all (fun c => isCode c || c.before args0 about1) = true := by decide +kernel
set_option maxRecDepth 65536 in
theorem w_t3 : (((words1.drop 24).drop 24).take 24).all (fun c => isCode c || c.before args0 about1) = true := by decide +kernel
set_option maxRecDepth 65536 in
theorem w_t4 : (((words1.drop 24).drop 24).drop 24).all (fun c => isCode c || c.before args0 about1) = true := by decide +kernel
theorem w_tables : (allAtoms (Jvm.Cond.code x code maxLocals ret :: tables_1)).before args0 about1 = true := by
  rw [allAtoms_all]
  show words1.all (fun c => c.before args0 about1) = true
  refine all_split ?_ w_codes
  rw [← List.take_append_drop 24 words1, List.all_append, w_t1, ← List.take_append_drop 24 (words1.drop 24), List.all_append, w_t2, ← List.take_append_drop 24 ((words1.drop 24).drop 24), List.all_append, w_t3, w_t4]
  rfl
set_option maxRecDepth 65536 in
theorem w_rest : rest_1_c.before args0 about1 = true := by decide +kernel
set_option maxRecDepth 65536 in
theorem w_case : (Jvm.Cond.and given_1 narrow_1).before args0 about1 = true := by decide +kernel
theorem w_applies : (headSpec (Jvm.Cond.code x code maxLocals ret :: tables_1) room_1).applies x e0.platform about1 = true :=
  (Spec.applies_iff w_frames).mpr ⟨w_running, w_runnable, w_alone, w_named, w_hears, w_ripe, w_room, w_tables⟩
theorem atStart : AtStart classFile x code maxLocals ret World_1 tables_1 room_1 Calls_1 rest_1 Pre_1 launch0 p0 e0 about1 theMethod args0 below0 :=
  ⟨lists_1, trivial, launch0.admits_env _ _ _, launch0.least_env, fairChoices_fair.cas, fairChoices_fair.clock, w_frames, w_args, w_heap, w_applies, trivial, w_rest, w_case⟩
end start1
theorem witness_1 : WitnessClaimed_1 := ⟨start1.p0, start1.e0, start1.about1, start1.theMethod, start1.args0, start1.below0, start1.atStart⟩
end Jvm.Pilot.@@N@@
