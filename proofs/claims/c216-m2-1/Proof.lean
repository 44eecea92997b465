import JvmDerived
import JvmDerived.Pilot.@@N@@Statement
import JvmDerived.Pilot.@@N@@Code
set_option linter.unusedVariables false
set_option linter.unusedSimpArgs false
namespace Jvm.RoadKit
open Sem ClassFile Op Lib Jvm.Stand Jvm.Free Jvm.LawKit
section New
variable {p : Program} {l : Launch} {e : Env} {R : Room} {s : State} {m : MethodId} {args : Array Value} {below : List Frame} {meth : Method} {c : Code} {T : State} {locs : List Loc} {cells slots : Nat}
theorem retI (X : Stand p l e R s m args below meth c T locs cells slots) (hx : p.tables.exec = Jvm.exec) {pc : Nat} {Ls : Array Slot} {z : Int32} {rest : List Value} (hret : meth.sig.returnType = some .int) (hd : decode c.code pc = .ok (.ireturn, 1)) {fs : List Frame}
    (hl : ∀ (f : JFrame) (acts : List Action), f.method = m → f.locked = none → f.entered = [] → (doReturn e (T.setTop f) acts (some (.int z))).1 = T.setFrames fs) : Steps p.tables e below (T.setTop (mkF m pc Ls (.int z :: rest))) (T.setFrames fs) := by
  have hm' : T.vm.method? m = some meth := X.method'
  have hn : narrow .int (.int z) = .int z := rfl
  show Steps p.tables e below (T.setTop { method := m, pc := pc, locals := Ls, stack := _ :: rest, locked := none }) _
  jvm_step X.here [X.here.top, hx, hd, hm', hret, hn]
  first | (intro acts; rw [hl _ acts rfl rfl rfl]) | rw [hl _ _ rfl rfl rfl]
  exact Steps.refl _
end New
end Jvm.RoadKit
namespace Jvm.Pilot.@@N@@
open Jvm Jvm.ClassFile Sem Op Lib Jvm.Free Jvm.Stand Jvm.LawKit Jvm.RoadKit Bundle Jvm.Pilot.@@N@@.Jvm.D
abbrev cs0 : String := "com/example/xylem/xylem/model/Location"
abbrev cs1 : String := "java/lang/String"
abbrev cs2 : String := "com/example/xylem/xylem/model/LocationEqualsPinLaw"
abbrev cs3 : String := "java/lang/StringLatin1"
abbrev cs4 : String := "java/lang/StringUTF16"
abbrev cs5 : String := "(Ljava/lang/Object;)Z"
abbrev cs6 : String := "COMPACT_STRINGS"
abbrev vr (a : Addr) : Slot := .val (.ref a)
abbrev vi (z : Int32) : Slot := .val (.int z)
abbrev dc (b : ByteArray) (pc : Nat) (i : Instr) (n : Nat) : Prop := decode b pc = .ok (i, n)
def HW (a0 : Array Value) (Z : State) : Prop := ∀ d ∈ tables_1, d.before a0 Z = true
abbrev Bw (a0 : Array Value) (Z : State) (d : Jvm.Cond) : Prop := d.before a0 Z = true
theorem mx {d : Jvm.Cond} (i : Nat) (h : tables_1[i]? = some d) : d ∈ tables_1 := List.mem_of_getElem? h
abbrev Goes (p : Program) (e : Env) (below : List Frame) (A B : State) : Prop := ∀ t, Steps p.tables e below B t → Steps p.tables e below A t
abbrev MF (l : Launch) (y : MethodName) (cw : List Jvm.Cond) (R : Room) (Z : State) (h0 : Heap) (A : Array Value) (Q : Option Value → Heap → List Loc → Prop) : Prop := MetFree l y (head1 cw R) (fun a U => a = A ∧ Z.Warmed39 U.vm ∧ U.heap = h0) (fun _ _ _ _ _ => True) (fun _ U o U' => ∃ v L, o = .returned v ∧ Q v U'.heap L ∧ FrameEnd U o U' L R.cells R.slots)
section Calls
variable {p : Program} {l : Launch} {e : Env} {R : Room} {s : State} {m : MethodId} {args : Array Value} {below : List Frame} {meth : Method} {c : Code} {T : State} {locs : List Loc} {cells slots : Nat} {Z : State} {a0 : Array Value} {h : Heap} {own C : String} {index maxL ml pc : Nat} {y : MethodName} {bytes : ByteArray} {ret : Option FieldType} {rm : Room} {as' : Array Value} {Q : Option Value → Heap → List Loc → Prop} {b : Addr} {Ls : Array Slot} {St argsL rest : List Value}
theorem cV (X : Stand p l e R s m args below meth c T locs cells slots) (hx : p.tables.exec = Jvm.exec) (hZ : Z.Warmed39 s.vm) (hown : s.vm.findClass own = some m.cls) (w1 : (Cond.methodLink own index y).before a0 Z = true) (w2 : (Cond.declares y).before a0 Z = true) (w4 : (Cond.selects C y y).before a0 Z = true) (w3 : (Cond.instanceMethod y).before a0 Z = true) (hy : y.cls ≠ "java/lang/invoke/MethodHandle" ∧ y.cls ≠ "java/lang/invoke/VarHandle") (W : Nat)
    (M : MF l y [Cond.code y bytes maxL ret] rm Z h as' Q) (wc : (Cond.code y bytes maxL ret).before a0 Z = true) (wz : (Cond.initialized y.cls).before a0 Z = true) (hf : rm.frames + 1 ≤ R.frames) (hl : W + (maxL + 11) + rm.locals ≤ R.locals) (eT : T.heap = h) (E : Exa Z h b C) (hml : c.maxLocals = ml) (hsz : Ls.size = ml)
    (hlen : ∀ sig, parseMethodDescriptor y.desc = some sig → argsL.length = sig.parameters.length) (hst : St = argsL.reverse ++ .ref b :: rest) (hW : (rest.map fun v => v.category).sum = W) (hd : decode c.code pc = .ok (.invokevirtual index, 3)) (has : (.ref b :: argsL).toArray = as') (hc : cells + rm.cells ≤ R.cells) (hs : slots + rm.slots ≤ R.slots) :
    ∃ (v : Option Value) (T' : State) (L : List Loc), Stand p l e R s m args below meth c T' (locs ++ L) (cells + rm.cells) (slots + rm.slots) ∧ Q v T'.heap L ∧ Steps p.tables e below (T.setTop (mkF m pc Ls St)) (T'.setTop (mkF m (pc + 3) Ls (v.toList ++ rest))) := by
  obtain ⟨cB, kB, qa, -, qc⟩ := isOf hZ eT E
  obtain ⟨v, vm1, ⟨T', L', k', n'⟩, -, X', ⟨Lc, hQ, l1, y1, z1⟩, st⟩ := X.virtualBack hx (y := y) (z := y) hown (mvT hZ w1) (mvT hZ w2) (notFace_of_selects (args := #[]) (mvT hZ w4)) (mvT hZ w4) (mvT hZ w3) hy (backOf (W := W) M hZ wc wz hf hl) qa qc (g := mkF m pc Ls St) rfl (by rw [hml]; exact hsz) (Steps.refl _) (argsL := argsL) (rest := rest) hlen hst (by show 2 * 0 + _ ≤ _; rw [hW]; omega) hd (fun _ _ => ⟨has, eT, hc, hs⟩)
  dsimp only [Pt.U, Pt.locs, Pt.cells, Pt.slots] at X' l1 y1 z1 st hQ
  rw [l1, y1, z1] at X'
  exact ⟨v, T', Lc, X', hQ, st⟩
theorem cN (X : Stand p l e R s m args below meth c T locs cells slots) (hx : p.tables.exec = Jvm.exec) (hZ : Z.Warmed39 s.vm) (hown : s.vm.findClass own = some m.cls) (w1 : (Cond.methodLink own index y).before a0 Z = true) (w3 : (Cond.instanceMethod y).before a0 Z = true) (hy1 : y.name = "<init>") (hy : y.cls ≠ "java/lang/invoke/MethodHandle" ∧ y.cls ≠ "java/lang/invoke/VarHandle") (W : Nat)
    (M : MF l y [Cond.code y bytes maxL none] rm Z h as' Q) (wc : (Cond.code y bytes maxL none).before a0 Z = true) (wz : (Cond.initialized y.cls).before a0 Z = true) (hf : rm.frames + 1 ≤ R.frames) (hl : W + (maxL + 11) + rm.locals ≤ R.locals) (eT : T.heap = h) (b : Addr) (hml : c.maxLocals = ml) (hsz : Ls.size = ml)
    (hlen : ∀ sig, parseMethodDescriptor y.desc = some sig → argsL.length = sig.parameters.length) (hst : St = argsL.reverse ++ .ref b :: rest) (hW : (rest.map fun v => v.category).sum = W) (hd : decode c.code pc = .ok (.invokespecial index, 3)) (has : (.ref b :: argsL).toArray = as') (hc : cells + rm.cells ≤ R.cells) (hs : slots + rm.slots ≤ R.slots) :
    ∃ (v : Option Value) (T' : State) (L : List Loc), Stand p l e R s m args below meth c T' (locs ++ L) (cells + rm.cells) (slots + rm.slots) ∧ Q v T'.heap L ∧ Steps p.tables e below (T.setTop (mkF m pc Ls St)) (T'.setTop (mkF m (pc + 3) Ls (v.toList ++ rest))) := by
  obtain ⟨v, vm1, ⟨T', L', k', n'⟩, -, X', ⟨Lc, hQ, l1, y1, z1⟩, st⟩ := X.specialBack hx (y := y) hy1 hown (mvT hZ w1) (mvT hZ w3) (mvT hZ wc) hy (backOf (W := W) M hZ wc wz hf hl) (g := mkF m pc Ls St) rfl (by rw [hml]; exact hsz) (Steps.refl _) (a := b) (argsL := argsL) (rest := rest) hlen hst (by show 2 * 0 + _ ≤ _; rw [hW]; omega) hd (fun _ _ => ⟨has, eT, hc, hs⟩)
  dsimp only [Pt.U, Pt.locs, Pt.cells, Pt.slots] at X' l1 y1 z1 st hQ
  rw [l1, y1, z1] at X'
  exact ⟨v, T', Lc, X', hQ, st⟩
end Calls
theorem own_lt {x y : Int32} {a b : Int} (h : x < y) (hx : x.toInt = a) (hy : y.toInt = b) : a < b := by rw [← hx, ← hy]; exact Int32.lt_iff_toInt_lt.mp h
theorem own_nlt {x y : Int32} {a b : Int} (h : ¬ x < y) (hx : x.toInt = a) (hy : y.toInt = b) : b ≤ a := by rw [← hx, ← hy]; exact Int.not_lt.mp fun q => h (Int32.lt_iff_toInt_lt.mpr q)
theorem own_eq {x y : Int32} {a b : Int} (h : x = y) (hx : x.toInt = a) (hy : y.toInt = b) : a = b := by rw [← hx, ← hy, h]
theorem own_ne {x y : Int32} {a b : Int} (h : ¬ x = y) (hx : x.toInt = a) (hy : y.toInt = b) : a ≠ b := by rw [← hx, ← hy]; exact fun q => h (Int32.toInt_inj.mp q)
theorem own_ktr {h0 h h' : Heap} {ws ws' : List Addr} (K : Keep h0 h ws) (K' : Keep h h' ws') : Keep h0 h' (ws ++ ws') :=
  ⟨Nat.le_trans K.1 K'.1, fun x c q r => K'.2.1 x c (K.2.1 x c q fun z => r (List.mem_append_left _ z)) fun z => r (List.mem_append_right _ z), fun x c q => by
    obtain ⟨c1, q1, r1, r2, r3⟩ := K.2.2 x c q
    obtain ⟨c2, q2, t1, t2, t3⟩ := K'.2.2 x c1 q1
    exact ⟨c2, q2, t1.trans r1, t2.trans r2, t3.trans r3⟩⟩
theorem own_lt2 {x a b : Int32} (h : x < a) (k : a < b) : x < b := Int32.lt_iff_toInt_lt.mpr (Int.lt_trans (Int32.lt_iff_toInt_lt.mp h) (Int32.lt_iff_toInt_lt.mp k))
theorem own_inskeep {Z : State} {h h' : Heap} {ws : List Addr} {b : Addr} {C : String} {bo : Bool} (F : Ins Z h b C bo) (K : Keep h h' ws) : Ins Z h' b C bo := by
  obtain ⟨cell, k, h1, h2, h3⟩ := F
  obtain ⟨c', q, r1, r2, -⟩ := K.2.2 b cell h1
  exact ⟨c', k, q, h2, by rw [r1, r2]; exact h3⟩
abbrev MFH (l : Launch) (y : MethodName) (cw : List Jvm.Cond) (R : Room) (Z : State) (h0 : Heap) (A : Array Value) (Q : Option Value → Heap → List Loc → Prop) : Prop := MetFree l y (head1 cw R) (fun a U => a = A ∧ Z.Warmed39 U.vm ∧ U.heap = h0 ∧ CHv Z consts_1 U.vm h0) (fun _ _ _ _ _ => True) (fun _ U o U' => ∃ v L, o = .returned v ∧ Q v U'.heap L ∧ CHr Z consts_1 U.vm U.heap U'.vm U'.heap ∧ ReturnedEndW U o U' L R.cells R.slots)
section Safes
variable {Z : State} {EL : List (String × Nat)} {vm : Vm} {h : Heap} {x : Addr}
theorem own_sarr {k : ClassId} {ty : FieldType} {n : Int32} {vs : List Value} {d : Value} (hal : Z.vm.Alike vm) (V : Arv Z h x k ty n vs d) (ht : ty ≠ .byte) : Safe Z EL vm h x := by
  obtain ⟨c, A, -⟩ := V
  exact Safe.arr hal A ht
theorem own_safeS (hal : Z.vm.Alike vm) (E : Exa Z h x cs1) (F : Fld Z h x cs1 "value" "[B" .null) : Safe Z EL vm h x := fun B => by
  obtain ⟨p, -, u, b, -, q, -, G, hy⟩ := B
  obtain ⟨cS, ⟨⟨s1, s2, s3, ⟨cv, kv, iv, s4, s4'⟩, -, s6, s7, s8, s9, s10, -⟩, hfS, hcS⟩, -, hB, -⟩ := G
  rcases hy with rfl | rfl
  · obtain ⟨cell, cf, k, i, f, e1, e2, e3, e4, e5, e6, e7⟩ := F
    obtain ⟨kv', z4⟩ := ff_back (U := Wst Z vm h) hal s4
    cases e2.symm.trans z4
    cases (show h[q.sa]? = some q.sC from s1).symm.trans e1
    rw [s8] at e7; cases e7
  · obtain ⟨cell, k, e1, e2, -⟩ := E
    cases (show h[q.sd]? = some q.SA from s10).symm.trans e1
    have hB' : vm.findClass "[B" = some q.SA.cls := hB
    rw [hal.findClass] at hB'
    exact ids_ne e2 hB' (by decide) rfl
end Safes
theorem own_tag {f : Nat → Nat} {x y a b : Nat} (hx : f x = a) (hy : f y = b) (h : a ≠ b) : x ≠ y := fun e => h (by rw [← hx, ← hy, e])
theorem own_nin {f : Nat → Nat} {x a : Nat} {ws : List Addr} (hx : f x = a) (A : ∀ w ∈ ws, f w < 20) (h : ¬ a < 20) : x ∉ ws := fun q => h (by rw [← hx]; exact A x q)
theorem own_nt {f : Nat → Nat} {x y a b : Nat} {L : List Addr} (hx : f x = a) (hy : f y = b) (r : x ∉ L) (h : a ≠ b := by decide) : x ∉ y :: L := ninS (own_tag hx hy h) r
theorem own_tl {f : Nat → Nat} {x a : Nat} (hx : f x = a) (h : a < 20) : f x < 20 := by rw [hx]; exact h
theorem own_g20 {f : Nat → Nat} {x a : Nat} (hx : f x = a) (h : 20 < a := by decide) : 20 < f x := by rw [hx]; exact h
theorem own_l50 {f : Nat → Nat} {x a : Nat} (hx : f x = a) (h : a < 50 := by decide) : f x < 50 := by rw [hx]; exact h
def retag (f : Nat → Nat) (n c : Nat) : Nat → Nat := fun x => if x < n then f x else c
theorem retag_old {f : Nat → Nat} {n c x a : Nat} (h : x < n) (e : f x = a) : retag f n c x = a := by unfold retag; rw [if_pos h, e]
theorem retag_agree {f g : Nat → Nat} {k n c : Nat} (h : k ≤ n) (e : ∀ x, x < k → f x = g x) : ∀ x, x < k → retag f n c x = g x := fun x q => retag_old (Nat.lt_of_lt_of_le q h) (e x q)
theorem retag_new {f : Nat → Nat} {n c : Nat} : retag f n c n = c := by unfold retag; rw [if_neg (Nat.lt_irrefl n)]
theorem wd_22 {a0 Z} (hw : HW a0 Z) : Bw a0 Z (.stringLink cs1 7 "") := hw _ (mx 22 rfl)
theorem wd_11 {a0 Z} (hw : HW a0 Z) : Bw a0 Z (.initialized cs1) := hw _ (mx 11 rfl)
theorem wd_10 {a0 Z} (hw : HW a0 Z) : Bw a0 Z (.instantiable cs1 4) := hw _ (mx 10 rfl)
theorem wd_23 {a0 Z} (hw : HW a0 Z) : Bw a0 Z (.arrayClass .byte) := hw _ (mx 23 rfl)
theorem wd_24 {a0 Z} (hw : HW a0 Z) : Bw a0 Z (.laysFinal cs1 cs1 "value" "[B") := hw _ (mx 24 rfl)
theorem wd_25 {a0 Z} (hw : HW a0 Z) : Bw a0 Z (.laysFinal cs1 cs1 "coder" "B") := hw _ (mx 25 rfl)
theorem wd_26 {a0 Z} (hw : HW a0 Z) : Bw a0 Z (.soleField cs1 "value") := hw _ (mx 26 rfl)
theorem wd_27 {a0 Z} (hw : HW a0 Z) : Bw a0 Z (.soleField cs1 "coder") := hw _ (mx 27 rfl)
theorem wSt {a0 : Array Value} {Z : State} (hw : HW a0 Z) : ∀ a ∈ Bundle.stringAtoms, a.before a0 Z = true := by
  intro a ha
  simp only [Bundle.stringAtoms, List.mem_cons, List.not_mem_nil, or_false] at ha
  rcases ha with rfl | rfl | rfl | rfl | rfl | rfl | rfl
  · exact (wd_11 hw)
  · exact (wd_10 hw)
  · exact (wd_23 hw)
  · exact (wd_24 hw)
  · exact (wd_25 hw)
  · exact (wd_26 hw)
  · exact (wd_27 hw)
theorem hELt {a0 : Array Value} {Z : State} (hw : HW a0 Z) : EW Z a0 consts_1 := EW.cons (wd_22 hw) (by first | decide | simp) EW.nil
theorem lit0 : (∀ c ∈ ("" : String).toList, c.toNat < 256) ∧ ("" : String).toList.map (fun c => Value.int (Jvm.Lit.byteI c.toNat.toUInt16)) = [] := by first | simp | exact ⟨by decide, by decide⟩ | decide +kernel
def sh8 (x : Int64) (q : Int32) : Int64 := ((x.toUInt64 >>> (q &&& 0x3f).toInt64.toUInt64).toInt64)
def cc (y : Int64) : Int32 := nar .char (((y &&& (255 : Int64)).toInt32).toUInt32.toUInt16.toUInt32.toInt32)
def bb (y : Int64) : Int32 := nar .byte ((nar .char (cc y)).toInt8.toInt32)
def ln (x : Int64) : Int32 := ((sh8 x (24 : Int32)) &&& (3 : Int64)).toInt32
theorem cc_b (y : Int64) : 0 ≤ (cc y).toInt ∧ (cc y).toInt < 256 := by
  have h1 := c_maskL y 255 8 (by decide) rfl
  rw [show (((2 : Nat) ^ 8 : Nat) : Int) = 256 from rfl] at h1
  have h2 := c_l2i (y &&& (255 : Int64))
  have h3 := c_i2c ((y &&& (255 : Int64)).toInt32)
  have h4 := c_i2c (((y &&& (255 : Int64)).toInt32).toUInt32.toUInt16.toUInt32.toInt32)
  show 0 ≤ ((((y &&& (255 : Int64)).toInt32).toUInt32.toUInt16.toUInt32.toInt32).toUInt32.toUInt16.toUInt32.toInt32).toInt ∧ ((((y &&& (255 : Int64)).toInt32).toUInt32.toUInt16.toUInt32.toInt32).toUInt32.toUInt16.toUInt32.toInt32).toInt < 256
  omega
theorem cc_nar (y : Int64) : nar .char (cc y) = cc y := by
  have h1 := cc_b y
  apply Int32.toInt_inj.mp
  have k := c_i2c (cc y)
  show ((cc y).toUInt32.toUInt16.toUInt32.toInt32).toInt = _
  omega
theorem nc (y : Int64) : ¬ ((255 : Int32) < nar .char (cc y)) := by
  rw [cc_nar]
  intro q
  have h1 := cc_b y
  have := own_lt (a := 255) q rfl rfl
  omega
theorem bb_inj {x y : Int64} : bb x = bb y ↔ cc x = cc y := by
  constructor
  · intro h
    have h1 := cc_b x
    have h2 := cc_b y
    have e := congrArg Int32.toInt h
    have a1 := c_i2b (cc x)
    have a2 := c_i2b ((cc x).toInt8.toInt32)
    have b1 := c_i2b (cc y)
    have b2 := c_i2b ((cc y).toInt8.toInt32)
    unfold bb at e
    rw [cc_nar, cc_nar] at e
    have e' : ((cc x).toInt8.toInt32.toInt8.toInt32).toInt = ((cc y).toInt8.toInt32.toInt8.toInt32).toInt := e
    apply Int32.toInt_inj.mp
    omega
  · intro h; unfold bb; rw [h]
theorem ln_4 (x : Int64) : ln x = (0 : Int32) ∨ ln x = (1 : Int32) ∨ ln x = (2 : Int32) ∨ ln x = (3 : Int32) := by
  have h1 := c_maskL (sh8 x (24 : Int32)) 3 2 (by decide) rfl
  rw [show (((2 : Nat) ^ 2 : Nat) : Int) = 4 from rfl] at h1
  have h2 := c_l2i ((sh8 x (24 : Int32)) &&& (3 : Int64))
  have h3 := Int32.le_toInt (ln x)
  have h4 := Int32.toInt_lt (ln x)
  have h5 : (ln x).toInt = (((sh8 x (24 : Int32)) &&& (3 : Int64)).toInt32).toInt := rfl
  have e : ∀ (i : Int32) (n : Int), i.toInt = n → (ln x).toInt = n → ln x = i := fun i n a b => Int32.toInt_inj.mp (b.trans a.symm)
  have h6 : (ln x).toInt = 0 ∨ (ln x).toInt = 1 ∨ (ln x).toInt = 2 ∨ (ln x).toInt = 3 := by omega
  rcases h6 with q | q | q | q
  · exact Or.inl (e 0 0 rfl q)
  · exact Or.inr (Or.inl (e 1 1 rfl q))
  · exact Or.inr (Or.inr (Or.inl (e 2 2 rfl q)))
  · exact Or.inr (Or.inr (Or.inr (e 3 3 rfl q)))
theorem ln_3 {x : Int64} (h0 : ¬ ln x = (0 : Int32)) (h1 : ¬ ln x = (1 : Int32)) (h2 : ¬ ln x = (2 : Int32)) : ln x = (3 : Int32) := by
  rcases ln_4 x with h | h | h | h
  · exact absurd h h0
  · exact absurd h h1
  · exact absurd h h2
  · exact h
theorem wd_49 {a0 Z} (hw : HW a0 Z) : Bw a0 Z (.selects cs0 ⟨cs0, "equals", cs5⟩ ⟨cs0, "equals", cs5⟩) := hw _ (mx 49 rfl)
theorem wd_79 {a0 Z} (hw : HW a0 Z) : Bw a0 Z (.noSuperclass "java/lang/Object") := hw _ (mx 79 rfl)
theorem wd_78 {a0 Z} (hw : HW a0 Z) : Bw a0 Z (.superclass cs1 "java/lang/Object") := hw _ (mx 78 rfl)
theorem wd_31 {a0 Z} (hw : HW a0 Z) : Bw a0 Z (.instantiable cs0 3) := hw _ (mx 31 rfl)
def own_sm (x y : Int64) : Int32 := if ln x = ln y then (if ln x < (1 : Int32) then (1 : Int32) else if (cc (sh8 x (0 : Int32))) = (cc (sh8 y (0 : Int32))) then (if ln x < (2 : Int32) then (1 : Int32) else if (cc (sh8 x (8 : Int32))) = (cc (sh8 y (8 : Int32))) then (if ln x < (3 : Int32) then (1 : Int32) else if (cc (sh8 x (16 : Int32))) = (cc (sh8 y (16 : Int32))) then (1 : Int32) else (0 : Int32)) else (0 : Int32)) else (0 : Int32)) else (0 : Int32)
theorem own_sm_self (x : Int64) : own_sm x x = (1 : Int32) := by
  unfold own_sm
  rw [if_pos rfl]
  by_cases h1 : ln x < (1 : Int32)
  · rw [if_pos h1]
  · rw [if_neg h1, if_pos rfl]
    by_cases h2 : ln x < (2 : Int32)
    · rw [if_pos h2]
    · rw [if_neg h2, if_pos rfl]
      by_cases h3 : ln x < (3 : Int32)
      · rw [if_pos h3]
      · rw [if_neg h3, if_pos rfl]
theorem own_sm_symm (x y : Int64) : own_sm x y = own_sm y x := by
  unfold own_sm
  by_cases h : ln x = ln y
  · rw [if_pos h, if_pos h.symm, h]
    by_cases h1 : ln y < (1 : Int32)
    · rw [if_pos h1, if_pos h1]
    · rw [if_neg h1, if_neg h1]
      by_cases e0 : (cc (sh8 x (0 : Int32))) = (cc (sh8 y (0 : Int32)))
      · rw [if_pos e0, if_pos e0.symm]
        by_cases h2 : ln y < (2 : Int32)
        · rw [if_pos h2, if_pos h2]
        · rw [if_neg h2, if_neg h2]
          by_cases e1 : (cc (sh8 x (8 : Int32))) = (cc (sh8 y (8 : Int32)))
          · rw [if_pos e1, if_pos e1.symm]
            by_cases h3 : ln y < (3 : Int32)
            · rw [if_pos h3, if_pos h3]
            · rw [if_neg h3, if_neg h3]
              by_cases e2 : (cc (sh8 x (16 : Int32))) = (cc (sh8 y (16 : Int32)))
              · rw [if_pos e2, if_pos e2.symm]
              · rw [if_neg e2, if_neg (fun q => e2 q.symm)]
          · rw [if_neg e1, if_neg (fun q => e1 q.symm)]
      · rw [if_neg e0, if_neg (fun q => e0 q.symm)]
  · rw [if_neg h, if_neg (fun q => h q.symm)]
def own_loc (w a b c d : Int32) : Int32 := if w = (0 : Int32) then (0 : Int32) else if a = b then (if c = d then (1 : Int32) else (0 : Int32)) else (0 : Int32)
theorem own_loc_1 {a b c d : Int32} : own_loc (1 : Int32) a b c d = if a = b then (if c = d then (1 : Int32) else (0 : Int32)) else (0 : Int32) := by unfold own_loc; exact if_neg (by decide)
theorem own_loc_n {w a b c d : Int32} : own_loc w a b c d = own_loc (if w = (0 : Int32) then (0 : Int32) else (1 : Int32)) a b c d := by
  by_cases h : w = (0 : Int32)
  · rw [if_pos h, h]
  · rw [if_neg h, own_loc_1]; unfold own_loc; exact if_neg h
theorem own_loc_s {w a b c d : Int32} : own_loc w a b c d = own_loc w b a d c := by
  unfold own_loc
  by_cases h : w = (0 : Int32)
  · rw [if_pos h, if_pos h]
  · rw [if_neg h, if_neg h]
    by_cases e : a = b
    · rw [if_pos e, if_pos e.symm]
      by_cases f : c = d
      · rw [if_pos f, if_pos f.symm]
      · rw [if_neg f, if_neg (fun q => f q.symm)]
    · rw [if_neg e, if_neg (fun q => e q.symm)]
def STR (Z : State) (h : Heap) (n0 : Nat) (o : Addr) (x : Int64) : Prop := ∃ (t : Addr) (k : ClassId), Exa Z h o cs1 ∧ Fld Z h o cs1 "value" "[B" (.ref t) ∧ Fld Z h o cs1 "coder" "B" (.int 0) ∧ ((ln x = (0 : Int32) ∧ Arv Z h t k .byte (0 : Int32) [] (.int 0)) ∨ (ln x = (1 : Int32) ∧ Arv Z h t k .byte (1 : Int32) [(.int (bb (sh8 x (0 : Int32))))] (.int 0)) ∨ (ln x = (2 : Int32) ∧ Arv Z h t k .byte (2 : Int32) [(.int (bb (sh8 x (0 : Int32)))), (.int (bb (sh8 x (8 : Int32))))] (.int 0)) ∨ (ln x = (3 : Int32) ∧ Arv Z h t k .byte (3 : Int32) [(.int (bb (sh8 x (0 : Int32)))), (.int (bb (sh8 x (8 : Int32)))), (.int (bb (sh8 x (16 : Int32))))] (.int 0)))
theorem str_keep {Z : State} {h h' : Heap} {n0 : Nat} {o : Addr} {x : Int64} (S : STR Z h n0 o x) (K : Keep h h' []) : STR Z h' n0 o x := by
  obtain ⟨t, k, E, Fv, Fc, V⟩ := S
  refine ⟨t, k, E.keep K, Fv.keep K nin0, Fc.keep K nin0, ?_⟩
  rcases V with ⟨a, V⟩ | ⟨a, V⟩ | ⟨a, V⟩ | ⟨a, V⟩
  · exact Or.inl ⟨a, V.keep K nin0⟩
  · exact Or.inr (Or.inl ⟨a, V.keep K nin0⟩)
  · exact Or.inr (Or.inr (Or.inl ⟨a, V.keep K nin0⟩))
  · exact Or.inr (Or.inr (Or.inr ⟨a, V.keep K nin0⟩))
theorem own_noSL {a0 : Array Value} {Z : State} (hw : HW a0 Z) : ∃ c t, Z.vm.findClass cs1 = some c ∧ Z.vm.findClass cs0 = some t ∧ Z.vm.assignable c t = false := by
  obtain ⟨c2, r2, m2, q1, q2, q3, q4, kP, hkP, hkPi⟩ := Cond.selects_spec (wd_49 hw)
  have g0 : Z.vm.findClass cs0 = some m2.cls := findClass_of_methodNamed q3
  obtain ⟨co, ko, h1, h2, h3, -, -⟩ := Cond.noSuperclass_spec (wd_79 hw)
  have ne2 := ids_ne h1 g0 (by decide)
  have n1 : NS Z "java/lang/Object" cs0 := ⟨co, m2.cls, h1, g0, fun fuel => by
    cases fuel with
    | zero => rfl
    | succ f => simp [Vm.isSubclassAux, ne2, h2, h3]⟩
  obtain ⟨c, t, hc, ht, n3⟩ := NS.step (wd_78 hw) n1 (by decide)
  cases g0.symm.trans ht
  obtain ⟨p, k, kp, u1, u2, u3, u4, u5, -, u7⟩ := Cond.superclass_spec hc (wd_78 hw)
  have hi : (Jvm.Cond.instantiable cs0 3).before a0 Z = true := (wd_31 hw)
  have ho : kP.kind = .ordinary := by
    simp only [Cond.before, Cond.holds, Cond.value, g0, Option.bind_some, hkP, Option.map_some] at hi
    simp only [beq_iff_eq, Option.some.injEq, Bool.and_eq_true, decide_eq_true_eq] at hi
    exact hi.1.1.1
  have ne := ids_ne hc g0 (by decide)
  refine ⟨c, m2.cls, hc, g0, ?_⟩
  show Z.vm.assignableAux (255 + 1) c m2.cls = false
  simp [Vm.assignableAux, ne, u2, hkP, u5, ho, hkPi, Vm.isSubclass, n3]
abbrev B2 : ByteArray := method_2_code
theorem d2_0 : dc B2 0 (.lload_n 0) 1 := by decide +kernel
theorem d2_1 : dc B2 1 (.bipush 24) 2 := by decide +kernel
theorem d2_3 : dc B2 3 .lushr 1 := by decide +kernel
theorem d2_4 : dc B2 4 (.ldc2_w 7) 3 := by decide +kernel
theorem wd_0 {a0 Z} (hw : HW a0 Z) : Bw a0 Z (.constantLong cs2 7 (3 : Int64)) := hw _ (mx 0 rfl)
theorem d2_7 : dc B2 7 .land 1 := by decide +kernel
theorem d2_8 : dc B2 8 .l2i 1 := by decide +kernel
theorem d2_9 : dc B2 9 .ireturn 1 := by decide +kernel
theorem ef_2 (m : MethodId) (x0 : Int64) : entryFrame m #[(.long x0)] 2 = mkF m 0 #[.val (.long x0), .second] [] := by first | (simp [entryFrame, mkF, argsToLocals, Value.category]; done) | rfl
theorem pn_com_example_xylem_xylem_model_LocationEqualsPinLaw : plainName cs2 = true := by first | (simp [plainName, overriddenIn]; done) | decide +kernel
def Q_rm2 (Z : State) (q1 : Int64) (h0 : Heap) (n0 : Nat) (v : Option Value) (h : Heap) (L : List Loc) : Prop := v = some (.int (ln q1)) ∧ Fr n0 L ∧ h = h0
set_option maxRecDepth 65536 in
set_option maxHeartbeats 40000000 in
abbrev y_2 : MethodName := ⟨cs2, "len", "(J)I"⟩
theorem rm2 (l : Launch) (Z : State) (a0 : Array Value) (hw : HW a0 Z) (ws : List Jvm.Cond) (q1 : Int64) (h0 : Heap) (n0 : Nat) (Z0 : n0 ≤ h0.size) :
    MF l y_2 (Jvm.Cond.code y_2 B2 2 (some .int) :: ws) (⟨0, 0, 0, 0⟩ : Room) Z h0 #[(.long q1)] (Q_rm2 Z q1 h0 n0) := by
  refine MetFree.of_bodySF (plainFor_of_name pn_com_example_xylem_xylem_model_LocationEqualsPinLaw) hisR ?_
  intro p e s m args below meth c s₁ Bd hml0 hP hK
  obtain ⟨rfl, hZ, hh⟩ := hP
  have hx := Bd.exec
  have hby := Bd.bytes
  have hml : c.maxLocals = 2 := hml0
  have hown : s.vm.findClass cs2 = some m.cls := findClass_of_methodNamed Bd.named
  have hnm := (name_of_methodNamed Bd.named Bd.method).1
  have X0 : Stand p l e (⟨0, 0, 0, 0⟩ : Room) s m #[(.long q1)] below meth c s₁ [] 0 0 := Stand.of_body Bd
  have e0 : s₁.heap = h0 := by rw [← hh, Bd.state]; rfl
  have N0 := Fr.nil n0
  have pre0 : Goes p e below (s₁.setTop (entryFrame m #[(.long q1)] 2)) (s₁.setTop (mkF m 0 #[.val (.long q1), .second] [])) := fun t k => castTop (ef_2 m q1) k
  obtain ⟨fs, hr, hrun, hended, hW, hsame⟩ := X0.leave (v := some (.int ((((q1.toUInt64 >>> ((24 : Int32) &&& 0x3f).toInt64.toUInt64).toInt64) &&& (3 : Int64)).toInt32))) (fun h => by rw [Bd.returns] at h; cases h)
  refine ⟨_, _, pre0 _ ?_, hrun, hended, _, _, rfl, ?_, ⟨_, rfl⟩, hW, hsame.mono (by decide) (by decide)⟩
  · show Steps p.tables e below (s₁.setTop (mkF m 0 #[.val (.long q1), .second] [])) _
    refine XS.lloadN X0.here hx rfl (hb hby d2_0) rfl ?_
    refine XS.bipush X0.here hx rfl (hb hby d2_1) ?_
    refine XS.lushr X0.here hx rfl (hb hby d2_3) rfl ?_
    refine X0.ldc2Long hx hown (mvT hZ (wd_0 hw)) (g := (mkF m 4 #[.val (.long q1), .second] [(.long ((q1.toUInt64 >>> ((24 : Int32) &&& 0x3f).toInt64.toUInt64).toInt64))])) rfl (hb hby d2_4) _ ?_
    refine XS.land X0.here hx rfl (hb hby d2_7) rfl ?_
    refine XS.l2i X0.here hx rfl (hb hby d2_8) rfl ?_
    exact retI X0 hx Bd.returns (hb hby d2_9) hr
  · show Q_rm2 Z _ h0 n0 _ s₁.heap _
    rw [e0]
    exact ⟨rfl, N0, rfl⟩
abbrev B11 : ByteArray := method_3_code
theorem d11_0 : dc B11 0 (.lload_n 0) 1 := by decide +kernel
theorem d11_1 : dc B11 1 (.bipush 8) 2 := by decide +kernel
theorem d11_3 : dc B11 3 (.iload_n 2) 1 := by decide +kernel
theorem d11_4 : dc B11 4 .imul 1 := by decide +kernel
theorem d11_5 : dc B11 5 .lushr 1 := by decide +kernel
theorem d11_6 : dc B11 6 (.ldc2_w 9) 3 := by decide +kernel
theorem wd_67 {a0 Z} (hw : HW a0 Z) : Bw a0 Z (.constantLong cs2 9 (255 : Int64)) := hw _ (mx 67 rfl)
theorem d11_9 : dc B11 9 .land 1 := by decide +kernel
theorem d11_10 : dc B11 10 .l2i 1 := by decide +kernel
theorem d11_11 : dc B11 11 .i2c 1 := by decide +kernel
theorem d11_12 : dc B11 12 .ireturn 1 := by decide +kernel
theorem ef_11 (m : MethodId) (x0 : Int64) (x1 : Int32) : entryFrame m #[(.long x0), (.int x1)] 3 = mkF m 0 #[.val (.long x0), .second, .val (.int x1)] [] := by first | (simp [entryFrame, mkF, argsToLocals, Value.category]; done) | rfl
def Q_rmch0 (Z : State) (q1 : Int64) (h0 : Heap) (n0 : Nat) (v : Option Value) (h : Heap) (L : List Loc) : Prop := v = some (.int (cc (sh8 q1 (0 : Int32)))) ∧ Fr n0 L ∧ h = h0
set_option maxRecDepth 65536 in
set_option maxHeartbeats 40000000 in
abbrev y_11 : MethodName := ⟨cs2, "ch", "(JI)C"⟩
theorem rmch0 (l : Launch) (Z : State) (a0 : Array Value) (hw : HW a0 Z) (ws : List Jvm.Cond) (q1 : Int64) (h0 : Heap) (n0 : Nat) (Z0 : n0 ≤ h0.size) :
    MF l y_11 (Jvm.Cond.code y_11 B11 3 (some .char) :: ws) (⟨0, 0, 0, 0⟩ : Room) Z h0 #[(.long q1), (.int 0)] (Q_rmch0 Z q1 h0 n0) := by
  refine MetFree.of_bodySF (plainFor_of_name pn_com_example_xylem_xylem_model_LocationEqualsPinLaw) hisR ?_
  intro p e s m args below meth c s₁ Bd hml0 hP hK
  obtain ⟨rfl, hZ, hh⟩ := hP
  have hx := Bd.exec
  have hby := Bd.bytes
  have hml : c.maxLocals = 3 := hml0
  have hown : s.vm.findClass cs2 = some m.cls := findClass_of_methodNamed Bd.named
  have hnm := (name_of_methodNamed Bd.named Bd.method).1
  have X0 : Stand p l e (⟨0, 0, 0, 0⟩ : Room) s m #[(.long q1), (.int 0)] below meth c s₁ [] 0 0 := Stand.of_body Bd
  have e0 : s₁.heap = h0 := by rw [← hh, Bd.state]; rfl
  have N0 := Fr.nil n0
  have pre0 : Goes p e below (s₁.setTop (entryFrame m #[(.long q1), (.int 0)] 3)) (s₁.setTop (mkF m 0 #[.val (.long q1), .second, vi 0] [])) := fun t k => castTop (ef_11 m q1 (0 : Int32)) k
  obtain ⟨fs, hr, hrun, hended, hW, hsame⟩ := X0.leave (v := some (.int (nar .char (((((q1.toUInt64 >>> ((0 : Int32) &&& 0x3f).toInt64.toUInt64).toInt64) &&& (255 : Int64)).toInt32).toUInt32.toUInt16.toUInt32.toInt32)))) (fun h => by rw [Bd.returns] at h; cases h)
  refine ⟨_, _, pre0 _ ?_, hrun, hended, _, _, rfl, ?_, ⟨_, rfl⟩, hW, hsame.mono (by decide) (by decide)⟩
  · show Steps p.tables e below (s₁.setTop (mkF m 0 #[.val (.long q1), .second, vi 0] [])) _
    refine XS.lloadN X0.here hx rfl (hb hby d11_0) rfl ?_
    refine XS.bipush X0.here hx rfl (hb hby d11_1) ?_
    refine XS.iloadN X0.here hx rfl (hb hby d11_3) rfl ?_
    refine XS.imul X0.here hx rfl (hb hby d11_4) rfl ?_
    refine XS.lushr X0.here hx rfl (hb hby d11_5) rfl ?_
    refine X0.ldc2Long hx hown (mvT hZ (wd_67 hw)) (g := (mkF m 6 #[.val (.long q1), .second, vi 0] [(.long ((q1.toUInt64 >>> ((0 : Int32) &&& 0x3f).toInt64.toUInt64).toInt64))])) rfl (hb hby d11_6) _ ?_
    refine XS.land X0.here hx rfl (hb hby d11_9) rfl ?_
    refine XS.l2i X0.here hx rfl (hb hby d11_10) rfl ?_
    refine XS.i2c X0.here hx rfl (hb hby d11_11) rfl ?_
    exact retN X0 hx (t := .char) Bd.returns (by simp) (hb hby d11_12) hr
  · show Q_rmch0 Z _ h0 n0 _ s₁.heap _
    rw [e0]
    exact ⟨rfl, N0, rfl⟩
def Q_rmch1 (Z : State) (q1 : Int64) (h0 : Heap) (n0 : Nat) (v : Option Value) (h : Heap) (L : List Loc) : Prop := v = some (.int (cc (sh8 q1 (8 : Int32)))) ∧ Fr n0 L ∧ h = h0
set_option maxRecDepth 65536 in
set_option maxHeartbeats 40000000 in
theorem rmch1 (l : Launch) (Z : State) (a0 : Array Value) (hw : HW a0 Z) (ws : List Jvm.Cond) (q1 : Int64) (h0 : Heap) (n0 : Nat) (Z0 : n0 ≤ h0.size) :
    MF l y_11 (Jvm.Cond.code y_11 B11 3 (some .char) :: ws) (⟨0, 0, 0, 0⟩ : Room) Z h0 #[(.long q1), (.int 1)] (Q_rmch1 Z q1 h0 n0) := by
  refine MetFree.of_bodySF (plainFor_of_name pn_com_example_xylem_xylem_model_LocationEqualsPinLaw) hisR ?_
  intro p e s m args below meth c s₁ Bd hml0 hP hK
  obtain ⟨rfl, hZ, hh⟩ := hP
  have hx := Bd.exec
  have hby := Bd.bytes
  have hml : c.maxLocals = 3 := hml0
  have hown : s.vm.findClass cs2 = some m.cls := findClass_of_methodNamed Bd.named
  have hnm := (name_of_methodNamed Bd.named Bd.method).1
  have X0 : Stand p l e (⟨0, 0, 0, 0⟩ : Room) s m #[(.long q1), (.int 1)] below meth c s₁ [] 0 0 := Stand.of_body Bd
  have e0 : s₁.heap = h0 := by rw [← hh, Bd.state]; rfl
  have N0 := Fr.nil n0
  have pre0 : Goes p e below (s₁.setTop (entryFrame m #[(.long q1), (.int 1)] 3)) (s₁.setTop (mkF m 0 #[.val (.long q1), .second, vi 1] [])) := fun t k => castTop (ef_11 m q1 (1 : Int32)) k
  obtain ⟨fs, hr, hrun, hended, hW, hsame⟩ := X0.leave (v := some (.int (nar .char (((((q1.toUInt64 >>> ((8 : Int32) &&& 0x3f).toInt64.toUInt64).toInt64) &&& (255 : Int64)).toInt32).toUInt32.toUInt16.toUInt32.toInt32)))) (fun h => by rw [Bd.returns] at h; cases h)
  refine ⟨_, _, pre0 _ ?_, hrun, hended, _, _, rfl, ?_, ⟨_, rfl⟩, hW, hsame.mono (by decide) (by decide)⟩
  · show Steps p.tables e below (s₁.setTop (mkF m 0 #[.val (.long q1), .second, vi 1] [])) _
    refine XS.lloadN X0.here hx rfl (hb hby d11_0) rfl ?_
    refine XS.bipush X0.here hx rfl (hb hby d11_1) ?_
    refine XS.iloadN X0.here hx rfl (hb hby d11_3) rfl ?_
    refine XS.imul X0.here hx rfl (hb hby d11_4) rfl ?_
    refine XS.lushr X0.here hx rfl (hb hby d11_5) rfl ?_
    refine X0.ldc2Long hx hown (mvT hZ (wd_67 hw)) (g := (mkF m 6 #[.val (.long q1), .second, vi 1] [(.long ((q1.toUInt64 >>> ((8 : Int32) &&& 0x3f).toInt64.toUInt64).toInt64))])) rfl (hb hby d11_6) _ ?_
    refine XS.land X0.here hx rfl (hb hby d11_9) rfl ?_
    refine XS.l2i X0.here hx rfl (hb hby d11_10) rfl ?_
    refine XS.i2c X0.here hx rfl (hb hby d11_11) rfl ?_
    exact retN X0 hx (t := .char) Bd.returns (by simp) (hb hby d11_12) hr
  · show Q_rmch1 Z _ h0 n0 _ s₁.heap _
    rw [e0]
    exact ⟨rfl, N0, rfl⟩
def Q_rmch2 (Z : State) (q1 : Int64) (h0 : Heap) (n0 : Nat) (v : Option Value) (h : Heap) (L : List Loc) : Prop := v = some (.int (cc (sh8 q1 (16 : Int32)))) ∧ Fr n0 L ∧ h = h0
set_option maxRecDepth 65536 in
set_option maxHeartbeats 40000000 in
theorem rmch2 (l : Launch) (Z : State) (a0 : Array Value) (hw : HW a0 Z) (ws : List Jvm.Cond) (q1 : Int64) (h0 : Heap) (n0 : Nat) (Z0 : n0 ≤ h0.size) :
    MF l y_11 (Jvm.Cond.code y_11 B11 3 (some .char) :: ws) (⟨0, 0, 0, 0⟩ : Room) Z h0 #[(.long q1), (.int 2)] (Q_rmch2 Z q1 h0 n0) := by
  refine MetFree.of_bodySF (plainFor_of_name pn_com_example_xylem_xylem_model_LocationEqualsPinLaw) hisR ?_
  intro p e s m args below meth c s₁ Bd hml0 hP hK
  obtain ⟨rfl, hZ, hh⟩ := hP
  have hx := Bd.exec
  have hby := Bd.bytes
  have hml : c.maxLocals = 3 := hml0
  have hown : s.vm.findClass cs2 = some m.cls := findClass_of_methodNamed Bd.named
  have hnm := (name_of_methodNamed Bd.named Bd.method).1
  have X0 : Stand p l e (⟨0, 0, 0, 0⟩ : Room) s m #[(.long q1), (.int 2)] below meth c s₁ [] 0 0 := Stand.of_body Bd
  have e0 : s₁.heap = h0 := by rw [← hh, Bd.state]; rfl
  have N0 := Fr.nil n0
  have pre0 : Goes p e below (s₁.setTop (entryFrame m #[(.long q1), (.int 2)] 3)) (s₁.setTop (mkF m 0 #[.val (.long q1), .second, vi 2] [])) := fun t k => castTop (ef_11 m q1 (2 : Int32)) k
  obtain ⟨fs, hr, hrun, hended, hW, hsame⟩ := X0.leave (v := some (.int (nar .char (((((q1.toUInt64 >>> ((16 : Int32) &&& 0x3f).toInt64.toUInt64).toInt64) &&& (255 : Int64)).toInt32).toUInt32.toUInt16.toUInt32.toInt32)))) (fun h => by rw [Bd.returns] at h; cases h)
  refine ⟨_, _, pre0 _ ?_, hrun, hended, _, _, rfl, ?_, ⟨_, rfl⟩, hW, hsame.mono (by decide) (by decide)⟩
  · show Steps p.tables e below (s₁.setTop (mkF m 0 #[.val (.long q1), .second, vi 2] [])) _
    refine XS.lloadN X0.here hx rfl (hb hby d11_0) rfl ?_
    refine XS.bipush X0.here hx rfl (hb hby d11_1) ?_
    refine XS.iloadN X0.here hx rfl (hb hby d11_3) rfl ?_
    refine XS.imul X0.here hx rfl (hb hby d11_4) rfl ?_
    refine XS.lushr X0.here hx rfl (hb hby d11_5) rfl ?_
    refine X0.ldc2Long hx hown (mvT hZ (wd_67 hw)) (g := (mkF m 6 #[.val (.long q1), .second, vi 2] [(.long ((q1.toUInt64 >>> ((16 : Int32) &&& 0x3f).toInt64.toUInt64).toInt64))])) rfl (hb hby d11_6) _ ?_
    refine XS.land X0.here hx rfl (hb hby d11_9) rfl ?_
    refine XS.l2i X0.here hx rfl (hb hby d11_10) rfl ?_
    refine XS.i2c X0.here hx rfl (hb hby d11_11) rfl ?_
    exact retN X0 hx (t := .char) Bd.returns (by simp) (hb hby d11_12) hr
  · show Q_rmch2 Z _ h0 n0 _ s₁.heap _
    rw [e0]
    exact ⟨rfl, N0, rfl⟩
abbrev B13 : ByteArray := jdk_52_method_21_code
theorem d13_0 : dc B13 0 (.iconst 0) 1 := by decide +kernel
theorem d13_1 : dc B13 1 (.istore 5) 2 := by decide +kernel
theorem d13_3 : dc B13 3 (.iload 5) 2 := by decide +kernel
theorem d13_5 : dc B13 5 (.iload 4) 2 := by decide +kernel
theorem d13_7 : dc B13 7 (.if_icmp .ge 37) 3 := by decide +kernel
theorem d13_10 : dc B13 10 (.aload_n 0) 1 := by decide +kernel
theorem d13_11 : dc B13 11 (.iload_n 1) 1 := by decide +kernel
theorem d13_12 : dc B13 12 .caload 1 := by decide +kernel
theorem d13_13 : dc B13 13 (.istore 6) 2 := by decide +kernel
theorem d13_15 : dc B13 15 (.iload 6) 2 := by decide +kernel
theorem d13_17 : dc B13 17 (.sipush 255) 3 := by decide +kernel
theorem d13_20 : dc B13 20 (.if_icmp .le 6) 3 := by decide +kernel
theorem d13_26 : dc B13 26 (.aload_n 2) 1 := by decide +kernel
theorem d13_27 : dc B13 27 (.iload_n 3) 1 := by decide +kernel
theorem d13_28 : dc B13 28 (.iload 6) 2 := by decide +kernel
theorem d13_30 : dc B13 30 .i2b 1 := by decide +kernel
theorem d13_31 : dc B13 31 .bastore 1 := by decide +kernel
theorem d13_32 : dc B13 32 (.iinc 1 1) 3 := by decide +kernel
theorem d13_35 : dc B13 35 (.iinc 3 1) 3 := by decide +kernel
theorem d13_38 : dc B13 38 (.iinc 5 1) 3 := by decide +kernel
theorem d13_41 : dc B13 41 (.goto (-38)) 3 := by decide +kernel
theorem d13_44 : dc B13 44 (.iload 4) 2 := by decide +kernel
theorem d13_46 : dc B13 46 .ireturn 1 := by decide +kernel
theorem ef_13 (m : MethodId) (x0 : Addr) (x1 : Int32) (x2 : Addr) (x3 : Int32) (x4 : Int32) : entryFrame m #[(.ref x0), (.int x1), (.ref x2), (.int x3), (.int x4)] 7 = mkF m 0 #[.val (.ref x0), .val (.int x1), .val (.ref x2), .val (.int x3), .val (.int x4), .unset, .unset] [] := by first | (simp [entryFrame, mkF, argsToLocals, Value.category]; done) | rfl
theorem pn_java_lang_StringUTF16 : plainName cs4 = true := by first | (simp [plainName, overriddenIn]; done) | decide +kernel
def Q_rmcm1 (Z : State) (a1 : Addr) (a3 : Addr) (kc : ClassId) (kb : ClassId) (c0 : Int32) (h0 : Heap) (n0 : Nat) (v : Option Value) (h : Heap) (L : List Loc) : Prop := v = some (.int 1) ∧ Fr n0 L ∧ Keep h0 h [a3] ∧ (Arv Z h a3 kb .byte (1 : Int32) [(.int (nar .byte (c0.toInt8.toInt32)))] (.int 0))
set_option maxRecDepth 65536 in
set_option maxHeartbeats 40000000 in
abbrev y_13 : MethodName := ⟨cs4, "compress", "([CI[BII)I"⟩
theorem rmcm1 (l : Launch) (Z : State) (a0 : Array Value) (hw : HW a0 Z) (ws : List Jvm.Cond) (a1 : Addr) (a3 : Addr) (kc : ClassId) (kb : ClassId) (c0 : Int32) (h0 : Heap) (n0 : Nat) (Z0 : n0 ≤ h0.size) (V_a1 : Arv Z h0 a1 kc .char (1 : Int32) [(.int c0)] (.int 0)) (V_a3 : Arv Z h0 a3 kb .byte (1 : Int32) [(.int 0)] (.int 0)) (g_a3 : n0 ≤ a3) (ne_a1_a3 : a1 ≠ a3) (hp0 : ¬ ((255 : Int32) < c0)) :
    MF l y_13 (Jvm.Cond.code y_13 B13 7 (some .int) :: ws) (⟨0, 0, 0, 0⟩ : Room) Z h0 #[(.ref a1), (.int 0), (.ref a3), (.int 0), (.int 1)] (Q_rmcm1 Z a1 a3 kc kb c0 h0 n0) := by
  refine MetFree.of_bodySF (plainFor_of_name pn_java_lang_StringUTF16) hisR ?_
  intro p e s m args below meth c s₁ Bd hml0 hP hK
  obtain ⟨rfl, hZ, hh⟩ := hP
  have hx := Bd.exec
  have hby := Bd.bytes
  have hml : c.maxLocals = 7 := hml0
  have hown : s.vm.findClass cs4 = some m.cls := findClass_of_methodNamed Bd.named
  have hnm := (name_of_methodNamed Bd.named Bd.method).1
  have X0 : Stand p l e (⟨0, 0, 0, 0⟩ : Room) s m #[(.ref a1), (.int 0), (.ref a3), (.int 0), (.int 1)] below meth c s₁ [] 0 0 := Stand.of_body Bd
  have e0 : s₁.heap = h0 := by rw [← hh, Bd.state]; rfl
  have N0 := Fr.nil n0
  have pre0 : Goes p e below (s₁.setTop (entryFrame m #[(.ref a1), (.int 0), (.ref a3), (.int 0), (.int 1)] 7)) (s₁.setTop (mkF m 0 #[vr a1, vi 0, vr a3, vi 0, vi 1, .unset, .unset] [])) := fun t k => castTop (ef_13 m a1 (0 : Int32) a3 (0 : Int32) (1 : Int32)) k
  obtain ⟨cl1, Ar1, q1, S1, N1n, H1, G1⟩ := id (V_a1)
  have hin1 : ¬ ((0 : Int32) < 0 ∨ cl1.slots.size ≤ ((0 : Int32)).toNatClampNeg) := inb_of S1 ⟨by decide, by decide⟩
  have hat1 : cl1.slots[((0 : Int32)).toNatClampNeg]? = some (.int c0) := H1.at hin1 rfl
  obtain ⟨cl2, Ar2, q2, S2, N2n, H2, G2⟩ := id (V_a3)
  have hin2 : ¬ ((0 : Int32) < 0 ∨ cl2.slots.size ≤ ((0 : Int32)).toNatClampNeg) := inb_of S2 ⟨by decide, by decide⟩
  obtain ⟨T3, h3, X3, e3, W3, st3⟩ := stB X0 hx hZ e0 Ar2 (j := (0 : Int32)) hin2 (g := (mkF m 31 #[vr a1, vi 0, vr a3, vi 0, vi 1, vi 0, vi c0] [(.int (c0.toInt8.toInt32)), (.int 0), (.ref a3)])) rfl rfl (hb hby d13_31)
  have V_a3_3 : Arv Z h3 a3 kb .byte (1 : Int32) [(.int (nar .byte (c0.toInt8.toInt32)))] (.int 0) := Arv.set Ar2 q2 S2 N2n H2 G2 (fits_nar_byte _) W3 0 rfl (Nat.le_of_ble_eq_true rfl)
  have Z4 := Nat.le_trans Z0 (Keep.of_wr W3).1
  have K5 := Keep.wr (Keep.refl h0 [a3]) W3 (Or.inl (List.mem_of_getElem? (i := 0) rfl))
  have N3 := Fr.snoc X3 N0 g_a3
  obtain ⟨fs, hr, hrun, hended, hW, hsame⟩ := X3.leave (v := some (.int 1)) (fun h => by rw [Bd.returns] at h; cases h)
  refine ⟨_, _, pre0 _ ?_, hrun, hended, _, _, rfl, ?_, ⟨_, rfl⟩, hW, hsame.mono (by decide) (by decide)⟩
  · show Steps p.tables e below (s₁.setTop (mkF m 0 #[vr a1, vi 0, vr a3, vi 0, vi 1, .unset, .unset] [])) _
    refine XS.iconst X0.here hx rfl (hb hby d13_0) ?_
    refine XS.istore X0.here hx rfl (hb hby d13_1) rfl (l' := #[vr a1, vi 0, vr a3, vi 0, vi 1, vi 0, .unset]) rfl ?_
    refine XS.iload X0.here hx rfl (hb hby d13_3) rfl ?_
    refine XS.iload X0.here hx rfl (hb hby d13_5) rfl ?_
    refine XS.icmpNo X0.here hx rfl (hb hby d13_7) rfl (tlt (by decide)).2.1 ?_
    refine XS.aloadN X0.here hx rfl (hb hby d13_10) rfl rfl ?_
    refine XS.iloadN X0.here hx rfl (hb hby d13_11) rfl ?_
    refine X0.caload hx (j := (0 : Int32)) (v := (.int c0)) (by rw [e0]; exact Ar1.1) (State.isArrayOf_alike hZ.alike Ar1.2.1) Ar1.2.2 hin1 hat1 (g := (mkF m 12 #[vr a1, vi 0, vr a3, vi 0, vi 1, vi 0, .unset] [(.int 0), (.ref a1)])) rfl rfl (hb hby d13_12) _ ?_
    refine XS.istore X0.here hx rfl (hb hby d13_13) rfl (l' := #[vr a1, vi 0, vr a3, vi 0, vi 1, vi 0, vi c0]) rfl ?_
    refine XS.iload X0.here hx rfl (hb hby d13_15) rfl ?_
    show Steps p.tables e below (s₁.setTop (mkF m 17 #[vr a1, vi 0, vr a3, vi 0, vi 1, vi 0, vi c0] [(.int c0)])) _
    refine XS.sipush X0.here hx rfl (hb hby d13_17) ?_
    refine XS.icmpYes X0.here hx rfl (pc0 := 20) (pc' := 26) rfl (hb hby d13_20) rfl (flt hp0).2.2.2 (by decide) (by decide) ?_
    refine XS.aloadN X0.here hx rfl (hb hby d13_26) rfl rfl ?_
    refine XS.iloadN X0.here hx rfl (hb hby d13_27) rfl ?_
    refine XS.iload X0.here hx rfl (hb hby d13_28) rfl ?_
    refine XS.i2b X0.here hx rfl (hb hby d13_30) rfl ?_
    refine st3 _ ?_
    refine XS.iinc X3.here hx rfl (hb hby d13_32) rfl (l' := #[vr a1, vi 1, vr a3, vi 0, vi 1, vi 0, vi c0]) rfl ?_
    refine XS.iinc X3.here hx rfl (hb hby d13_35) rfl (l' := #[vr a1, vi 1, vr a3, vi 1, vi 1, vi 0, vi c0]) rfl ?_
    refine XS.iinc X3.here hx rfl (hb hby d13_38) rfl (l' := #[vr a1, vi 1, vr a3, vi 1, vi 1, vi 1, vi c0]) rfl ?_
    show Steps p.tables e below (T3.setTop (mkF m 41 #[vr a1, vi 1, vr a3, vi 1, vi 1, vi 1, vi c0] [])) _
    refine XS.goto X3.here hx rfl (pc0 := 41) (pc' := 3) rfl (hb hby d13_41) (by decide) (by decide) ?_
    refine XS.iload X3.here hx rfl (hb hby d13_3) rfl ?_
    refine XS.iload X3.here hx rfl (hb hby d13_5) rfl ?_
    refine XS.icmpYes X3.here hx rfl (pc0 := 7) (pc' := 44) rfl (hb hby d13_7) rfl (flt (by decide)).2.1 (by decide) (by decide) ?_
    refine XS.iload X3.here hx rfl (hb hby d13_44) rfl ?_
    exact retI X3 hx Bd.returns (hb hby d13_46) hr
  · show Q_rmcm1 Z _ _ _ _ _ h0 n0 _ T3.heap _
    rw [e3]
    exact ⟨rfl, N3, K5, V_a3_3⟩
abbrev B12 : ByteArray := jdk_52_method_16_code
theorem d12_0 : dc B12 0 (.iload_n 2) 1 := by decide +kernel
theorem d12_1 : dc B12 1 (.newarray .byte) 2 := by decide +kernel
theorem d12_3 : dc B12 3 (.astore_n 3) 1 := by decide +kernel
theorem d12_4 : dc B12 4 (.aload_n 0) 1 := by decide +kernel
theorem d12_5 : dc B12 5 (.iload_n 1) 1 := by decide +kernel
theorem d12_6 : dc B12 6 (.aload_n 3) 1 := by decide +kernel
theorem d12_7 : dc B12 7 (.iconst 0) 1 := by decide +kernel
theorem d12_8 : dc B12 8 (.iload_n 2) 1 := by decide +kernel
theorem d12_9 : dc B12 9 (.invokestatic 115) 3 := by decide +kernel
theorem wd_72 {a0 Z} (hw : HW a0 Z) : Bw a0 Z (.methodLink cs4 115 ⟨cs4, "compress", "([CI[BII)I"⟩) := hw _ (mx 72 rfl)
theorem wd_74 {a0 Z} (hw : HW a0 Z) : Bw a0 Z (.code ⟨cs4, "compress", "([CI[BII)I"⟩ jdk_52_method_21_code 7 (Option.some .int)) := hw _ (mx 74 rfl)
theorem wd_70 {a0 Z} (hw : HW a0 Z) : Bw a0 Z (.initialized cs4) := hw _ (mx 70 rfl)
theorem pd___CI_BII_I : parseMethodDescriptor "([CI[BII)I" = some ⟨[(.array .char), .int, (.array .byte), .int, .int], some .int⟩ := by decide +kernel
theorem wd_73 {a0 Z} (hw : HW a0 Z) : Bw a0 Z (.static ⟨cs4, "compress", "([CI[BII)I"⟩) := hw _ (mx 73 rfl)
theorem d12_12 : dc B12 12 (.istore 4) 2 := by decide +kernel
theorem d12_14 : dc B12 14 (.iload 4) 2 := by decide +kernel
theorem d12_16 : dc B12 16 (.iload_n 2) 1 := by decide +kernel
theorem d12_17 : dc B12 17 (.if_icmp .eq 40) 3 := by decide +kernel
theorem d12_57 : dc B12 57 (.aload_n 3) 1 := by decide +kernel
theorem d12_58 : dc B12 58 .areturn 1 := by decide +kernel
theorem ef_12 (m : MethodId) (x0 : Addr) (x1 : Int32) (x2 : Int32) : entryFrame m #[(.ref x0), (.int x1), (.int x2)] 6 = mkF m 0 #[.val (.ref x0), .val (.int x1), .val (.int x2), .unset, .unset, .unset] [] := by first | (simp [entryFrame, mkF, argsToLocals, Value.category]; done) | rfl
def Q_rmcp1 (Z : State) (a1 : Addr) (kc : ClassId) (c0 : Int32) (h0 : Heap) (n0 : Nat) (v : Option Value) (h : Heap) (L : List Loc) : Prop := ∃ b : Addr, ∃ kb : ClassId, v = some (.ref b) ∧ Fr n0 L ∧ Keep h0 h [] ∧ (h0.size ≤ b) ∧ (Arv Z h b kb .byte (1 : Int32) [(.int (nar .byte (c0.toInt8.toInt32)))] (.int 0))
set_option maxRecDepth 65536 in
set_option maxHeartbeats 40000000 in
abbrev y_12 : MethodName := ⟨cs4, "compress", "([CII)[B"⟩
theorem rmcp1 (l : Launch) (Z : State) (a0 : Array Value) (hw : HW a0 Z) (ws : List Jvm.Cond) (a1 : Addr) (kc : ClassId) (c0 : Int32) (h0 : Heap) (n0 : Nat) (Z0 : n0 ≤ h0.size) (V_a1 : Arv Z h0 a1 kc .char (1 : Int32) [(.int c0)] (.int 0)) (hp0 : ¬ ((255 : Int32) < c0)) :
    MF l y_12 (Jvm.Cond.code y_12 B12 6 (some (.array .byte)) :: ws) (⟨1, 1, 1, 18⟩ : Room) Z h0 #[(.ref a1), (.int 0), (.int 1)] (Q_rmcp1 Z a1 kc c0 h0 n0) := by
  refine MetFree.of_bodySF (plainFor_of_name pn_java_lang_StringUTF16) hisR ?_
  intro p e s m args below meth c s₁ Bd hml0 hP hK
  obtain ⟨rfl, hZ, hh⟩ := hP
  have hx := Bd.exec
  have hby := Bd.bytes
  have hml : c.maxLocals = 6 := hml0
  have hown : s.vm.findClass cs4 = some m.cls := findClass_of_methodNamed Bd.named
  have hnm := (name_of_methodNamed Bd.named Bd.method).1
  have X0 : Stand p l e (⟨1, 1, 1, 18⟩ : Room) s m #[(.ref a1), (.int 0), (.int 1)] below meth c s₁ [] 0 0 := Stand.of_body Bd
  have e0 : s₁.heap = h0 := by rw [← hh, Bd.state]; rfl
  have N0 := Fr.nil n0
  have pre0 : Goes p e below (s₁.setTop (entryFrame m #[(.ref a1), (.int 0), (.int 1)] 6)) (s₁.setTop (mkF m 0 #[vr a1, vi 0, vi 1, .unset, .unset, .unset] [])) := fun t k => castTop (ef_12 m a1 (0 : Int32) (1 : Int32)) k
  obtain ⟨T6, h6, k6, X6, e6, E6, A6, st6⟩ := newP (aty := .byte) X0 hx hZ (wd_23 hw) e0 (g := (mkF m 1 #[vr a1, vi 0, vi 1, .unset, .unset, .unset] [(.int 1)])) rfl (hb hby d12_1) rfl (by decide) (cap := 1) (by decide) (by decide) (by decide) (by decide)
  obtain ⟨b6, g6⟩ : ∃ z, z = h0.size := ⟨_, rfl⟩
  rw [← g6] at A6 st6
  have g_b6 : n0 ≤ b6 := Nat.le_trans Z0 (Nat.le_of_eq g6.symm)
  have sz_b6 : h0.size ≤ b6 := Nat.le_trans (And.left (Keep.refl h0 [])) (Nat.le_of_eq g6.symm)
  have Z7 := Nat.le_trans Z0 E6.1
  have K8 := Keep.ext (Keep.refl h0 []) E6
  have V0_b6 := (Arv.new A6 (by decide)).pad (pad_rep [] (.int 0) 1)
  have V_b6 : Arv Z h6 b6 k6 .byte (1 : Int32) [(.int 0)] (.int 0) := V0_b6
  have ne_a1_b6 : a1 ≠ b6 := Nat.ne_of_lt (Nat.lt_of_lt_of_le V_a1.lt sz_b6)
  obtain ⟨_, _, ⟨T9, L9, k9, n9⟩, -, X9, ⟨Lc9, hQ9, l9, y9, z9⟩, st9⟩ := Jvm.LawKit.callS X6 hx (y := y_13) hown (mvT hZ (wd_72 hw)) (mvT hZ (wd_73 hw)) (mvT hZ (wd_70 hw)) (mvT hZ (wd_74 hw)) (by decide) (backOf (W := 0) (rmcm1 l Z a0 hw [] a1 b6 kc k6 c0 h6 n0 Z7 (V_a1.keep K8 nin0) V_b6 g_b6 ne_a1_b6 hp0) hZ (wd_74 hw) (wd_70 hw) (by decide) (by decide)) (g := (mkF m 9 #[vr a1, vi 0, vi 1, vr b6, .unset, .unset] [(.int 1), (.int 0), (.ref b6), (.int 0), (.ref a1)])) rfl (by rw [hml]; rfl) (argsL := [(.ref a1), (.int 0), (.ref b6), (.int 0), (.int 1)]) (rest := []) (lenOf pd___CI_BII_I rfl) rfl (by show 2 * 0 + _ ≤ _; exact Nat.le_of_eq rfl) (hb hby d12_9) (fun _ _ => ⟨rfl, e6, (by decide : 1 + 0 ≤ _), (by decide : 1 + 0 ≤ _)⟩)
  dsimp only [Pt.U, Pt.locs, Pt.cells, Pt.slots] at X9 l9 y9 z9 st9 hQ9
  rw [l9, y9, z9] at X9
  obtain ⟨rfl, N9q, K9q, g9_0⟩ := hQ9
  have N9 := Fr.app N0 N9q
  have Z10 := Nat.le_trans Z7 K9q.1
  have K11 := Keep.trans K8 K9q (allS (Or.inr sz_b6) all0)
  obtain ⟨fs, hr, hrun, hended, hW, hsame⟩ := X9.leave (v := some (.ref b6)) (fun h => by rw [Bd.returns] at h; cases h)
  refine ⟨_, _, pre0 _ ?_, hrun, hended, _, _, rfl, ?_, ⟨_, rfl⟩, hW, hsame.mono (by decide) (by decide)⟩
  · show Steps p.tables e below (s₁.setTop (mkF m 0 #[vr a1, vi 0, vi 1, .unset, .unset, .unset] [])) _
    refine XS.iloadN X0.here hx rfl (hb hby d12_0) rfl ?_
    refine st6 _ ?_
    refine XS.astoreN X6.here hx rfl (hb hby d12_3) rfl rfl (l' := #[vr a1, vi 0, vi 1, vr b6, .unset, .unset]) rfl ?_
    refine XS.aloadN X6.here hx rfl (hb hby d12_4) rfl rfl ?_
    refine XS.iloadN X6.here hx rfl (hb hby d12_5) rfl ?_
    refine XS.aloadN X6.here hx rfl (hb hby d12_6) rfl rfl ?_
    refine XS.iconst X6.here hx rfl (hb hby d12_7) ?_
    refine XS.iloadN X6.here hx rfl (hb hby d12_8) rfl ?_
    refine st9 _ ?_
    refine XS.istore X9.here hx rfl (hb hby d12_12) rfl (l' := #[vr a1, vi 0, vi 1, vr b6, vi 1, .unset]) rfl ?_
    show Steps p.tables e below (T9.setTop (mkF m 14 #[vr a1, vi 0, vi 1, vr b6, vi 1, .unset] [])) _
    refine XS.iload X9.here hx rfl (hb hby d12_14) rfl ?_
    refine XS.iloadN X9.here hx rfl (hb hby d12_16) rfl ?_
    refine XS.icmpYes X9.here hx rfl (pc0 := 17) (pc' := 57) rfl (hb hby d12_17) rfl (teq (rfl : (1 : Int32) = (1 : Int32))).1 (by decide) (by decide) ?_
    refine XS.aloadN X9.here hx rfl (hb hby d12_57) rfl rfl ?_
    exact X9.areturnOut hx rfl Bd.returns rfl (hb hby d12_58) hr
  · show Q_rmcp1 Z _ _ _ h0 n0 _ T9.heap _
    exact ⟨b6, k6, rfl, N9, K11, sz_b6, g9_0⟩
abbrev B14 : ByteArray := jdk_52_method_15_code
theorem d14_0 : dc B14 0 (.iload_n 1) 1 := by decide +kernel
theorem d14_1 : dc B14 1 (.aload_n 0) 1 := by decide +kernel
theorem d14_2 : dc B14 2 .arraylength 1 := by decide +kernel
theorem d14_3 : dc B14 3 .isub 1 := by decide +kernel
theorem d14_4 : dc B14 4 (.bipush 31) 2 := by decide +kernel
theorem d14_6 : dc B14 6 .iushr 1 := by decide +kernel
theorem d14_7 : dc B14 7 .i2b 1 := by decide +kernel
theorem d14_8 : dc B14 8 .ireturn 1 := by decide +kernel
theorem ef_14 (m : MethodId) (x0 : Addr) (x1 : Int32) : entryFrame m #[(.ref x0), (.int x1)] 2 = mkF m 0 #[.val (.ref x0), .val (.int x1)] [] := by first | (simp [entryFrame, mkF, argsToLocals, Value.category]; done) | rfl
def Q_rmcl1 (Z : State) (a1 : Addr) (kb : ClassId) (x0 : Int32) (h0 : Heap) (n0 : Nat) (v : Option Value) (h : Heap) (L : List Loc) : Prop := v = some (.int 0) ∧ Fr n0 L ∧ h = h0
set_option maxRecDepth 65536 in
set_option maxHeartbeats 40000000 in
abbrev y_14 : MethodName := ⟨cs4, "coderFromArrayLen", "([BI)B"⟩
theorem rmcl1 (l : Launch) (Z : State) (a0 : Array Value) (hw : HW a0 Z) (ws : List Jvm.Cond) (a1 : Addr) (kb : ClassId) (x0 : Int32) (h0 : Heap) (n0 : Nat) (Z0 : n0 ≤ h0.size) (V_a1 : Arv Z h0 a1 kb .byte (1 : Int32) [(.int x0)] (.int 0)) :
    MF l y_14 (Jvm.Cond.code y_14 B14 2 (some .byte) :: ws) (⟨0, 0, 0, 0⟩ : Room) Z h0 #[(.ref a1), (.int 1)] (Q_rmcl1 Z a1 kb x0 h0 n0) := by
  refine MetFree.of_bodySF (plainFor_of_name pn_java_lang_StringUTF16) hisR ?_
  intro p e s m args below meth c s₁ Bd hml0 hP hK
  obtain ⟨rfl, hZ, hh⟩ := hP
  have hx := Bd.exec
  have hby := Bd.bytes
  have hml : c.maxLocals = 2 := hml0
  have hown : s.vm.findClass cs4 = some m.cls := findClass_of_methodNamed Bd.named
  have hnm := (name_of_methodNamed Bd.named Bd.method).1
  have X0 : Stand p l e (⟨0, 0, 0, 0⟩ : Room) s m #[(.ref a1), (.int 1)] below meth c s₁ [] 0 0 := Stand.of_body Bd
  have e0 : s₁.heap = h0 := by rw [← hh, Bd.state]; rfl
  have N0 := Fr.nil n0
  have pre0 : Goes p e below (s₁.setTop (entryFrame m #[(.ref a1), (.int 1)] 2)) (s₁.setTop (mkF m 0 #[vr a1, vi 1] [])) := fun t k => castTop (ef_14 m a1 (1 : Int32)) k
  obtain ⟨cl12, Ar12, q12, S12, N12n, H12, G12⟩ := id (V_a1)
  obtain ⟨fs, hr, hrun, hended, hW, hsame⟩ := X0.leave (v := some (.int 0)) (fun h => by rw [Bd.returns] at h; cases h)
  refine ⟨_, _, pre0 _ ?_, hrun, hended, _, _, rfl, ?_, ⟨_, rfl⟩, hW, hsame.mono (by decide) (by decide)⟩
  · show Steps p.tables e below (s₁.setTop (mkF m 0 #[vr a1, vi 1] [])) _
    refine XS.iloadN X0.here hx rfl (hb hby d14_0) rfl ?_
    refine XS.aloadN X0.here hx rfl (hb hby d14_1) rfl rfl ?_
    refine X0.arraylength hx (by rw [e0]; exact Ar12.1) (State.isArrayOf_alike hZ.alike Ar12.2.1) (g := (mkF m 2 #[vr a1, vi 1] [(.ref a1), (.int 1)])) rfl rfl (hb hby d14_2) _ ?_
    rw [len_of S12 N12n]
    refine XS.isub X0.here hx rfl (hb hby d14_3) rfl ?_
    refine XS.bipush X0.here hx rfl (hb hby d14_4) ?_
    refine XS.iushr X0.here hx rfl (hb hby d14_6) rfl ?_
    refine XS.i2b X0.here hx rfl (hb hby d14_7) rfl ?_
    show Steps p.tables e below (s₁.setTop (mkF m 8 #[vr a1, vi 1] [(.int 0)])) _
    exact retN X0 hx (t := .byte) Bd.returns (by simp) (hb hby d14_8) hr
  · show Q_rmcl1 Z _ _ _ h0 n0 _ s₁.heap _
    rw [e0]
    exact ⟨rfl, N0, rfl⟩
abbrev B4 : ByteArray := jdk_42_method_149_code
theorem d4_0 : dc B4 0 (.aload_n 0) 1 := by decide +kernel
theorem d4_1 : dc B4 1 (.invokespecial 1) 3 := by decide +kernel
theorem wd_19 {a0 Z} (hw : HW a0 Z) : Bw a0 Z (.methodLink cs1 1 ⟨"java/lang/Object", "<init>", "()V"⟩) := hw _ (mx 19 rfl)
theorem wd_20 {a0 Z} (hw : HW a0 Z) : Bw a0 Z (.instanceMethod ⟨"java/lang/Object", "<init>", "()V"⟩) := hw _ (mx 20 rfl)
theorem wd_21 {a0 Z} (hw : HW a0 Z) : Bw a0 Z (.code ⟨"java/lang/Object", "<init>", "()V"⟩ object_method_1_code 1 (Option.none : Option Jvm.ClassFile.FieldType)) := hw _ (mx 21 rfl)
theorem d4_4 : dc B4 4 (.iload_n 3) 1 := by decide +kernel
theorem d4_5 : dc B4 5 (.ifCond .ne 22) 3 := by decide +kernel
theorem d4_27 : dc B4 27 (.getstatic 38) 3 := by decide +kernel
theorem wd_59 {a0 Z} (hw : HW a0 Z) : Bw a0 Z (.fieldLink cs1 38 cs1 cs6 "Z") := hw _ (mx 59 rfl)
theorem d4_30 : dc B4 30 (.ifCond .eq 28) 3 := by decide +kernel
theorem d4_33 : dc B4 33 (.aload_n 1) 1 := by decide +kernel
theorem d4_34 : dc B4 34 (.iload_n 2) 1 := by decide +kernel
theorem d4_35 : dc B4 35 (.iload_n 3) 1 := by decide +kernel
theorem d4_36 : dc B4 36 (.invokestatic 177) 3 := by decide +kernel
theorem wd_68 {a0 Z} (hw : HW a0 Z) : Bw a0 Z (.methodLink cs1 177 ⟨cs4, "compress", "([CII)[B"⟩) := hw _ (mx 68 rfl)
theorem wd_71 {a0 Z} (hw : HW a0 Z) : Bw a0 Z (.code ⟨cs4, "compress", "([CII)[B"⟩ jdk_52_method_16_code 6 (Option.some (.array .byte))) := hw _ (mx 71 rfl)
theorem pd___CII__B : parseMethodDescriptor "([CII)[B" = some ⟨[(.array .char), .int, .int], some (.array .byte)⟩ := by decide +kernel
theorem wd_69 {a0 Z} (hw : HW a0 Z) : Bw a0 Z (.static ⟨cs4, "compress", "([CII)[B"⟩) := hw _ (mx 69 rfl)
theorem d4_39 : dc B4 39 (.astore 5) 2 := by decide +kernel
theorem d4_41 : dc B4 41 (.aload_n 0) 1 := by decide +kernel
theorem d4_42 : dc B4 42 (.aload 5) 2 := by decide +kernel
theorem d4_44 : dc B4 44 (.iload_n 3) 1 := by decide +kernel
theorem d4_45 : dc B4 45 (.invokestatic 47) 3 := by decide +kernel
theorem wd_75 {a0 Z} (hw : HW a0 Z) : Bw a0 Z (.methodLink cs1 47 ⟨cs4, "coderFromArrayLen", "([BI)B"⟩) := hw _ (mx 75 rfl)
theorem wd_77 {a0 Z} (hw : HW a0 Z) : Bw a0 Z (.code ⟨cs4, "coderFromArrayLen", "([BI)B"⟩ jdk_52_method_15_code 2 (Option.some .byte)) := hw _ (mx 77 rfl)
theorem pd___BI_B : parseMethodDescriptor "([BI)B" = some ⟨[(.array .byte), .int], some .byte⟩ := by decide +kernel
theorem wd_76 {a0 Z} (hw : HW a0 Z) : Bw a0 Z (.static ⟨cs4, "coderFromArrayLen", "([BI)B"⟩) := hw _ (mx 76 rfl)
theorem d4_48 : dc B4 48 (.putfield 15) 3 := by decide +kernel
theorem wd_29 {a0 Z} (hw : HW a0 Z) : Bw a0 Z (.fieldLink cs1 15 cs1 "coder" "B") := hw _ (mx 29 rfl)
theorem d4_51 : dc B4 51 (.aload_n 0) 1 := by decide +kernel
theorem d4_52 : dc B4 52 (.aload 5) 2 := by decide +kernel
theorem d4_54 : dc B4 54 (.putfield 9) 3 := by decide +kernel
theorem wd_28 {a0 Z} (hw : HW a0 Z) : Bw a0 Z (.fieldLink cs1 9 cs1 "value" "[B") := hw _ (mx 28 rfl)
theorem d4_57 : dc B4 57 .return_ 1 := by decide +kernel
theorem efn_4 (m : MethodId) (x0 : Addr) (x1 : Addr) (x2 : Int32) (x3 : Int32) : entryFrame m #[(.ref x0), (.ref x1), (.int x2), (.int x3), .null] 6 = mkF m 0 #[.val (.ref x0), .val (.ref x1), .val (.int x2), .val (.int x3), .val .null, .unset] [] := by first | (simp [entryFrame, mkF, argsToLocals, Value.category]; done) | rfl
theorem pn_java_lang_String : plainName cs1 = true := by first | (simp [plainName, overriddenIn]; done) | decide +kernel
def Q_rmi4_1 (Z : State) (a1 : Addr) (a2 : Addr) (u1 : Value) (u2 : Value) (kc : ClassId) (wz : Int32) (c0 : Int32) (h0 : Heap) (n0 : Nat) (v : Option Value) (h : Heap) (L : List Loc) : Prop := ∃ b : Addr, ∃ kb : ClassId, v = none ∧ Fr n0 L ∧ Keep h0 h [a1] ∧ (h0.size ≤ b) ∧ (Fld Z h a1 cs1 "value" "[B" (.ref b)) ∧ (Fld Z h a1 cs1 "coder" "B" (.int 0)) ∧ (Arv Z h b kb .byte (1 : Int32) [(.int (nar .byte (c0.toInt8.toInt32)))] (.int 0))
set_option maxRecDepth 65536 in
set_option maxHeartbeats 40000000 in
abbrev y_4 : MethodName := ⟨cs1, "<init>", "([CIILjava/lang/Void;)V"⟩
theorem rmi4_1 (l : Launch) (Z : State) (a0 : Array Value) (hw : HW a0 Z) (ws : List Jvm.Cond) (a1 : Addr) (a2 : Addr) (u1 : Value) (u2 : Value) (kc : ClassId) (wz : Int32) (c0 : Int32) (h0 : Heap) (n0 : Nat) (Z0 : n0 ≤ h0.size) (F_value_a1 : Fld Z h0 a1 cs1 "value" "[B" u1) (F_coder_a1 : Fld Z h0 a1 cs1 "coder" "B" u2) (E_a1 : Exa Z h0 a1 cs1) (g_a1 : n0 ≤ a1) (V_a2 : Arv Z h0 a2 kc .char (1 : Int32) [(.int c0)] (.int 0)) (hp0 : ¬ ((255 : Int32) < c0)) (Old0 : Old Z n0 h0) (S_COMPACT_STRINGS : Sta Z Z.heap cs1 cs6 "Z" (.int wz)) (hz : ¬ (wz = (0 : Int32))) :
    MF l y_4 (Jvm.Cond.code y_4 B4 6 none :: ws) (⟨2, 1, 1, 35⟩ : Room) Z h0 #[(.ref a1), (.ref a2), (.int 0), (.int 1), .null] (Q_rmi4_1 Z a1 a2 u1 u2 kc wz c0 h0 n0) := by
  refine MetFree.of_bodySF (plainFor_of_name pn_java_lang_String) hisR ?_
  intro p e s m args below meth c s₁ Bd hml0 hP hK
  obtain ⟨rfl, hZ, hh⟩ := hP
  have hx := Bd.exec
  have hby := Bd.bytes
  have hml : c.maxLocals = 6 := hml0
  have hown : s.vm.findClass cs1 = some m.cls := findClass_of_methodNamed Bd.named
  have hnm := (name_of_methodNamed Bd.named Bd.method).1
  have X0 : Stand p l e (⟨2, 1, 1, 35⟩ : Room) s m #[(.ref a1), (.ref a2), (.int 0), (.int 1), .null] below meth c s₁ [] 0 0 := Stand.of_body Bd
  have e0 : s₁.heap = h0 := by rw [← hh, Bd.state]; rfl
  have N0 := Fr.nil n0
  have pre0 : Goes p e below (s₁.setTop (entryFrame m #[(.ref a1), (.ref a2), (.int 0), (.int 1), .null] 6)) (s₁.setTop (mkF m 0 #[vr a1, vr a2, vi 0, vi 1, .val .null, .unset] [])) := fun t k => castTop (efn_4 m a1 a2 (0 : Int32) (1 : Int32)) k
  obtain ⟨T13, X13, e13, st13⟩ := initO X0 hx hZ hown (wd_19 hw) (wd_20 hw) (wd_21 hw) e0 (g := (mkF m 1 #[vr a1, vr a2, vi 0, vi 1, .val .null, .unset] [(.ref a1)])) rfl (by rw [hml]; rfl) rfl (hb hby d4_1) (by decide) (W := 0) (by show 2 * 0 + _ ≤ _; exact Nat.le_of_eq rfl) (by decide)
  obtain ⟨T14, X14, e14, st14⟩ := getS2 X13 hx hZ hown (host := "") (Or.inl (wd_59 hw)) Via.refl e13 (S_COMPACT_STRINGS.ext (Old0).2) (g := (mkF m 27 #[vr a1, vr a2, vi 0, vi 1, .val .null, .unset] [])) rfl (hb hby d4_27)
  obtain ⟨_, _, ⟨T15, L15, k15, n15⟩, -, X15, ⟨Lc15, hQ15, l15, y15, z15⟩, st15⟩ := Jvm.LawKit.callS X14 hx (y := y_12) hown (mvT hZ (wd_68 hw)) (mvT hZ (wd_69 hw)) (mvT hZ (wd_70 hw)) (mvT hZ (wd_71 hw)) (by decide) (backOf (W := 0) (rmcp1 l Z a0 hw [] a2 kc c0 h0 n0 Z0 V_a2 hp0) hZ (wd_71 hw) (wd_70 hw) (by decide) (by decide)) (g := (mkF m 36 #[vr a1, vr a2, vi 0, vi 1, .val .null, .unset] [(.int 1), (.int 0), (.ref a2)])) rfl (by rw [hml]; rfl) (argsL := [(.ref a2), (.int 0), (.int 1)]) (rest := []) (lenOf pd___CII__B rfl) rfl (by show 2 * 0 + _ ≤ _; exact Nat.le_of_eq rfl) (hb hby d4_36) (fun _ _ => ⟨rfl, e14, (by decide : 0 + 1 ≤ _), (by decide : 0 + 1 ≤ _)⟩)
  dsimp only [Pt.U, Pt.locs, Pt.cells, Pt.slots] at X15 l15 y15 z15 st15 hQ15
  rw [l15, y15, z15] at X15
  obtain ⟨b_15, kb_15, rfl, N15q, K15q, g15_0, g15_1⟩ := hQ15
  have N15 := Fr.app N0 N15q
  have Z16 := Nat.le_trans Z0 K15q.1
  have K17 := Keep.trans (Keep.refl h0 [a1]) K15q all0
  have g18 : n0 ≤ b_15 := Nat.le_trans Z0 g15_0
  have sz19 : h0.size ≤ b_15 := Nat.le_trans (And.left (Keep.refl h0 [a1])) g15_0
  obtain ⟨_, _, ⟨T20, L20, k20, n20⟩, -, X20, ⟨Lc20, hQ20, l20, y20, z20⟩, st20⟩ := Jvm.LawKit.callS X15 hx (y := y_14) hown (mvT hZ (wd_75 hw)) (mvT hZ (wd_76 hw)) (mvT hZ (wd_70 hw)) (mvT hZ (wd_77 hw)) (by decide) (backOf (W := 1) (rmcl1 l Z a0 hw [] b_15 kb_15 (nar .byte (c0.toInt8.toInt32)) T15.heap n0 Z16 g15_1) hZ (wd_77 hw) (wd_70 hw) (by decide) (by decide)) (g := (mkF m 45 #[vr a1, vr a2, vi 0, vi 1, .val .null, vr b_15] [(.int 1), (.ref b_15), (.ref a1)])) rfl (by rw [hml]; rfl) (argsL := [(.ref b_15), (.int 1)]) (rest := [(.ref a1)]) (lenOf pd___BI_B rfl) rfl (by show 2 * 0 + _ ≤ _; exact Nat.le_of_eq rfl) (hb hby d4_45) (fun _ _ => ⟨rfl, rfl, (by decide : 1 + 0 ≤ _), (by decide : 1 + 0 ≤ _)⟩)
  dsimp only [Pt.U, Pt.locs, Pt.cells, Pt.slots] at X20 l20 y20 z20 st20 hQ20
  rw [l20, y20, z20] at X20
  obtain ⟨rfl, N20q, e20⟩ := hQ20
  have N20 := Fr.app N15 N20q
  obtain ⟨T21, h21, X21, e21, W21, st21⟩ := putFN X20 hx hZ hown (wd_29 hw) Via.refl e20 (F_coder_a1.keep K15q nin0) (E_a1.keep K17) (Or.inr ⟨(wd_25 hw), rfl, hnm⟩) (wd_10 hw) (ty := .byte) (v' := (.int 0)) (by decide) rfl rfl (g := (mkF m 48 #[vr a1, vr a2, vi 0, vi 1, .val .null, vr b_15] [(.int 0), (.ref a1)])) rfl rfl (hb hby d4_48)
  have Fw21 := (F_coder_a1.keep K15q nin0).same W21
  have Z22 := Nat.le_trans Z16 (Keep.of_wr W21).1
  have K23 := Keep.wr K17 W21 (Or.inl (List.mem_of_getElem? (i := 0) rfl))
  have N21 := Fr.snoc X21 N20 g_a1
  obtain ⟨T24, h24, X24, e24, W24, st24⟩ := putF X21 hx hZ hown (host := "") (Or.inl (wd_28 hw)) Via.refl e21 ((F_value_a1.keep K15q nin0).other W21 (Or.inr (slot_ne (Or.inr (wd_24 hw)) (Or.inr (wd_25 hw)) (by decide) (t := (.array .byte)) (t' := .byte) (by decide) (by decide)))) (E_a1.keep K23) (Or.inr ⟨(wd_24 hw), rfl, hnm⟩) (wd_10 hw) (ty := (.array .byte)) (by decide) rfl rfl (g := (mkF m 54 #[vr a1, vr a2, vi 0, vi 1, .val .null, vr b_15] [(.ref b_15), (.ref a1)])) rfl rfl (hb hby d4_54)
  have Fw24 := ((F_value_a1.keep K15q nin0).other W21 (Or.inr (slot_ne (Or.inr (wd_24 hw)) (Or.inr (wd_25 hw)) (by decide) (t := (.array .byte)) (t' := .byte) (by decide) (by decide)))).same W24
  have Z25 := Nat.le_trans Z22 (Keep.of_wr W24).1
  have K26 := Keep.wr K23 W24 (Or.inl (List.mem_of_getElem? (i := 0) rfl))
  have N24 := Fr.snoc X24 N21 g_a1
  obtain ⟨fs, hr, hrun, hended, hW, hsame⟩ := X24.leave (v := none) (fun _ => rfl)
  refine ⟨_, _, pre0 _ ?_, hrun, hended, _, _, rfl, ?_, ⟨_, rfl⟩, hW, hsame.mono (by decide) (by decide)⟩
  · show Steps p.tables e below (s₁.setTop (mkF m 0 #[vr a1, vr a2, vi 0, vi 1, .val .null, .unset] [])) _
    refine XS.aloadN X0.here hx rfl (hb hby d4_0) rfl rfl ?_
    refine st13 _ ?_
    refine XS.iloadN X13.here hx rfl (hb hby d4_4) rfl ?_
    refine XS.ifYes X13.here hx rfl (pc0 := 5) (pc' := 27) rfl (hb hby d4_5) rfl ((if0 _ _).trans (feq (by decide)).2) (by decide) (by decide) ?_
    refine st14 _ ?_
    refine XS.ifNo X14.here hx rfl (hb hby d4_30) rfl ((if0 _ _).trans (feq hz).1) ?_
    refine XS.aloadN X14.here hx rfl (hb hby d4_33) rfl rfl ?_
    refine XS.iloadN X14.here hx rfl (hb hby d4_34) rfl ?_
    refine XS.iloadN X14.here hx rfl (hb hby d4_35) rfl ?_
    refine st15 _ ?_
    show Steps p.tables e below (T15.setTop (mkF m 39 #[vr a1, vr a2, vi 0, vi 1, .val .null, .unset] [(.ref b_15)])) _
    refine XS.astore X15.here hx rfl (hb hby d4_39) rfl rfl (l' := #[vr a1, vr a2, vi 0, vi 1, .val .null, vr b_15]) rfl ?_
    refine XS.aloadN X15.here hx rfl (hb hby d4_41) rfl rfl ?_
    refine XS.aload X15.here hx rfl (hb hby d4_42) rfl rfl ?_
    refine XS.iloadN X15.here hx rfl (hb hby d4_44) rfl ?_
    refine st20 _ ?_
    refine st21 _ ?_
    refine XS.aloadN X21.here hx rfl (hb hby d4_51) rfl rfl ?_
    refine XS.aload X21.here hx rfl (hb hby d4_52) rfl rfl ?_
    refine st24 _ ?_
    exact X24.returnOut hx Bd.returns (hb hby d4_57) hr
  · show Q_rmi4_1 Z _ _ _ _ _ _ _ h0 n0 _ T24.heap _
    rw [e24]
    have KP27 : Keep _ _ [a1, a1] := own_ktr (Keep.of_wr W21) (Keep.of_wr W24)
    have ne_a1_b_15 : a1 ≠ b_15 := Nat.ne_of_lt (Nat.lt_of_lt_of_le F_value_a1.lt sz19)
    have ni28 := (ninS (Ne.symm ne_a1_b_15) (ninS (Ne.symm ne_a1_b_15) nin0))
    exact ⟨b_15, kb_15, rfl, N24, K26, sz19, Fw24, (Fw21.other W24 (Or.inr (slot_ne (Or.inr (wd_25 hw)) (Or.inr (wd_24 hw)) (by decide) (t := .byte) (t' := (.array .byte)) (by decide) (by decide)))), (g15_1.keep KP27 ni28)⟩
abbrev B3 : ByteArray := jdk_42_method_3_code
theorem d3_0 : dc B3 0 (.aload_n 0) 1 := by decide +kernel
theorem d3_1 : dc B3 1 (.aload_n 1) 1 := by decide +kernel
theorem d3_2 : dc B3 2 (.iconst 0) 1 := by decide +kernel
theorem d3_3 : dc B3 3 (.aload_n 1) 1 := by decide +kernel
theorem d3_4 : dc B3 4 .arraylength 1 := by decide +kernel
theorem d3_5 : dc B3 5 .aconst_null 1 := by decide +kernel
theorem d3_6 : dc B3 6 (.invokespecial 27) 3 := by decide +kernel
theorem wd_15 {a0 Z} (hw : HW a0 Z) : Bw a0 Z (.methodLink cs1 27 ⟨cs1, "<init>", "([CIILjava/lang/Void;)V"⟩) := hw _ (mx 15 rfl)
theorem wd_18 {a0 Z} (hw : HW a0 Z) : Bw a0 Z (.code ⟨cs1, "<init>", "([CIILjava/lang/Void;)V"⟩ jdk_42_method_149_code 6 (Option.none : Option Jvm.ClassFile.FieldType)) := hw _ (mx 18 rfl)
theorem pd___CIILjava_lang_Void__V : parseMethodDescriptor "([CIILjava/lang/Void;)V" = some ⟨[(.array .char), .int, .int, (.object "java/lang/Void")], none⟩ := by decide +kernel
theorem wd_16 {a0 Z} (hw : HW a0 Z) : Bw a0 Z (.instanceMethod ⟨cs1, "<init>", "([CIILjava/lang/Void;)V"⟩) := hw _ (mx 16 rfl)
theorem d3_9 : dc B3 9 .return_ 1 := by decide +kernel
theorem ef_3 (m : MethodId) (x0 : Addr) (x1 : Addr) : entryFrame m #[(.ref x0), (.ref x1)] 2 = mkF m 0 #[.val (.ref x0), .val (.ref x1)] [] := by first | (simp [entryFrame, mkF, argsToLocals, Value.category]; done) | rfl
def Q_rmi1_1 (Z : State) (a1 : Addr) (a2 : Addr) (u1 : Value) (u2 : Value) (kc : ClassId) (wz : Int32) (c0 : Int32) (h0 : Heap) (n0 : Nat) (v : Option Value) (h : Heap) (L : List Loc) : Prop := ∃ b : Addr, ∃ kb : ClassId, v = none ∧ Fr n0 L ∧ Keep h0 h [a1] ∧ (h0.size ≤ b) ∧ (Fld Z h a1 cs1 "value" "[B" (.ref b)) ∧ (Fld Z h a1 cs1 "coder" "B" (.int 0)) ∧ (Arv Z h b kb .byte (1 : Int32) [(.int (nar .byte (c0.toInt8.toInt32)))] (.int 0))
set_option maxRecDepth 65536 in
set_option maxHeartbeats 40000000 in
abbrev y_3 : MethodName := ⟨cs1, "<init>", "([C)V"⟩
theorem rmi1_1 (l : Launch) (Z : State) (a0 : Array Value) (hw : HW a0 Z) (ws : List Jvm.Cond) (a1 : Addr) (a2 : Addr) (u1 : Value) (u2 : Value) (kc : ClassId) (wz : Int32) (c0 : Int32) (h0 : Heap) (n0 : Nat) (Z0 : n0 ≤ h0.size) (F_value_a1 : Fld Z h0 a1 cs1 "value" "[B" u1) (F_coder_a1 : Fld Z h0 a1 cs1 "coder" "B" u2) (E_a1 : Exa Z h0 a1 cs1) (g_a1 : n0 ≤ a1) (V_a2 : Arv Z h0 a2 kc .char (1 : Int32) [(.int c0)] (.int 0)) (hp0 : ¬ ((255 : Int32) < c0)) (Old0 : Old Z n0 h0) (S_COMPACT_STRINGS : Sta Z Z.heap cs1 cs6 "Z" (.int wz)) (hz : ¬ (wz = (0 : Int32))) :
    MF l y_3 (Jvm.Cond.code y_3 B3 2 none :: ws) (⟨3, 1, 1, 52⟩ : Room) Z h0 #[(.ref a1), (.ref a2)] (Q_rmi1_1 Z a1 a2 u1 u2 kc wz c0 h0 n0) := by
  refine MetFree.of_bodySF (plainFor_of_name pn_java_lang_String) hisR ?_
  intro p e s m args below meth c s₁ Bd hml0 hP hK
  obtain ⟨rfl, hZ, hh⟩ := hP
  have hx := Bd.exec
  have hby := Bd.bytes
  have hml : c.maxLocals = 2 := hml0
  have hown : s.vm.findClass cs1 = some m.cls := findClass_of_methodNamed Bd.named
  have hnm := (name_of_methodNamed Bd.named Bd.method).1
  have X0 : Stand p l e (⟨3, 1, 1, 52⟩ : Room) s m #[(.ref a1), (.ref a2)] below meth c s₁ [] 0 0 := Stand.of_body Bd
  have e0 : s₁.heap = h0 := by rw [← hh, Bd.state]; rfl
  have N0 := Fr.nil n0
  have pre0 : Goes p e below (s₁.setTop (entryFrame m #[(.ref a1), (.ref a2)] 2)) (s₁.setTop (mkF m 0 #[vr a1, vr a2] [])) := fun t k => castTop (ef_3 m a1 a2) k
  obtain ⟨cl29, Ar29, q29, S29, N29n, H29, G29⟩ := id (V_a2)
  obtain ⟨_, T30, L30, X30, hQ30, st30⟩ := cN X0 hx hZ hown (wd_15 hw) (wd_16 hw) rfl (by decide) 0 (rmi4_1 l Z a0 hw [] a1 a2 u1 u2 kc wz c0 h0 n0 Z0 F_value_a1 F_coder_a1 E_a1 g_a1 V_a2 hp0 Old0 S_COMPACT_STRINGS hz) (wd_18 hw) (wd_11 hw) (by decide) (by decide) e0 a1 hml (Ls := #[vr a1, vr a2]) rfl (argsL := [(.ref a2), (.int 0), (.int 1), .null]) (rest := []) (lenOf pd___CIILjava_lang_Void__V rfl) (St := [.null, (.int 1), (.int 0), (.ref a2), (.ref a1)]) rfl rfl (hb hby d3_6) rfl (by decide) (by decide)
  obtain ⟨b_30, kb_30, rfl, N30q, K30q, g30_0, g30_1, g30_2, g30_3⟩ := hQ30
  have N30 := Fr.app N0 N30q
  have Z31 := Nat.le_trans Z0 K30q.1
  have K32 := Keep.trans (Keep.refl h0 [a1]) K30q (allS (Or.inl (List.mem_of_getElem? (i := 0) rfl)) all0)
  have g33 : n0 ≤ b_30 := Nat.le_trans Z0 g30_0
  have sz34 : h0.size ≤ b_30 := Nat.le_trans (And.left (Keep.refl h0 [a1])) g30_0
  obtain ⟨fs, hr, hrun, hended, hW, hsame⟩ := X30.leave (v := none) (fun _ => rfl)
  refine ⟨_, _, pre0 _ ?_, hrun, hended, _, _, rfl, ?_, ⟨_, rfl⟩, hW, hsame.mono (by decide) (by decide)⟩
  · show Steps p.tables e below (s₁.setTop (mkF m 0 #[vr a1, vr a2] [])) _
    refine XS.aloadN X0.here hx rfl (hb hby d3_0) rfl rfl ?_
    refine XS.aloadN X0.here hx rfl (hb hby d3_1) rfl rfl ?_
    refine XS.iconst X0.here hx rfl (hb hby d3_2) ?_
    refine XS.aloadN X0.here hx rfl (hb hby d3_3) rfl rfl ?_
    refine X0.arraylength hx (by rw [e0]; exact Ar29.1) (State.isArrayOf_alike hZ.alike Ar29.2.1) (g := (mkF m 4 #[vr a1, vr a2] [(.ref a2), (.int 0), (.ref a2), (.ref a1)])) rfl rfl (hb hby d3_4) _ ?_
    rw [len_of S29 N29n]
    refine XS.aconstNull X0.here hx rfl (hb hby d3_5) ?_
    refine st30.trans ?_
    exact X30.returnOut hx Bd.returns (hb hby d3_9) hr
  · show Q_rmi1_1 Z _ _ _ _ _ _ _ h0 n0 _ T30.heap _
    exact ⟨b_30, kb_30, rfl, N30, K32, sz34, g30_1, g30_2, g30_3⟩
def Q_rmcm2 (Z : State) (a1 : Addr) (a3 : Addr) (kc : ClassId) (kb : ClassId) (c0 : Int32) (c1 : Int32) (h0 : Heap) (n0 : Nat) (v : Option Value) (h : Heap) (L : List Loc) : Prop := v = some (.int 2) ∧ Fr n0 L ∧ Keep h0 h [a3] ∧ (Arv Z h a3 kb .byte (2 : Int32) [(.int (nar .byte (c0.toInt8.toInt32))), (.int (nar .byte (c1.toInt8.toInt32)))] (.int 0))
set_option maxRecDepth 65536 in
set_option maxHeartbeats 40000000 in
theorem rmcm2 (l : Launch) (Z : State) (a0 : Array Value) (hw : HW a0 Z) (ws : List Jvm.Cond) (a1 : Addr) (a3 : Addr) (kc : ClassId) (kb : ClassId) (c0 : Int32) (c1 : Int32) (h0 : Heap) (n0 : Nat) (Z0 : n0 ≤ h0.size) (V_a1 : Arv Z h0 a1 kc .char (2 : Int32) [(.int c0), (.int c1)] (.int 0)) (V_a3 : Arv Z h0 a3 kb .byte (2 : Int32) [(.int 0), (.int 0)] (.int 0)) (g_a3 : n0 ≤ a3) (ne_a1_a3 : a1 ≠ a3) (hp0 : ¬ ((255 : Int32) < c0)) (hp1 : ¬ ((255 : Int32) < c1)) :
    MF l y_13 (Jvm.Cond.code y_13 B13 7 (some .int) :: ws) (⟨0, 0, 0, 0⟩ : Room) Z h0 #[(.ref a1), (.int 0), (.ref a3), (.int 0), (.int 2)] (Q_rmcm2 Z a1 a3 kc kb c0 c1 h0 n0) := by
  refine MetFree.of_bodySF (plainFor_of_name pn_java_lang_StringUTF16) hisR ?_
  intro p e s m args below meth c s₁ Bd hml0 hP hK
  obtain ⟨rfl, hZ, hh⟩ := hP
  have hx := Bd.exec
  have hby := Bd.bytes
  have hml : c.maxLocals = 7 := hml0
  have hown : s.vm.findClass cs4 = some m.cls := findClass_of_methodNamed Bd.named
  have hnm := (name_of_methodNamed Bd.named Bd.method).1
  have X0 : Stand p l e (⟨0, 0, 0, 0⟩ : Room) s m #[(.ref a1), (.int 0), (.ref a3), (.int 0), (.int 2)] below meth c s₁ [] 0 0 := Stand.of_body Bd
  have e0 : s₁.heap = h0 := by rw [← hh, Bd.state]; rfl
  have N0 := Fr.nil n0
  have pre0 : Goes p e below (s₁.setTop (entryFrame m #[(.ref a1), (.int 0), (.ref a3), (.int 0), (.int 2)] 7)) (s₁.setTop (mkF m 0 #[vr a1, vi 0, vr a3, vi 0, vi 2, .unset, .unset] [])) := fun t k => castTop (ef_13 m a1 (0 : Int32) a3 (0 : Int32) (2 : Int32)) k
  obtain ⟨cl35, Ar35, q35, S35, N35n, H35, G35⟩ := id (V_a1)
  have hin35 : ¬ ((0 : Int32) < 0 ∨ cl35.slots.size ≤ ((0 : Int32)).toNatClampNeg) := inb_of S35 ⟨by decide, by decide⟩
  have hat35 : cl35.slots[((0 : Int32)).toNatClampNeg]? = some (.int c0) := H35.at hin35 rfl
  obtain ⟨cl36, Ar36, q36, S36, N36n, H36, G36⟩ := id (V_a3)
  have hin36 : ¬ ((0 : Int32) < 0 ∨ cl36.slots.size ≤ ((0 : Int32)).toNatClampNeg) := inb_of S36 ⟨by decide, by decide⟩
  obtain ⟨T37, h37, X37, e37, W37, st37⟩ := stB X0 hx hZ e0 Ar36 (j := (0 : Int32)) hin36 (g := (mkF m 31 #[vr a1, vi 0, vr a3, vi 0, vi 2, vi 0, vi c0] [(.int (c0.toInt8.toInt32)), (.int 0), (.ref a3)])) rfl rfl (hb hby d13_31)
  have V_a3_37 : Arv Z h37 a3 kb .byte (2 : Int32) [(.int (nar .byte (c0.toInt8.toInt32))), (.int 0)] (.int 0) := Arv.set Ar36 q36 S36 N36n H36 G36 (fits_nar_byte _) W37 0 rfl (Nat.le_of_ble_eq_true rfl)
  have Z38 := Nat.le_trans Z0 (Keep.of_wr W37).1
  have K39 := Keep.wr (Keep.refl h0 [a3]) W37 (Or.inl (List.mem_of_getElem? (i := 0) rfl))
  have N37 := Fr.snoc X37 N0 g_a3
  obtain ⟨cl40, Ar40, q40, S40, N40n, H40, G40⟩ := id ((V_a1.keep K39 (ninS ne_a1_a3 nin0)))
  have hin40 : ¬ ((1 : Int32) < 0 ∨ cl40.slots.size ≤ ((1 : Int32)).toNatClampNeg) := inb_of S40 ⟨by decide, by decide⟩
  have hat40 : cl40.slots[((1 : Int32)).toNatClampNeg]? = some (.int c1) := H40.at hin40 rfl
  obtain ⟨cl41, Ar41, q41, S41, N41n, H41, G41⟩ := id (V_a3_37)
  have hin41 : ¬ ((1 : Int32) < 0 ∨ cl41.slots.size ≤ ((1 : Int32)).toNatClampNeg) := inb_of S41 ⟨by decide, by decide⟩
  obtain ⟨T42, h42, X42, e42, W42, st42⟩ := stB X37 hx hZ e37 Ar41 (j := (1 : Int32)) hin41 (g := (mkF m 31 #[vr a1, vi 1, vr a3, vi 1, vi 2, vi 1, vi c1] [(.int (c1.toInt8.toInt32)), (.int 1), (.ref a3)])) rfl rfl (hb hby d13_31)
  have V_a3_42 : Arv Z h42 a3 kb .byte (2 : Int32) [(.int (nar .byte (c0.toInt8.toInt32))), (.int (nar .byte (c1.toInt8.toInt32)))] (.int 0) := Arv.set Ar41 q41 S41 N41n H41 G41 (fits_nar_byte _) W42 1 rfl (Nat.le_of_ble_eq_true rfl)
  have Z43 := Nat.le_trans Z38 (Keep.of_wr W42).1
  have K44 := Keep.wr K39 W42 (Or.inl (List.mem_of_getElem? (i := 0) rfl))
  have N42 := Fr.snoc X42 N37 g_a3
  obtain ⟨fs, hr, hrun, hended, hW, hsame⟩ := X42.leave (v := some (.int 2)) (fun h => by rw [Bd.returns] at h; cases h)
  refine ⟨_, _, pre0 _ ?_, hrun, hended, _, _, rfl, ?_, ⟨_, rfl⟩, hW, hsame.mono (by decide) (by decide)⟩
  · show Steps p.tables e below (s₁.setTop (mkF m 0 #[vr a1, vi 0, vr a3, vi 0, vi 2, .unset, .unset] [])) _
    refine XS.iconst X0.here hx rfl (hb hby d13_0) ?_
    refine XS.istore X0.here hx rfl (hb hby d13_1) rfl (l' := #[vr a1, vi 0, vr a3, vi 0, vi 2, vi 0, .unset]) rfl ?_
    refine XS.iload X0.here hx rfl (hb hby d13_3) rfl ?_
    refine XS.iload X0.here hx rfl (hb hby d13_5) rfl ?_
    refine XS.icmpNo X0.here hx rfl (hb hby d13_7) rfl (tlt (by decide)).2.1 ?_
    refine XS.aloadN X0.here hx rfl (hb hby d13_10) rfl rfl ?_
    refine XS.iloadN X0.here hx rfl (hb hby d13_11) rfl ?_
    refine X0.caload hx (j := (0 : Int32)) (v := (.int c0)) (by rw [e0]; exact Ar35.1) (State.isArrayOf_alike hZ.alike Ar35.2.1) Ar35.2.2 hin35 hat35 (g := (mkF m 12 #[vr a1, vi 0, vr a3, vi 0, vi 2, vi 0, .unset] [(.int 0), (.ref a1)])) rfl rfl (hb hby d13_12) _ ?_
    refine XS.istore X0.here hx rfl (hb hby d13_13) rfl (l' := #[vr a1, vi 0, vr a3, vi 0, vi 2, vi 0, vi c0]) rfl ?_
    refine XS.iload X0.here hx rfl (hb hby d13_15) rfl ?_
    show Steps p.tables e below (s₁.setTop (mkF m 17 #[vr a1, vi 0, vr a3, vi 0, vi 2, vi 0, vi c0] [(.int c0)])) _
    refine XS.sipush X0.here hx rfl (hb hby d13_17) ?_
    refine XS.icmpYes X0.here hx rfl (pc0 := 20) (pc' := 26) rfl (hb hby d13_20) rfl (flt hp0).2.2.2 (by decide) (by decide) ?_
    refine XS.aloadN X0.here hx rfl (hb hby d13_26) rfl rfl ?_
    refine XS.iloadN X0.here hx rfl (hb hby d13_27) rfl ?_
    refine XS.iload X0.here hx rfl (hb hby d13_28) rfl ?_
    refine XS.i2b X0.here hx rfl (hb hby d13_30) rfl ?_
    refine st37 _ ?_
    refine XS.iinc X37.here hx rfl (hb hby d13_32) rfl (l' := #[vr a1, vi 1, vr a3, vi 0, vi 2, vi 0, vi c0]) rfl ?_
    refine XS.iinc X37.here hx rfl (hb hby d13_35) rfl (l' := #[vr a1, vi 1, vr a3, vi 1, vi 2, vi 0, vi c0]) rfl ?_
    refine XS.iinc X37.here hx rfl (hb hby d13_38) rfl (l' := #[vr a1, vi 1, vr a3, vi 1, vi 2, vi 1, vi c0]) rfl ?_
    show Steps p.tables e below (T37.setTop (mkF m 41 #[vr a1, vi 1, vr a3, vi 1, vi 2, vi 1, vi c0] [])) _
    refine XS.goto X37.here hx rfl (pc0 := 41) (pc' := 3) rfl (hb hby d13_41) (by decide) (by decide) ?_
    refine XS.iload X37.here hx rfl (hb hby d13_3) rfl ?_
    refine XS.iload X37.here hx rfl (hb hby d13_5) rfl ?_
    refine XS.icmpNo X37.here hx rfl (hb hby d13_7) rfl (tlt (by decide)).2.1 ?_
    refine XS.aloadN X37.here hx rfl (hb hby d13_10) rfl rfl ?_
    refine XS.iloadN X37.here hx rfl (hb hby d13_11) rfl ?_
    refine X37.caload hx (j := (1 : Int32)) (v := (.int c1)) (by rw [e37]; exact Ar40.1) (State.isArrayOf_alike hZ.alike Ar40.2.1) Ar40.2.2 hin40 hat40 (g := (mkF m 12 #[vr a1, vi 1, vr a3, vi 1, vi 2, vi 1, vi c0] [(.int 1), (.ref a1)])) rfl rfl (hb hby d13_12) _ ?_
    refine XS.istore X37.here hx rfl (hb hby d13_13) rfl (l' := #[vr a1, vi 1, vr a3, vi 1, vi 2, vi 1, vi c1]) rfl ?_
    refine XS.iload X37.here hx rfl (hb hby d13_15) rfl ?_
    refine XS.sipush X37.here hx rfl (hb hby d13_17) ?_
    show Steps p.tables e below (T37.setTop (mkF m 20 #[vr a1, vi 1, vr a3, vi 1, vi 2, vi 1, vi c1] [(.int 255), (.int c1)])) _
    refine XS.icmpYes X37.here hx rfl (pc0 := 20) (pc' := 26) rfl (hb hby d13_20) rfl (flt hp1).2.2.2 (by decide) (by decide) ?_
    refine XS.aloadN X37.here hx rfl (hb hby d13_26) rfl rfl ?_
    refine XS.iloadN X37.here hx rfl (hb hby d13_27) rfl ?_
    refine XS.iload X37.here hx rfl (hb hby d13_28) rfl ?_
    refine XS.i2b X37.here hx rfl (hb hby d13_30) rfl ?_
    refine st42 _ ?_
    refine XS.iinc X42.here hx rfl (hb hby d13_32) rfl (l' := #[vr a1, vi 2, vr a3, vi 1, vi 2, vi 1, vi c1]) rfl ?_
    refine XS.iinc X42.here hx rfl (hb hby d13_35) rfl (l' := #[vr a1, vi 2, vr a3, vi 2, vi 2, vi 1, vi c1]) rfl ?_
    refine XS.iinc X42.here hx rfl (hb hby d13_38) rfl (l' := #[vr a1, vi 2, vr a3, vi 2, vi 2, vi 2, vi c1]) rfl ?_
    refine XS.goto X42.here hx rfl (pc0 := 41) (pc' := 3) rfl (hb hby d13_41) (by decide) (by decide) ?_
    show Steps p.tables e below (T42.setTop (mkF m 3 #[vr a1, vi 2, vr a3, vi 2, vi 2, vi 2, vi c1] [])) _
    refine XS.iload X42.here hx rfl (hb hby d13_3) rfl ?_
    refine XS.iload X42.here hx rfl (hb hby d13_5) rfl ?_
    refine XS.icmpYes X42.here hx rfl (pc0 := 7) (pc' := 44) rfl (hb hby d13_7) rfl (flt (by decide)).2.1 (by decide) (by decide) ?_
    refine XS.iload X42.here hx rfl (hb hby d13_44) rfl ?_
    exact retI X42 hx Bd.returns (hb hby d13_46) hr
  · show Q_rmcm2 Z _ _ _ _ _ _ h0 n0 _ T42.heap _
    rw [e42]
    exact ⟨rfl, N42, K44, V_a3_42⟩
def Q_rmcp2 (Z : State) (a1 : Addr) (kc : ClassId) (c0 : Int32) (c1 : Int32) (h0 : Heap) (n0 : Nat) (v : Option Value) (h : Heap) (L : List Loc) : Prop := ∃ b : Addr, ∃ kb : ClassId, v = some (.ref b) ∧ Fr n0 L ∧ Keep h0 h [] ∧ (h0.size ≤ b) ∧ (Arv Z h b kb .byte (2 : Int32) [(.int (nar .byte (c0.toInt8.toInt32))), (.int (nar .byte (c1.toInt8.toInt32)))] (.int 0))
set_option maxRecDepth 65536 in
set_option maxHeartbeats 40000000 in
theorem rmcp2 (l : Launch) (Z : State) (a0 : Array Value) (hw : HW a0 Z) (ws : List Jvm.Cond) (a1 : Addr) (kc : ClassId) (c0 : Int32) (c1 : Int32) (h0 : Heap) (n0 : Nat) (Z0 : n0 ≤ h0.size) (V_a1 : Arv Z h0 a1 kc .char (2 : Int32) [(.int c0), (.int c1)] (.int 0)) (hp0 : ¬ ((255 : Int32) < c0)) (hp1 : ¬ ((255 : Int32) < c1)) :
    MF l y_12 (Jvm.Cond.code y_12 B12 6 (some (.array .byte)) :: ws) (⟨1, 1, 2, 18⟩ : Room) Z h0 #[(.ref a1), (.int 0), (.int 2)] (Q_rmcp2 Z a1 kc c0 c1 h0 n0) := by
  refine MetFree.of_bodySF (plainFor_of_name pn_java_lang_StringUTF16) hisR ?_
  intro p e s m args below meth c s₁ Bd hml0 hP hK
  obtain ⟨rfl, hZ, hh⟩ := hP
  have hx := Bd.exec
  have hby := Bd.bytes
  have hml : c.maxLocals = 6 := hml0
  have hown : s.vm.findClass cs4 = some m.cls := findClass_of_methodNamed Bd.named
  have hnm := (name_of_methodNamed Bd.named Bd.method).1
  have X0 : Stand p l e (⟨1, 1, 2, 18⟩ : Room) s m #[(.ref a1), (.int 0), (.int 2)] below meth c s₁ [] 0 0 := Stand.of_body Bd
  have e0 : s₁.heap = h0 := by rw [← hh, Bd.state]; rfl
  have N0 := Fr.nil n0
  have pre0 : Goes p e below (s₁.setTop (entryFrame m #[(.ref a1), (.int 0), (.int 2)] 6)) (s₁.setTop (mkF m 0 #[vr a1, vi 0, vi 2, .unset, .unset, .unset] [])) := fun t k => castTop (ef_12 m a1 (0 : Int32) (2 : Int32)) k
  obtain ⟨T45, h45, k45, X45, e45, E45, A45, st45⟩ := newP (aty := .byte) X0 hx hZ (wd_23 hw) e0 (g := (mkF m 1 #[vr a1, vi 0, vi 2, .unset, .unset, .unset] [(.int 2)])) rfl (hb hby d12_1) rfl (by decide) (cap := 2) (by decide) (by decide) (by decide) (by decide)
  obtain ⟨b45, g45⟩ : ∃ z, z = h0.size := ⟨_, rfl⟩
  rw [← g45] at A45 st45
  have g_b45 : n0 ≤ b45 := Nat.le_trans Z0 (Nat.le_of_eq g45.symm)
  have sz_b45 : h0.size ≤ b45 := Nat.le_trans (And.left (Keep.refl h0 [])) (Nat.le_of_eq g45.symm)
  have Z46 := Nat.le_trans Z0 E45.1
  have K47 := Keep.ext (Keep.refl h0 []) E45
  have V0_b45 := (Arv.new A45 (by decide)).pad (pad_rep [] (.int 0) 2)
  have V_b45 : Arv Z h45 b45 k45 .byte (2 : Int32) [(.int 0), (.int 0)] (.int 0) := V0_b45
  have ne_a1_b45 : a1 ≠ b45 := Nat.ne_of_lt (Nat.lt_of_lt_of_le V_a1.lt sz_b45)
  obtain ⟨_, _, ⟨T48, L48, k48, n48⟩, -, X48, ⟨Lc48, hQ48, l48, y48, z48⟩, st48⟩ := Jvm.LawKit.callS X45 hx (y := y_13) hown (mvT hZ (wd_72 hw)) (mvT hZ (wd_73 hw)) (mvT hZ (wd_70 hw)) (mvT hZ (wd_74 hw)) (by decide) (backOf (W := 0) (rmcm2 l Z a0 hw [] a1 b45 kc k45 c0 c1 h45 n0 Z46 (V_a1.keep K47 nin0) V_b45 g_b45 ne_a1_b45 hp0 hp1) hZ (wd_74 hw) (wd_70 hw) (by decide) (by decide)) (g := (mkF m 9 #[vr a1, vi 0, vi 2, vr b45, .unset, .unset] [(.int 2), (.int 0), (.ref b45), (.int 0), (.ref a1)])) rfl (by rw [hml]; rfl) (argsL := [(.ref a1), (.int 0), (.ref b45), (.int 0), (.int 2)]) (rest := []) (lenOf pd___CI_BII_I rfl) rfl (by show 2 * 0 + _ ≤ _; exact Nat.le_of_eq rfl) (hb hby d12_9) (fun _ _ => ⟨rfl, e45, (by decide : 1 + 0 ≤ _), (by decide : 2 + 0 ≤ _)⟩)
  dsimp only [Pt.U, Pt.locs, Pt.cells, Pt.slots] at X48 l48 y48 z48 st48 hQ48
  rw [l48, y48, z48] at X48
  obtain ⟨rfl, N48q, K48q, g48_0⟩ := hQ48
  have N48 := Fr.app N0 N48q
  have Z49 := Nat.le_trans Z46 K48q.1
  have K50 := Keep.trans K47 K48q (allS (Or.inr sz_b45) all0)
  obtain ⟨fs, hr, hrun, hended, hW, hsame⟩ := X48.leave (v := some (.ref b45)) (fun h => by rw [Bd.returns] at h; cases h)
  refine ⟨_, _, pre0 _ ?_, hrun, hended, _, _, rfl, ?_, ⟨_, rfl⟩, hW, hsame.mono (by decide) (by decide)⟩
  · show Steps p.tables e below (s₁.setTop (mkF m 0 #[vr a1, vi 0, vi 2, .unset, .unset, .unset] [])) _
    refine XS.iloadN X0.here hx rfl (hb hby d12_0) rfl ?_
    refine st45 _ ?_
    refine XS.astoreN X45.here hx rfl (hb hby d12_3) rfl rfl (l' := #[vr a1, vi 0, vi 2, vr b45, .unset, .unset]) rfl ?_
    refine XS.aloadN X45.here hx rfl (hb hby d12_4) rfl rfl ?_
    refine XS.iloadN X45.here hx rfl (hb hby d12_5) rfl ?_
    refine XS.aloadN X45.here hx rfl (hb hby d12_6) rfl rfl ?_
    refine XS.iconst X45.here hx rfl (hb hby d12_7) ?_
    refine XS.iloadN X45.here hx rfl (hb hby d12_8) rfl ?_
    refine st48 _ ?_
    refine XS.istore X48.here hx rfl (hb hby d12_12) rfl (l' := #[vr a1, vi 0, vi 2, vr b45, vi 2, .unset]) rfl ?_
    show Steps p.tables e below (T48.setTop (mkF m 14 #[vr a1, vi 0, vi 2, vr b45, vi 2, .unset] [])) _
    refine XS.iload X48.here hx rfl (hb hby d12_14) rfl ?_
    refine XS.iloadN X48.here hx rfl (hb hby d12_16) rfl ?_
    refine XS.icmpYes X48.here hx rfl (pc0 := 17) (pc' := 57) rfl (hb hby d12_17) rfl (teq (rfl : (2 : Int32) = (2 : Int32))).1 (by decide) (by decide) ?_
    refine XS.aloadN X48.here hx rfl (hb hby d12_57) rfl rfl ?_
    exact X48.areturnOut hx rfl Bd.returns rfl (hb hby d12_58) hr
  · show Q_rmcp2 Z _ _ _ _ h0 n0 _ T48.heap _
    exact ⟨b45, k45, rfl, N48, K50, sz_b45, g48_0⟩
def Q_rmcl2 (Z : State) (a1 : Addr) (kb : ClassId) (x0 : Int32) (x1 : Int32) (h0 : Heap) (n0 : Nat) (v : Option Value) (h : Heap) (L : List Loc) : Prop := v = some (.int 0) ∧ Fr n0 L ∧ h = h0
set_option maxRecDepth 65536 in
set_option maxHeartbeats 40000000 in
theorem rmcl2 (l : Launch) (Z : State) (a0 : Array Value) (hw : HW a0 Z) (ws : List Jvm.Cond) (a1 : Addr) (kb : ClassId) (x0 : Int32) (x1 : Int32) (h0 : Heap) (n0 : Nat) (Z0 : n0 ≤ h0.size) (V_a1 : Arv Z h0 a1 kb .byte (2 : Int32) [(.int x0), (.int x1)] (.int 0)) :
    MF l y_14 (Jvm.Cond.code y_14 B14 2 (some .byte) :: ws) (⟨0, 0, 0, 0⟩ : Room) Z h0 #[(.ref a1), (.int 2)] (Q_rmcl2 Z a1 kb x0 x1 h0 n0) := by
  refine MetFree.of_bodySF (plainFor_of_name pn_java_lang_StringUTF16) hisR ?_
  intro p e s m args below meth c s₁ Bd hml0 hP hK
  obtain ⟨rfl, hZ, hh⟩ := hP
  have hx := Bd.exec
  have hby := Bd.bytes
  have hml : c.maxLocals = 2 := hml0
  have hown : s.vm.findClass cs4 = some m.cls := findClass_of_methodNamed Bd.named
  have hnm := (name_of_methodNamed Bd.named Bd.method).1
  have X0 : Stand p l e (⟨0, 0, 0, 0⟩ : Room) s m #[(.ref a1), (.int 2)] below meth c s₁ [] 0 0 := Stand.of_body Bd
  have e0 : s₁.heap = h0 := by rw [← hh, Bd.state]; rfl
  have N0 := Fr.nil n0
  have pre0 : Goes p e below (s₁.setTop (entryFrame m #[(.ref a1), (.int 2)] 2)) (s₁.setTop (mkF m 0 #[vr a1, vi 2] [])) := fun t k => castTop (ef_14 m a1 (2 : Int32)) k
  obtain ⟨cl51, Ar51, q51, S51, N51n, H51, G51⟩ := id (V_a1)
  obtain ⟨fs, hr, hrun, hended, hW, hsame⟩ := X0.leave (v := some (.int 0)) (fun h => by rw [Bd.returns] at h; cases h)
  refine ⟨_, _, pre0 _ ?_, hrun, hended, _, _, rfl, ?_, ⟨_, rfl⟩, hW, hsame.mono (by decide) (by decide)⟩
  · show Steps p.tables e below (s₁.setTop (mkF m 0 #[vr a1, vi 2] [])) _
    refine XS.iloadN X0.here hx rfl (hb hby d14_0) rfl ?_
    refine XS.aloadN X0.here hx rfl (hb hby d14_1) rfl rfl ?_
    refine X0.arraylength hx (by rw [e0]; exact Ar51.1) (State.isArrayOf_alike hZ.alike Ar51.2.1) (g := (mkF m 2 #[vr a1, vi 2] [(.ref a1), (.int 2)])) rfl rfl (hb hby d14_2) _ ?_
    rw [len_of S51 N51n]
    refine XS.isub X0.here hx rfl (hb hby d14_3) rfl ?_
    refine XS.bipush X0.here hx rfl (hb hby d14_4) ?_
    refine XS.iushr X0.here hx rfl (hb hby d14_6) rfl ?_
    refine XS.i2b X0.here hx rfl (hb hby d14_7) rfl ?_
    show Steps p.tables e below (s₁.setTop (mkF m 8 #[vr a1, vi 2] [(.int 0)])) _
    exact retN X0 hx (t := .byte) Bd.returns (by simp) (hb hby d14_8) hr
  · show Q_rmcl2 Z _ _ _ _ h0 n0 _ s₁.heap _
    rw [e0]
    exact ⟨rfl, N0, rfl⟩
def Q_rmi4_2 (Z : State) (a1 : Addr) (a2 : Addr) (u1 : Value) (u2 : Value) (kc : ClassId) (wz : Int32) (c0 : Int32) (c1 : Int32) (h0 : Heap) (n0 : Nat) (v : Option Value) (h : Heap) (L : List Loc) : Prop := ∃ b : Addr, ∃ kb : ClassId, v = none ∧ Fr n0 L ∧ Keep h0 h [a1] ∧ (h0.size ≤ b) ∧ (Fld Z h a1 cs1 "value" "[B" (.ref b)) ∧ (Fld Z h a1 cs1 "coder" "B" (.int 0)) ∧ (Arv Z h b kb .byte (2 : Int32) [(.int (nar .byte (c0.toInt8.toInt32))), (.int (nar .byte (c1.toInt8.toInt32)))] (.int 0))
set_option maxRecDepth 65536 in
set_option maxHeartbeats 40000000 in
theorem rmi4_2 (l : Launch) (Z : State) (a0 : Array Value) (hw : HW a0 Z) (ws : List Jvm.Cond) (a1 : Addr) (a2 : Addr) (u1 : Value) (u2 : Value) (kc : ClassId) (wz : Int32) (c0 : Int32) (c1 : Int32) (h0 : Heap) (n0 : Nat) (Z0 : n0 ≤ h0.size) (F_value_a1 : Fld Z h0 a1 cs1 "value" "[B" u1) (F_coder_a1 : Fld Z h0 a1 cs1 "coder" "B" u2) (E_a1 : Exa Z h0 a1 cs1) (g_a1 : n0 ≤ a1) (V_a2 : Arv Z h0 a2 kc .char (2 : Int32) [(.int c0), (.int c1)] (.int 0)) (hp0 : ¬ ((255 : Int32) < c0)) (hp1 : ¬ ((255 : Int32) < c1)) (Old0 : Old Z n0 h0) (S_COMPACT_STRINGS : Sta Z Z.heap cs1 cs6 "Z" (.int wz)) (hz : ¬ (wz = (0 : Int32))) :
    MF l y_4 (Jvm.Cond.code y_4 B4 6 none :: ws) (⟨2, 1, 2, 35⟩ : Room) Z h0 #[(.ref a1), (.ref a2), (.int 0), (.int 2), .null] (Q_rmi4_2 Z a1 a2 u1 u2 kc wz c0 c1 h0 n0) := by
  refine MetFree.of_bodySF (plainFor_of_name pn_java_lang_String) hisR ?_
  intro p e s m args below meth c s₁ Bd hml0 hP hK
  obtain ⟨rfl, hZ, hh⟩ := hP
  have hx := Bd.exec
  have hby := Bd.bytes
  have hml : c.maxLocals = 6 := hml0
  have hown : s.vm.findClass cs1 = some m.cls := findClass_of_methodNamed Bd.named
  have hnm := (name_of_methodNamed Bd.named Bd.method).1
  have X0 : Stand p l e (⟨2, 1, 2, 35⟩ : Room) s m #[(.ref a1), (.ref a2), (.int 0), (.int 2), .null] below meth c s₁ [] 0 0 := Stand.of_body Bd
  have e0 : s₁.heap = h0 := by rw [← hh, Bd.state]; rfl
  have N0 := Fr.nil n0
  have pre0 : Goes p e below (s₁.setTop (entryFrame m #[(.ref a1), (.ref a2), (.int 0), (.int 2), .null] 6)) (s₁.setTop (mkF m 0 #[vr a1, vr a2, vi 0, vi 2, .val .null, .unset] [])) := fun t k => castTop (efn_4 m a1 a2 (0 : Int32) (2 : Int32)) k
  obtain ⟨T52, X52, e52, st52⟩ := initO X0 hx hZ hown (wd_19 hw) (wd_20 hw) (wd_21 hw) e0 (g := (mkF m 1 #[vr a1, vr a2, vi 0, vi 2, .val .null, .unset] [(.ref a1)])) rfl (by rw [hml]; rfl) rfl (hb hby d4_1) (by decide) (W := 0) (by show 2 * 0 + _ ≤ _; exact Nat.le_of_eq rfl) (by decide)
  obtain ⟨T53, X53, e53, st53⟩ := getS2 X52 hx hZ hown (host := "") (Or.inl (wd_59 hw)) Via.refl e52 (S_COMPACT_STRINGS.ext (Old0).2) (g := (mkF m 27 #[vr a1, vr a2, vi 0, vi 2, .val .null, .unset] [])) rfl (hb hby d4_27)
  obtain ⟨_, _, ⟨T54, L54, k54, n54⟩, -, X54, ⟨Lc54, hQ54, l54, y54, z54⟩, st54⟩ := Jvm.LawKit.callS X53 hx (y := y_12) hown (mvT hZ (wd_68 hw)) (mvT hZ (wd_69 hw)) (mvT hZ (wd_70 hw)) (mvT hZ (wd_71 hw)) (by decide) (backOf (W := 0) (rmcp2 l Z a0 hw [] a2 kc c0 c1 h0 n0 Z0 V_a2 hp0 hp1) hZ (wd_71 hw) (wd_70 hw) (by decide) (by decide)) (g := (mkF m 36 #[vr a1, vr a2, vi 0, vi 2, .val .null, .unset] [(.int 2), (.int 0), (.ref a2)])) rfl (by rw [hml]; rfl) (argsL := [(.ref a2), (.int 0), (.int 2)]) (rest := []) (lenOf pd___CII__B rfl) rfl (by show 2 * 0 + _ ≤ _; exact Nat.le_of_eq rfl) (hb hby d4_36) (fun _ _ => ⟨rfl, e53, (by decide : 0 + 1 ≤ _), (by decide : 0 + 2 ≤ _)⟩)
  dsimp only [Pt.U, Pt.locs, Pt.cells, Pt.slots] at X54 l54 y54 z54 st54 hQ54
  rw [l54, y54, z54] at X54
  obtain ⟨b_54, kb_54, rfl, N54q, K54q, g54_0, g54_1⟩ := hQ54
  have N54 := Fr.app N0 N54q
  have Z55 := Nat.le_trans Z0 K54q.1
  have K56 := Keep.trans (Keep.refl h0 [a1]) K54q all0
  have g57 : n0 ≤ b_54 := Nat.le_trans Z0 g54_0
  have sz58 : h0.size ≤ b_54 := Nat.le_trans (And.left (Keep.refl h0 [a1])) g54_0
  obtain ⟨_, _, ⟨T59, L59, k59, n59⟩, -, X59, ⟨Lc59, hQ59, l59, y59, z59⟩, st59⟩ := Jvm.LawKit.callS X54 hx (y := y_14) hown (mvT hZ (wd_75 hw)) (mvT hZ (wd_76 hw)) (mvT hZ (wd_70 hw)) (mvT hZ (wd_77 hw)) (by decide) (backOf (W := 1) (rmcl2 l Z a0 hw [] b_54 kb_54 (nar .byte (c0.toInt8.toInt32)) (nar .byte (c1.toInt8.toInt32)) T54.heap n0 Z55 g54_1) hZ (wd_77 hw) (wd_70 hw) (by decide) (by decide)) (g := (mkF m 45 #[vr a1, vr a2, vi 0, vi 2, .val .null, vr b_54] [(.int 2), (.ref b_54), (.ref a1)])) rfl (by rw [hml]; rfl) (argsL := [(.ref b_54), (.int 2)]) (rest := [(.ref a1)]) (lenOf pd___BI_B rfl) rfl (by show 2 * 0 + _ ≤ _; exact Nat.le_of_eq rfl) (hb hby d4_45) (fun _ _ => ⟨rfl, rfl, (by decide : 1 + 0 ≤ _), (by decide : 2 + 0 ≤ _)⟩)
  dsimp only [Pt.U, Pt.locs, Pt.cells, Pt.slots] at X59 l59 y59 z59 st59 hQ59
  rw [l59, y59, z59] at X59
  obtain ⟨rfl, N59q, e59⟩ := hQ59
  have N59 := Fr.app N54 N59q
  obtain ⟨T60, h60, X60, e60, W60, st60⟩ := putFN X59 hx hZ hown (wd_29 hw) Via.refl e59 (F_coder_a1.keep K54q nin0) (E_a1.keep K56) (Or.inr ⟨(wd_25 hw), rfl, hnm⟩) (wd_10 hw) (ty := .byte) (v' := (.int 0)) (by decide) rfl rfl (g := (mkF m 48 #[vr a1, vr a2, vi 0, vi 2, .val .null, vr b_54] [(.int 0), (.ref a1)])) rfl rfl (hb hby d4_48)
  have Fw60 := (F_coder_a1.keep K54q nin0).same W60
  have Z61 := Nat.le_trans Z55 (Keep.of_wr W60).1
  have K62 := Keep.wr K56 W60 (Or.inl (List.mem_of_getElem? (i := 0) rfl))
  have N60 := Fr.snoc X60 N59 g_a1
  obtain ⟨T63, h63, X63, e63, W63, st63⟩ := putF X60 hx hZ hown (host := "") (Or.inl (wd_28 hw)) Via.refl e60 ((F_value_a1.keep K54q nin0).other W60 (Or.inr (slot_ne (Or.inr (wd_24 hw)) (Or.inr (wd_25 hw)) (by decide) (t := (.array .byte)) (t' := .byte) (by decide) (by decide)))) (E_a1.keep K62) (Or.inr ⟨(wd_24 hw), rfl, hnm⟩) (wd_10 hw) (ty := (.array .byte)) (by decide) rfl rfl (g := (mkF m 54 #[vr a1, vr a2, vi 0, vi 2, .val .null, vr b_54] [(.ref b_54), (.ref a1)])) rfl rfl (hb hby d4_54)
  have Fw63 := ((F_value_a1.keep K54q nin0).other W60 (Or.inr (slot_ne (Or.inr (wd_24 hw)) (Or.inr (wd_25 hw)) (by decide) (t := (.array .byte)) (t' := .byte) (by decide) (by decide)))).same W63
  have Z64 := Nat.le_trans Z61 (Keep.of_wr W63).1
  have K65 := Keep.wr K62 W63 (Or.inl (List.mem_of_getElem? (i := 0) rfl))
  have N63 := Fr.snoc X63 N60 g_a1
  obtain ⟨fs, hr, hrun, hended, hW, hsame⟩ := X63.leave (v := none) (fun _ => rfl)
  refine ⟨_, _, pre0 _ ?_, hrun, hended, _, _, rfl, ?_, ⟨_, rfl⟩, hW, hsame.mono (by decide) (by decide)⟩
  · show Steps p.tables e below (s₁.setTop (mkF m 0 #[vr a1, vr a2, vi 0, vi 2, .val .null, .unset] [])) _
    refine XS.aloadN X0.here hx rfl (hb hby d4_0) rfl rfl ?_
    refine st52 _ ?_
    refine XS.iloadN X52.here hx rfl (hb hby d4_4) rfl ?_
    refine XS.ifYes X52.here hx rfl (pc0 := 5) (pc' := 27) rfl (hb hby d4_5) rfl ((if0 _ _).trans (feq (by decide)).2) (by decide) (by decide) ?_
    refine st53 _ ?_
    refine XS.ifNo X53.here hx rfl (hb hby d4_30) rfl ((if0 _ _).trans (feq hz).1) ?_
    refine XS.aloadN X53.here hx rfl (hb hby d4_33) rfl rfl ?_
    refine XS.iloadN X53.here hx rfl (hb hby d4_34) rfl ?_
    refine XS.iloadN X53.here hx rfl (hb hby d4_35) rfl ?_
    refine st54 _ ?_
    show Steps p.tables e below (T54.setTop (mkF m 39 #[vr a1, vr a2, vi 0, vi 2, .val .null, .unset] [(.ref b_54)])) _
    refine XS.astore X54.here hx rfl (hb hby d4_39) rfl rfl (l' := #[vr a1, vr a2, vi 0, vi 2, .val .null, vr b_54]) rfl ?_
    refine XS.aloadN X54.here hx rfl (hb hby d4_41) rfl rfl ?_
    refine XS.aload X54.here hx rfl (hb hby d4_42) rfl rfl ?_
    refine XS.iloadN X54.here hx rfl (hb hby d4_44) rfl ?_
    refine st59 _ ?_
    refine st60 _ ?_
    refine XS.aloadN X60.here hx rfl (hb hby d4_51) rfl rfl ?_
    refine XS.aload X60.here hx rfl (hb hby d4_52) rfl rfl ?_
    refine st63 _ ?_
    exact X63.returnOut hx Bd.returns (hb hby d4_57) hr
  · show Q_rmi4_2 Z _ _ _ _ _ _ _ _ h0 n0 _ T63.heap _
    rw [e63]
    have KP66 : Keep _ _ [a1, a1] := own_ktr (Keep.of_wr W60) (Keep.of_wr W63)
    have ne_a1_b_54 : a1 ≠ b_54 := Nat.ne_of_lt (Nat.lt_of_lt_of_le F_value_a1.lt sz58)
    have ni67 := (ninS (Ne.symm ne_a1_b_54) (ninS (Ne.symm ne_a1_b_54) nin0))
    exact ⟨b_54, kb_54, rfl, N63, K65, sz58, Fw63, (Fw60.other W63 (Or.inr (slot_ne (Or.inr (wd_25 hw)) (Or.inr (wd_24 hw)) (by decide) (t := .byte) (t' := (.array .byte)) (by decide) (by decide)))), (g54_1.keep KP66 ni67)⟩
def Q_rmi1_2 (Z : State) (a1 : Addr) (a2 : Addr) (u1 : Value) (u2 : Value) (kc : ClassId) (wz : Int32) (c0 : Int32) (c1 : Int32) (h0 : Heap) (n0 : Nat) (v : Option Value) (h : Heap) (L : List Loc) : Prop := ∃ b : Addr, ∃ kb : ClassId, v = none ∧ Fr n0 L ∧ Keep h0 h [a1] ∧ (h0.size ≤ b) ∧ (Fld Z h a1 cs1 "value" "[B" (.ref b)) ∧ (Fld Z h a1 cs1 "coder" "B" (.int 0)) ∧ (Arv Z h b kb .byte (2 : Int32) [(.int (nar .byte (c0.toInt8.toInt32))), (.int (nar .byte (c1.toInt8.toInt32)))] (.int 0))
set_option maxRecDepth 65536 in
set_option maxHeartbeats 40000000 in
theorem rmi1_2 (l : Launch) (Z : State) (a0 : Array Value) (hw : HW a0 Z) (ws : List Jvm.Cond) (a1 : Addr) (a2 : Addr) (u1 : Value) (u2 : Value) (kc : ClassId) (wz : Int32) (c0 : Int32) (c1 : Int32) (h0 : Heap) (n0 : Nat) (Z0 : n0 ≤ h0.size) (F_value_a1 : Fld Z h0 a1 cs1 "value" "[B" u1) (F_coder_a1 : Fld Z h0 a1 cs1 "coder" "B" u2) (E_a1 : Exa Z h0 a1 cs1) (g_a1 : n0 ≤ a1) (V_a2 : Arv Z h0 a2 kc .char (2 : Int32) [(.int c0), (.int c1)] (.int 0)) (hp0 : ¬ ((255 : Int32) < c0)) (hp1 : ¬ ((255 : Int32) < c1)) (Old0 : Old Z n0 h0) (S_COMPACT_STRINGS : Sta Z Z.heap cs1 cs6 "Z" (.int wz)) (hz : ¬ (wz = (0 : Int32))) :
    MF l y_3 (Jvm.Cond.code y_3 B3 2 none :: ws) (⟨3, 1, 2, 52⟩ : Room) Z h0 #[(.ref a1), (.ref a2)] (Q_rmi1_2 Z a1 a2 u1 u2 kc wz c0 c1 h0 n0) := by
  refine MetFree.of_bodySF (plainFor_of_name pn_java_lang_String) hisR ?_
  intro p e s m args below meth c s₁ Bd hml0 hP hK
  obtain ⟨rfl, hZ, hh⟩ := hP
  have hx := Bd.exec
  have hby := Bd.bytes
  have hml : c.maxLocals = 2 := hml0
  have hown : s.vm.findClass cs1 = some m.cls := findClass_of_methodNamed Bd.named
  have hnm := (name_of_methodNamed Bd.named Bd.method).1
  have X0 : Stand p l e (⟨3, 1, 2, 52⟩ : Room) s m #[(.ref a1), (.ref a2)] below meth c s₁ [] 0 0 := Stand.of_body Bd
  have e0 : s₁.heap = h0 := by rw [← hh, Bd.state]; rfl
  have N0 := Fr.nil n0
  have pre0 : Goes p e below (s₁.setTop (entryFrame m #[(.ref a1), (.ref a2)] 2)) (s₁.setTop (mkF m 0 #[vr a1, vr a2] [])) := fun t k => castTop (ef_3 m a1 a2) k
  obtain ⟨cl68, Ar68, q68, S68, N68n, H68, G68⟩ := id (V_a2)
  obtain ⟨_, T69, L69, X69, hQ69, st69⟩ := cN X0 hx hZ hown (wd_15 hw) (wd_16 hw) rfl (by decide) 0 (rmi4_2 l Z a0 hw [] a1 a2 u1 u2 kc wz c0 c1 h0 n0 Z0 F_value_a1 F_coder_a1 E_a1 g_a1 V_a2 hp0 hp1 Old0 S_COMPACT_STRINGS hz) (wd_18 hw) (wd_11 hw) (by decide) (by decide) e0 a1 hml (Ls := #[vr a1, vr a2]) rfl (argsL := [(.ref a2), (.int 0), (.int 2), .null]) (rest := []) (lenOf pd___CIILjava_lang_Void__V rfl) (St := [.null, (.int 2), (.int 0), (.ref a2), (.ref a1)]) rfl rfl (hb hby d3_6) rfl (by decide) (by decide)
  obtain ⟨b_69, kb_69, rfl, N69q, K69q, g69_0, g69_1, g69_2, g69_3⟩ := hQ69
  have N69 := Fr.app N0 N69q
  have Z70 := Nat.le_trans Z0 K69q.1
  have K71 := Keep.trans (Keep.refl h0 [a1]) K69q (allS (Or.inl (List.mem_of_getElem? (i := 0) rfl)) all0)
  have g72 : n0 ≤ b_69 := Nat.le_trans Z0 g69_0
  have sz73 : h0.size ≤ b_69 := Nat.le_trans (And.left (Keep.refl h0 [a1])) g69_0
  obtain ⟨fs, hr, hrun, hended, hW, hsame⟩ := X69.leave (v := none) (fun _ => rfl)
  refine ⟨_, _, pre0 _ ?_, hrun, hended, _, _, rfl, ?_, ⟨_, rfl⟩, hW, hsame.mono (by decide) (by decide)⟩
  · show Steps p.tables e below (s₁.setTop (mkF m 0 #[vr a1, vr a2] [])) _
    refine XS.aloadN X0.here hx rfl (hb hby d3_0) rfl rfl ?_
    refine XS.aloadN X0.here hx rfl (hb hby d3_1) rfl rfl ?_
    refine XS.iconst X0.here hx rfl (hb hby d3_2) ?_
    refine XS.aloadN X0.here hx rfl (hb hby d3_3) rfl rfl ?_
    refine X0.arraylength hx (by rw [e0]; exact Ar68.1) (State.isArrayOf_alike hZ.alike Ar68.2.1) (g := (mkF m 4 #[vr a1, vr a2] [(.ref a2), (.int 0), (.ref a2), (.ref a1)])) rfl rfl (hb hby d3_4) _ ?_
    rw [len_of S68 N68n]
    refine XS.aconstNull X0.here hx rfl (hb hby d3_5) ?_
    refine st69.trans ?_
    exact X69.returnOut hx Bd.returns (hb hby d3_9) hr
  · show Q_rmi1_2 Z _ _ _ _ _ _ _ _ h0 n0 _ T69.heap _
    exact ⟨b_69, kb_69, rfl, N69, K71, sz73, g69_1, g69_2, g69_3⟩
def Q_rmcm3 (Z : State) (a1 : Addr) (a3 : Addr) (kc : ClassId) (kb : ClassId) (c0 : Int32) (c1 : Int32) (c2 : Int32) (h0 : Heap) (n0 : Nat) (v : Option Value) (h : Heap) (L : List Loc) : Prop := v = some (.int 3) ∧ Fr n0 L ∧ Keep h0 h [a3] ∧ (Arv Z h a3 kb .byte (3 : Int32) [(.int (nar .byte (c0.toInt8.toInt32))), (.int (nar .byte (c1.toInt8.toInt32))), (.int (nar .byte (c2.toInt8.toInt32)))] (.int 0))
set_option maxRecDepth 65536 in
set_option maxHeartbeats 40000000 in
theorem rmcm3 (l : Launch) (Z : State) (a0 : Array Value) (hw : HW a0 Z) (ws : List Jvm.Cond) (a1 : Addr) (a3 : Addr) (kc : ClassId) (kb : ClassId) (c0 : Int32) (c1 : Int32) (c2 : Int32) (h0 : Heap) (n0 : Nat) (Z0 : n0 ≤ h0.size) (V_a1 : Arv Z h0 a1 kc .char (3 : Int32) [(.int c0), (.int c1), (.int c2)] (.int 0)) (V_a3 : Arv Z h0 a3 kb .byte (3 : Int32) [(.int 0), (.int 0), (.int 0)] (.int 0)) (g_a3 : n0 ≤ a3) (ne_a1_a3 : a1 ≠ a3) (hp0 : ¬ ((255 : Int32) < c0)) (hp1 : ¬ ((255 : Int32) < c1)) (hp2 : ¬ ((255 : Int32) < c2)) :
    MF l y_13 (Jvm.Cond.code y_13 B13 7 (some .int) :: ws) (⟨0, 0, 0, 0⟩ : Room) Z h0 #[(.ref a1), (.int 0), (.ref a3), (.int 0), (.int 3)] (Q_rmcm3 Z a1 a3 kc kb c0 c1 c2 h0 n0) := by
  refine MetFree.of_bodySF (plainFor_of_name pn_java_lang_StringUTF16) hisR ?_
  intro p e s m args below meth c s₁ Bd hml0 hP hK
  obtain ⟨rfl, hZ, hh⟩ := hP
  have hx := Bd.exec
  have hby := Bd.bytes
  have hml : c.maxLocals = 7 := hml0
  have hown : s.vm.findClass cs4 = some m.cls := findClass_of_methodNamed Bd.named
  have hnm := (name_of_methodNamed Bd.named Bd.method).1
  have X0 : Stand p l e (⟨0, 0, 0, 0⟩ : Room) s m #[(.ref a1), (.int 0), (.ref a3), (.int 0), (.int 3)] below meth c s₁ [] 0 0 := Stand.of_body Bd
  have e0 : s₁.heap = h0 := by rw [← hh, Bd.state]; rfl
  have N0 := Fr.nil n0
  have pre0 : Goes p e below (s₁.setTop (entryFrame m #[(.ref a1), (.int 0), (.ref a3), (.int 0), (.int 3)] 7)) (s₁.setTop (mkF m 0 #[vr a1, vi 0, vr a3, vi 0, vi 3, .unset, .unset] [])) := fun t k => castTop (ef_13 m a1 (0 : Int32) a3 (0 : Int32) (3 : Int32)) k
  obtain ⟨cl74, Ar74, q74, S74, N74n, H74, G74⟩ := id (V_a1)
  have hin74 : ¬ ((0 : Int32) < 0 ∨ cl74.slots.size ≤ ((0 : Int32)).toNatClampNeg) := inb_of S74 ⟨by decide, by decide⟩
  have hat74 : cl74.slots[((0 : Int32)).toNatClampNeg]? = some (.int c0) := H74.at hin74 rfl
  obtain ⟨cl75, Ar75, q75, S75, N75n, H75, G75⟩ := id (V_a3)
  have hin75 : ¬ ((0 : Int32) < 0 ∨ cl75.slots.size ≤ ((0 : Int32)).toNatClampNeg) := inb_of S75 ⟨by decide, by decide⟩
  obtain ⟨T76, h76, X76, e76, W76, st76⟩ := stB X0 hx hZ e0 Ar75 (j := (0 : Int32)) hin75 (g := (mkF m 31 #[vr a1, vi 0, vr a3, vi 0, vi 3, vi 0, vi c0] [(.int (c0.toInt8.toInt32)), (.int 0), (.ref a3)])) rfl rfl (hb hby d13_31)
  have V_a3_76 : Arv Z h76 a3 kb .byte (3 : Int32) [(.int (nar .byte (c0.toInt8.toInt32))), (.int 0), (.int 0)] (.int 0) := Arv.set Ar75 q75 S75 N75n H75 G75 (fits_nar_byte _) W76 0 rfl (Nat.le_of_ble_eq_true rfl)
  have Z77 := Nat.le_trans Z0 (Keep.of_wr W76).1
  have K78 := Keep.wr (Keep.refl h0 [a3]) W76 (Or.inl (List.mem_of_getElem? (i := 0) rfl))
  have N76 := Fr.snoc X76 N0 g_a3
  obtain ⟨cl79, Ar79, q79, S79, N79n, H79, G79⟩ := id ((V_a1.keep K78 (ninS ne_a1_a3 nin0)))
  have hin79 : ¬ ((1 : Int32) < 0 ∨ cl79.slots.size ≤ ((1 : Int32)).toNatClampNeg) := inb_of S79 ⟨by decide, by decide⟩
  have hat79 : cl79.slots[((1 : Int32)).toNatClampNeg]? = some (.int c1) := H79.at hin79 rfl
  obtain ⟨cl80, Ar80, q80, S80, N80n, H80, G80⟩ := id (V_a3_76)
  have hin80 : ¬ ((1 : Int32) < 0 ∨ cl80.slots.size ≤ ((1 : Int32)).toNatClampNeg) := inb_of S80 ⟨by decide, by decide⟩
  obtain ⟨T81, h81, X81, e81, W81, st81⟩ := stB X76 hx hZ e76 Ar80 (j := (1 : Int32)) hin80 (g := (mkF m 31 #[vr a1, vi 1, vr a3, vi 1, vi 3, vi 1, vi c1] [(.int (c1.toInt8.toInt32)), (.int 1), (.ref a3)])) rfl rfl (hb hby d13_31)
  have V_a3_81 : Arv Z h81 a3 kb .byte (3 : Int32) [(.int (nar .byte (c0.toInt8.toInt32))), (.int (nar .byte (c1.toInt8.toInt32))), (.int 0)] (.int 0) := Arv.set Ar80 q80 S80 N80n H80 G80 (fits_nar_byte _) W81 1 rfl (Nat.le_of_ble_eq_true rfl)
  have Z82 := Nat.le_trans Z77 (Keep.of_wr W81).1
  have K83 := Keep.wr K78 W81 (Or.inl (List.mem_of_getElem? (i := 0) rfl))
  have N81 := Fr.snoc X81 N76 g_a3
  obtain ⟨cl84, Ar84, q84, S84, N84n, H84, G84⟩ := id ((V_a1.keep K83 (ninS ne_a1_a3 nin0)))
  have hin84 : ¬ ((2 : Int32) < 0 ∨ cl84.slots.size ≤ ((2 : Int32)).toNatClampNeg) := inb_of S84 ⟨by decide, by decide⟩
  have hat84 : cl84.slots[((2 : Int32)).toNatClampNeg]? = some (.int c2) := H84.at hin84 rfl
  obtain ⟨cl85, Ar85, q85, S85, N85n, H85, G85⟩ := id (V_a3_81)
  have hin85 : ¬ ((2 : Int32) < 0 ∨ cl85.slots.size ≤ ((2 : Int32)).toNatClampNeg) := inb_of S85 ⟨by decide, by decide⟩
  obtain ⟨T86, h86, X86, e86, W86, st86⟩ := stB X81 hx hZ e81 Ar85 (j := (2 : Int32)) hin85 (g := (mkF m 31 #[vr a1, vi 2, vr a3, vi 2, vi 3, vi 2, vi c2] [(.int (c2.toInt8.toInt32)), (.int 2), (.ref a3)])) rfl rfl (hb hby d13_31)
  have V_a3_86 : Arv Z h86 a3 kb .byte (3 : Int32) [(.int (nar .byte (c0.toInt8.toInt32))), (.int (nar .byte (c1.toInt8.toInt32))), (.int (nar .byte (c2.toInt8.toInt32)))] (.int 0) := Arv.set Ar85 q85 S85 N85n H85 G85 (fits_nar_byte _) W86 2 rfl (Nat.le_of_ble_eq_true rfl)
  have Z87 := Nat.le_trans Z82 (Keep.of_wr W86).1
  have K88 := Keep.wr K83 W86 (Or.inl (List.mem_of_getElem? (i := 0) rfl))
  have N86 := Fr.snoc X86 N81 g_a3
  obtain ⟨fs, hr, hrun, hended, hW, hsame⟩ := X86.leave (v := some (.int 3)) (fun h => by rw [Bd.returns] at h; cases h)
  refine ⟨_, _, pre0 _ ?_, hrun, hended, _, _, rfl, ?_, ⟨_, rfl⟩, hW, hsame.mono (by decide) (by decide)⟩
  · show Steps p.tables e below (s₁.setTop (mkF m 0 #[vr a1, vi 0, vr a3, vi 0, vi 3, .unset, .unset] [])) _
    refine XS.iconst X0.here hx rfl (hb hby d13_0) ?_
    refine XS.istore X0.here hx rfl (hb hby d13_1) rfl (l' := #[vr a1, vi 0, vr a3, vi 0, vi 3, vi 0, .unset]) rfl ?_
    refine XS.iload X0.here hx rfl (hb hby d13_3) rfl ?_
    refine XS.iload X0.here hx rfl (hb hby d13_5) rfl ?_
    refine XS.icmpNo X0.here hx rfl (hb hby d13_7) rfl (tlt (by decide)).2.1 ?_
    refine XS.aloadN X0.here hx rfl (hb hby d13_10) rfl rfl ?_
    refine XS.iloadN X0.here hx rfl (hb hby d13_11) rfl ?_
    refine X0.caload hx (j := (0 : Int32)) (v := (.int c0)) (by rw [e0]; exact Ar74.1) (State.isArrayOf_alike hZ.alike Ar74.2.1) Ar74.2.2 hin74 hat74 (g := (mkF m 12 #[vr a1, vi 0, vr a3, vi 0, vi 3, vi 0, .unset] [(.int 0), (.ref a1)])) rfl rfl (hb hby d13_12) _ ?_
    refine XS.istore X0.here hx rfl (hb hby d13_13) rfl (l' := #[vr a1, vi 0, vr a3, vi 0, vi 3, vi 0, vi c0]) rfl ?_
    refine XS.iload X0.here hx rfl (hb hby d13_15) rfl ?_
    show Steps p.tables e below (s₁.setTop (mkF m 17 #[vr a1, vi 0, vr a3, vi 0, vi 3, vi 0, vi c0] [(.int c0)])) _
    refine XS.sipush X0.here hx rfl (hb hby d13_17) ?_
    refine XS.icmpYes X0.here hx rfl (pc0 := 20) (pc' := 26) rfl (hb hby d13_20) rfl (flt hp0).2.2.2 (by decide) (by decide) ?_
    refine XS.aloadN X0.here hx rfl (hb hby d13_26) rfl rfl ?_
    refine XS.iloadN X0.here hx rfl (hb hby d13_27) rfl ?_
    refine XS.iload X0.here hx rfl (hb hby d13_28) rfl ?_
    refine XS.i2b X0.here hx rfl (hb hby d13_30) rfl ?_
    refine st76 _ ?_
    refine XS.iinc X76.here hx rfl (hb hby d13_32) rfl (l' := #[vr a1, vi 1, vr a3, vi 0, vi 3, vi 0, vi c0]) rfl ?_
    refine XS.iinc X76.here hx rfl (hb hby d13_35) rfl (l' := #[vr a1, vi 1, vr a3, vi 1, vi 3, vi 0, vi c0]) rfl ?_
    refine XS.iinc X76.here hx rfl (hb hby d13_38) rfl (l' := #[vr a1, vi 1, vr a3, vi 1, vi 3, vi 1, vi c0]) rfl ?_
    show Steps p.tables e below (T76.setTop (mkF m 41 #[vr a1, vi 1, vr a3, vi 1, vi 3, vi 1, vi c0] [])) _
    refine XS.goto X76.here hx rfl (pc0 := 41) (pc' := 3) rfl (hb hby d13_41) (by decide) (by decide) ?_
    refine XS.iload X76.here hx rfl (hb hby d13_3) rfl ?_
    refine XS.iload X76.here hx rfl (hb hby d13_5) rfl ?_
    refine XS.icmpNo X76.here hx rfl (hb hby d13_7) rfl (tlt (by decide)).2.1 ?_
    refine XS.aloadN X76.here hx rfl (hb hby d13_10) rfl rfl ?_
    refine XS.iloadN X76.here hx rfl (hb hby d13_11) rfl ?_
    refine X76.caload hx (j := (1 : Int32)) (v := (.int c1)) (by rw [e76]; exact Ar79.1) (State.isArrayOf_alike hZ.alike Ar79.2.1) Ar79.2.2 hin79 hat79 (g := (mkF m 12 #[vr a1, vi 1, vr a3, vi 1, vi 3, vi 1, vi c0] [(.int 1), (.ref a1)])) rfl rfl (hb hby d13_12) _ ?_
    refine XS.istore X76.here hx rfl (hb hby d13_13) rfl (l' := #[vr a1, vi 1, vr a3, vi 1, vi 3, vi 1, vi c1]) rfl ?_
    refine XS.iload X76.here hx rfl (hb hby d13_15) rfl ?_
    refine XS.sipush X76.here hx rfl (hb hby d13_17) ?_
    show Steps p.tables e below (T76.setTop (mkF m 20 #[vr a1, vi 1, vr a3, vi 1, vi 3, vi 1, vi c1] [(.int 255), (.int c1)])) _
    refine XS.icmpYes X76.here hx rfl (pc0 := 20) (pc' := 26) rfl (hb hby d13_20) rfl (flt hp1).2.2.2 (by decide) (by decide) ?_
    refine XS.aloadN X76.here hx rfl (hb hby d13_26) rfl rfl ?_
    refine XS.iloadN X76.here hx rfl (hb hby d13_27) rfl ?_
    refine XS.iload X76.here hx rfl (hb hby d13_28) rfl ?_
    refine XS.i2b X76.here hx rfl (hb hby d13_30) rfl ?_
    refine st81 _ ?_
    refine XS.iinc X81.here hx rfl (hb hby d13_32) rfl (l' := #[vr a1, vi 2, vr a3, vi 1, vi 3, vi 1, vi c1]) rfl ?_
    refine XS.iinc X81.here hx rfl (hb hby d13_35) rfl (l' := #[vr a1, vi 2, vr a3, vi 2, vi 3, vi 1, vi c1]) rfl ?_
    refine XS.iinc X81.here hx rfl (hb hby d13_38) rfl (l' := #[vr a1, vi 2, vr a3, vi 2, vi 3, vi 2, vi c1]) rfl ?_
    refine XS.goto X81.here hx rfl (pc0 := 41) (pc' := 3) rfl (hb hby d13_41) (by decide) (by decide) ?_
    show Steps p.tables e below (T81.setTop (mkF m 3 #[vr a1, vi 2, vr a3, vi 2, vi 3, vi 2, vi c1] [])) _
    refine XS.iload X81.here hx rfl (hb hby d13_3) rfl ?_
    refine XS.iload X81.here hx rfl (hb hby d13_5) rfl ?_
    refine XS.icmpNo X81.here hx rfl (hb hby d13_7) rfl (tlt (by decide)).2.1 ?_
    refine XS.aloadN X81.here hx rfl (hb hby d13_10) rfl rfl ?_
    refine XS.iloadN X81.here hx rfl (hb hby d13_11) rfl ?_
    refine X81.caload hx (j := (2 : Int32)) (v := (.int c2)) (by rw [e81]; exact Ar84.1) (State.isArrayOf_alike hZ.alike Ar84.2.1) Ar84.2.2 hin84 hat84 (g := (mkF m 12 #[vr a1, vi 2, vr a3, vi 2, vi 3, vi 2, vi c1] [(.int 2), (.ref a1)])) rfl rfl (hb hby d13_12) _ ?_
    refine XS.istore X81.here hx rfl (hb hby d13_13) rfl (l' := #[vr a1, vi 2, vr a3, vi 2, vi 3, vi 2, vi c2]) rfl ?_
    refine XS.iload X81.here hx rfl (hb hby d13_15) rfl ?_
    refine XS.sipush X81.here hx rfl (hb hby d13_17) ?_
    refine XS.icmpYes X81.here hx rfl (pc0 := 20) (pc' := 26) rfl (hb hby d13_20) rfl (flt hp2).2.2.2 (by decide) (by decide) ?_
    show Steps p.tables e below (T81.setTop (mkF m 26 #[vr a1, vi 2, vr a3, vi 2, vi 3, vi 2, vi c2] [])) _
    refine XS.aloadN X81.here hx rfl (hb hby d13_26) rfl rfl ?_
    refine XS.iloadN X81.here hx rfl (hb hby d13_27) rfl ?_
    refine XS.iload X81.here hx rfl (hb hby d13_28) rfl ?_
    refine XS.i2b X81.here hx rfl (hb hby d13_30) rfl ?_
    refine st86 _ ?_
    refine XS.iinc X86.here hx rfl (hb hby d13_32) rfl (l' := #[vr a1, vi 3, vr a3, vi 2, vi 3, vi 2, vi c2]) rfl ?_
    refine XS.iinc X86.here hx rfl (hb hby d13_35) rfl (l' := #[vr a1, vi 3, vr a3, vi 3, vi 3, vi 2, vi c2]) rfl ?_
    refine XS.iinc X86.here hx rfl (hb hby d13_38) rfl (l' := #[vr a1, vi 3, vr a3, vi 3, vi 3, vi 3, vi c2]) rfl ?_
    refine XS.goto X86.here hx rfl (pc0 := 41) (pc' := 3) rfl (hb hby d13_41) (by decide) (by decide) ?_
    refine XS.iload X86.here hx rfl (hb hby d13_3) rfl ?_
    show Steps p.tables e below (T86.setTop (mkF m 5 #[vr a1, vi 3, vr a3, vi 3, vi 3, vi 3, vi c2] [(.int 3)])) _
    refine XS.iload X86.here hx rfl (hb hby d13_5) rfl ?_
    refine XS.icmpYes X86.here hx rfl (pc0 := 7) (pc' := 44) rfl (hb hby d13_7) rfl (flt (by decide)).2.1 (by decide) (by decide) ?_
    refine XS.iload X86.here hx rfl (hb hby d13_44) rfl ?_
    exact retI X86 hx Bd.returns (hb hby d13_46) hr
  · show Q_rmcm3 Z _ _ _ _ _ _ _ h0 n0 _ T86.heap _
    rw [e86]
    exact ⟨rfl, N86, K88, V_a3_86⟩
def Q_rmcp3 (Z : State) (a1 : Addr) (kc : ClassId) (c0 : Int32) (c1 : Int32) (c2 : Int32) (h0 : Heap) (n0 : Nat) (v : Option Value) (h : Heap) (L : List Loc) : Prop := ∃ b : Addr, ∃ kb : ClassId, v = some (.ref b) ∧ Fr n0 L ∧ Keep h0 h [] ∧ (h0.size ≤ b) ∧ (Arv Z h b kb .byte (3 : Int32) [(.int (nar .byte (c0.toInt8.toInt32))), (.int (nar .byte (c1.toInt8.toInt32))), (.int (nar .byte (c2.toInt8.toInt32)))] (.int 0))
set_option maxRecDepth 65536 in
set_option maxHeartbeats 40000000 in
theorem rmcp3 (l : Launch) (Z : State) (a0 : Array Value) (hw : HW a0 Z) (ws : List Jvm.Cond) (a1 : Addr) (kc : ClassId) (c0 : Int32) (c1 : Int32) (c2 : Int32) (h0 : Heap) (n0 : Nat) (Z0 : n0 ≤ h0.size) (V_a1 : Arv Z h0 a1 kc .char (3 : Int32) [(.int c0), (.int c1), (.int c2)] (.int 0)) (hp0 : ¬ ((255 : Int32) < c0)) (hp1 : ¬ ((255 : Int32) < c1)) (hp2 : ¬ ((255 : Int32) < c2)) :
    MF l y_12 (Jvm.Cond.code y_12 B12 6 (some (.array .byte)) :: ws) (⟨1, 1, 3, 18⟩ : Room) Z h0 #[(.ref a1), (.int 0), (.int 3)] (Q_rmcp3 Z a1 kc c0 c1 c2 h0 n0) := by
  refine MetFree.of_bodySF (plainFor_of_name pn_java_lang_StringUTF16) hisR ?_
  intro p e s m args below meth c s₁ Bd hml0 hP hK
  obtain ⟨rfl, hZ, hh⟩ := hP
  have hx := Bd.exec
  have hby := Bd.bytes
  have hml : c.maxLocals = 6 := hml0
  have hown : s.vm.findClass cs4 = some m.cls := findClass_of_methodNamed Bd.named
  have hnm := (name_of_methodNamed Bd.named Bd.method).1
  have X0 : Stand p l e (⟨1, 1, 3, 18⟩ : Room) s m #[(.ref a1), (.int 0), (.int 3)] below meth c s₁ [] 0 0 := Stand.of_body Bd
  have e0 : s₁.heap = h0 := by rw [← hh, Bd.state]; rfl
  have N0 := Fr.nil n0
  have pre0 : Goes p e below (s₁.setTop (entryFrame m #[(.ref a1), (.int 0), (.int 3)] 6)) (s₁.setTop (mkF m 0 #[vr a1, vi 0, vi 3, .unset, .unset, .unset] [])) := fun t k => castTop (ef_12 m a1 (0 : Int32) (3 : Int32)) k
  obtain ⟨T89, h89, k89, X89, e89, E89, A89, st89⟩ := newP (aty := .byte) X0 hx hZ (wd_23 hw) e0 (g := (mkF m 1 #[vr a1, vi 0, vi 3, .unset, .unset, .unset] [(.int 3)])) rfl (hb hby d12_1) rfl (by decide) (cap := 3) (by decide) (by decide) (by decide) (by decide)
  obtain ⟨b89, g89⟩ : ∃ z, z = h0.size := ⟨_, rfl⟩
  rw [← g89] at A89 st89
  have g_b89 : n0 ≤ b89 := Nat.le_trans Z0 (Nat.le_of_eq g89.symm)
  have sz_b89 : h0.size ≤ b89 := Nat.le_trans (And.left (Keep.refl h0 [])) (Nat.le_of_eq g89.symm)
  have Z90 := Nat.le_trans Z0 E89.1
  have K91 := Keep.ext (Keep.refl h0 []) E89
  have V0_b89 := (Arv.new A89 (by decide)).pad (pad_rep [] (.int 0) 3)
  have V_b89 : Arv Z h89 b89 k89 .byte (3 : Int32) [(.int 0), (.int 0), (.int 0)] (.int 0) := V0_b89
  have ne_a1_b89 : a1 ≠ b89 := Nat.ne_of_lt (Nat.lt_of_lt_of_le V_a1.lt sz_b89)
  obtain ⟨_, _, ⟨T92, L92, k92, n92⟩, -, X92, ⟨Lc92, hQ92, l92, y92, z92⟩, st92⟩ := Jvm.LawKit.callS X89 hx (y := y_13) hown (mvT hZ (wd_72 hw)) (mvT hZ (wd_73 hw)) (mvT hZ (wd_70 hw)) (mvT hZ (wd_74 hw)) (by decide) (backOf (W := 0) (rmcm3 l Z a0 hw [] a1 b89 kc k89 c0 c1 c2 h89 n0 Z90 (V_a1.keep K91 nin0) V_b89 g_b89 ne_a1_b89 hp0 hp1 hp2) hZ (wd_74 hw) (wd_70 hw) (by decide) (by decide)) (g := (mkF m 9 #[vr a1, vi 0, vi 3, vr b89, .unset, .unset] [(.int 3), (.int 0), (.ref b89), (.int 0), (.ref a1)])) rfl (by rw [hml]; rfl) (argsL := [(.ref a1), (.int 0), (.ref b89), (.int 0), (.int 3)]) (rest := []) (lenOf pd___CI_BII_I rfl) rfl (by show 2 * 0 + _ ≤ _; exact Nat.le_of_eq rfl) (hb hby d12_9) (fun _ _ => ⟨rfl, e89, (by decide : 1 + 0 ≤ _), (by decide : 3 + 0 ≤ _)⟩)
  dsimp only [Pt.U, Pt.locs, Pt.cells, Pt.slots] at X92 l92 y92 z92 st92 hQ92
  rw [l92, y92, z92] at X92
  obtain ⟨rfl, N92q, K92q, g92_0⟩ := hQ92
  have N92 := Fr.app N0 N92q
  have Z93 := Nat.le_trans Z90 K92q.1
  have K94 := Keep.trans K91 K92q (allS (Or.inr sz_b89) all0)
  obtain ⟨fs, hr, hrun, hended, hW, hsame⟩ := X92.leave (v := some (.ref b89)) (fun h => by rw [Bd.returns] at h; cases h)
  refine ⟨_, _, pre0 _ ?_, hrun, hended, _, _, rfl, ?_, ⟨_, rfl⟩, hW, hsame.mono (by decide) (by decide)⟩
  · show Steps p.tables e below (s₁.setTop (mkF m 0 #[vr a1, vi 0, vi 3, .unset, .unset, .unset] [])) _
    refine XS.iloadN X0.here hx rfl (hb hby d12_0) rfl ?_
    refine st89 _ ?_
    refine XS.astoreN X89.here hx rfl (hb hby d12_3) rfl rfl (l' := #[vr a1, vi 0, vi 3, vr b89, .unset, .unset]) rfl ?_
    refine XS.aloadN X89.here hx rfl (hb hby d12_4) rfl rfl ?_
    refine XS.iloadN X89.here hx rfl (hb hby d12_5) rfl ?_
    refine XS.aloadN X89.here hx rfl (hb hby d12_6) rfl rfl ?_
    refine XS.iconst X89.here hx rfl (hb hby d12_7) ?_
    refine XS.iloadN X89.here hx rfl (hb hby d12_8) rfl ?_
    refine st92 _ ?_
    refine XS.istore X92.here hx rfl (hb hby d12_12) rfl (l' := #[vr a1, vi 0, vi 3, vr b89, vi 3, .unset]) rfl ?_
    show Steps p.tables e below (T92.setTop (mkF m 14 #[vr a1, vi 0, vi 3, vr b89, vi 3, .unset] [])) _
    refine XS.iload X92.here hx rfl (hb hby d12_14) rfl ?_
    refine XS.iloadN X92.here hx rfl (hb hby d12_16) rfl ?_
    refine XS.icmpYes X92.here hx rfl (pc0 := 17) (pc' := 57) rfl (hb hby d12_17) rfl (teq (rfl : (3 : Int32) = (3 : Int32))).1 (by decide) (by decide) ?_
    refine XS.aloadN X92.here hx rfl (hb hby d12_57) rfl rfl ?_
    exact X92.areturnOut hx rfl Bd.returns rfl (hb hby d12_58) hr
  · show Q_rmcp3 Z _ _ _ _ _ h0 n0 _ T92.heap _
    exact ⟨b89, k89, rfl, N92, K94, sz_b89, g92_0⟩
def Q_rmcl3 (Z : State) (a1 : Addr) (kb : ClassId) (x0 : Int32) (x1 : Int32) (x2 : Int32) (h0 : Heap) (n0 : Nat) (v : Option Value) (h : Heap) (L : List Loc) : Prop := v = some (.int 0) ∧ Fr n0 L ∧ h = h0
set_option maxRecDepth 65536 in
set_option maxHeartbeats 40000000 in
theorem rmcl3 (l : Launch) (Z : State) (a0 : Array Value) (hw : HW a0 Z) (ws : List Jvm.Cond) (a1 : Addr) (kb : ClassId) (x0 : Int32) (x1 : Int32) (x2 : Int32) (h0 : Heap) (n0 : Nat) (Z0 : n0 ≤ h0.size) (V_a1 : Arv Z h0 a1 kb .byte (3 : Int32) [(.int x0), (.int x1), (.int x2)] (.int 0)) :
    MF l y_14 (Jvm.Cond.code y_14 B14 2 (some .byte) :: ws) (⟨0, 0, 0, 0⟩ : Room) Z h0 #[(.ref a1), (.int 3)] (Q_rmcl3 Z a1 kb x0 x1 x2 h0 n0) := by
  refine MetFree.of_bodySF (plainFor_of_name pn_java_lang_StringUTF16) hisR ?_
  intro p e s m args below meth c s₁ Bd hml0 hP hK
  obtain ⟨rfl, hZ, hh⟩ := hP
  have hx := Bd.exec
  have hby := Bd.bytes
  have hml : c.maxLocals = 2 := hml0
  have hown : s.vm.findClass cs4 = some m.cls := findClass_of_methodNamed Bd.named
  have hnm := (name_of_methodNamed Bd.named Bd.method).1
  have X0 : Stand p l e (⟨0, 0, 0, 0⟩ : Room) s m #[(.ref a1), (.int 3)] below meth c s₁ [] 0 0 := Stand.of_body Bd
  have e0 : s₁.heap = h0 := by rw [← hh, Bd.state]; rfl
  have N0 := Fr.nil n0
  have pre0 : Goes p e below (s₁.setTop (entryFrame m #[(.ref a1), (.int 3)] 2)) (s₁.setTop (mkF m 0 #[vr a1, vi 3] [])) := fun t k => castTop (ef_14 m a1 (3 : Int32)) k
  obtain ⟨cl95, Ar95, q95, S95, N95n, H95, G95⟩ := id (V_a1)
  obtain ⟨fs, hr, hrun, hended, hW, hsame⟩ := X0.leave (v := some (.int 0)) (fun h => by rw [Bd.returns] at h; cases h)
  refine ⟨_, _, pre0 _ ?_, hrun, hended, _, _, rfl, ?_, ⟨_, rfl⟩, hW, hsame.mono (by decide) (by decide)⟩
  · show Steps p.tables e below (s₁.setTop (mkF m 0 #[vr a1, vi 3] [])) _
    refine XS.iloadN X0.here hx rfl (hb hby d14_0) rfl ?_
    refine XS.aloadN X0.here hx rfl (hb hby d14_1) rfl rfl ?_
    refine X0.arraylength hx (by rw [e0]; exact Ar95.1) (State.isArrayOf_alike hZ.alike Ar95.2.1) (g := (mkF m 2 #[vr a1, vi 3] [(.ref a1), (.int 3)])) rfl rfl (hb hby d14_2) _ ?_
    rw [len_of S95 N95n]
    refine XS.isub X0.here hx rfl (hb hby d14_3) rfl ?_
    refine XS.bipush X0.here hx rfl (hb hby d14_4) ?_
    refine XS.iushr X0.here hx rfl (hb hby d14_6) rfl ?_
    refine XS.i2b X0.here hx rfl (hb hby d14_7) rfl ?_
    show Steps p.tables e below (s₁.setTop (mkF m 8 #[vr a1, vi 3] [(.int 0)])) _
    exact retN X0 hx (t := .byte) Bd.returns (by simp) (hb hby d14_8) hr
  · show Q_rmcl3 Z _ _ _ _ _ h0 n0 _ s₁.heap _
    rw [e0]
    exact ⟨rfl, N0, rfl⟩
def Q_rmi4_3 (Z : State) (a1 : Addr) (a2 : Addr) (u1 : Value) (u2 : Value) (kc : ClassId) (wz : Int32) (c0 : Int32) (c1 : Int32) (c2 : Int32) (h0 : Heap) (n0 : Nat) (v : Option Value) (h : Heap) (L : List Loc) : Prop := ∃ b : Addr, ∃ kb : ClassId, v = none ∧ Fr n0 L ∧ Keep h0 h [a1] ∧ (h0.size ≤ b) ∧ (Fld Z h a1 cs1 "value" "[B" (.ref b)) ∧ (Fld Z h a1 cs1 "coder" "B" (.int 0)) ∧ (Arv Z h b kb .byte (3 : Int32) [(.int (nar .byte (c0.toInt8.toInt32))), (.int (nar .byte (c1.toInt8.toInt32))), (.int (nar .byte (c2.toInt8.toInt32)))] (.int 0))
set_option maxRecDepth 65536 in
set_option maxHeartbeats 40000000 in
theorem rmi4_3 (l : Launch) (Z : State) (a0 : Array Value) (hw : HW a0 Z) (ws : List Jvm.Cond) (a1 : Addr) (a2 : Addr) (u1 : Value) (u2 : Value) (kc : ClassId) (wz : Int32) (c0 : Int32) (c1 : Int32) (c2 : Int32) (h0 : Heap) (n0 : Nat) (Z0 : n0 ≤ h0.size) (F_value_a1 : Fld Z h0 a1 cs1 "value" "[B" u1) (F_coder_a1 : Fld Z h0 a1 cs1 "coder" "B" u2) (E_a1 : Exa Z h0 a1 cs1) (g_a1 : n0 ≤ a1) (V_a2 : Arv Z h0 a2 kc .char (3 : Int32) [(.int c0), (.int c1), (.int c2)] (.int 0)) (hp0 : ¬ ((255 : Int32) < c0)) (hp1 : ¬ ((255 : Int32) < c1)) (hp2 : ¬ ((255 : Int32) < c2)) (Old0 : Old Z n0 h0) (S_COMPACT_STRINGS : Sta Z Z.heap cs1 cs6 "Z" (.int wz)) (hz : ¬ (wz = (0 : Int32))) :
    MF l y_4 (Jvm.Cond.code y_4 B4 6 none :: ws) (⟨2, 1, 3, 35⟩ : Room) Z h0 #[(.ref a1), (.ref a2), (.int 0), (.int 3), .null] (Q_rmi4_3 Z a1 a2 u1 u2 kc wz c0 c1 c2 h0 n0) := by
  refine MetFree.of_bodySF (plainFor_of_name pn_java_lang_String) hisR ?_
  intro p e s m args below meth c s₁ Bd hml0 hP hK
  obtain ⟨rfl, hZ, hh⟩ := hP
  have hx := Bd.exec
  have hby := Bd.bytes
  have hml : c.maxLocals = 6 := hml0
  have hown : s.vm.findClass cs1 = some m.cls := findClass_of_methodNamed Bd.named
  have hnm := (name_of_methodNamed Bd.named Bd.method).1
  have X0 : Stand p l e (⟨2, 1, 3, 35⟩ : Room) s m #[(.ref a1), (.ref a2), (.int 0), (.int 3), .null] below meth c s₁ [] 0 0 := Stand.of_body Bd
  have e0 : s₁.heap = h0 := by rw [← hh, Bd.state]; rfl
  have N0 := Fr.nil n0
  have pre0 : Goes p e below (s₁.setTop (entryFrame m #[(.ref a1), (.ref a2), (.int 0), (.int 3), .null] 6)) (s₁.setTop (mkF m 0 #[vr a1, vr a2, vi 0, vi 3, .val .null, .unset] [])) := fun t k => castTop (efn_4 m a1 a2 (0 : Int32) (3 : Int32)) k
  obtain ⟨T96, X96, e96, st96⟩ := initO X0 hx hZ hown (wd_19 hw) (wd_20 hw) (wd_21 hw) e0 (g := (mkF m 1 #[vr a1, vr a2, vi 0, vi 3, .val .null, .unset] [(.ref a1)])) rfl (by rw [hml]; rfl) rfl (hb hby d4_1) (by decide) (W := 0) (by show 2 * 0 + _ ≤ _; exact Nat.le_of_eq rfl) (by decide)
  obtain ⟨T97, X97, e97, st97⟩ := getS2 X96 hx hZ hown (host := "") (Or.inl (wd_59 hw)) Via.refl e96 (S_COMPACT_STRINGS.ext (Old0).2) (g := (mkF m 27 #[vr a1, vr a2, vi 0, vi 3, .val .null, .unset] [])) rfl (hb hby d4_27)
  obtain ⟨_, _, ⟨T98, L98, k98, n98⟩, -, X98, ⟨Lc98, hQ98, l98, y98, z98⟩, st98⟩ := Jvm.LawKit.callS X97 hx (y := y_12) hown (mvT hZ (wd_68 hw)) (mvT hZ (wd_69 hw)) (mvT hZ (wd_70 hw)) (mvT hZ (wd_71 hw)) (by decide) (backOf (W := 0) (rmcp3 l Z a0 hw [] a2 kc c0 c1 c2 h0 n0 Z0 V_a2 hp0 hp1 hp2) hZ (wd_71 hw) (wd_70 hw) (by decide) (by decide)) (g := (mkF m 36 #[vr a1, vr a2, vi 0, vi 3, .val .null, .unset] [(.int 3), (.int 0), (.ref a2)])) rfl (by rw [hml]; rfl) (argsL := [(.ref a2), (.int 0), (.int 3)]) (rest := []) (lenOf pd___CII__B rfl) rfl (by show 2 * 0 + _ ≤ _; exact Nat.le_of_eq rfl) (hb hby d4_36) (fun _ _ => ⟨rfl, e97, (by decide : 0 + 1 ≤ _), (by decide : 0 + 3 ≤ _)⟩)
  dsimp only [Pt.U, Pt.locs, Pt.cells, Pt.slots] at X98 l98 y98 z98 st98 hQ98
  rw [l98, y98, z98] at X98
  obtain ⟨b_98, kb_98, rfl, N98q, K98q, g98_0, g98_1⟩ := hQ98
  have N98 := Fr.app N0 N98q
  have Z99 := Nat.le_trans Z0 K98q.1
  have K100 := Keep.trans (Keep.refl h0 [a1]) K98q all0
  have g101 : n0 ≤ b_98 := Nat.le_trans Z0 g98_0
  have sz102 : h0.size ≤ b_98 := Nat.le_trans (And.left (Keep.refl h0 [a1])) g98_0
  obtain ⟨_, _, ⟨T103, L103, k103, n103⟩, -, X103, ⟨Lc103, hQ103, l103, y103, z103⟩, st103⟩ := Jvm.LawKit.callS X98 hx (y := y_14) hown (mvT hZ (wd_75 hw)) (mvT hZ (wd_76 hw)) (mvT hZ (wd_70 hw)) (mvT hZ (wd_77 hw)) (by decide) (backOf (W := 1) (rmcl3 l Z a0 hw [] b_98 kb_98 (nar .byte (c0.toInt8.toInt32)) (nar .byte (c1.toInt8.toInt32)) (nar .byte (c2.toInt8.toInt32)) T98.heap n0 Z99 g98_1) hZ (wd_77 hw) (wd_70 hw) (by decide) (by decide)) (g := (mkF m 45 #[vr a1, vr a2, vi 0, vi 3, .val .null, vr b_98] [(.int 3), (.ref b_98), (.ref a1)])) rfl (by rw [hml]; rfl) (argsL := [(.ref b_98), (.int 3)]) (rest := [(.ref a1)]) (lenOf pd___BI_B rfl) rfl (by show 2 * 0 + _ ≤ _; exact Nat.le_of_eq rfl) (hb hby d4_45) (fun _ _ => ⟨rfl, rfl, (by decide : 1 + 0 ≤ _), (by decide : 3 + 0 ≤ _)⟩)
  dsimp only [Pt.U, Pt.locs, Pt.cells, Pt.slots] at X103 l103 y103 z103 st103 hQ103
  rw [l103, y103, z103] at X103
  obtain ⟨rfl, N103q, e103⟩ := hQ103
  have N103 := Fr.app N98 N103q
  obtain ⟨T104, h104, X104, e104, W104, st104⟩ := putFN X103 hx hZ hown (wd_29 hw) Via.refl e103 (F_coder_a1.keep K98q nin0) (E_a1.keep K100) (Or.inr ⟨(wd_25 hw), rfl, hnm⟩) (wd_10 hw) (ty := .byte) (v' := (.int 0)) (by decide) rfl rfl (g := (mkF m 48 #[vr a1, vr a2, vi 0, vi 3, .val .null, vr b_98] [(.int 0), (.ref a1)])) rfl rfl (hb hby d4_48)
  have Fw104 := (F_coder_a1.keep K98q nin0).same W104
  have Z105 := Nat.le_trans Z99 (Keep.of_wr W104).1
  have K106 := Keep.wr K100 W104 (Or.inl (List.mem_of_getElem? (i := 0) rfl))
  have N104 := Fr.snoc X104 N103 g_a1
  obtain ⟨T107, h107, X107, e107, W107, st107⟩ := putF X104 hx hZ hown (host := "") (Or.inl (wd_28 hw)) Via.refl e104 ((F_value_a1.keep K98q nin0).other W104 (Or.inr (slot_ne (Or.inr (wd_24 hw)) (Or.inr (wd_25 hw)) (by decide) (t := (.array .byte)) (t' := .byte) (by decide) (by decide)))) (E_a1.keep K106) (Or.inr ⟨(wd_24 hw), rfl, hnm⟩) (wd_10 hw) (ty := (.array .byte)) (by decide) rfl rfl (g := (mkF m 54 #[vr a1, vr a2, vi 0, vi 3, .val .null, vr b_98] [(.ref b_98), (.ref a1)])) rfl rfl (hb hby d4_54)
  have Fw107 := ((F_value_a1.keep K98q nin0).other W104 (Or.inr (slot_ne (Or.inr (wd_24 hw)) (Or.inr (wd_25 hw)) (by decide) (t := (.array .byte)) (t' := .byte) (by decide) (by decide)))).same W107
  have Z108 := Nat.le_trans Z105 (Keep.of_wr W107).1
  have K109 := Keep.wr K106 W107 (Or.inl (List.mem_of_getElem? (i := 0) rfl))
  have N107 := Fr.snoc X107 N104 g_a1
  obtain ⟨fs, hr, hrun, hended, hW, hsame⟩ := X107.leave (v := none) (fun _ => rfl)
  refine ⟨_, _, pre0 _ ?_, hrun, hended, _, _, rfl, ?_, ⟨_, rfl⟩, hW, hsame.mono (by decide) (by decide)⟩
  · show Steps p.tables e below (s₁.setTop (mkF m 0 #[vr a1, vr a2, vi 0, vi 3, .val .null, .unset] [])) _
    refine XS.aloadN X0.here hx rfl (hb hby d4_0) rfl rfl ?_
    refine st96 _ ?_
    refine XS.iloadN X96.here hx rfl (hb hby d4_4) rfl ?_
    refine XS.ifYes X96.here hx rfl (pc0 := 5) (pc' := 27) rfl (hb hby d4_5) rfl ((if0 _ _).trans (feq (by decide)).2) (by decide) (by decide) ?_
    refine st97 _ ?_
    refine XS.ifNo X97.here hx rfl (hb hby d4_30) rfl ((if0 _ _).trans (feq hz).1) ?_
    refine XS.aloadN X97.here hx rfl (hb hby d4_33) rfl rfl ?_
    refine XS.iloadN X97.here hx rfl (hb hby d4_34) rfl ?_
    refine XS.iloadN X97.here hx rfl (hb hby d4_35) rfl ?_
    refine st98 _ ?_
    show Steps p.tables e below (T98.setTop (mkF m 39 #[vr a1, vr a2, vi 0, vi 3, .val .null, .unset] [(.ref b_98)])) _
    refine XS.astore X98.here hx rfl (hb hby d4_39) rfl rfl (l' := #[vr a1, vr a2, vi 0, vi 3, .val .null, vr b_98]) rfl ?_
    refine XS.aloadN X98.here hx rfl (hb hby d4_41) rfl rfl ?_
    refine XS.aload X98.here hx rfl (hb hby d4_42) rfl rfl ?_
    refine XS.iloadN X98.here hx rfl (hb hby d4_44) rfl ?_
    refine st103 _ ?_
    refine st104 _ ?_
    refine XS.aloadN X104.here hx rfl (hb hby d4_51) rfl rfl ?_
    refine XS.aload X104.here hx rfl (hb hby d4_52) rfl rfl ?_
    refine st107 _ ?_
    exact X107.returnOut hx Bd.returns (hb hby d4_57) hr
  · show Q_rmi4_3 Z _ _ _ _ _ _ _ _ _ h0 n0 _ T107.heap _
    rw [e107]
    have KP110 : Keep _ _ [a1, a1] := own_ktr (Keep.of_wr W104) (Keep.of_wr W107)
    have ne_a1_b_98 : a1 ≠ b_98 := Nat.ne_of_lt (Nat.lt_of_lt_of_le F_value_a1.lt sz102)
    have ni111 := (ninS (Ne.symm ne_a1_b_98) (ninS (Ne.symm ne_a1_b_98) nin0))
    exact ⟨b_98, kb_98, rfl, N107, K109, sz102, Fw107, (Fw104.other W107 (Or.inr (slot_ne (Or.inr (wd_25 hw)) (Or.inr (wd_24 hw)) (by decide) (t := .byte) (t' := (.array .byte)) (by decide) (by decide)))), (g98_1.keep KP110 ni111)⟩
def Q_rmi1_3 (Z : State) (a1 : Addr) (a2 : Addr) (u1 : Value) (u2 : Value) (kc : ClassId) (wz : Int32) (c0 : Int32) (c1 : Int32) (c2 : Int32) (h0 : Heap) (n0 : Nat) (v : Option Value) (h : Heap) (L : List Loc) : Prop := ∃ b : Addr, ∃ kb : ClassId, v = none ∧ Fr n0 L ∧ Keep h0 h [a1] ∧ (h0.size ≤ b) ∧ (Fld Z h a1 cs1 "value" "[B" (.ref b)) ∧ (Fld Z h a1 cs1 "coder" "B" (.int 0)) ∧ (Arv Z h b kb .byte (3 : Int32) [(.int (nar .byte (c0.toInt8.toInt32))), (.int (nar .byte (c1.toInt8.toInt32))), (.int (nar .byte (c2.toInt8.toInt32)))] (.int 0))
set_option maxRecDepth 65536 in
set_option maxHeartbeats 40000000 in
theorem rmi1_3 (l : Launch) (Z : State) (a0 : Array Value) (hw : HW a0 Z) (ws : List Jvm.Cond) (a1 : Addr) (a2 : Addr) (u1 : Value) (u2 : Value) (kc : ClassId) (wz : Int32) (c0 : Int32) (c1 : Int32) (c2 : Int32) (h0 : Heap) (n0 : Nat) (Z0 : n0 ≤ h0.size) (F_value_a1 : Fld Z h0 a1 cs1 "value" "[B" u1) (F_coder_a1 : Fld Z h0 a1 cs1 "coder" "B" u2) (E_a1 : Exa Z h0 a1 cs1) (g_a1 : n0 ≤ a1) (V_a2 : Arv Z h0 a2 kc .char (3 : Int32) [(.int c0), (.int c1), (.int c2)] (.int 0)) (hp0 : ¬ ((255 : Int32) < c0)) (hp1 : ¬ ((255 : Int32) < c1)) (hp2 : ¬ ((255 : Int32) < c2)) (Old0 : Old Z n0 h0) (S_COMPACT_STRINGS : Sta Z Z.heap cs1 cs6 "Z" (.int wz)) (hz : ¬ (wz = (0 : Int32))) :
    MF l y_3 (Jvm.Cond.code y_3 B3 2 none :: ws) (⟨3, 1, 3, 52⟩ : Room) Z h0 #[(.ref a1), (.ref a2)] (Q_rmi1_3 Z a1 a2 u1 u2 kc wz c0 c1 c2 h0 n0) := by
  refine MetFree.of_bodySF (plainFor_of_name pn_java_lang_String) hisR ?_
  intro p e s m args below meth c s₁ Bd hml0 hP hK
  obtain ⟨rfl, hZ, hh⟩ := hP
  have hx := Bd.exec
  have hby := Bd.bytes
  have hml : c.maxLocals = 2 := hml0
  have hown : s.vm.findClass cs1 = some m.cls := findClass_of_methodNamed Bd.named
  have hnm := (name_of_methodNamed Bd.named Bd.method).1
  have X0 : Stand p l e (⟨3, 1, 3, 52⟩ : Room) s m #[(.ref a1), (.ref a2)] below meth c s₁ [] 0 0 := Stand.of_body Bd
  have e0 : s₁.heap = h0 := by rw [← hh, Bd.state]; rfl
  have N0 := Fr.nil n0
  have pre0 : Goes p e below (s₁.setTop (entryFrame m #[(.ref a1), (.ref a2)] 2)) (s₁.setTop (mkF m 0 #[vr a1, vr a2] [])) := fun t k => castTop (ef_3 m a1 a2) k
  obtain ⟨cl112, Ar112, q112, S112, N112n, H112, G112⟩ := id (V_a2)
  obtain ⟨_, T113, L113, X113, hQ113, st113⟩ := cN X0 hx hZ hown (wd_15 hw) (wd_16 hw) rfl (by decide) 0 (rmi4_3 l Z a0 hw [] a1 a2 u1 u2 kc wz c0 c1 c2 h0 n0 Z0 F_value_a1 F_coder_a1 E_a1 g_a1 V_a2 hp0 hp1 hp2 Old0 S_COMPACT_STRINGS hz) (wd_18 hw) (wd_11 hw) (by decide) (by decide) e0 a1 hml (Ls := #[vr a1, vr a2]) rfl (argsL := [(.ref a2), (.int 0), (.int 3), .null]) (rest := []) (lenOf pd___CIILjava_lang_Void__V rfl) (St := [.null, (.int 3), (.int 0), (.ref a2), (.ref a1)]) rfl rfl (hb hby d3_6) rfl (by decide) (by decide)
  obtain ⟨b_113, kb_113, rfl, N113q, K113q, g113_0, g113_1, g113_2, g113_3⟩ := hQ113
  have N113 := Fr.app N0 N113q
  have Z114 := Nat.le_trans Z0 K113q.1
  have K115 := Keep.trans (Keep.refl h0 [a1]) K113q (allS (Or.inl (List.mem_of_getElem? (i := 0) rfl)) all0)
  have g116 : n0 ≤ b_113 := Nat.le_trans Z0 g113_0
  have sz117 : h0.size ≤ b_113 := Nat.le_trans (And.left (Keep.refl h0 [a1])) g113_0
  obtain ⟨fs, hr, hrun, hended, hW, hsame⟩ := X113.leave (v := none) (fun _ => rfl)
  refine ⟨_, _, pre0 _ ?_, hrun, hended, _, _, rfl, ?_, ⟨_, rfl⟩, hW, hsame.mono (by decide) (by decide)⟩
  · show Steps p.tables e below (s₁.setTop (mkF m 0 #[vr a1, vr a2] [])) _
    refine XS.aloadN X0.here hx rfl (hb hby d3_0) rfl rfl ?_
    refine XS.aloadN X0.here hx rfl (hb hby d3_1) rfl rfl ?_
    refine XS.iconst X0.here hx rfl (hb hby d3_2) ?_
    refine XS.aloadN X0.here hx rfl (hb hby d3_3) rfl rfl ?_
    refine X0.arraylength hx (by rw [e0]; exact Ar112.1) (State.isArrayOf_alike hZ.alike Ar112.2.1) (g := (mkF m 4 #[vr a1, vr a2] [(.ref a2), (.int 0), (.ref a2), (.ref a1)])) rfl rfl (hb hby d3_4) _ ?_
    rw [len_of S112 N112n]
    refine XS.aconstNull X0.here hx rfl (hb hby d3_5) ?_
    refine st113.trans ?_
    exact X113.returnOut hx Bd.returns (hb hby d3_9) hr
  · show Q_rmi1_3 Z _ _ _ _ _ _ _ _ _ h0 n0 _ T113.heap _
    exact ⟨b_113, kb_113, rfl, N113, K115, sz117, g113_1, g113_2, g113_3⟩
theorem d4_8 : dc B4 8 (.aload_n 0) 1 := by decide +kernel
theorem d4_9 : dc B4 9 (.ldc 7) 2 := by decide +kernel
theorem d4_11 : dc B4 11 (.getfield 9) 3 := by decide +kernel
theorem d4_14 : dc B4 14 (.putfield 9) 3 := by decide +kernel
theorem d4_17 : dc B4 17 (.aload_n 0) 1 := by decide +kernel
theorem d4_18 : dc B4 18 (.ldc 7) 2 := by decide +kernel
theorem d4_20 : dc B4 20 (.getfield 15) 3 := by decide +kernel
theorem d4_23 : dc B4 23 (.putfield 15) 3 := by decide +kernel
theorem d4_26 : dc B4 26 .return_ 1 := by decide +kernel
def Q_rmi4_0 (Z : State) (a1 : Addr) (a2 : Addr) (u2 : Value) (kc : ClassId) (h0 : Heap) (n0 : Nat) (v : Option Value) (h : Heap) (L : List Loc) : Prop := ∃ b : Addr, ∃ kb : ClassId, v = none ∧ Fr n0 L ∧ Keep h0 h [a1] ∧ (Fld Z h a1 cs1 "value" "[B" (.ref b)) ∧ (Fld Z h a1 cs1 "coder" "B" (.int 0)) ∧ (Arv Z h b kb .byte (0 : Int32) [] (.int 0))
set_option maxRecDepth 65536 in
set_option maxHeartbeats 40000000 in
theorem rmi4_0 (l : Launch) (Z : State) (a0 : Array Value) (hw : HW a0 Z) (ws : List Jvm.Cond) (a1 : Addr) (a2 : Addr) (u2 : Value) (kc : ClassId) (h0 : Heap) (n0 : Nat) (Z0 : n0 ≤ h0.size) (F_value_a1 : Fld Z h0 a1 cs1 "value" "[B" .null) (F_coder_a1 : Fld Z h0 a1 cs1 "coder" "B" u2) (E_a1 : Exa Z h0 a1 cs1) (g_a1 : n0 ≤ a1) (V_a2 : Arv Z h0 a2 kc .char (0 : Int32) [] (.int 0)) :
    MFH l y_4 (Jvm.Cond.code y_4 B4 6 none :: ws) (⟨1, 4, 8, 12⟩ : Room) Z h0 #[(.ref a1), (.ref a2), (.int 0), (.int 0), .null] (Q_rmi4_0 Z a1 a2 u2 kc h0 n0) := by
  refine MetFree.of_bodySF (plainFor_of_name pn_java_lang_String) hisR ?_
  intro p e s m args below meth c s₁ Bd hml0 hP hK
  obtain ⟨rfl, hZ, hh, hCH⟩ := hP
  have hx := Bd.exec
  have hby := Bd.bytes
  have hml : c.maxLocals = 6 := hml0
  have hown : s.vm.findClass cs1 = some m.cls := findClass_of_methodNamed Bd.named
  have hnm := (name_of_methodNamed Bd.named Bd.method).1
  have X0 : Stand p l e (⟨1, 4, 8, 12⟩ : Room) (s.setVm s.vm) m #[(.ref a1), (.ref a2), (.int 0), (.int 0), .null] below meth c s₁ [] 0 0 := Stand.of_body Bd
  have e0 : s₁.heap = h0 := by rw [← hh, Bd.state]; rfl
  have N0 := Fr.nil n0
  have pre0 : Goes p e below (s₁.setTop (entryFrame m #[(.ref a1), (.ref a2), (.int 0), (.int 0), .null] 6)) (s₁.setTop (mkF m 0 #[vr a1, vr a2, vi 0, vi 0, .val .null, .unset] [])) := fun t k => castTop (efn_4 m a1 a2 (0 : Int32) (0 : Int32)) k
  have hS := (State.WarmedH.refl s).since 0
  have hk0 : 0 ≤ h0.size := Nat.zero_le _
  have RR0 := CHr.refl hCH
  obtain ⟨T118, X118, e118, st118⟩ := initO X0 hx hZ hown (wd_19 hw) (wd_20 hw) (wd_21 hw) e0 (g := (mkF m 1 #[vr a1, vr a2, vi 0, vi 0, .val .null, .unset] [(.ref a1)])) rfl (by rw [hml]; rfl) rfl (hb hby d4_1) (by decide) (W := 0) (by show 2 * 0 + _ ≤ _; exact Nat.le_of_eq rfl) (by decide)
  have sf119 : Safe Z consts_1 s.vm h0 a1 := own_safeS hZ.alike E_a1 F_value_a1
  obtain ⟨a120, T120, h120, k120, b120, kb120, X120, e120, E120, hS, hq120, hZ, hown, Ea120, Fc120, Fv120, V120, -, -, C120, -, ne120, st120⟩ := ldcCH X118 hx hZ hown (wd_22 hw) (wSt hw) e118 hS hk0 (hELt hw) (EL := consts_1) (by first | decide | simp [consts_1]) RR0.1 (vs := []) (z := (0 : Int32)) lit0 (by decide) (by decide) (g := (mkF m 9 #[vr a1, vr a2, vi 0, vi 0, .val .null, .unset] [(.ref a1)])) rfl (hb hby d4_9) (n := 0) (by first | decide | simp) (by decide) (by decide) (by decide)
  have Z121 := Nat.le_trans Z0 E120.1
  have cs_124 := C120
  have RR122 := CHr.trans RR0 cs_124
  have hk123 := hq120
  have K125 := Keep.ext (Keep.refl h0 [a1]) E120
  obtain ⟨T126, X126, e126, st126⟩ := getF X120 hx hZ hown (host := "") (Or.inl (wd_28 hw)) Via.refl e120 Fv120 (g := (mkF m 11 #[vr a1, vr a2, vi 0, vi 0, .val .null, .unset] [(.ref a120), (.ref a1)])) rfl rfl (hb hby d4_11)
  obtain ⟨T127, h127, X127, e127, W127, st127⟩ := putF X126 hx hZ hown (host := "") (Or.inl (wd_28 hw)) Via.refl e126 (F_value_a1.ext E120) (E_a1.keep K125) (Or.inr ⟨(wd_24 hw), rfl, hnm⟩) (wd_10 hw) (ty := (.array .byte)) (by decide) rfl rfl (g := (mkF m 14 #[vr a1, vr a2, vi 0, vi 0, .val .null, .unset] [(.ref b120), (.ref a1)])) rfl rfl (hb hby d4_14)
  have Fw127 := (F_value_a1.ext E120).same W127
  have Z128 := Nat.le_trans Z121 (Keep.of_wr W127).1
  have cs_131 := (CHr.wr W127 (CHr.safe cs_124 (E_a1).lt sf119) RR122.1)
  have RR129 := CHr.trans RR122 cs_131
  have hk130 := Nat.le_trans hk123 (Keep.of_wr W127).1
  have K132 := Keep.wr K125 W127 (Or.inl (List.mem_of_getElem? (i := 0) rfl))
  have N127 := Fr.snoc X127 N0 g_a1
  obtain ⟨a133, T133, h133, k133, b133, kb133, X133, e133, E133, hS, hq133, hZ, hown, Ea133, Fc133, Fv133, V133, -, -, C133, -, ne133, st133⟩ := ldcCH X127 hx hZ hown (wd_22 hw) (wSt hw) e127 hS hk130 (hELt hw) (EL := consts_1) (by first | decide | simp [consts_1]) RR129.1 (vs := []) (z := (0 : Int32)) lit0 (by decide) (by decide) (g := (mkF m 18 #[vr a1, vr a2, vi 0, vi 0, .val .null, .unset] [(.ref a1)])) rfl (hb hby d4_18) (n := 0) (by first | decide | simp) (by decide) (by decide) (by decide)
  have Z134 := Nat.le_trans Z128 E133.1
  have cs_137 := C133
  have RR135 := CHr.trans RR129 cs_137
  have hk136 := hq133
  have K138 := Keep.ext K132 E133
  obtain ⟨T139, X139, e139, st139⟩ := getF X133 hx hZ hown (host := "") (Or.inl (wd_29 hw)) Via.refl e133 Fc133 (g := (mkF m 20 #[vr a1, vr a2, vi 0, vi 0, .val .null, .unset] [(.ref a133), (.ref a1)])) rfl rfl (hb hby d4_20)
  obtain ⟨T140, h140, X140, e140, W140, st140⟩ := putFN X139 hx hZ hown (wd_29 hw) Via.refl e139 (((F_coder_a1.ext E120).other W127 (Or.inr (slot_ne (Or.inr (wd_25 hw)) (Or.inr (wd_24 hw)) (by decide) (t := .byte) (t' := (.array .byte)) (by decide) (by decide)))).ext E133) (E_a1.keep K138) (Or.inr ⟨(wd_25 hw), rfl, hnm⟩) (wd_10 hw) (ty := .byte) (v' := (.int 0)) (by decide) rfl rfl (g := (mkF m 23 #[vr a1, vr a2, vi 0, vi 0, .val .null, .unset] [(.int 0), (.ref a1)])) rfl rfl (hb hby d4_23)
  have Fw140 := (((F_coder_a1.ext E120).other W127 (Or.inr (slot_ne (Or.inr (wd_25 hw)) (Or.inr (wd_24 hw)) (by decide) (t := .byte) (t' := (.array .byte)) (by decide) (by decide)))).ext E133).same W140
  have Z141 := Nat.le_trans Z134 (Keep.of_wr W140).1
  have cs_144 := (CHr.wr W140 (CHr.safe (CHr.trans (CHr.trans cs_124 cs_131) cs_137) (E_a1).lt sf119) RR135.1)
  have RR142 := CHr.trans RR135 cs_144
  have hk143 := Nat.le_trans hk136 (Keep.of_wr W140).1
  have K145 := Keep.wr K138 W140 (Or.inl (List.mem_of_getElem? (i := 0) rfl))
  have N140 := Fr.snoc X140 N127 g_a1
  obtain ⟨fs, hr, hrun, hended, hW⟩ := X140.leaveW hS (by rw [e140]; exact hk143) (v := none) (fun _ => rfl)
  have hC_ : CHr Z consts_1 s.vm s.heap (T140.setFrames fs).vm (T140.setFrames fs).heap := by
    show CHr Z consts_1 s.vm s.heap T140.vm T140.heap
    rw [hh, e140]; exact CHr.trans RR142 (CHv.at X140 hZ (hELt hw) RR142.1)
  refine ⟨_, _, pre0 _ ?_, hrun, hended, _, _, rfl, ?_, hC_, hW.1, hW.2.1, hW.2.2.1, hW.2.2.2.mono (by decide) (by decide)⟩
  · show Steps p.tables e below (s₁.setTop (mkF m 0 #[vr a1, vr a2, vi 0, vi 0, .val .null, .unset] [])) _
    refine XS.aloadN X0.here hx rfl (hb hby d4_0) rfl rfl ?_
    refine st118 _ ?_
    refine XS.iloadN X118.here hx rfl (hb hby d4_4) rfl ?_
    refine XS.ifNo X118.here hx rfl (hb hby d4_5) rfl ((if0 _ _).trans (teq (rfl : (0 : Int32) = (0 : Int32))).2) ?_
    refine XS.aloadN X118.here hx rfl (hb hby d4_8) rfl rfl ?_
    refine st120 _ ?_
    refine st126 _ ?_
    refine st127 _ ?_
    refine XS.aloadN X127.here hx rfl (hb hby d4_17) rfl rfl ?_
    refine st133 _ ?_
    show Steps p.tables e below (T133.setTop (mkF m 20 #[vr a1, vr a2, vi 0, vi 0, .val .null, .unset] [(.ref a133), (.ref a1)])) _
    refine st139 _ ?_
    refine st140 _ ?_
    exact X140.returnOut hx Bd.returns (hb hby d4_26) hr
  · show Q_rmi4_0 Z _ _ _ _ h0 n0 _ T140.heap _
    rw [e140]
    have KP146 : Keep _ _ [a1] := own_ktr (Keep.ext (Keep.refl _ []) E133) (Keep.of_wr W140)
    have KP147 : Keep _ _ [a1, a1] := own_ktr (Keep.of_wr W127) KP146
    have ni148 := (ninS (Ne.symm (ne120 _ (CHr.safe cs_124 (E_a1).lt sf119)).2) (ninS (Ne.symm (ne120 _ (CHr.safe cs_124 (E_a1).lt sf119)).2) nin0))
    exact ⟨b120, kb120, rfl, N140, K145, ((Fw127.ext E133).other W140 (Or.inr (slot_ne (Or.inr (wd_24 hw)) (Or.inr (wd_25 hw)) (by decide) (t := (.array .byte)) (t' := .byte) (by decide) (by decide)))), Fw140, (V120.keep KP147 ni148)⟩
def Q_rmi1_0 (Z : State) (a1 : Addr) (a2 : Addr) (u2 : Value) (kc : ClassId) (h0 : Heap) (n0 : Nat) (v : Option Value) (h : Heap) (L : List Loc) : Prop := ∃ b : Addr, ∃ kb : ClassId, v = none ∧ Fr n0 L ∧ Keep h0 h [a1] ∧ (Fld Z h a1 cs1 "value" "[B" (.ref b)) ∧ (Fld Z h a1 cs1 "coder" "B" (.int 0)) ∧ (Arv Z h b kb .byte (0 : Int32) [] (.int 0))
set_option maxRecDepth 65536 in
set_option maxHeartbeats 40000000 in
theorem rmi1_0 (l : Launch) (Z : State) (a0 : Array Value) (hw : HW a0 Z) (ws : List Jvm.Cond) (a1 : Addr) (a2 : Addr) (u2 : Value) (kc : ClassId) (h0 : Heap) (n0 : Nat) (Z0 : n0 ≤ h0.size) (F_value_a1 : Fld Z h0 a1 cs1 "value" "[B" .null) (F_coder_a1 : Fld Z h0 a1 cs1 "coder" "B" u2) (E_a1 : Exa Z h0 a1 cs1) (g_a1 : n0 ≤ a1) (V_a2 : Arv Z h0 a2 kc .char (0 : Int32) [] (.int 0)) :
    MFH l y_3 (Jvm.Cond.code y_3 B3 2 none :: ws) (⟨2, 4, 8, 29⟩ : Room) Z h0 #[(.ref a1), (.ref a2)] (Q_rmi1_0 Z a1 a2 u2 kc h0 n0) := by
  refine MetFree.of_bodySF (plainFor_of_name pn_java_lang_String) hisR ?_
  intro p e s m args below meth c s₁ Bd hml0 hP hK
  obtain ⟨rfl, hZ, hh, hCH⟩ := hP
  have hx := Bd.exec
  have hby := Bd.bytes
  have hml : c.maxLocals = 2 := hml0
  have hown : s.vm.findClass cs1 = some m.cls := findClass_of_methodNamed Bd.named
  have hnm := (name_of_methodNamed Bd.named Bd.method).1
  have X0 : Stand p l e (⟨2, 4, 8, 29⟩ : Room) (s.setVm s.vm) m #[(.ref a1), (.ref a2)] below meth c s₁ [] 0 0 := Stand.of_body Bd
  have e0 : s₁.heap = h0 := by rw [← hh, Bd.state]; rfl
  have N0 := Fr.nil n0
  have pre0 : Goes p e below (s₁.setTop (entryFrame m #[(.ref a1), (.ref a2)] 2)) (s₁.setTop (mkF m 0 #[vr a1, vr a2] [])) := fun t k => castTop (ef_3 m a1 a2) k
  have hS := (State.WarmedH.refl s).since 0
  have hk0 : 0 ≤ h0.size := Nat.zero_le _
  have RR0 := CHr.refl hCH
  obtain ⟨cl149, Ar149, q149, S149, N149n, H149, G149⟩ := id (V_a2)
  have pre150 : Goes p e below (s₁.setTop (entryFrame m #[(.ref a1), (.ref a2)] 2)) (s₁.setTop (mkF m 6 #[vr a1, vr a2] [.null, (.int 0), (.int 0), (.ref a2), (.ref a1)])) := by
    intro t kt
    refine pre0 _ ?_
    show Steps p.tables e below (s₁.setTop (mkF m 0 #[vr a1, vr a2] [])) _
    refine XS.aloadN X0.here hx rfl (hb hby d3_0) rfl rfl ?_
    refine XS.aloadN X0.here hx rfl (hb hby d3_1) rfl rfl ?_
    refine XS.iconst X0.here hx rfl (hb hby d3_2) ?_
    refine XS.aloadN X0.here hx rfl (hb hby d3_3) rfl rfl ?_
    refine X0.arraylength hx (by rw [e0]; exact Ar149.1) (State.isArrayOf_alike hZ.alike Ar149.2.1) (g := (mkF m 4 #[vr a1, vr a2] [(.ref a2), (.int 0), (.ref a2), (.ref a1)])) rfl rfl (hb hby d3_4) _ ?_
    rw [len_of S149 N149n]
    refine XS.aconstNull X0.here hx rfl (hb hby d3_5) ?_
    exact kt
  obtain ⟨_, _, ⟨T151, L151, k151, n151⟩, -, X151, hT151, hg151, ⟨Lc151, hQ151, l151, y151, z151, C151⟩, st151⟩ := X0.specialBackS hx (y := y_4) rfl hown (mvT hZ (wd_15 hw)) (mvT hZ (wd_16 hw)) (mvT hZ (wd_18 hw)) (by decide) (backOfSH (W := 0) (rmi4_0 l Z a0 hw [] a1 a2 u2 kc h0 n0 Z0 F_value_a1 F_coder_a1 E_a1 g_a1 V_a2) hZ (wd_18 hw) (wd_11 hw) (by decide) (by decide) (hELt hw) RR0.1) (g := (mkF m 6 #[vr a1, vr a2] [.null, (.int 0), (.int 0), (.ref a2), (.ref a1)])) rfl (by rw [hml]; rfl) (Steps.refl _) (a := a1) (argsL := [(.ref a2), (.int 0), (.int 0), .null]) (rest := []) (lenOf pd___CIILjava_lang_Void__V rfl) rfl (by show 2 * 0 + _ ≤ _; exact Nat.le_of_eq rfl) (hb hby d3_6) (fun _ _ => ⟨rfl, e0, (by decide : 0 + 4 ≤ _), (by decide : 0 + 8 ≤ _)⟩)
  dsimp only [Pt.U, Pt.locs, Pt.cells, Pt.slots] at X151 l151 y151 z151 st151 hQ151 hT151 hg151 C151
  rw [l151, y151, z151] at X151
  obtain ⟨X151, hS, hZ, hown⟩ := rebS hS (by rw [e0]; exact hk0) X151 hT151 hg151 hZ hown
  obtain ⟨b_151, kb_151, rfl, N151q, K151q, g151_0, g151_1, g151_2⟩ := hQ151
  have N151 := Fr.app N0 N151q
  have Z152 := Nat.le_trans Z0 K151q.1
  have cs_155 := C151
  have RR153 := CHr.trans RR0 cs_155
  have hk154 := Nat.le_refl T151.heap.size
  have K156 := Keep.trans (Keep.refl h0 [a1]) K151q (allS (Or.inl (List.mem_of_getElem? (i := 0) rfl)) all0)
  obtain ⟨fs, hr, hrun, hended, hW⟩ := X151.leaveW hS (hk154) (v := none) (fun _ => rfl)
  have hC_ : CHr Z consts_1 s.vm s.heap (T151.setFrames fs).vm (T151.setFrames fs).heap := by
    show CHr Z consts_1 s.vm s.heap T151.vm T151.heap
    rw [hh]; exact CHr.trans RR153 (CHv.at X151 hZ (hELt hw) RR153.1)
  refine ⟨_, _, pre150 _ ?_, hrun, hended, _, _, rfl, ?_, hC_, hW.1, hW.2.1, hW.2.2.1, hW.2.2.2.mono (by decide) (by decide)⟩
  · show Steps p.tables e below (s₁.setTop (mkF m 6 #[vr a1, vr a2] [.null, (.int 0), (.int 0), (.ref a2), (.ref a1)])) _
    refine st151.trans ?_
    exact X151.returnOut hx Bd.returns (hb hby d3_9) hr
  · show Q_rmi1_0 Z _ _ _ _ h0 n0 _ T151.heap _
    exact ⟨b_151, kb_151, rfl, N151, K156, g151_0, g151_1, g151_2⟩
abbrev B1 : ByteArray := method_4_code
theorem d1_0 : dc B1 0 (.lload_n 0) 1 := by decide +kernel
theorem d1_1 : dc B1 1 (.invokestatic 11) 3 := by decide +kernel
theorem wd_5 {a0 Z} (hw : HW a0 Z) : Bw a0 Z (.methodLink cs2 11 ⟨cs2, "len", "(J)I"⟩) := hw _ (mx 5 rfl)
theorem wd_7 {a0 Z} (hw : HW a0 Z) : Bw a0 Z (.code ⟨cs2, "len", "(J)I"⟩ method_2_code 2 (Option.some .int)) := hw _ (mx 7 rfl)
theorem wd_3 {a0 Z} (hw : HW a0 Z) : Bw a0 Z (.initialized cs2) := hw _ (mx 3 rfl)
theorem pd__J_I : parseMethodDescriptor "(J)I" = some ⟨[.long], some .int⟩ := by decide +kernel
theorem wd_6 {a0 Z} (hw : HW a0 Z) : Bw a0 Z (.static ⟨cs2, "len", "(J)I"⟩) := hw _ (mx 6 rfl)
theorem d1_4 : dc B1 4 (.istore_n 2) 1 := by decide +kernel
theorem d1_5 : dc B1 5 (.iload_n 2) 1 := by decide +kernel
theorem d1_6 : dc B1 6 (.ifCond .ne 10) 3 := by decide +kernel
theorem d1_9 : dc B1 9 (.iconst 0) 1 := by decide +kernel
theorem d1_10 : dc B1 10 (.newarray .char) 2 := by decide +kernel
theorem wd_8 {a0 Z} (hw : HW a0 Z) : Bw a0 Z (.arrayClass .char) := hw _ (mx 8 rfl)
theorem d1_12 : dc B1 12 (.astore_n 3) 1 := by decide +kernel
theorem d1_13 : dc B1 13 (.goto 79) 3 := by decide +kernel
theorem d1_92 : dc B1 92 (.new 21) 3 := by decide +kernel
theorem wd_9 {a0 Z} (hw : HW a0 Z) : Bw a0 Z (.classLink cs2 21 cs1) := hw _ (mx 9 rfl)
theorem d1_95 : dc B1 95 .dup 1 := by decide +kernel
theorem d1_96 : dc B1 96 (.aload_n 3) 1 := by decide +kernel
theorem d1_97 : dc B1 97 (.invokespecial 23) 3 := by decide +kernel
theorem wd_12 {a0 Z} (hw : HW a0 Z) : Bw a0 Z (.methodLink cs2 23 ⟨cs1, "<init>", "([C)V"⟩) := hw _ (mx 12 rfl)
theorem wd_14 {a0 Z} (hw : HW a0 Z) : Bw a0 Z (.code ⟨cs1, "<init>", "([C)V"⟩ jdk_42_method_3_code 2 (Option.none : Option Jvm.ClassFile.FieldType)) := hw _ (mx 14 rfl)
theorem pd___C_V : parseMethodDescriptor "([C)V" = some ⟨[(.array .char)], none⟩ := by decide +kernel
theorem wd_13 {a0 Z} (hw : HW a0 Z) : Bw a0 Z (.instanceMethod ⟨cs1, "<init>", "([C)V"⟩) := hw _ (mx 13 rfl)
theorem d1_100 : dc B1 100 .areturn 1 := by decide +kernel
theorem d1_16 : dc B1 16 (.iload_n 2) 1 := by decide +kernel
theorem d1_17 : dc B1 17 (.iconst 1) 1 := by decide +kernel
theorem d1_18 : dc B1 18 (.if_icmp .ne 18) 3 := by decide +kernel
theorem d1_21 : dc B1 21 (.iconst 1) 1 := by decide +kernel
theorem d1_22 : dc B1 22 (.newarray .char) 2 := by decide +kernel
theorem d1_24 : dc B1 24 .dup 1 := by decide +kernel
theorem d1_25 : dc B1 25 (.iconst 0) 1 := by decide +kernel
theorem d1_26 : dc B1 26 (.lload_n 0) 1 := by decide +kernel
theorem d1_27 : dc B1 27 (.iconst 0) 1 := by decide +kernel
theorem d1_28 : dc B1 28 (.invokestatic 17) 3 := by decide +kernel
theorem wd_64 {a0 Z} (hw : HW a0 Z) : Bw a0 Z (.methodLink cs2 17 ⟨cs2, "ch", "(JI)C"⟩) := hw _ (mx 64 rfl)
theorem wd_66 {a0 Z} (hw : HW a0 Z) : Bw a0 Z (.code ⟨cs2, "ch", "(JI)C"⟩ method_3_code 3 (Option.some .char)) := hw _ (mx 66 rfl)
theorem pd__JI_C : parseMethodDescriptor "(JI)C" = some ⟨[.long, .int], some .char⟩ := by decide +kernel
theorem wd_65 {a0 Z} (hw : HW a0 Z) : Bw a0 Z (.static ⟨cs2, "ch", "(JI)C"⟩) := hw _ (mx 65 rfl)
theorem d1_31 : dc B1 31 .castore 1 := by decide +kernel
theorem d1_32 : dc B1 32 (.astore_n 3) 1 := by decide +kernel
theorem d1_33 : dc B1 33 (.goto 59) 3 := by decide +kernel
theorem d1_36 : dc B1 36 (.iload_n 2) 1 := by decide +kernel
theorem d1_37 : dc B1 37 (.iconst 2) 1 := by decide +kernel
theorem d1_38 : dc B1 38 (.if_icmp .ne 26) 3 := by decide +kernel
theorem d1_41 : dc B1 41 (.iconst 2) 1 := by decide +kernel
theorem d1_42 : dc B1 42 (.newarray .char) 2 := by decide +kernel
theorem d1_44 : dc B1 44 .dup 1 := by decide +kernel
theorem d1_45 : dc B1 45 (.iconst 0) 1 := by decide +kernel
theorem d1_46 : dc B1 46 (.lload_n 0) 1 := by decide +kernel
theorem d1_47 : dc B1 47 (.iconst 0) 1 := by decide +kernel
theorem d1_48 : dc B1 48 (.invokestatic 17) 3 := by decide +kernel
theorem d1_51 : dc B1 51 .castore 1 := by decide +kernel
theorem d1_52 : dc B1 52 .dup 1 := by decide +kernel
theorem d1_53 : dc B1 53 (.iconst 1) 1 := by decide +kernel
theorem d1_54 : dc B1 54 (.lload_n 0) 1 := by decide +kernel
theorem d1_55 : dc B1 55 (.iconst 1) 1 := by decide +kernel
theorem d1_56 : dc B1 56 (.invokestatic 17) 3 := by decide +kernel
theorem d1_59 : dc B1 59 .castore 1 := by decide +kernel
theorem d1_60 : dc B1 60 (.astore_n 3) 1 := by decide +kernel
theorem d1_61 : dc B1 61 (.goto 31) 3 := by decide +kernel
theorem d1_64 : dc B1 64 (.iconst 3) 1 := by decide +kernel
theorem d1_65 : dc B1 65 (.newarray .char) 2 := by decide +kernel
theorem d1_67 : dc B1 67 .dup 1 := by decide +kernel
theorem d1_68 : dc B1 68 (.iconst 0) 1 := by decide +kernel
theorem d1_69 : dc B1 69 (.lload_n 0) 1 := by decide +kernel
theorem d1_70 : dc B1 70 (.iconst 0) 1 := by decide +kernel
theorem d1_71 : dc B1 71 (.invokestatic 17) 3 := by decide +kernel
theorem d1_74 : dc B1 74 .castore 1 := by decide +kernel
theorem d1_75 : dc B1 75 .dup 1 := by decide +kernel
theorem d1_76 : dc B1 76 (.iconst 1) 1 := by decide +kernel
theorem d1_77 : dc B1 77 (.lload_n 0) 1 := by decide +kernel
theorem d1_78 : dc B1 78 (.iconst 1) 1 := by decide +kernel
theorem d1_79 : dc B1 79 (.invokestatic 17) 3 := by decide +kernel
theorem d1_82 : dc B1 82 .castore 1 := by decide +kernel
theorem d1_83 : dc B1 83 .dup 1 := by decide +kernel
theorem d1_84 : dc B1 84 (.iconst 2) 1 := by decide +kernel
theorem d1_85 : dc B1 85 (.lload_n 0) 1 := by decide +kernel
theorem d1_86 : dc B1 86 (.iconst 2) 1 := by decide +kernel
theorem d1_87 : dc B1 87 (.invokestatic 17) 3 := by decide +kernel
theorem d1_90 : dc B1 90 .castore 1 := by decide +kernel
theorem d1_91 : dc B1 91 (.astore_n 3) 1 := by decide +kernel
theorem ef_1 (m : MethodId) (x0 : Int64) : entryFrame m #[(.long x0)] 4 = mkF m 0 #[.val (.long x0), .second, .unset, .unset] [] := by first | (simp [entryFrame, mkF, argsToLocals, Value.category]; done) | rfl
def Q_rm1 (Z : State) (q1 : Int64) (wz : Int32) (h0 : Heap) (n0 : Nat) (v : Option Value) (h : Heap) (L : List Loc) : Prop := ∃ b : Addr, v = some (.ref b) ∧ Fr n0 L ∧ Keep h0 h [] ∧ (h0.size ≤ b) ∧ (STR Z h n0 b q1)
set_option maxRecDepth 65536 in
set_option maxHeartbeats 40000000 in
abbrev y_1 : MethodName := ⟨cs2, "mk", "(J)Ljava/lang/String;"⟩
theorem rm1 (l : Launch) (Z : State) (a0 : Array Value) (hw : HW a0 Z) (ws : List Jvm.Cond) (q1 : Int64) (wz : Int32) (h0 : Heap) (n0 : Nat) (Z0 : n0 ≤ h0.size) (Old0 : Old Z n0 h0) (S_COMPACT_STRINGS : Sta Z Z.heap cs1 cs6 "Z" (.int wz)) (hz : ¬ (wz = (0 : Int32))) :
    MFH l y_1 (Jvm.Cond.code y_1 B1 4 (some (.object cs1)) :: ws) (⟨4, 6, 12, 66⟩ : Room) Z h0 #[(.long q1)] (Q_rm1 Z q1 wz h0 n0) := by
  refine MetFree.of_bodySF (plainFor_of_name pn_com_example_xylem_xylem_model_LocationEqualsPinLaw) hisR ?_
  intro p e s m args below meth c s₁ Bd hml0 hP hK
  obtain ⟨rfl, hZ, hh, hCH⟩ := hP
  have hx := Bd.exec
  have hby := Bd.bytes
  have hml : c.maxLocals = 4 := hml0
  have hown : s.vm.findClass cs2 = some m.cls := findClass_of_methodNamed Bd.named
  have hnm := (name_of_methodNamed Bd.named Bd.method).1
  have X0 : Stand p l e (⟨4, 6, 12, 66⟩ : Room) (s.setVm s.vm) m #[(.long q1)] below meth c s₁ [] 0 0 := Stand.of_body Bd
  have e0 : s₁.heap = h0 := by rw [← hh, Bd.state]; rfl
  have N0 := Fr.nil n0
  have pre0 : Goes p e below (s₁.setTop (entryFrame m #[(.long q1)] 4)) (s₁.setTop (mkF m 0 #[.val (.long q1), .second, .unset, .unset] [])) := fun t k => castTop (ef_1 m q1) k
  have hS := (State.WarmedH.refl s).since 0
  have hk0 : 0 ≤ h0.size := Nat.zero_le _
  have RR0 := CHr.refl hCH
  obtain ⟨_, _, ⟨T157, L157, k157, n157⟩, -, X157, ⟨Lc157, hQ157, l157, y157, z157⟩, st157⟩ := Jvm.LawKit.callS X0 hx (y := y_2) hown (mvT hZ (wd_5 hw)) (mvT hZ (wd_6 hw)) (mvT hZ (wd_3 hw)) (mvT hZ (wd_7 hw)) (by decide) (backOf (W := 0) (rm2 l Z a0 hw [] q1 h0 n0 Z0) hZ (wd_7 hw) (wd_3 hw) (by decide) (by decide)) (g := (mkF m 1 #[.val (.long q1), .second, .unset, .unset] [(.long q1)])) rfl (by rw [hml]; rfl) (argsL := [(.long q1)]) (rest := []) (lenOf pd__J_I rfl) rfl (by show 2 * 0 + _ ≤ _; exact Nat.le_of_eq rfl) (hb hby d1_1) (fun _ _ => ⟨rfl, e0, (by decide : 0 + 0 ≤ _), (by decide : 0 + 0 ≤ _)⟩)
  dsimp only [Pt.U, Pt.locs, Pt.cells, Pt.slots] at X157 l157 y157 z157 st157 hQ157
  rw [l157, y157, z157] at X157
  obtain ⟨rfl, N157q, e157⟩ := hQ157
  have N157 := Fr.app N0 N157q
  have pre159 : Goes p e below (s₁.setTop (entryFrame m #[(.long q1)] 4)) (T157.setTop (mkF m 6 #[.val (.long q1), .second, .val (.int (ln q1)), .unset] [(.int (ln q1))])) := by
    intro t kt
    refine pre0 _ ?_
    show Steps p.tables e below (s₁.setTop (mkF m 0 #[.val (.long q1), .second, .unset, .unset] [])) _
    refine XS.lloadN X0.here hx rfl (hb hby d1_0) rfl ?_
    refine st157 _ ?_
    refine XS.istoreN X157.here hx rfl (hb hby d1_4) rfl (l' := #[.val (.long q1), .second, .val (.int (ln q1)), .unset]) rfl ?_
    refine XS.iloadN X157.here hx rfl (hb hby d1_5) rfl ?_
    exact kt
  by_cases hc6_158 : (ln q1) = (0 : Int32)
  · obtain ⟨T160, h160, k160, X160, e160, E160, A160, st160⟩ := newP (aty := .char) X157 hx hZ (wd_8 hw) e157 (g := (mkF m 10 #[.val (.long q1), .second, .val (.int (ln q1)), .unset] [(.int 0)])) rfl (hb hby d1_10) rfl (by decide) (cap := 0) (by decide) (by decide) (by decide) (by decide)
    obtain ⟨b160, g160⟩ : ∃ z, z = h0.size := ⟨_, rfl⟩
    rw [← g160] at A160 st160
    have g_b160 : n0 ≤ b160 := Nat.le_trans Z0 (Nat.le_of_eq g160.symm)
    have sz_b160 : h0.size ≤ b160 := Nat.le_trans (And.left (Keep.refl h0 [])) (Nat.le_of_eq g160.symm)
    have Z161 := Nat.le_trans Z0 E160.1
    have cs_164 := (CHr.ext E160 RR0.1)
    have RR162 := CHr.trans RR0 cs_164
    have hk163 := Nat.le_trans hk0 E160.1
    have K165 := Keep.ext (Keep.refl h0 []) E160
    have V_b160 : Arv Z h160 b160 k160 .char (0 : Int32) [] (.int 0) := Arv.new A160 (by decide)
    obtain ⟨T166, h166, X166, e166, E166, A166, D166, -, st166⟩ := newO X160 hx hZ hown (wd_9 hw) (wd_10 hw) (wd_11 hw) e160 (g := (mkF m 92 #[.val (.long q1), .second, .val (.int (ln q1)), vr b160] [])) rfl (hb hby d1_92) (by decide) (by decide)
    obtain ⟨b166, g166⟩ : ∃ z, z = h160.size := ⟨_, rfl⟩
    rw [← g166] at A166 D166 st166
    have g_b166 : n0 ≤ b166 := Nat.le_trans Z161 (Nat.le_of_eq g166.symm)
    have sz_b166 : h0.size ≤ b166 := Nat.le_trans (And.left K165) (Nat.le_of_eq g166.symm)
    have Z167 := Nat.le_trans Z161 E166.1
    have cs_170 := (CHr.ext E166 RR162.1)
    have RR168 := CHr.trans RR162 cs_170
    have hk169 := Nat.le_trans hk163 E166.1
    have K171 := Keep.ext K165 E166
    obtain ⟨_, _, ⟨T172, L172, k172, n172⟩, -, X172, hT172, hg172, ⟨Lc172, hQ172, l172, y172, z172, C172⟩, st172⟩ := X166.specialBackS hx (y := y_3) rfl hown (mvT hZ (wd_12 hw)) (mvT hZ (wd_13 hw)) (mvT hZ (wd_14 hw)) (by decide) (backOfSH (W := 1) (rmi1_0 l Z a0 hw [] b166 b160 (.int 0) k160 h166 n0 Z167 (D166 (Or.inr (wd_24 hw)) (ty := (.array .byte)) (by decide)) (D166 (Or.inr (wd_25 hw)) (ty := .byte) (by decide)) A166 g_b166 (V_b160.ext E166)) hZ (wd_14 hw) (wd_11 hw) (by decide) (by decide) (hELt hw) RR168.1) (g := (mkF m 97 #[.val (.long q1), .second, .val (.int (ln q1)), vr b160] [(.ref b160), (.ref b166), (.ref b166)])) rfl (by rw [hml]; rfl) (Steps.refl _) (a := b166) (argsL := [(.ref b160)]) (rest := [(.ref b166)]) (lenOf pd___C_V rfl) rfl (by show 2 * 0 + _ ≤ _; exact Nat.le_of_eq rfl) (hb hby d1_97) (fun _ _ => ⟨rfl, e166, (by decide : 2 + 4 ≤ _), (by decide : 4 + 8 ≤ _)⟩)
    dsimp only [Pt.U, Pt.locs, Pt.cells, Pt.slots] at X172 l172 y172 z172 st172 hQ172 hT172 hg172 C172
    rw [l172, y172, z172] at X172
    obtain ⟨X172, hS, hZ, hown⟩ := rebS hS (by rw [e166]; exact hk169) X172 hT172 hg172 hZ hown
    obtain ⟨b_172, kb_172, rfl, N172q, K172q, g172_0, g172_1, g172_2⟩ := hQ172
    have N172 := Fr.app N157 N172q
    have Z173 := Nat.le_trans Z167 K172q.1
    have cs_176 := C172
    have RR174 := CHr.trans RR168 cs_176
    have hk175 := Nat.le_refl T172.heap.size
    have K177 := Keep.trans K171 K172q (allS (Or.inr sz_b166) all0)
    obtain ⟨fs, hr, hrun, hended, hW⟩ := X172.leaveW hS (hk175) (v := some (.ref b166)) (fun h => by rw [Bd.returns] at h; cases h)
    have hC_ : CHr Z consts_1 s.vm s.heap (T172.setFrames fs).vm (T172.setFrames fs).heap := by
      show CHr Z consts_1 s.vm s.heap T172.vm T172.heap
      rw [hh]; exact CHr.trans RR174 (CHv.at X172 hZ (hELt hw) RR174.1)
    refine ⟨_, _, pre159 _ ?_, hrun, hended, _, _, rfl, ?_, hC_, hW.1, hW.2.1, hW.2.2.1, hW.2.2.2.mono (by decide) (by decide)⟩
    · show Steps p.tables e below (T157.setTop (mkF m 6 #[.val (.long q1), .second, .val (.int (ln q1)), .unset] [(.int (ln q1))])) _
      refine XS.ifNo X157.here hx rfl (hb hby d1_6) rfl ((if0 _ _).trans (teq hc6_158).2) ?_
      refine XS.iconst X157.here hx rfl (hb hby d1_9) ?_
      refine st160 _ ?_
      refine XS.astoreN X160.here hx rfl (hb hby d1_12) rfl rfl (l' := #[.val (.long q1), .second, .val (.int (ln q1)), vr b160]) rfl ?_
      refine XS.goto X160.here hx rfl (pc0 := 13) (pc' := 92) rfl (hb hby d1_13) (by decide) (by decide) ?_
      refine st166 _ ?_
      show Steps p.tables e below (T166.setTop (mkF m 95 #[.val (.long q1), .second, .val (.int (ln q1)), vr b160] [(.ref b166)])) _
      refine XS.dup X166.here hx rfl (hb hby d1_95) rfl rfl ?_
      refine XS.aloadN X166.here hx rfl (hb hby d1_96) rfl rfl ?_
      refine st172.trans ?_
      exact X172.areturnOut hx rfl Bd.returns rfl (hb hby d1_100) hr
    · show Q_rm1 Z _ _ h0 n0 _ T172.heap _
      exact ⟨b166, rfl, N172, K177, sz_b166, ⟨b_172, kb_172, (A166.keep K172q), g172_0, g172_1, Or.inl ⟨hc6_158, g172_2⟩⟩⟩
  · have pre179 : Goes p e below (s₁.setTop (entryFrame m #[(.long q1)] 4)) (T157.setTop (mkF m 18 #[.val (.long q1), .second, .val (.int (ln q1)), .unset] [(.int 1), (.int (ln q1))])) := by
      intro t kt
      refine pre159 _ ?_
      show Steps p.tables e below (T157.setTop (mkF m 6 #[.val (.long q1), .second, .val (.int (ln q1)), .unset] [(.int (ln q1))])) _
      refine XS.ifYes X157.here hx rfl (pc0 := 6) (pc' := 16) rfl (hb hby d1_6) rfl ((if0 _ _).trans (feq hc6_158).2) (by decide) (by decide) ?_
      refine XS.iloadN X157.here hx rfl (hb hby d1_16) rfl ?_
      refine XS.iconst X157.here hx rfl (hb hby d1_17) ?_
      exact kt
    by_cases hc18_178 : (ln q1) = (1 : Int32)
    · obtain ⟨T180, h180, k180, X180, e180, E180, A180, st180⟩ := newP (aty := .char) X157 hx hZ (wd_8 hw) e157 (g := (mkF m 22 #[.val (.long q1), .second, .val (.int (ln q1)), .unset] [(.int 1)])) rfl (hb hby d1_22) rfl (by decide) (cap := 1) (by decide) (by decide) (by decide) (by decide)
      obtain ⟨b180, g180⟩ : ∃ z, z = h0.size := ⟨_, rfl⟩
      rw [← g180] at A180 st180
      have g_b180 : n0 ≤ b180 := Nat.le_trans Z0 (Nat.le_of_eq g180.symm)
      have sz_b180 : h0.size ≤ b180 := Nat.le_trans (And.left (Keep.refl h0 [])) (Nat.le_of_eq g180.symm)
      have Z181 := Nat.le_trans Z0 E180.1
      have cs_184 := (CHr.ext E180 RR0.1)
      have RR182 := CHr.trans RR0 cs_184
      have hk183 := Nat.le_trans hk0 E180.1
      have K185 := Keep.ext (Keep.refl h0 []) E180
      have V0_b180 := (Arv.new A180 (by decide)).pad (pad_rep [] (.int 0) 1)
      have V_b180 : Arv Z h180 b180 k180 .char (1 : Int32) [(.int 0)] (.int 0) := V0_b180
      obtain ⟨_, _, ⟨T186, L186, k186, n186⟩, -, X186, ⟨Lc186, hQ186, l186, y186, z186⟩, st186⟩ := Jvm.LawKit.callS X180 hx (y := y_11) hown (mvT hZ (wd_64 hw)) (mvT hZ (wd_65 hw)) (mvT hZ (wd_3 hw)) (mvT hZ (wd_66 hw)) (by decide) (backOf (W := 3) (rmch0 l Z a0 hw [] q1 h180 n0 Z181) hZ (wd_66 hw) (wd_3 hw) (by decide) (by decide)) (g := (mkF m 28 #[.val (.long q1), .second, .val (.int (ln q1)), .unset] [(.int 0), (.long q1), (.int 0), (.ref b180), (.ref b180)])) rfl (by rw [hml]; rfl) (argsL := [(.long q1), (.int 0)]) (rest := [(.int 0), (.ref b180), (.ref b180)]) (lenOf pd__JI_C rfl) rfl (by show 2 * 0 + _ ≤ _; exact Nat.le_of_eq rfl) (hb hby d1_28) (fun _ _ => ⟨rfl, e180, (by decide : 1 + 0 ≤ _), (by decide : 1 + 0 ≤ _)⟩)
      dsimp only [Pt.U, Pt.locs, Pt.cells, Pt.slots] at X186 l186 y186 z186 st186 hQ186
      rw [l186, y186, z186] at X186
      obtain ⟨rfl, N186q, e186⟩ := hQ186
      have N186 := Fr.app N157 N186q
      obtain ⟨cl187, Ar187, q187, S187, N187n, H187, G187⟩ := id (V_b180)
      have hin187 : ¬ ((0 : Int32) < 0 ∨ cl187.slots.size ≤ ((0 : Int32)).toNatClampNeg) := inb_of S187 ⟨by decide, by decide⟩
      obtain ⟨T188, h188, X188, e188, W188, st188⟩ := stC X186 hx hZ e186 Ar187 (j := (0 : Int32)) hin187 (g := (mkF m 31 #[.val (.long q1), .second, .val (.int (ln q1)), .unset] [(.int (cc (sh8 q1 (0 : Int32)))), (.int 0), (.ref b180), (.ref b180)])) rfl rfl (hb hby d1_31)
      have V_b180_188 : Arv Z h188 b180 k180 .char (1 : Int32) [(.int (nar .char (cc (sh8 q1 (0 : Int32)))))] (.int 0) := Arv.set Ar187 q187 S187 N187n H187 G187 (fits_nar_char _) W188 0 rfl (Nat.le_of_ble_eq_true rfl)
      have Z189 := Nat.le_trans Z181 (Keep.of_wr W188).1
      have cs_192 := (CHr.wr W188 (own_sarr hZ.alike V_b180 (by decide)) RR182.1)
      have RR190 := CHr.trans RR182 cs_192
      have hk191 := Nat.le_trans hk183 (Keep.of_wr W188).1
      have K193 := Keep.wr K185 W188 (Or.inr sz_b180)
      have N188 := Fr.snoc X188 N186 g_b180
      obtain ⟨T194, h194, X194, e194, E194, A194, D194, -, st194⟩ := newO X188 hx hZ hown (wd_9 hw) (wd_10 hw) (wd_11 hw) e188 (g := (mkF m 92 #[.val (.long q1), .second, .val (.int (ln q1)), vr b180] [])) rfl (hb hby d1_92) (by decide) (by decide)
      obtain ⟨b194, g194⟩ : ∃ z, z = h188.size := ⟨_, rfl⟩
      rw [← g194] at A194 D194 st194
      have g_b194 : n0 ≤ b194 := Nat.le_trans Z189 (Nat.le_of_eq g194.symm)
      have sz_b194 : h0.size ≤ b194 := Nat.le_trans (And.left K193) (Nat.le_of_eq g194.symm)
      have Z195 := Nat.le_trans Z189 E194.1
      have cs_198 := (CHr.ext E194 RR190.1)
      have RR196 := CHr.trans RR190 cs_198
      have hk197 := Nat.le_trans hk191 E194.1
      have K199 := Keep.ext K193 E194
      obtain ⟨_, T200, L200, X200, hQ200, st200⟩ := cN X194 hx hZ hown (wd_12 hw) (wd_13 hw) rfl (by decide) 1 (rmi1_1 l Z a0 hw [] b194 b180 .null (.int 0) k180 wz (nar .char (cc (sh8 q1 (0 : Int32)))) h194 n0 Z195 (D194 (Or.inr (wd_24 hw)) (ty := (.array .byte)) (by decide)) (D194 (Or.inr (wd_25 hw)) (ty := .byte) (by decide)) A194 g_b194 (V_b180_188.ext E194) (nc _) (Old0.keep K199 all0) S_COMPACT_STRINGS hz) (wd_14 hw) (wd_11 hw) (by decide) (by decide) e194 b194 hml (Ls := #[.val (.long q1), .second, .val (.int (ln q1)), vr b180]) rfl (argsL := [(.ref b180)]) (rest := [(.ref b194)]) (lenOf pd___C_V rfl) (St := [(.ref b180), (.ref b194), (.ref b194)]) rfl rfl (hb hby d1_97) rfl (by decide) (by decide)
      obtain ⟨b_200, kb_200, rfl, N200q, K200q, g200_0, g200_1, g200_2, g200_3⟩ := hQ200
      have N200 := Fr.app N188 N200q
      have sf201 : Safe Z consts_1 s.vm h194 b194 := own_safeS hZ.alike A194 (D194 (Or.inr (wd_24 hw)) (ty := (.array .byte)) (by decide))
      have Z202 := Nat.le_trans Z195 K200q.1
      have cs_205 := (CHr.keep K200q (allS sf201 all0) RR196.1)
      have RR203 := CHr.trans RR196 cs_205
      have hk204 := Nat.le_trans hk197 K200q.1
      have K206 := Keep.trans K199 K200q (allS (Or.inr sz_b194) all0)
      have g207 : n0 ≤ b_200 := Nat.le_trans Z195 g200_0
      have sz208 : h0.size ≤ b_200 := Nat.le_trans (And.left K199) g200_0
      obtain ⟨fs, hr, hrun, hended, hW⟩ := X200.leaveW hS (hk204) (v := some (.ref b194)) (fun h => by rw [Bd.returns] at h; cases h)
      have hC_ : CHr Z consts_1 s.vm s.heap (T200.setFrames fs).vm (T200.setFrames fs).heap := by
        show CHr Z consts_1 s.vm s.heap T200.vm T200.heap
        rw [hh]; exact CHr.trans RR203 (CHv.at X200 hZ (hELt hw) RR203.1)
      refine ⟨_, _, pre179 _ ?_, hrun, hended, _, _, rfl, ?_, hC_, hW.1, hW.2.1, hW.2.2.1, hW.2.2.2.mono (by decide) (by decide)⟩
      · show Steps p.tables e below (T157.setTop (mkF m 18 #[.val (.long q1), .second, .val (.int (ln q1)), .unset] [(.int 1), (.int (ln q1))])) _
        refine XS.icmpNo X157.here hx rfl (hb hby d1_18) rfl (teq hc18_178).2 ?_
        refine XS.iconst X157.here hx rfl (hb hby d1_21) ?_
        refine st180 _ ?_
        show Steps p.tables e below (T180.setTop (mkF m 24 #[.val (.long q1), .second, .val (.int (ln q1)), .unset] [(.ref b180)])) _
        refine XS.dup X180.here hx rfl (hb hby d1_24) rfl rfl ?_
        refine XS.iconst X180.here hx rfl (hb hby d1_25) ?_
        refine XS.lloadN X180.here hx rfl (hb hby d1_26) rfl ?_
        refine XS.iconst X180.here hx rfl (hb hby d1_27) ?_
        refine st186 _ ?_
        refine st188 _ ?_
        refine XS.astoreN X188.here hx rfl (hb hby d1_32) rfl rfl (l' := #[.val (.long q1), .second, .val (.int (ln q1)), vr b180]) rfl ?_
        refine XS.goto X188.here hx rfl (pc0 := 33) (pc' := 92) rfl (hb hby d1_33) (by decide) (by decide) ?_
        refine st194 _ ?_
        refine XS.dup X194.here hx rfl (hb hby d1_95) rfl rfl ?_
        show Steps p.tables e below (T194.setTop (mkF m 96 #[.val (.long q1), .second, .val (.int (ln q1)), vr b180] [(.ref b194), (.ref b194)])) _
        refine XS.aloadN X194.here hx rfl (hb hby d1_96) rfl rfl ?_
        refine st200.trans ?_
        exact X200.areturnOut hx rfl Bd.returns rfl (hb hby d1_100) hr
      · show Q_rm1 Z _ _ h0 n0 _ T200.heap _
        exact ⟨b194, rfl, N200, K206, sz_b194, ⟨b_200, kb_200, (A194.keep K200q), g200_1, g200_2, Or.inr (Or.inl ⟨hc18_178, g200_3⟩)⟩⟩
    · have pre210 : Goes p e below (s₁.setTop (entryFrame m #[(.long q1)] 4)) (T157.setTop (mkF m 38 #[.val (.long q1), .second, .val (.int (ln q1)), .unset] [(.int 2), (.int (ln q1))])) := by
        intro t kt
        refine pre179 _ ?_
        show Steps p.tables e below (T157.setTop (mkF m 18 #[.val (.long q1), .second, .val (.int (ln q1)), .unset] [(.int 1), (.int (ln q1))])) _
        refine XS.icmpYes X157.here hx rfl (pc0 := 18) (pc' := 36) rfl (hb hby d1_18) rfl (feq hc18_178).2 (by decide) (by decide) ?_
        refine XS.iloadN X157.here hx rfl (hb hby d1_36) rfl ?_
        refine XS.iconst X157.here hx rfl (hb hby d1_37) ?_
        show Steps p.tables e below (T157.setTop (mkF m 38 #[.val (.long q1), .second, .val (.int (ln q1)), .unset] [(.int 2), (.int (ln q1))])) _
        exact kt
      by_cases hc38_209 : (ln q1) = (2 : Int32)
      · obtain ⟨T211, h211, k211, X211, e211, E211, A211, st211⟩ := newP (aty := .char) X157 hx hZ (wd_8 hw) e157 (g := (mkF m 42 #[.val (.long q1), .second, .val (.int (ln q1)), .unset] [(.int 2)])) rfl (hb hby d1_42) rfl (by decide) (cap := 2) (by decide) (by decide) (by decide) (by decide)
        obtain ⟨b211, g211⟩ : ∃ z, z = h0.size := ⟨_, rfl⟩
        rw [← g211] at A211 st211
        have g_b211 : n0 ≤ b211 := Nat.le_trans Z0 (Nat.le_of_eq g211.symm)
        have sz_b211 : h0.size ≤ b211 := Nat.le_trans (And.left (Keep.refl h0 [])) (Nat.le_of_eq g211.symm)
        have Z212 := Nat.le_trans Z0 E211.1
        have cs_215 := (CHr.ext E211 RR0.1)
        have RR213 := CHr.trans RR0 cs_215
        have hk214 := Nat.le_trans hk0 E211.1
        have K216 := Keep.ext (Keep.refl h0 []) E211
        have V0_b211 := (Arv.new A211 (by decide)).pad (pad_rep [] (.int 0) 2)
        have V_b211 : Arv Z h211 b211 k211 .char (2 : Int32) [(.int 0), (.int 0)] (.int 0) := V0_b211
        obtain ⟨_, _, ⟨T217, L217, k217, n217⟩, -, X217, ⟨Lc217, hQ217, l217, y217, z217⟩, st217⟩ := Jvm.LawKit.callS X211 hx (y := y_11) hown (mvT hZ (wd_64 hw)) (mvT hZ (wd_65 hw)) (mvT hZ (wd_3 hw)) (mvT hZ (wd_66 hw)) (by decide) (backOf (W := 3) (rmch0 l Z a0 hw [] q1 h211 n0 Z212) hZ (wd_66 hw) (wd_3 hw) (by decide) (by decide)) (g := (mkF m 48 #[.val (.long q1), .second, .val (.int (ln q1)), .unset] [(.int 0), (.long q1), (.int 0), (.ref b211), (.ref b211)])) rfl (by rw [hml]; rfl) (argsL := [(.long q1), (.int 0)]) (rest := [(.int 0), (.ref b211), (.ref b211)]) (lenOf pd__JI_C rfl) rfl (by show 2 * 0 + _ ≤ _; exact Nat.le_of_eq rfl) (hb hby d1_48) (fun _ _ => ⟨rfl, e211, (by decide : 1 + 0 ≤ _), (by decide : 2 + 0 ≤ _)⟩)
        dsimp only [Pt.U, Pt.locs, Pt.cells, Pt.slots] at X217 l217 y217 z217 st217 hQ217
        rw [l217, y217, z217] at X217
        obtain ⟨rfl, N217q, e217⟩ := hQ217
        have N217 := Fr.app N157 N217q
        obtain ⟨cl218, Ar218, q218, S218, N218n, H218, G218⟩ := id (V_b211)
        have hin218 : ¬ ((0 : Int32) < 0 ∨ cl218.slots.size ≤ ((0 : Int32)).toNatClampNeg) := inb_of S218 ⟨by decide, by decide⟩
        obtain ⟨T219, h219, X219, e219, W219, st219⟩ := stC X217 hx hZ e217 Ar218 (j := (0 : Int32)) hin218 (g := (mkF m 51 #[.val (.long q1), .second, .val (.int (ln q1)), .unset] [(.int (cc (sh8 q1 (0 : Int32)))), (.int 0), (.ref b211), (.ref b211)])) rfl rfl (hb hby d1_51)
        have V_b211_219 : Arv Z h219 b211 k211 .char (2 : Int32) [(.int (nar .char (cc (sh8 q1 (0 : Int32))))), (.int 0)] (.int 0) := Arv.set Ar218 q218 S218 N218n H218 G218 (fits_nar_char _) W219 0 rfl (Nat.le_of_ble_eq_true rfl)
        have Z220 := Nat.le_trans Z212 (Keep.of_wr W219).1
        have cs_223 := (CHr.wr W219 (own_sarr hZ.alike V_b211 (by decide)) RR213.1)
        have RR221 := CHr.trans RR213 cs_223
        have hk222 := Nat.le_trans hk214 (Keep.of_wr W219).1
        have K224 := Keep.wr K216 W219 (Or.inr sz_b211)
        have N219 := Fr.snoc X219 N217 g_b211
        obtain ⟨_, _, ⟨T225, L225, k225, n225⟩, -, X225, ⟨Lc225, hQ225, l225, y225, z225⟩, st225⟩ := Jvm.LawKit.callS X219 hx (y := y_11) hown (mvT hZ (wd_64 hw)) (mvT hZ (wd_65 hw)) (mvT hZ (wd_3 hw)) (mvT hZ (wd_66 hw)) (by decide) (backOf (W := 3) (rmch1 l Z a0 hw [] q1 h219 n0 Z220) hZ (wd_66 hw) (wd_3 hw) (by decide) (by decide)) (g := (mkF m 56 #[.val (.long q1), .second, .val (.int (ln q1)), .unset] [(.int 1), (.long q1), (.int 1), (.ref b211), (.ref b211)])) rfl (by rw [hml]; rfl) (argsL := [(.long q1), (.int 1)]) (rest := [(.int 1), (.ref b211), (.ref b211)]) (lenOf pd__JI_C rfl) rfl (by show 2 * 0 + _ ≤ _; exact Nat.le_of_eq rfl) (hb hby d1_56) (fun _ _ => ⟨rfl, e219, (by decide : 1 + 0 ≤ _), (by decide : 2 + 0 ≤ _)⟩)
        dsimp only [Pt.U, Pt.locs, Pt.cells, Pt.slots] at X225 l225 y225 z225 st225 hQ225
        rw [l225, y225, z225] at X225
        obtain ⟨rfl, N225q, e225⟩ := hQ225
        have N225 := Fr.app N219 N225q
        obtain ⟨cl226, Ar226, q226, S226, N226n, H226, G226⟩ := id (V_b211_219)
        have hin226 : ¬ ((1 : Int32) < 0 ∨ cl226.slots.size ≤ ((1 : Int32)).toNatClampNeg) := inb_of S226 ⟨by decide, by decide⟩
        obtain ⟨T227, h227, X227, e227, W227, st227⟩ := stC X225 hx hZ e225 Ar226 (j := (1 : Int32)) hin226 (g := (mkF m 59 #[.val (.long q1), .second, .val (.int (ln q1)), .unset] [(.int (cc (sh8 q1 (8 : Int32)))), (.int 1), (.ref b211), (.ref b211)])) rfl rfl (hb hby d1_59)
        have V_b211_227 : Arv Z h227 b211 k211 .char (2 : Int32) [(.int (nar .char (cc (sh8 q1 (0 : Int32))))), (.int (nar .char (cc (sh8 q1 (8 : Int32)))))] (.int 0) := Arv.set Ar226 q226 S226 N226n H226 G226 (fits_nar_char _) W227 1 rfl (Nat.le_of_ble_eq_true rfl)
        have Z228 := Nat.le_trans Z220 (Keep.of_wr W227).1
        have cs_231 := (CHr.wr W227 (own_sarr hZ.alike V_b211_219 (by decide)) RR221.1)
        have RR229 := CHr.trans RR221 cs_231
        have hk230 := Nat.le_trans hk222 (Keep.of_wr W227).1
        have K232 := Keep.wr K224 W227 (Or.inr sz_b211)
        have N227 := Fr.snoc X227 N225 g_b211
        obtain ⟨T233, h233, X233, e233, E233, A233, D233, -, st233⟩ := newO X227 hx hZ hown (wd_9 hw) (wd_10 hw) (wd_11 hw) e227 (g := (mkF m 92 #[.val (.long q1), .second, .val (.int (ln q1)), vr b211] [])) rfl (hb hby d1_92) (by decide) (by decide)
        obtain ⟨b233, g233⟩ : ∃ z, z = h227.size := ⟨_, rfl⟩
        rw [← g233] at A233 D233 st233
        have g_b233 : n0 ≤ b233 := Nat.le_trans Z228 (Nat.le_of_eq g233.symm)
        have sz_b233 : h0.size ≤ b233 := Nat.le_trans (And.left K232) (Nat.le_of_eq g233.symm)
        have Z234 := Nat.le_trans Z228 E233.1
        have cs_237 := (CHr.ext E233 RR229.1)
        have RR235 := CHr.trans RR229 cs_237
        have hk236 := Nat.le_trans hk230 E233.1
        have K238 := Keep.ext K232 E233
        obtain ⟨_, T239, L239, X239, hQ239, st239⟩ := cN X233 hx hZ hown (wd_12 hw) (wd_13 hw) rfl (by decide) 1 (rmi1_2 l Z a0 hw [] b233 b211 .null (.int 0) k211 wz (nar .char (cc (sh8 q1 (0 : Int32)))) (nar .char (cc (sh8 q1 (8 : Int32)))) h233 n0 Z234 (D233 (Or.inr (wd_24 hw)) (ty := (.array .byte)) (by decide)) (D233 (Or.inr (wd_25 hw)) (ty := .byte) (by decide)) A233 g_b233 (V_b211_227.ext E233) (nc _) (nc _) (Old0.keep K238 all0) S_COMPACT_STRINGS hz) (wd_14 hw) (wd_11 hw) (by decide) (by decide) e233 b233 hml (Ls := #[.val (.long q1), .second, .val (.int (ln q1)), vr b211]) rfl (argsL := [(.ref b211)]) (rest := [(.ref b233)]) (lenOf pd___C_V rfl) (St := [(.ref b211), (.ref b233), (.ref b233)]) rfl rfl (hb hby d1_97) rfl (by decide) (by decide)
        obtain ⟨b_239, kb_239, rfl, N239q, K239q, g239_0, g239_1, g239_2, g239_3⟩ := hQ239
        have N239 := Fr.app N227 N239q
        have sf240 : Safe Z consts_1 s.vm h233 b233 := own_safeS hZ.alike A233 (D233 (Or.inr (wd_24 hw)) (ty := (.array .byte)) (by decide))
        have Z241 := Nat.le_trans Z234 K239q.1
        have cs_244 := (CHr.keep K239q (allS sf240 all0) RR235.1)
        have RR242 := CHr.trans RR235 cs_244
        have hk243 := Nat.le_trans hk236 K239q.1
        have K245 := Keep.trans K238 K239q (allS (Or.inr sz_b233) all0)
        have g246 : n0 ≤ b_239 := Nat.le_trans Z234 g239_0
        have sz247 : h0.size ≤ b_239 := Nat.le_trans (And.left K238) g239_0
        obtain ⟨fs, hr, hrun, hended, hW⟩ := X239.leaveW hS (hk243) (v := some (.ref b233)) (fun h => by rw [Bd.returns] at h; cases h)
        have hC_ : CHr Z consts_1 s.vm s.heap (T239.setFrames fs).vm (T239.setFrames fs).heap := by
          show CHr Z consts_1 s.vm s.heap T239.vm T239.heap
          rw [hh]; exact CHr.trans RR242 (CHv.at X239 hZ (hELt hw) RR242.1)
        refine ⟨_, _, pre210 _ ?_, hrun, hended, _, _, rfl, ?_, hC_, hW.1, hW.2.1, hW.2.2.1, hW.2.2.2.mono (by decide) (by decide)⟩
        · show Steps p.tables e below (T157.setTop (mkF m 38 #[.val (.long q1), .second, .val (.int (ln q1)), .unset] [(.int 2), (.int (ln q1))])) _
          refine XS.icmpNo X157.here hx rfl (hb hby d1_38) rfl (teq hc38_209).2 ?_
          refine XS.iconst X157.here hx rfl (hb hby d1_41) ?_
          refine st211 _ ?_
          refine XS.dup X211.here hx rfl (hb hby d1_44) rfl rfl ?_
          refine XS.iconst X211.here hx rfl (hb hby d1_45) ?_
          refine XS.lloadN X211.here hx rfl (hb hby d1_46) rfl ?_
          refine XS.iconst X211.here hx rfl (hb hby d1_47) ?_
          refine st217 _ ?_
          refine st219 _ ?_
          refine XS.dup X219.here hx rfl (hb hby d1_52) rfl rfl ?_
          show Steps p.tables e below (T219.setTop (mkF m 53 #[.val (.long q1), .second, .val (.int (ln q1)), .unset] [(.ref b211), (.ref b211)])) _
          refine XS.iconst X219.here hx rfl (hb hby d1_53) ?_
          refine XS.lloadN X219.here hx rfl (hb hby d1_54) rfl ?_
          refine XS.iconst X219.here hx rfl (hb hby d1_55) ?_
          refine st225 _ ?_
          refine st227 _ ?_
          refine XS.astoreN X227.here hx rfl (hb hby d1_60) rfl rfl (l' := #[.val (.long q1), .second, .val (.int (ln q1)), vr b211]) rfl ?_
          refine XS.goto X227.here hx rfl (pc0 := 61) (pc' := 92) rfl (hb hby d1_61) (by decide) (by decide) ?_
          refine st233 _ ?_
          refine XS.dup X233.here hx rfl (hb hby d1_95) rfl rfl ?_
          refine XS.aloadN X233.here hx rfl (hb hby d1_96) rfl rfl ?_
          show Steps p.tables e below (T233.setTop (mkF m 97 #[.val (.long q1), .second, .val (.int (ln q1)), vr b211] [(.ref b211), (.ref b233), (.ref b233)])) _
          refine st239.trans ?_
          exact X239.areturnOut hx rfl Bd.returns rfl (hb hby d1_100) hr
        · show Q_rm1 Z _ _ h0 n0 _ T239.heap _
          exact ⟨b233, rfl, N239, K245, sz_b233, ⟨b_239, kb_239, (A233.keep K239q), g239_1, g239_2, Or.inr (Or.inr (Or.inl ⟨hc38_209, g239_3⟩))⟩⟩
      · obtain ⟨T248, h248, k248, X248, e248, E248, A248, st248⟩ := newP (aty := .char) X157 hx hZ (wd_8 hw) e157 (g := (mkF m 65 #[.val (.long q1), .second, .val (.int (ln q1)), .unset] [(.int 3)])) rfl (hb hby d1_65) rfl (by decide) (cap := 3) (by decide) (by decide) (by decide) (by decide)
        obtain ⟨b248, g248⟩ : ∃ z, z = h0.size := ⟨_, rfl⟩
        rw [← g248] at A248 st248
        have g_b248 : n0 ≤ b248 := Nat.le_trans Z0 (Nat.le_of_eq g248.symm)
        have sz_b248 : h0.size ≤ b248 := Nat.le_trans (And.left (Keep.refl h0 [])) (Nat.le_of_eq g248.symm)
        have Z249 := Nat.le_trans Z0 E248.1
        have cs_252 := (CHr.ext E248 RR0.1)
        have RR250 := CHr.trans RR0 cs_252
        have hk251 := Nat.le_trans hk0 E248.1
        have K253 := Keep.ext (Keep.refl h0 []) E248
        have V0_b248 := (Arv.new A248 (by decide)).pad (pad_rep [] (.int 0) 3)
        have V_b248 : Arv Z h248 b248 k248 .char (3 : Int32) [(.int 0), (.int 0), (.int 0)] (.int 0) := V0_b248
        obtain ⟨_, _, ⟨T254, L254, k254, n254⟩, -, X254, ⟨Lc254, hQ254, l254, y254, z254⟩, st254⟩ := Jvm.LawKit.callS X248 hx (y := y_11) hown (mvT hZ (wd_64 hw)) (mvT hZ (wd_65 hw)) (mvT hZ (wd_3 hw)) (mvT hZ (wd_66 hw)) (by decide) (backOf (W := 3) (rmch0 l Z a0 hw [] q1 h248 n0 Z249) hZ (wd_66 hw) (wd_3 hw) (by decide) (by decide)) (g := (mkF m 71 #[.val (.long q1), .second, .val (.int (ln q1)), .unset] [(.int 0), (.long q1), (.int 0), (.ref b248), (.ref b248)])) rfl (by rw [hml]; rfl) (argsL := [(.long q1), (.int 0)]) (rest := [(.int 0), (.ref b248), (.ref b248)]) (lenOf pd__JI_C rfl) rfl (by show 2 * 0 + _ ≤ _; exact Nat.le_of_eq rfl) (hb hby d1_71) (fun _ _ => ⟨rfl, e248, (by decide : 1 + 0 ≤ _), (by decide : 3 + 0 ≤ _)⟩)
        dsimp only [Pt.U, Pt.locs, Pt.cells, Pt.slots] at X254 l254 y254 z254 st254 hQ254
        rw [l254, y254, z254] at X254
        obtain ⟨rfl, N254q, e254⟩ := hQ254
        have N254 := Fr.app N157 N254q
        obtain ⟨cl255, Ar255, q255, S255, N255n, H255, G255⟩ := id (V_b248)
        have hin255 : ¬ ((0 : Int32) < 0 ∨ cl255.slots.size ≤ ((0 : Int32)).toNatClampNeg) := inb_of S255 ⟨by decide, by decide⟩
        obtain ⟨T256, h256, X256, e256, W256, st256⟩ := stC X254 hx hZ e254 Ar255 (j := (0 : Int32)) hin255 (g := (mkF m 74 #[.val (.long q1), .second, .val (.int (ln q1)), .unset] [(.int (cc (sh8 q1 (0 : Int32)))), (.int 0), (.ref b248), (.ref b248)])) rfl rfl (hb hby d1_74)
        have V_b248_256 : Arv Z h256 b248 k248 .char (3 : Int32) [(.int (nar .char (cc (sh8 q1 (0 : Int32))))), (.int 0), (.int 0)] (.int 0) := Arv.set Ar255 q255 S255 N255n H255 G255 (fits_nar_char _) W256 0 rfl (Nat.le_of_ble_eq_true rfl)
        have Z257 := Nat.le_trans Z249 (Keep.of_wr W256).1
        have cs_260 := (CHr.wr W256 (own_sarr hZ.alike V_b248 (by decide)) RR250.1)
        have RR258 := CHr.trans RR250 cs_260
        have hk259 := Nat.le_trans hk251 (Keep.of_wr W256).1
        have K261 := Keep.wr K253 W256 (Or.inr sz_b248)
        have N256 := Fr.snoc X256 N254 g_b248
        obtain ⟨_, _, ⟨T262, L262, k262, n262⟩, -, X262, ⟨Lc262, hQ262, l262, y262, z262⟩, st262⟩ := Jvm.LawKit.callS X256 hx (y := y_11) hown (mvT hZ (wd_64 hw)) (mvT hZ (wd_65 hw)) (mvT hZ (wd_3 hw)) (mvT hZ (wd_66 hw)) (by decide) (backOf (W := 3) (rmch1 l Z a0 hw [] q1 h256 n0 Z257) hZ (wd_66 hw) (wd_3 hw) (by decide) (by decide)) (g := (mkF m 79 #[.val (.long q1), .second, .val (.int (ln q1)), .unset] [(.int 1), (.long q1), (.int 1), (.ref b248), (.ref b248)])) rfl (by rw [hml]; rfl) (argsL := [(.long q1), (.int 1)]) (rest := [(.int 1), (.ref b248), (.ref b248)]) (lenOf pd__JI_C rfl) rfl (by show 2 * 0 + _ ≤ _; exact Nat.le_of_eq rfl) (hb hby d1_79) (fun _ _ => ⟨rfl, e256, (by decide : 1 + 0 ≤ _), (by decide : 3 + 0 ≤ _)⟩)
        dsimp only [Pt.U, Pt.locs, Pt.cells, Pt.slots] at X262 l262 y262 z262 st262 hQ262
        rw [l262, y262, z262] at X262
        obtain ⟨rfl, N262q, e262⟩ := hQ262
        have N262 := Fr.app N256 N262q
        obtain ⟨cl263, Ar263, q263, S263, N263n, H263, G263⟩ := id (V_b248_256)
        have hin263 : ¬ ((1 : Int32) < 0 ∨ cl263.slots.size ≤ ((1 : Int32)).toNatClampNeg) := inb_of S263 ⟨by decide, by decide⟩
        obtain ⟨T264, h264, X264, e264, W264, st264⟩ := stC X262 hx hZ e262 Ar263 (j := (1 : Int32)) hin263 (g := (mkF m 82 #[.val (.long q1), .second, .val (.int (ln q1)), .unset] [(.int (cc (sh8 q1 (8 : Int32)))), (.int 1), (.ref b248), (.ref b248)])) rfl rfl (hb hby d1_82)
        have V_b248_264 : Arv Z h264 b248 k248 .char (3 : Int32) [(.int (nar .char (cc (sh8 q1 (0 : Int32))))), (.int (nar .char (cc (sh8 q1 (8 : Int32))))), (.int 0)] (.int 0) := Arv.set Ar263 q263 S263 N263n H263 G263 (fits_nar_char _) W264 1 rfl (Nat.le_of_ble_eq_true rfl)
        have Z265 := Nat.le_trans Z257 (Keep.of_wr W264).1
        have cs_268 := (CHr.wr W264 (own_sarr hZ.alike V_b248_256 (by decide)) RR258.1)
        have RR266 := CHr.trans RR258 cs_268
        have hk267 := Nat.le_trans hk259 (Keep.of_wr W264).1
        have K269 := Keep.wr K261 W264 (Or.inr sz_b248)
        have N264 := Fr.snoc X264 N262 g_b248
        obtain ⟨_, _, ⟨T270, L270, k270, n270⟩, -, X270, ⟨Lc270, hQ270, l270, y270, z270⟩, st270⟩ := Jvm.LawKit.callS X264 hx (y := y_11) hown (mvT hZ (wd_64 hw)) (mvT hZ (wd_65 hw)) (mvT hZ (wd_3 hw)) (mvT hZ (wd_66 hw)) (by decide) (backOf (W := 3) (rmch2 l Z a0 hw [] q1 h264 n0 Z265) hZ (wd_66 hw) (wd_3 hw) (by decide) (by decide)) (g := (mkF m 87 #[.val (.long q1), .second, .val (.int (ln q1)), .unset] [(.int 2), (.long q1), (.int 2), (.ref b248), (.ref b248)])) rfl (by rw [hml]; rfl) (argsL := [(.long q1), (.int 2)]) (rest := [(.int 2), (.ref b248), (.ref b248)]) (lenOf pd__JI_C rfl) rfl (by show 2 * 0 + _ ≤ _; exact Nat.le_of_eq rfl) (hb hby d1_87) (fun _ _ => ⟨rfl, e264, (by decide : 1 + 0 ≤ _), (by decide : 3 + 0 ≤ _)⟩)
        dsimp only [Pt.U, Pt.locs, Pt.cells, Pt.slots] at X270 l270 y270 z270 st270 hQ270
        rw [l270, y270, z270] at X270
        obtain ⟨rfl, N270q, e270⟩ := hQ270
        have N270 := Fr.app N264 N270q
        obtain ⟨cl271, Ar271, q271, S271, N271n, H271, G271⟩ := id (V_b248_264)
        have hin271 : ¬ ((2 : Int32) < 0 ∨ cl271.slots.size ≤ ((2 : Int32)).toNatClampNeg) := inb_of S271 ⟨by decide, by decide⟩
        obtain ⟨T272, h272, X272, e272, W272, st272⟩ := stC X270 hx hZ e270 Ar271 (j := (2 : Int32)) hin271 (g := (mkF m 90 #[.val (.long q1), .second, .val (.int (ln q1)), .unset] [(.int (cc (sh8 q1 (16 : Int32)))), (.int 2), (.ref b248), (.ref b248)])) rfl rfl (hb hby d1_90)
        have V_b248_272 : Arv Z h272 b248 k248 .char (3 : Int32) [(.int (nar .char (cc (sh8 q1 (0 : Int32))))), (.int (nar .char (cc (sh8 q1 (8 : Int32))))), (.int (nar .char (cc (sh8 q1 (16 : Int32)))))] (.int 0) := Arv.set Ar271 q271 S271 N271n H271 G271 (fits_nar_char _) W272 2 rfl (Nat.le_of_ble_eq_true rfl)
        have Z273 := Nat.le_trans Z265 (Keep.of_wr W272).1
        have cs_276 := (CHr.wr W272 (own_sarr hZ.alike V_b248_264 (by decide)) RR266.1)
        have RR274 := CHr.trans RR266 cs_276
        have hk275 := Nat.le_trans hk267 (Keep.of_wr W272).1
        have K277 := Keep.wr K269 W272 (Or.inr sz_b248)
        have N272 := Fr.snoc X272 N270 g_b248
        obtain ⟨T278, h278, X278, e278, E278, A278, D278, -, st278⟩ := newO X272 hx hZ hown (wd_9 hw) (wd_10 hw) (wd_11 hw) e272 (g := (mkF m 92 #[.val (.long q1), .second, .val (.int (ln q1)), vr b248] [])) rfl (hb hby d1_92) (by decide) (by decide)
        obtain ⟨b278, g278⟩ : ∃ z, z = h272.size := ⟨_, rfl⟩
        rw [← g278] at A278 D278 st278
        have g_b278 : n0 ≤ b278 := Nat.le_trans Z273 (Nat.le_of_eq g278.symm)
        have sz_b278 : h0.size ≤ b278 := Nat.le_trans (And.left K277) (Nat.le_of_eq g278.symm)
        have Z279 := Nat.le_trans Z273 E278.1
        have cs_282 := (CHr.ext E278 RR274.1)
        have RR280 := CHr.trans RR274 cs_282
        have hk281 := Nat.le_trans hk275 E278.1
        have K283 := Keep.ext K277 E278
        obtain ⟨_, T284, L284, X284, hQ284, st284⟩ := cN X278 hx hZ hown (wd_12 hw) (wd_13 hw) rfl (by decide) 1 (rmi1_3 l Z a0 hw [] b278 b248 .null (.int 0) k248 wz (nar .char (cc (sh8 q1 (0 : Int32)))) (nar .char (cc (sh8 q1 (8 : Int32)))) (nar .char (cc (sh8 q1 (16 : Int32)))) h278 n0 Z279 (D278 (Or.inr (wd_24 hw)) (ty := (.array .byte)) (by decide)) (D278 (Or.inr (wd_25 hw)) (ty := .byte) (by decide)) A278 g_b278 (V_b248_272.ext E278) (nc _) (nc _) (nc _) (Old0.keep K283 all0) S_COMPACT_STRINGS hz) (wd_14 hw) (wd_11 hw) (by decide) (by decide) e278 b278 hml (Ls := #[.val (.long q1), .second, .val (.int (ln q1)), vr b248]) rfl (argsL := [(.ref b248)]) (rest := [(.ref b278)]) (lenOf pd___C_V rfl) (St := [(.ref b248), (.ref b278), (.ref b278)]) rfl rfl (hb hby d1_97) rfl (by decide) (by decide)
        obtain ⟨b_284, kb_284, rfl, N284q, K284q, g284_0, g284_1, g284_2, g284_3⟩ := hQ284
        have N284 := Fr.app N272 N284q
        have sf285 : Safe Z consts_1 s.vm h278 b278 := own_safeS hZ.alike A278 (D278 (Or.inr (wd_24 hw)) (ty := (.array .byte)) (by decide))
        have Z286 := Nat.le_trans Z279 K284q.1
        have cs_289 := (CHr.keep K284q (allS sf285 all0) RR280.1)
        have RR287 := CHr.trans RR280 cs_289
        have hk288 := Nat.le_trans hk281 K284q.1
        have K290 := Keep.trans K283 K284q (allS (Or.inr sz_b278) all0)
        have g291 : n0 ≤ b_284 := Nat.le_trans Z279 g284_0
        have sz292 : h0.size ≤ b_284 := Nat.le_trans (And.left K283) g284_0
        obtain ⟨fs, hr, hrun, hended, hW⟩ := X284.leaveW hS (hk288) (v := some (.ref b278)) (fun h => by rw [Bd.returns] at h; cases h)
        have hC_ : CHr Z consts_1 s.vm s.heap (T284.setFrames fs).vm (T284.setFrames fs).heap := by
          show CHr Z consts_1 s.vm s.heap T284.vm T284.heap
          rw [hh]; exact CHr.trans RR287 (CHv.at X284 hZ (hELt hw) RR287.1)
        refine ⟨_, _, pre210 _ ?_, hrun, hended, _, _, rfl, ?_, hC_, hW.1, hW.2.1, hW.2.2.1, hW.2.2.2.mono (by decide) (by decide)⟩
        · show Steps p.tables e below (T157.setTop (mkF m 38 #[.val (.long q1), .second, .val (.int (ln q1)), .unset] [(.int 2), (.int (ln q1))])) _
          refine XS.icmpYes X157.here hx rfl (pc0 := 38) (pc' := 64) rfl (hb hby d1_38) rfl (feq hc38_209).2 (by decide) (by decide) ?_
          refine XS.iconst X157.here hx rfl (hb hby d1_64) ?_
          refine st248 _ ?_
          refine XS.dup X248.here hx rfl (hb hby d1_67) rfl rfl ?_
          refine XS.iconst X248.here hx rfl (hb hby d1_68) ?_
          refine XS.lloadN X248.here hx rfl (hb hby d1_69) rfl ?_
          refine XS.iconst X248.here hx rfl (hb hby d1_70) ?_
          refine st254 _ ?_
          refine st256 _ ?_
          refine XS.dup X256.here hx rfl (hb hby d1_75) rfl rfl ?_
          show Steps p.tables e below (T256.setTop (mkF m 76 #[.val (.long q1), .second, .val (.int (ln q1)), .unset] [(.ref b248), (.ref b248)])) _
          refine XS.iconst X256.here hx rfl (hb hby d1_76) ?_
          refine XS.lloadN X256.here hx rfl (hb hby d1_77) rfl ?_
          refine XS.iconst X256.here hx rfl (hb hby d1_78) ?_
          refine st262 _ ?_
          refine st264 _ ?_
          refine XS.dup X264.here hx rfl (hb hby d1_83) rfl rfl ?_
          refine XS.iconst X264.here hx rfl (hb hby d1_84) ?_
          refine XS.lloadN X264.here hx rfl (hb hby d1_85) rfl ?_
          refine XS.iconst X264.here hx rfl (hb hby d1_86) ?_
          refine st270 _ ?_
          show Steps p.tables e below (T270.setTop (mkF m 90 #[.val (.long q1), .second, .val (.int (ln q1)), .unset] [(.int (cc (sh8 q1 (16 : Int32)))), (.int 2), (.ref b248), (.ref b248)])) _
          refine st272 _ ?_
          refine XS.astoreN X272.here hx rfl (hb hby d1_91) rfl rfl (l' := #[.val (.long q1), .second, .val (.int (ln q1)), vr b248]) rfl ?_
          refine st278 _ ?_
          refine XS.dup X278.here hx rfl (hb hby d1_95) rfl rfl ?_
          refine XS.aloadN X278.here hx rfl (hb hby d1_96) rfl rfl ?_
          refine st284.trans ?_
          exact X284.areturnOut hx rfl Bd.returns rfl (hb hby d1_100) hr
        · show Q_rm1 Z _ _ h0 n0 _ T284.heap _
          exact ⟨b278, rfl, N284, K290, sz_b278, ⟨b_284, kb_284, (A278.keep K284q), g284_1, g284_2, Or.inr (Or.inr (Or.inr ⟨(ln_3 hc6_158 hc18_178 hc38_209), g284_3⟩))⟩⟩
abbrev B7 : ByteArray := method_5_code
theorem d7_0 : dc B7 0 (.lload_n 0) 1 := by decide +kernel
theorem d7_1 : dc B7 1 (.invokestatic 11) 3 := by decide +kernel
theorem d7_4 : dc B7 4 (.istore 4) 2 := by decide +kernel
theorem d7_6 : dc B7 6 (.iload 4) 2 := by decide +kernel
theorem d7_8 : dc B7 8 (.lload_n 2) 1 := by decide +kernel
theorem d7_9 : dc B7 9 (.invokestatic 11) 3 := by decide +kernel
theorem d7_12 : dc B7 12 (.if_icmp .eq 5) 3 := by decide +kernel
theorem d7_17 : dc B7 17 (.iload 4) 2 := by decide +kernel
theorem d7_19 : dc B7 19 (.iconst 1) 1 := by decide +kernel
theorem d7_20 : dc B7 20 (.if_icmp .lt 18) 3 := by decide +kernel
theorem d7_38 : dc B7 38 (.iload 4) 2 := by decide +kernel
theorem d7_40 : dc B7 40 (.iconst 2) 1 := by decide +kernel
theorem d7_41 : dc B7 41 (.if_icmp .lt 18) 3 := by decide +kernel
theorem d7_59 : dc B7 59 (.iload 4) 2 := by decide +kernel
theorem d7_61 : dc B7 61 (.iconst 3) 1 := by decide +kernel
theorem d7_62 : dc B7 62 (.if_icmp .lt 18) 3 := by decide +kernel
theorem d7_80 : dc B7 80 (.iconst 1) 1 := by decide +kernel
theorem d7_81 : dc B7 81 .ireturn 1 := by decide +kernel
theorem d7_23 : dc B7 23 (.lload_n 0) 1 := by decide +kernel
theorem d7_24 : dc B7 24 (.iconst 0) 1 := by decide +kernel
theorem d7_25 : dc B7 25 (.invokestatic 17) 3 := by decide +kernel
theorem d7_28 : dc B7 28 (.lload_n 2) 1 := by decide +kernel
theorem d7_29 : dc B7 29 (.iconst 0) 1 := by decide +kernel
theorem d7_30 : dc B7 30 (.invokestatic 17) 3 := by decide +kernel
theorem d7_33 : dc B7 33 (.if_icmp .eq 5) 3 := by decide +kernel
theorem d7_44 : dc B7 44 (.lload_n 0) 1 := by decide +kernel
theorem d7_45 : dc B7 45 (.iconst 1) 1 := by decide +kernel
theorem d7_46 : dc B7 46 (.invokestatic 17) 3 := by decide +kernel
theorem d7_49 : dc B7 49 (.lload_n 2) 1 := by decide +kernel
theorem d7_50 : dc B7 50 (.iconst 1) 1 := by decide +kernel
theorem d7_51 : dc B7 51 (.invokestatic 17) 3 := by decide +kernel
theorem d7_54 : dc B7 54 (.if_icmp .eq 5) 3 := by decide +kernel
theorem d7_65 : dc B7 65 (.lload_n 0) 1 := by decide +kernel
theorem d7_66 : dc B7 66 (.iconst 2) 1 := by decide +kernel
theorem d7_67 : dc B7 67 (.invokestatic 17) 3 := by decide +kernel
theorem d7_70 : dc B7 70 (.lload_n 2) 1 := by decide +kernel
theorem d7_71 : dc B7 71 (.iconst 2) 1 := by decide +kernel
theorem d7_72 : dc B7 72 (.invokestatic 17) 3 := by decide +kernel
theorem d7_75 : dc B7 75 (.if_icmp .eq 5) 3 := by decide +kernel
theorem d7_78 : dc B7 78 (.iconst 0) 1 := by decide +kernel
theorem d7_79 : dc B7 79 .ireturn 1 := by decide +kernel
theorem d7_57 : dc B7 57 (.iconst 0) 1 := by decide +kernel
theorem d7_58 : dc B7 58 .ireturn 1 := by decide +kernel
theorem d7_36 : dc B7 36 (.iconst 0) 1 := by decide +kernel
theorem d7_37 : dc B7 37 .ireturn 1 := by decide +kernel
theorem d7_15 : dc B7 15 (.iconst 0) 1 := by decide +kernel
theorem d7_16 : dc B7 16 .ireturn 1 := by decide +kernel
theorem ef_7 (m : MethodId) (x0 : Int64) (x1 : Int64) : entryFrame m #[(.long x0), (.long x1)] 5 = mkF m 0 #[.val (.long x0), .second, .val (.long x1), .second, .unset] [] := by first | (simp [entryFrame, mkF, argsToLocals, Value.category]; done) | rfl
def Q_rm7 (Z : State) (q1 : Int64) (q2 : Int64) (h0 : Heap) (n0 : Nat) (v : Option Value) (h : Heap) (L : List Loc) : Prop := v = some (.int (own_sm q1 q2)) ∧ Fr n0 L ∧ h = h0
set_option maxRecDepth 65536 in
set_option maxHeartbeats 40000000 in
abbrev y_7 : MethodName := ⟨cs2, "same", "(JJ)Z"⟩
theorem rm7 (l : Launch) (Z : State) (a0 : Array Value) (hw : HW a0 Z) (ws : List Jvm.Cond) (q1 : Int64) (q2 : Int64) (h0 : Heap) (n0 : Nat) (Z0 : n0 ≤ h0.size) :
    MF l y_7 (Jvm.Cond.code y_7 B7 5 (some .boolean) :: ws) (⟨1, 0, 0, 15⟩ : Room) Z h0 #[(.long q1), (.long q2)] (Q_rm7 Z q1 q2 h0 n0) := by
  refine MetFree.of_bodySF (plainFor_of_name pn_com_example_xylem_xylem_model_LocationEqualsPinLaw) hisR ?_
  intro p e s m args below meth c s₁ Bd hml0 hP hK
  obtain ⟨rfl, hZ, hh⟩ := hP
  have hx := Bd.exec
  have hby := Bd.bytes
  have hml : c.maxLocals = 5 := hml0
  have hown : s.vm.findClass cs2 = some m.cls := findClass_of_methodNamed Bd.named
  have hnm := (name_of_methodNamed Bd.named Bd.method).1
  have X0 : Stand p l e (⟨1, 0, 0, 15⟩ : Room) s m #[(.long q1), (.long q2)] below meth c s₁ [] 0 0 := Stand.of_body Bd
  have e0 : s₁.heap = h0 := by rw [← hh, Bd.state]; rfl
  have N0 := Fr.nil n0
  have pre0 : Goes p e below (s₁.setTop (entryFrame m #[(.long q1), (.long q2)] 5)) (s₁.setTop (mkF m 0 #[.val (.long q1), .second, .val (.long q2), .second, .unset] [])) := fun t k => castTop (ef_7 m q1 q2) k
  obtain ⟨_, _, ⟨T293, L293, k293, n293⟩, -, X293, ⟨Lc293, hQ293, l293, y293, z293⟩, st293⟩ := Jvm.LawKit.callS X0 hx (y := y_2) hown (mvT hZ (wd_5 hw)) (mvT hZ (wd_6 hw)) (mvT hZ (wd_3 hw)) (mvT hZ (wd_7 hw)) (by decide) (backOf (W := 0) (rm2 l Z a0 hw [] q1 h0 n0 Z0) hZ (wd_7 hw) (wd_3 hw) (by decide) (by decide)) (g := (mkF m 1 #[.val (.long q1), .second, .val (.long q2), .second, .unset] [(.long q1)])) rfl (by rw [hml]; rfl) (argsL := [(.long q1)]) (rest := []) (lenOf pd__J_I rfl) rfl (by show 2 * 0 + _ ≤ _; exact Nat.le_of_eq rfl) (hb hby d7_1) (fun _ _ => ⟨rfl, e0, (by decide : 0 + 0 ≤ _), (by decide : 0 + 0 ≤ _)⟩)
  dsimp only [Pt.U, Pt.locs, Pt.cells, Pt.slots] at X293 l293 y293 z293 st293 hQ293
  rw [l293, y293, z293] at X293
  obtain ⟨rfl, N293q, e293⟩ := hQ293
  have N293 := Fr.app N0 N293q
  obtain ⟨_, _, ⟨T294, L294, k294, n294⟩, -, X294, ⟨Lc294, hQ294, l294, y294, z294⟩, st294⟩ := Jvm.LawKit.callS X293 hx (y := y_2) hown (mvT hZ (wd_5 hw)) (mvT hZ (wd_6 hw)) (mvT hZ (wd_3 hw)) (mvT hZ (wd_7 hw)) (by decide) (backOf (W := 1) (rm2 l Z a0 hw [] q2 h0 n0 Z0) hZ (wd_7 hw) (wd_3 hw) (by decide) (by decide)) (g := (mkF m 9 #[.val (.long q1), .second, .val (.long q2), .second, .val (.int (ln q1))] [(.long q2), (.int (ln q1))])) rfl (by rw [hml]; rfl) (argsL := [(.long q2)]) (rest := [(.int (ln q1))]) (lenOf pd__J_I rfl) rfl (by show 2 * 0 + _ ≤ _; exact Nat.le_of_eq rfl) (hb hby d7_9) (fun _ _ => ⟨rfl, e293, (by decide : 0 + 0 ≤ _), (by decide : 0 + 0 ≤ _)⟩)
  dsimp only [Pt.U, Pt.locs, Pt.cells, Pt.slots] at X294 l294 y294 z294 st294 hQ294
  rw [l294, y294, z294] at X294
  obtain ⟨rfl, N294q, e294⟩ := hQ294
  have N294 := Fr.app N293 N294q
  have pre296 : Goes p e below (s₁.setTop (entryFrame m #[(.long q1), (.long q2)] 5)) (T294.setTop (mkF m 12 #[.val (.long q1), .second, .val (.long q2), .second, .val (.int (ln q1))] [(.int (ln q2)), (.int (ln q1))])) := by
    intro t kt
    refine pre0 _ ?_
    show Steps p.tables e below (s₁.setTop (mkF m 0 #[.val (.long q1), .second, .val (.long q2), .second, .unset] [])) _
    refine XS.lloadN X0.here hx rfl (hb hby d7_0) rfl ?_
    refine st293 _ ?_
    refine XS.istore X293.here hx rfl (hb hby d7_4) rfl (l' := #[.val (.long q1), .second, .val (.long q2), .second, .val (.int (ln q1))]) rfl ?_
    refine XS.iload X293.here hx rfl (hb hby d7_6) rfl ?_
    refine XS.lloadN X293.here hx rfl (hb hby d7_8) rfl ?_
    refine st294 _ ?_
    exact kt
  by_cases hc12_295 : (ln q1) = (ln q2)
  · have pre298 : Goes p e below (s₁.setTop (entryFrame m #[(.long q1), (.long q2)] 5)) (T294.setTop (mkF m 20 #[.val (.long q1), .second, .val (.long q2), .second, .val (.int (ln q1))] [(.int 1), (.int (ln q1))])) := by
      intro t kt
      refine pre296 _ ?_
      show Steps p.tables e below (T294.setTop (mkF m 12 #[.val (.long q1), .second, .val (.long q2), .second, .val (.int (ln q1))] [(.int (ln q2)), (.int (ln q1))])) _
      refine XS.icmpYes X294.here hx rfl (pc0 := 12) (pc' := 17) rfl (hb hby d7_12) rfl (teq hc12_295).1 (by decide) (by decide) ?_
      refine XS.iload X294.here hx rfl (hb hby d7_17) rfl ?_
      refine XS.iconst X294.here hx rfl (hb hby d7_19) ?_
      exact kt
    by_cases hc20_297 : (ln q1) < (1 : Int32)
    · obtain ⟨fs, hr, hrun, hended, hW, hsame⟩ := X294.leave (v := some (.int 1)) (fun h => by rw [Bd.returns] at h; cases h)
      refine ⟨_, _, pre298 _ ?_, hrun, hended, _, _, rfl, ?_, ⟨_, rfl⟩, hW, hsame.mono (by decide) (by decide)⟩
      · show Steps p.tables e below (T294.setTop (mkF m 20 #[.val (.long q1), .second, .val (.long q2), .second, .val (.int (ln q1))] [(.int 1), (.int (ln q1))])) _
        refine XS.icmpYes X294.here hx rfl (pc0 := 20) (pc' := 38) rfl (hb hby d7_20) rfl (tlt hc20_297).1 (by decide) (by decide) ?_
        show Steps p.tables e below (T294.setTop (mkF m 38 #[.val (.long q1), .second, .val (.long q2), .second, .val (.int (ln q1))] [])) _
        refine XS.iload X294.here hx rfl (hb hby d7_38) rfl ?_
        refine XS.iconst X294.here hx rfl (hb hby d7_40) ?_
        refine XS.icmpYes X294.here hx rfl (pc0 := 41) (pc' := 59) rfl (hb hby d7_41) rfl (tlt (own_lt2 hc20_297 (by decide))).1 (by decide) (by decide) ?_
        refine XS.iload X294.here hx rfl (hb hby d7_59) rfl ?_
        refine XS.iconst X294.here hx rfl (hb hby d7_61) ?_
        refine XS.icmpYes X294.here hx rfl (pc0 := 62) (pc' := 80) rfl (hb hby d7_62) rfl (tlt (own_lt2 hc20_297 (by decide))).1 (by decide) (by decide) ?_
        refine XS.iconst X294.here hx rfl (hb hby d7_80) ?_
        exact retN X294 hx (t := .boolean) Bd.returns (by simp) (hb hby d7_81) hr
      · show Q_rm7 Z _ _ h0 n0 _ T294.heap _
        rw [e294]
        exact ⟨(by simp only [own_sm, if_pos hc12_295, if_pos hc20_297]), N294, rfl⟩
    · obtain ⟨_, _, ⟨T299, L299, k299, n299⟩, -, X299, ⟨Lc299, hQ299, l299, y299, z299⟩, st299⟩ := Jvm.LawKit.callS X294 hx (y := y_11) hown (mvT hZ (wd_64 hw)) (mvT hZ (wd_65 hw)) (mvT hZ (wd_3 hw)) (mvT hZ (wd_66 hw)) (by decide) (backOf (W := 0) (rmch0 l Z a0 hw [] q1 h0 n0 Z0) hZ (wd_66 hw) (wd_3 hw) (by decide) (by decide)) (g := (mkF m 25 #[.val (.long q1), .second, .val (.long q2), .second, .val (.int (ln q1))] [(.int 0), (.long q1)])) rfl (by rw [hml]; rfl) (argsL := [(.long q1), (.int 0)]) (rest := []) (lenOf pd__JI_C rfl) rfl (by show 2 * 0 + _ ≤ _; exact Nat.le_of_eq rfl) (hb hby d7_25) (fun _ _ => ⟨rfl, e294, (by decide : 0 + 0 ≤ _), (by decide : 0 + 0 ≤ _)⟩)
      dsimp only [Pt.U, Pt.locs, Pt.cells, Pt.slots] at X299 l299 y299 z299 st299 hQ299
      rw [l299, y299, z299] at X299
      obtain ⟨rfl, N299q, e299⟩ := hQ299
      have N299 := Fr.app N294 N299q
      obtain ⟨_, _, ⟨T300, L300, k300, n300⟩, -, X300, ⟨Lc300, hQ300, l300, y300, z300⟩, st300⟩ := Jvm.LawKit.callS X299 hx (y := y_11) hown (mvT hZ (wd_64 hw)) (mvT hZ (wd_65 hw)) (mvT hZ (wd_3 hw)) (mvT hZ (wd_66 hw)) (by decide) (backOf (W := 1) (rmch0 l Z a0 hw [] q2 h0 n0 Z0) hZ (wd_66 hw) (wd_3 hw) (by decide) (by decide)) (g := (mkF m 30 #[.val (.long q1), .second, .val (.long q2), .second, .val (.int (ln q1))] [(.int 0), (.long q2), (.int (cc (sh8 q1 (0 : Int32))))])) rfl (by rw [hml]; rfl) (argsL := [(.long q2), (.int 0)]) (rest := [(.int (cc (sh8 q1 (0 : Int32))))]) (lenOf pd__JI_C rfl) rfl (by show 2 * 0 + _ ≤ _; exact Nat.le_of_eq rfl) (hb hby d7_30) (fun _ _ => ⟨rfl, e299, (by decide : 0 + 0 ≤ _), (by decide : 0 + 0 ≤ _)⟩)
      dsimp only [Pt.U, Pt.locs, Pt.cells, Pt.slots] at X300 l300 y300 z300 st300 hQ300
      rw [l300, y300, z300] at X300
      obtain ⟨rfl, N300q, e300⟩ := hQ300
      have N300 := Fr.app N299 N300q
      have pre302 : Goes p e below (s₁.setTop (entryFrame m #[(.long q1), (.long q2)] 5)) (T300.setTop (mkF m 33 #[.val (.long q1), .second, .val (.long q2), .second, .val (.int (ln q1))] [(.int (cc (sh8 q2 (0 : Int32)))), (.int (cc (sh8 q1 (0 : Int32))))])) := by
        intro t kt
        refine pre298 _ ?_
        show Steps p.tables e below (T294.setTop (mkF m 20 #[.val (.long q1), .second, .val (.long q2), .second, .val (.int (ln q1))] [(.int 1), (.int (ln q1))])) _
        refine XS.icmpNo X294.here hx rfl (hb hby d7_20) rfl (flt hc20_297).1 ?_
        show Steps p.tables e below (T294.setTop (mkF m 23 #[.val (.long q1), .second, .val (.long q2), .second, .val (.int (ln q1))] [])) _
        refine XS.lloadN X294.here hx rfl (hb hby d7_23) rfl ?_
        refine XS.iconst X294.here hx rfl (hb hby d7_24) ?_
        refine st299 _ ?_
        refine XS.lloadN X299.here hx rfl (hb hby d7_28) rfl ?_
        refine XS.iconst X299.here hx rfl (hb hby d7_29) ?_
        refine st300 _ ?_
        exact kt
      by_cases hc33_301 : (cc (sh8 q1 (0 : Int32))) = (cc (sh8 q2 (0 : Int32)))
      · have pre304 : Goes p e below (s₁.setTop (entryFrame m #[(.long q1), (.long q2)] 5)) (T300.setTop (mkF m 41 #[.val (.long q1), .second, .val (.long q2), .second, .val (.int (ln q1))] [(.int 2), (.int (ln q1))])) := by
          intro t kt
          refine pre302 _ ?_
          show Steps p.tables e below (T300.setTop (mkF m 33 #[.val (.long q1), .second, .val (.long q2), .second, .val (.int (ln q1))] [(.int (cc (sh8 q2 (0 : Int32)))), (.int (cc (sh8 q1 (0 : Int32))))])) _
          refine XS.icmpYes X300.here hx rfl (pc0 := 33) (pc' := 38) rfl (hb hby d7_33) rfl (teq hc33_301).1 (by decide) (by decide) ?_
          refine XS.iload X300.here hx rfl (hb hby d7_38) rfl ?_
          refine XS.iconst X300.here hx rfl (hb hby d7_40) ?_
          exact kt
        by_cases hc41_303 : (ln q1) < (2 : Int32)
        · obtain ⟨fs, hr, hrun, hended, hW, hsame⟩ := X300.leave (v := some (.int 1)) (fun h => by rw [Bd.returns] at h; cases h)
          refine ⟨_, _, pre304 _ ?_, hrun, hended, _, _, rfl, ?_, ⟨_, rfl⟩, hW, hsame.mono (by decide) (by decide)⟩
          · show Steps p.tables e below (T300.setTop (mkF m 41 #[.val (.long q1), .second, .val (.long q2), .second, .val (.int (ln q1))] [(.int 2), (.int (ln q1))])) _
            refine XS.icmpYes X300.here hx rfl (pc0 := 41) (pc' := 59) rfl (hb hby d7_41) rfl (tlt hc41_303).1 (by decide) (by decide) ?_
            show Steps p.tables e below (T300.setTop (mkF m 59 #[.val (.long q1), .second, .val (.long q2), .second, .val (.int (ln q1))] [])) _
            refine XS.iload X300.here hx rfl (hb hby d7_59) rfl ?_
            refine XS.iconst X300.here hx rfl (hb hby d7_61) ?_
            refine XS.icmpYes X300.here hx rfl (pc0 := 62) (pc' := 80) rfl (hb hby d7_62) rfl (tlt (own_lt2 hc41_303 (by decide))).1 (by decide) (by decide) ?_
            refine XS.iconst X300.here hx rfl (hb hby d7_80) ?_
            exact retN X300 hx (t := .boolean) Bd.returns (by simp) (hb hby d7_81) hr
          · show Q_rm7 Z _ _ h0 n0 _ T300.heap _
            rw [e300]
            exact ⟨(by simp only [own_sm, if_pos hc12_295, if_neg hc20_297, if_pos hc33_301, if_pos hc41_303]), N300, rfl⟩
        · obtain ⟨_, _, ⟨T305, L305, k305, n305⟩, -, X305, ⟨Lc305, hQ305, l305, y305, z305⟩, st305⟩ := Jvm.LawKit.callS X300 hx (y := y_11) hown (mvT hZ (wd_64 hw)) (mvT hZ (wd_65 hw)) (mvT hZ (wd_3 hw)) (mvT hZ (wd_66 hw)) (by decide) (backOf (W := 0) (rmch1 l Z a0 hw [] q1 h0 n0 Z0) hZ (wd_66 hw) (wd_3 hw) (by decide) (by decide)) (g := (mkF m 46 #[.val (.long q1), .second, .val (.long q2), .second, .val (.int (ln q1))] [(.int 1), (.long q1)])) rfl (by rw [hml]; rfl) (argsL := [(.long q1), (.int 1)]) (rest := []) (lenOf pd__JI_C rfl) rfl (by show 2 * 0 + _ ≤ _; exact Nat.le_of_eq rfl) (hb hby d7_46) (fun _ _ => ⟨rfl, e300, (by decide : 0 + 0 ≤ _), (by decide : 0 + 0 ≤ _)⟩)
          dsimp only [Pt.U, Pt.locs, Pt.cells, Pt.slots] at X305 l305 y305 z305 st305 hQ305
          rw [l305, y305, z305] at X305
          obtain ⟨rfl, N305q, e305⟩ := hQ305
          have N305 := Fr.app N300 N305q
          obtain ⟨_, _, ⟨T306, L306, k306, n306⟩, -, X306, ⟨Lc306, hQ306, l306, y306, z306⟩, st306⟩ := Jvm.LawKit.callS X305 hx (y := y_11) hown (mvT hZ (wd_64 hw)) (mvT hZ (wd_65 hw)) (mvT hZ (wd_3 hw)) (mvT hZ (wd_66 hw)) (by decide) (backOf (W := 1) (rmch1 l Z a0 hw [] q2 h0 n0 Z0) hZ (wd_66 hw) (wd_3 hw) (by decide) (by decide)) (g := (mkF m 51 #[.val (.long q1), .second, .val (.long q2), .second, .val (.int (ln q1))] [(.int 1), (.long q2), (.int (cc (sh8 q1 (8 : Int32))))])) rfl (by rw [hml]; rfl) (argsL := [(.long q2), (.int 1)]) (rest := [(.int (cc (sh8 q1 (8 : Int32))))]) (lenOf pd__JI_C rfl) rfl (by show 2 * 0 + _ ≤ _; exact Nat.le_of_eq rfl) (hb hby d7_51) (fun _ _ => ⟨rfl, e305, (by decide : 0 + 0 ≤ _), (by decide : 0 + 0 ≤ _)⟩)
          dsimp only [Pt.U, Pt.locs, Pt.cells, Pt.slots] at X306 l306 y306 z306 st306 hQ306
          rw [l306, y306, z306] at X306
          obtain ⟨rfl, N306q, e306⟩ := hQ306
          have N306 := Fr.app N305 N306q
          have pre308 : Goes p e below (s₁.setTop (entryFrame m #[(.long q1), (.long q2)] 5)) (T306.setTop (mkF m 54 #[.val (.long q1), .second, .val (.long q2), .second, .val (.int (ln q1))] [(.int (cc (sh8 q2 (8 : Int32)))), (.int (cc (sh8 q1 (8 : Int32))))])) := by
            intro t kt
            refine pre304 _ ?_
            show Steps p.tables e below (T300.setTop (mkF m 41 #[.val (.long q1), .second, .val (.long q2), .second, .val (.int (ln q1))] [(.int 2), (.int (ln q1))])) _
            refine XS.icmpNo X300.here hx rfl (hb hby d7_41) rfl (flt hc41_303).1 ?_
            show Steps p.tables e below (T300.setTop (mkF m 44 #[.val (.long q1), .second, .val (.long q2), .second, .val (.int (ln q1))] [])) _
            refine XS.lloadN X300.here hx rfl (hb hby d7_44) rfl ?_
            refine XS.iconst X300.here hx rfl (hb hby d7_45) ?_
            refine st305 _ ?_
            refine XS.lloadN X305.here hx rfl (hb hby d7_49) rfl ?_
            refine XS.iconst X305.here hx rfl (hb hby d7_50) ?_
            refine st306 _ ?_
            exact kt
          by_cases hc54_307 : (cc (sh8 q1 (8 : Int32))) = (cc (sh8 q2 (8 : Int32)))
          · have pre310 : Goes p e below (s₁.setTop (entryFrame m #[(.long q1), (.long q2)] 5)) (T306.setTop (mkF m 62 #[.val (.long q1), .second, .val (.long q2), .second, .val (.int (ln q1))] [(.int 3), (.int (ln q1))])) := by
              intro t kt
              refine pre308 _ ?_
              show Steps p.tables e below (T306.setTop (mkF m 54 #[.val (.long q1), .second, .val (.long q2), .second, .val (.int (ln q1))] [(.int (cc (sh8 q2 (8 : Int32)))), (.int (cc (sh8 q1 (8 : Int32))))])) _
              refine XS.icmpYes X306.here hx rfl (pc0 := 54) (pc' := 59) rfl (hb hby d7_54) rfl (teq hc54_307).1 (by decide) (by decide) ?_
              refine XS.iload X306.here hx rfl (hb hby d7_59) rfl ?_
              refine XS.iconst X306.here hx rfl (hb hby d7_61) ?_
              exact kt
            by_cases hc62_309 : (ln q1) < (3 : Int32)
            · obtain ⟨fs, hr, hrun, hended, hW, hsame⟩ := X306.leave (v := some (.int 1)) (fun h => by rw [Bd.returns] at h; cases h)
              refine ⟨_, _, pre310 _ ?_, hrun, hended, _, _, rfl, ?_, ⟨_, rfl⟩, hW, hsame.mono (by decide) (by decide)⟩
              · show Steps p.tables e below (T306.setTop (mkF m 62 #[.val (.long q1), .second, .val (.long q2), .second, .val (.int (ln q1))] [(.int 3), (.int (ln q1))])) _
                refine XS.icmpYes X306.here hx rfl (pc0 := 62) (pc' := 80) rfl (hb hby d7_62) rfl (tlt hc62_309).1 (by decide) (by decide) ?_
                show Steps p.tables e below (T306.setTop (mkF m 80 #[.val (.long q1), .second, .val (.long q2), .second, .val (.int (ln q1))] [])) _
                refine XS.iconst X306.here hx rfl (hb hby d7_80) ?_
                exact retN X306 hx (t := .boolean) Bd.returns (by simp) (hb hby d7_81) hr
              · show Q_rm7 Z _ _ h0 n0 _ T306.heap _
                rw [e306]
                exact ⟨(by simp only [own_sm, if_pos hc12_295, if_neg hc20_297, if_pos hc33_301, if_neg hc41_303, if_pos hc54_307, if_pos hc62_309]), N306, rfl⟩
            · obtain ⟨_, _, ⟨T311, L311, k311, n311⟩, -, X311, ⟨Lc311, hQ311, l311, y311, z311⟩, st311⟩ := Jvm.LawKit.callS X306 hx (y := y_11) hown (mvT hZ (wd_64 hw)) (mvT hZ (wd_65 hw)) (mvT hZ (wd_3 hw)) (mvT hZ (wd_66 hw)) (by decide) (backOf (W := 0) (rmch2 l Z a0 hw [] q1 h0 n0 Z0) hZ (wd_66 hw) (wd_3 hw) (by decide) (by decide)) (g := (mkF m 67 #[.val (.long q1), .second, .val (.long q2), .second, .val (.int (ln q1))] [(.int 2), (.long q1)])) rfl (by rw [hml]; rfl) (argsL := [(.long q1), (.int 2)]) (rest := []) (lenOf pd__JI_C rfl) rfl (by show 2 * 0 + _ ≤ _; exact Nat.le_of_eq rfl) (hb hby d7_67) (fun _ _ => ⟨rfl, e306, (by decide : 0 + 0 ≤ _), (by decide : 0 + 0 ≤ _)⟩)
              dsimp only [Pt.U, Pt.locs, Pt.cells, Pt.slots] at X311 l311 y311 z311 st311 hQ311
              rw [l311, y311, z311] at X311
              obtain ⟨rfl, N311q, e311⟩ := hQ311
              have N311 := Fr.app N306 N311q
              obtain ⟨_, _, ⟨T312, L312, k312, n312⟩, -, X312, ⟨Lc312, hQ312, l312, y312, z312⟩, st312⟩ := Jvm.LawKit.callS X311 hx (y := y_11) hown (mvT hZ (wd_64 hw)) (mvT hZ (wd_65 hw)) (mvT hZ (wd_3 hw)) (mvT hZ (wd_66 hw)) (by decide) (backOf (W := 1) (rmch2 l Z a0 hw [] q2 h0 n0 Z0) hZ (wd_66 hw) (wd_3 hw) (by decide) (by decide)) (g := (mkF m 72 #[.val (.long q1), .second, .val (.long q2), .second, .val (.int (ln q1))] [(.int 2), (.long q2), (.int (cc (sh8 q1 (16 : Int32))))])) rfl (by rw [hml]; rfl) (argsL := [(.long q2), (.int 2)]) (rest := [(.int (cc (sh8 q1 (16 : Int32))))]) (lenOf pd__JI_C rfl) rfl (by show 2 * 0 + _ ≤ _; exact Nat.le_of_eq rfl) (hb hby d7_72) (fun _ _ => ⟨rfl, e311, (by decide : 0 + 0 ≤ _), (by decide : 0 + 0 ≤ _)⟩)
              dsimp only [Pt.U, Pt.locs, Pt.cells, Pt.slots] at X312 l312 y312 z312 st312 hQ312
              rw [l312, y312, z312] at X312
              obtain ⟨rfl, N312q, e312⟩ := hQ312
              have N312 := Fr.app N311 N312q
              have pre314 : Goes p e below (s₁.setTop (entryFrame m #[(.long q1), (.long q2)] 5)) (T312.setTop (mkF m 75 #[.val (.long q1), .second, .val (.long q2), .second, .val (.int (ln q1))] [(.int (cc (sh8 q2 (16 : Int32)))), (.int (cc (sh8 q1 (16 : Int32))))])) := by
                intro t kt
                refine pre310 _ ?_
                show Steps p.tables e below (T306.setTop (mkF m 62 #[.val (.long q1), .second, .val (.long q2), .second, .val (.int (ln q1))] [(.int 3), (.int (ln q1))])) _
                refine XS.icmpNo X306.here hx rfl (hb hby d7_62) rfl (flt hc62_309).1 ?_
                show Steps p.tables e below (T306.setTop (mkF m 65 #[.val (.long q1), .second, .val (.long q2), .second, .val (.int (ln q1))] [])) _
                refine XS.lloadN X306.here hx rfl (hb hby d7_65) rfl ?_
                refine XS.iconst X306.here hx rfl (hb hby d7_66) ?_
                refine st311 _ ?_
                refine XS.lloadN X311.here hx rfl (hb hby d7_70) rfl ?_
                refine XS.iconst X311.here hx rfl (hb hby d7_71) ?_
                refine st312 _ ?_
                exact kt
              by_cases hc75_313 : (cc (sh8 q1 (16 : Int32))) = (cc (sh8 q2 (16 : Int32)))
              · obtain ⟨fs, hr, hrun, hended, hW, hsame⟩ := X312.leave (v := some (.int 1)) (fun h => by rw [Bd.returns] at h; cases h)
                refine ⟨_, _, pre314 _ ?_, hrun, hended, _, _, rfl, ?_, ⟨_, rfl⟩, hW, hsame.mono (by decide) (by decide)⟩
                · show Steps p.tables e below (T312.setTop (mkF m 75 #[.val (.long q1), .second, .val (.long q2), .second, .val (.int (ln q1))] [(.int (cc (sh8 q2 (16 : Int32)))), (.int (cc (sh8 q1 (16 : Int32))))])) _
                  refine XS.icmpYes X312.here hx rfl (pc0 := 75) (pc' := 80) rfl (hb hby d7_75) rfl (teq hc75_313).1 (by decide) (by decide) ?_
                  refine XS.iconst X312.here hx rfl (hb hby d7_80) ?_
                  exact retN X312 hx (t := .boolean) Bd.returns (by simp) (hb hby d7_81) hr
                · show Q_rm7 Z _ _ h0 n0 _ T312.heap _
                  rw [e312]
                  exact ⟨(by simp only [own_sm, if_pos hc12_295, if_neg hc20_297, if_pos hc33_301, if_neg hc41_303, if_pos hc54_307, if_neg hc62_309, if_pos hc75_313]), N312, rfl⟩
              · obtain ⟨fs, hr, hrun, hended, hW, hsame⟩ := X312.leave (v := some (.int 0)) (fun h => by rw [Bd.returns] at h; cases h)
                refine ⟨_, _, pre314 _ ?_, hrun, hended, _, _, rfl, ?_, ⟨_, rfl⟩, hW, hsame.mono (by decide) (by decide)⟩
                · show Steps p.tables e below (T312.setTop (mkF m 75 #[.val (.long q1), .second, .val (.long q2), .second, .val (.int (ln q1))] [(.int (cc (sh8 q2 (16 : Int32)))), (.int (cc (sh8 q1 (16 : Int32))))])) _
                  refine XS.icmpNo X312.here hx rfl (hb hby d7_75) rfl (feq hc75_313).1 ?_
                  refine XS.iconst X312.here hx rfl (hb hby d7_78) ?_
                  exact retN X312 hx (t := .boolean) Bd.returns (by simp) (hb hby d7_79) hr
                · show Q_rm7 Z _ _ h0 n0 _ T312.heap _
                  rw [e312]
                  exact ⟨(by simp only [own_sm, if_pos hc12_295, if_neg hc20_297, if_pos hc33_301, if_neg hc41_303, if_pos hc54_307, if_neg hc62_309, if_neg hc75_313]), N312, rfl⟩
          · obtain ⟨fs, hr, hrun, hended, hW, hsame⟩ := X306.leave (v := some (.int 0)) (fun h => by rw [Bd.returns] at h; cases h)
            refine ⟨_, _, pre308 _ ?_, hrun, hended, _, _, rfl, ?_, ⟨_, rfl⟩, hW, hsame.mono (by decide) (by decide)⟩
            · show Steps p.tables e below (T306.setTop (mkF m 54 #[.val (.long q1), .second, .val (.long q2), .second, .val (.int (ln q1))] [(.int (cc (sh8 q2 (8 : Int32)))), (.int (cc (sh8 q1 (8 : Int32))))])) _
              refine XS.icmpNo X306.here hx rfl (hb hby d7_54) rfl (feq hc54_307).1 ?_
              refine XS.iconst X306.here hx rfl (hb hby d7_57) ?_
              exact retN X306 hx (t := .boolean) Bd.returns (by simp) (hb hby d7_58) hr
            · show Q_rm7 Z _ _ h0 n0 _ T306.heap _
              rw [e306]
              exact ⟨(by simp only [own_sm, if_pos hc12_295, if_neg hc20_297, if_pos hc33_301, if_neg hc41_303, if_neg hc54_307]), N306, rfl⟩
      · obtain ⟨fs, hr, hrun, hended, hW, hsame⟩ := X300.leave (v := some (.int 0)) (fun h => by rw [Bd.returns] at h; cases h)
        refine ⟨_, _, pre302 _ ?_, hrun, hended, _, _, rfl, ?_, ⟨_, rfl⟩, hW, hsame.mono (by decide) (by decide)⟩
        · show Steps p.tables e below (T300.setTop (mkF m 33 #[.val (.long q1), .second, .val (.long q2), .second, .val (.int (ln q1))] [(.int (cc (sh8 q2 (0 : Int32)))), (.int (cc (sh8 q1 (0 : Int32))))])) _
          refine XS.icmpNo X300.here hx rfl (hb hby d7_33) rfl (feq hc33_301).1 ?_
          refine XS.iconst X300.here hx rfl (hb hby d7_36) ?_
          exact retN X300 hx (t := .boolean) Bd.returns (by simp) (hb hby d7_37) hr
        · show Q_rm7 Z _ _ h0 n0 _ T300.heap _
          rw [e300]
          exact ⟨(by simp only [own_sm, if_pos hc12_295, if_neg hc20_297, if_neg hc33_301]), N300, rfl⟩
  · obtain ⟨fs, hr, hrun, hended, hW, hsame⟩ := X294.leave (v := some (.int 0)) (fun h => by rw [Bd.returns] at h; cases h)
    refine ⟨_, _, pre296 _ ?_, hrun, hended, _, _, rfl, ?_, ⟨_, rfl⟩, hW, hsame.mono (by decide) (by decide)⟩
    · show Steps p.tables e below (T294.setTop (mkF m 12 #[.val (.long q1), .second, .val (.long q2), .second, .val (.int (ln q1))] [(.int (ln q2)), (.int (ln q1))])) _
      refine XS.icmpNo X294.here hx rfl (hb hby d7_12) rfl (feq hc12_295).1 ?_
      refine XS.iconst X294.here hx rfl (hb hby d7_15) ?_
      exact retN X294 hx (t := .boolean) Bd.returns (by simp) (hb hby d7_16) hr
    · show Q_rm7 Z _ _ h0 n0 _ T294.heap _
      rw [e294]
      exact ⟨(by simp only [own_sm, if_neg hc12_295]), N294, rfl⟩
abbrev B10 : ByteArray := jdk_43_method_13_code
theorem d10_0 : dc B10 0 (.aload_n 0) 1 := by decide +kernel
theorem d10_1 : dc B10 1 .arraylength 1 := by decide +kernel
theorem d10_2 : dc B10 2 (.aload_n 1) 1 := by decide +kernel
theorem d10_3 : dc B10 3 .arraylength 1 := by decide +kernel
theorem d10_4 : dc B10 4 (.if_icmp .ne 30) 3 := by decide +kernel
theorem d10_7 : dc B10 7 (.iconst 0) 1 := by decide +kernel
theorem d10_8 : dc B10 8 (.istore_n 2) 1 := by decide +kernel
theorem d10_9 : dc B10 9 (.iload_n 2) 1 := by decide +kernel
theorem d10_10 : dc B10 10 (.aload_n 0) 1 := by decide +kernel
theorem d10_11 : dc B10 11 .arraylength 1 := by decide +kernel
theorem d10_12 : dc B10 12 (.if_icmp .ge 20) 3 := by decide +kernel
theorem d10_32 : dc B10 32 (.iconst 1) 1 := by decide +kernel
theorem d10_33 : dc B10 33 .ireturn 1 := by decide +kernel
theorem ef_10 (m : MethodId) (x0 : Addr) (x1 : Addr) : entryFrame m #[(.ref x0), (.ref x1)] 3 = mkF m 0 #[.val (.ref x0), .val (.ref x1), .unset] [] := by first | (simp [entryFrame, mkF, argsToLocals, Value.category]; done) | rfl
theorem pn_java_lang_StringLatin1 : plainName cs3 = true := by first | (simp [plainName, overriddenIn]; done) | decide +kernel
def Q_rmle00eq (Z : State) (a1 : Addr) (a2 : Addr) (kx : ClassId) (ky : ClassId) (h0 : Heap) (n0 : Nat) (v : Option Value) (h : Heap) (L : List Loc) : Prop := v = some (.int 1) ∧ Fr n0 L ∧ h = h0
set_option maxRecDepth 65536 in
set_option maxHeartbeats 40000000 in
abbrev y_10 : MethodName := ⟨cs3, "equals", "([B[B)Z"⟩
theorem rmle00eq (l : Launch) (Z : State) (a0 : Array Value) (hw : HW a0 Z) (ws : List Jvm.Cond) (a1 : Addr) (a2 : Addr) (kx : ClassId) (ky : ClassId) (h0 : Heap) (n0 : Nat) (Z0 : n0 ≤ h0.size) (V_a1 : Arv Z h0 a1 kx .byte (0 : Int32) [] (.int 0)) (V_a2 : Arv Z h0 a2 ky .byte (0 : Int32) [] (.int 0)) :
    MF l y_10 (Jvm.Cond.code y_10 B10 3 (some .boolean) :: ws) (⟨0, 0, 0, 0⟩ : Room) Z h0 #[(.ref a1), (.ref a2)] (Q_rmle00eq Z a1 a2 kx ky h0 n0) := by
  refine MetFree.of_bodySF (plainFor_of_name pn_java_lang_StringLatin1) hisR ?_
  intro p e s m args below meth c s₁ Bd hml0 hP hK
  obtain ⟨rfl, hZ, hh⟩ := hP
  have hx := Bd.exec
  have hby := Bd.bytes
  have hml : c.maxLocals = 3 := hml0
  have hown : s.vm.findClass cs3 = some m.cls := findClass_of_methodNamed Bd.named
  have hnm := (name_of_methodNamed Bd.named Bd.method).1
  have X0 : Stand p l e (⟨0, 0, 0, 0⟩ : Room) s m #[(.ref a1), (.ref a2)] below meth c s₁ [] 0 0 := Stand.of_body Bd
  have e0 : s₁.heap = h0 := by rw [← hh, Bd.state]; rfl
  have N0 := Fr.nil n0
  have pre0 : Goes p e below (s₁.setTop (entryFrame m #[(.ref a1), (.ref a2)] 3)) (s₁.setTop (mkF m 0 #[vr a1, vr a2, .unset] [])) := fun t k => castTop (ef_10 m a1 a2) k
  obtain ⟨cl315, Ar315, q315, S315, N315n, H315, G315⟩ := id (V_a1)
  obtain ⟨cl316, Ar316, q316, S316, N316n, H316, G316⟩ := id (V_a2)
  obtain ⟨cl317, Ar317, q317, S317, N317n, H317, G317⟩ := id (V_a1)
  obtain ⟨fs, hr, hrun, hended, hW, hsame⟩ := X0.leave (v := some (.int 1)) (fun h => by rw [Bd.returns] at h; cases h)
  refine ⟨_, _, pre0 _ ?_, hrun, hended, _, _, rfl, ?_, ⟨_, rfl⟩, hW, hsame.mono (by decide) (by decide)⟩
  · show Steps p.tables e below (s₁.setTop (mkF m 0 #[vr a1, vr a2, .unset] [])) _
    refine XS.aloadN X0.here hx rfl (hb hby d10_0) rfl rfl ?_
    refine X0.arraylength hx (by rw [e0]; exact Ar315.1) (State.isArrayOf_alike hZ.alike Ar315.2.1) (g := (mkF m 1 #[vr a1, vr a2, .unset] [(.ref a1)])) rfl rfl (hb hby d10_1) _ ?_
    rw [len_of S315 N315n]
    refine XS.aloadN X0.here hx rfl (hb hby d10_2) rfl rfl ?_
    refine X0.arraylength hx (by rw [e0]; exact Ar316.1) (State.isArrayOf_alike hZ.alike Ar316.2.1) (g := (mkF m 3 #[vr a1, vr a2, .unset] [(.ref a2), (.int 0)])) rfl rfl (hb hby d10_3) _ ?_
    rw [len_of S316 N316n]
    refine XS.icmpNo X0.here hx rfl (hb hby d10_4) rfl (teq (rfl : (0 : Int32) = (0 : Int32))).2 ?_
    refine XS.iconst X0.here hx rfl (hb hby d10_7) ?_
    refine XS.istoreN X0.here hx rfl (hb hby d10_8) rfl (l' := #[vr a1, vr a2, vi 0]) rfl ?_
    refine XS.iloadN X0.here hx rfl (hb hby d10_9) rfl ?_
    refine XS.aloadN X0.here hx rfl (hb hby d10_10) rfl rfl ?_
    refine X0.arraylength hx (by rw [e0]; exact Ar317.1) (State.isArrayOf_alike hZ.alike Ar317.2.1) (g := (mkF m 11 #[vr a1, vr a2, vi 0] [(.ref a1), (.int 0)])) rfl rfl (hb hby d10_11) _ ?_
    rw [len_of S317 N317n]
    show Steps p.tables e below (s₁.setTop (mkF m 12 #[vr a1, vr a2, vi 0] [(.int 0), (.int 0)])) _
    refine XS.icmpYes X0.here hx rfl (pc0 := 12) (pc' := 32) rfl (hb hby d10_12) rfl (flt (by decide)).2.1 (by decide) (by decide) ?_
    refine XS.iconst X0.here hx rfl (hb hby d10_32) ?_
    exact retN X0 hx (t := .boolean) Bd.returns (by simp) (hb hby d10_33) hr
  · show Q_rmle00eq Z _ _ _ _ h0 n0 _ s₁.heap _
    rw [e0]
    exact ⟨rfl, N0, rfl⟩
theorem d10_34 : dc B10 34 (.iconst 0) 1 := by decide +kernel
theorem d10_35 : dc B10 35 .ireturn 1 := by decide +kernel
def Q_rmle01 (Z : State) (a1 : Addr) (a2 : Addr) (kx : ClassId) (ky : ClassId) (y0 : Int32) (h0 : Heap) (n0 : Nat) (v : Option Value) (h : Heap) (L : List Loc) : Prop := v = some (.int 0) ∧ Fr n0 L ∧ h = h0
set_option maxRecDepth 65536 in
set_option maxHeartbeats 40000000 in
theorem rmle01 (l : Launch) (Z : State) (a0 : Array Value) (hw : HW a0 Z) (ws : List Jvm.Cond) (a1 : Addr) (a2 : Addr) (kx : ClassId) (ky : ClassId) (y0 : Int32) (h0 : Heap) (n0 : Nat) (Z0 : n0 ≤ h0.size) (V_a1 : Arv Z h0 a1 kx .byte (0 : Int32) [] (.int 0)) (V_a2 : Arv Z h0 a2 ky .byte (1 : Int32) [(.int y0)] (.int 0)) :
    MF l y_10 (Jvm.Cond.code y_10 B10 3 (some .boolean) :: ws) (⟨0, 0, 0, 0⟩ : Room) Z h0 #[(.ref a1), (.ref a2)] (Q_rmle01 Z a1 a2 kx ky y0 h0 n0) := by
  refine MetFree.of_bodySF (plainFor_of_name pn_java_lang_StringLatin1) hisR ?_
  intro p e s m args below meth c s₁ Bd hml0 hP hK
  obtain ⟨rfl, hZ, hh⟩ := hP
  have hx := Bd.exec
  have hby := Bd.bytes
  have hml : c.maxLocals = 3 := hml0
  have hown : s.vm.findClass cs3 = some m.cls := findClass_of_methodNamed Bd.named
  have hnm := (name_of_methodNamed Bd.named Bd.method).1
  have X0 : Stand p l e (⟨0, 0, 0, 0⟩ : Room) s m #[(.ref a1), (.ref a2)] below meth c s₁ [] 0 0 := Stand.of_body Bd
  have e0 : s₁.heap = h0 := by rw [← hh, Bd.state]; rfl
  have N0 := Fr.nil n0
  have pre0 : Goes p e below (s₁.setTop (entryFrame m #[(.ref a1), (.ref a2)] 3)) (s₁.setTop (mkF m 0 #[vr a1, vr a2, .unset] [])) := fun t k => castTop (ef_10 m a1 a2) k
  obtain ⟨cl318, Ar318, q318, S318, N318n, H318, G318⟩ := id (V_a1)
  obtain ⟨cl319, Ar319, q319, S319, N319n, H319, G319⟩ := id (V_a2)
  obtain ⟨fs, hr, hrun, hended, hW, hsame⟩ := X0.leave (v := some (.int 0)) (fun h => by rw [Bd.returns] at h; cases h)
  refine ⟨_, _, pre0 _ ?_, hrun, hended, _, _, rfl, ?_, ⟨_, rfl⟩, hW, hsame.mono (by decide) (by decide)⟩
  · show Steps p.tables e below (s₁.setTop (mkF m 0 #[vr a1, vr a2, .unset] [])) _
    refine XS.aloadN X0.here hx rfl (hb hby d10_0) rfl rfl ?_
    refine X0.arraylength hx (by rw [e0]; exact Ar318.1) (State.isArrayOf_alike hZ.alike Ar318.2.1) (g := (mkF m 1 #[vr a1, vr a2, .unset] [(.ref a1)])) rfl rfl (hb hby d10_1) _ ?_
    rw [len_of S318 N318n]
    refine XS.aloadN X0.here hx rfl (hb hby d10_2) rfl rfl ?_
    refine X0.arraylength hx (by rw [e0]; exact Ar319.1) (State.isArrayOf_alike hZ.alike Ar319.2.1) (g := (mkF m 3 #[vr a1, vr a2, .unset] [(.ref a2), (.int 0)])) rfl rfl (hb hby d10_3) _ ?_
    rw [len_of S319 N319n]
    refine XS.icmpYes X0.here hx rfl (pc0 := 4) (pc' := 34) rfl (hb hby d10_4) rfl (feq (by decide)).2 (by decide) (by decide) ?_
    refine XS.iconst X0.here hx rfl (hb hby d10_34) ?_
    exact retN X0 hx (t := .boolean) Bd.returns (by simp) (hb hby d10_35) hr
  · show Q_rmle01 Z _ _ _ _ _ h0 n0 _ s₁.heap _
    rw [e0]
    exact ⟨rfl, N0, rfl⟩
def Q_rmle02 (Z : State) (a1 : Addr) (a2 : Addr) (kx : ClassId) (ky : ClassId) (y0 : Int32) (y1 : Int32) (h0 : Heap) (n0 : Nat) (v : Option Value) (h : Heap) (L : List Loc) : Prop := v = some (.int 0) ∧ Fr n0 L ∧ h = h0
set_option maxRecDepth 65536 in
set_option maxHeartbeats 40000000 in
theorem rmle02 (l : Launch) (Z : State) (a0 : Array Value) (hw : HW a0 Z) (ws : List Jvm.Cond) (a1 : Addr) (a2 : Addr) (kx : ClassId) (ky : ClassId) (y0 : Int32) (y1 : Int32) (h0 : Heap) (n0 : Nat) (Z0 : n0 ≤ h0.size) (V_a1 : Arv Z h0 a1 kx .byte (0 : Int32) [] (.int 0)) (V_a2 : Arv Z h0 a2 ky .byte (2 : Int32) [(.int y0), (.int y1)] (.int 0)) :
    MF l y_10 (Jvm.Cond.code y_10 B10 3 (some .boolean) :: ws) (⟨0, 0, 0, 0⟩ : Room) Z h0 #[(.ref a1), (.ref a2)] (Q_rmle02 Z a1 a2 kx ky y0 y1 h0 n0) := by
  refine MetFree.of_bodySF (plainFor_of_name pn_java_lang_StringLatin1) hisR ?_
  intro p e s m args below meth c s₁ Bd hml0 hP hK
  obtain ⟨rfl, hZ, hh⟩ := hP
  have hx := Bd.exec
  have hby := Bd.bytes
  have hml : c.maxLocals = 3 := hml0
  have hown : s.vm.findClass cs3 = some m.cls := findClass_of_methodNamed Bd.named
  have hnm := (name_of_methodNamed Bd.named Bd.method).1
  have X0 : Stand p l e (⟨0, 0, 0, 0⟩ : Room) s m #[(.ref a1), (.ref a2)] below meth c s₁ [] 0 0 := Stand.of_body Bd
  have e0 : s₁.heap = h0 := by rw [← hh, Bd.state]; rfl
  have N0 := Fr.nil n0
  have pre0 : Goes p e below (s₁.setTop (entryFrame m #[(.ref a1), (.ref a2)] 3)) (s₁.setTop (mkF m 0 #[vr a1, vr a2, .unset] [])) := fun t k => castTop (ef_10 m a1 a2) k
  obtain ⟨cl320, Ar320, q320, S320, N320n, H320, G320⟩ := id (V_a1)
  obtain ⟨cl321, Ar321, q321, S321, N321n, H321, G321⟩ := id (V_a2)
  obtain ⟨fs, hr, hrun, hended, hW, hsame⟩ := X0.leave (v := some (.int 0)) (fun h => by rw [Bd.returns] at h; cases h)
  refine ⟨_, _, pre0 _ ?_, hrun, hended, _, _, rfl, ?_, ⟨_, rfl⟩, hW, hsame.mono (by decide) (by decide)⟩
  · show Steps p.tables e below (s₁.setTop (mkF m 0 #[vr a1, vr a2, .unset] [])) _
    refine XS.aloadN X0.here hx rfl (hb hby d10_0) rfl rfl ?_
    refine X0.arraylength hx (by rw [e0]; exact Ar320.1) (State.isArrayOf_alike hZ.alike Ar320.2.1) (g := (mkF m 1 #[vr a1, vr a2, .unset] [(.ref a1)])) rfl rfl (hb hby d10_1) _ ?_
    rw [len_of S320 N320n]
    refine XS.aloadN X0.here hx rfl (hb hby d10_2) rfl rfl ?_
    refine X0.arraylength hx (by rw [e0]; exact Ar321.1) (State.isArrayOf_alike hZ.alike Ar321.2.1) (g := (mkF m 3 #[vr a1, vr a2, .unset] [(.ref a2), (.int 0)])) rfl rfl (hb hby d10_3) _ ?_
    rw [len_of S321 N321n]
    refine XS.icmpYes X0.here hx rfl (pc0 := 4) (pc' := 34) rfl (hb hby d10_4) rfl (feq (by decide)).2 (by decide) (by decide) ?_
    refine XS.iconst X0.here hx rfl (hb hby d10_34) ?_
    exact retN X0 hx (t := .boolean) Bd.returns (by simp) (hb hby d10_35) hr
  · show Q_rmle02 Z _ _ _ _ _ _ h0 n0 _ s₁.heap _
    rw [e0]
    exact ⟨rfl, N0, rfl⟩
def Q_rmle03 (Z : State) (a1 : Addr) (a2 : Addr) (kx : ClassId) (ky : ClassId) (y0 : Int32) (y1 : Int32) (y2 : Int32) (h0 : Heap) (n0 : Nat) (v : Option Value) (h : Heap) (L : List Loc) : Prop := v = some (.int 0) ∧ Fr n0 L ∧ h = h0
set_option maxRecDepth 65536 in
set_option maxHeartbeats 40000000 in
theorem rmle03 (l : Launch) (Z : State) (a0 : Array Value) (hw : HW a0 Z) (ws : List Jvm.Cond) (a1 : Addr) (a2 : Addr) (kx : ClassId) (ky : ClassId) (y0 : Int32) (y1 : Int32) (y2 : Int32) (h0 : Heap) (n0 : Nat) (Z0 : n0 ≤ h0.size) (V_a1 : Arv Z h0 a1 kx .byte (0 : Int32) [] (.int 0)) (V_a2 : Arv Z h0 a2 ky .byte (3 : Int32) [(.int y0), (.int y1), (.int y2)] (.int 0)) :
    MF l y_10 (Jvm.Cond.code y_10 B10 3 (some .boolean) :: ws) (⟨0, 0, 0, 0⟩ : Room) Z h0 #[(.ref a1), (.ref a2)] (Q_rmle03 Z a1 a2 kx ky y0 y1 y2 h0 n0) := by
  refine MetFree.of_bodySF (plainFor_of_name pn_java_lang_StringLatin1) hisR ?_
  intro p e s m args below meth c s₁ Bd hml0 hP hK
  obtain ⟨rfl, hZ, hh⟩ := hP
  have hx := Bd.exec
  have hby := Bd.bytes
  have hml : c.maxLocals = 3 := hml0
  have hown : s.vm.findClass cs3 = some m.cls := findClass_of_methodNamed Bd.named
  have hnm := (name_of_methodNamed Bd.named Bd.method).1
  have X0 : Stand p l e (⟨0, 0, 0, 0⟩ : Room) s m #[(.ref a1), (.ref a2)] below meth c s₁ [] 0 0 := Stand.of_body Bd
  have e0 : s₁.heap = h0 := by rw [← hh, Bd.state]; rfl
  have N0 := Fr.nil n0
  have pre0 : Goes p e below (s₁.setTop (entryFrame m #[(.ref a1), (.ref a2)] 3)) (s₁.setTop (mkF m 0 #[vr a1, vr a2, .unset] [])) := fun t k => castTop (ef_10 m a1 a2) k
  obtain ⟨cl322, Ar322, q322, S322, N322n, H322, G322⟩ := id (V_a1)
  obtain ⟨cl323, Ar323, q323, S323, N323n, H323, G323⟩ := id (V_a2)
  obtain ⟨fs, hr, hrun, hended, hW, hsame⟩ := X0.leave (v := some (.int 0)) (fun h => by rw [Bd.returns] at h; cases h)
  refine ⟨_, _, pre0 _ ?_, hrun, hended, _, _, rfl, ?_, ⟨_, rfl⟩, hW, hsame.mono (by decide) (by decide)⟩
  · show Steps p.tables e below (s₁.setTop (mkF m 0 #[vr a1, vr a2, .unset] [])) _
    refine XS.aloadN X0.here hx rfl (hb hby d10_0) rfl rfl ?_
    refine X0.arraylength hx (by rw [e0]; exact Ar322.1) (State.isArrayOf_alike hZ.alike Ar322.2.1) (g := (mkF m 1 #[vr a1, vr a2, .unset] [(.ref a1)])) rfl rfl (hb hby d10_1) _ ?_
    rw [len_of S322 N322n]
    refine XS.aloadN X0.here hx rfl (hb hby d10_2) rfl rfl ?_
    refine X0.arraylength hx (by rw [e0]; exact Ar323.1) (State.isArrayOf_alike hZ.alike Ar323.2.1) (g := (mkF m 3 #[vr a1, vr a2, .unset] [(.ref a2), (.int 0)])) rfl rfl (hb hby d10_3) _ ?_
    rw [len_of S323 N323n]
    refine XS.icmpYes X0.here hx rfl (pc0 := 4) (pc' := 34) rfl (hb hby d10_4) rfl (feq (by decide)).2 (by decide) (by decide) ?_
    refine XS.iconst X0.here hx rfl (hb hby d10_34) ?_
    exact retN X0 hx (t := .boolean) Bd.returns (by simp) (hb hby d10_35) hr
  · show Q_rmle03 Z _ _ _ _ _ _ _ h0 n0 _ s₁.heap _
    rw [e0]
    exact ⟨rfl, N0, rfl⟩
def Q_rmle10 (Z : State) (a1 : Addr) (a2 : Addr) (kx : ClassId) (ky : ClassId) (x0 : Int32) (h0 : Heap) (n0 : Nat) (v : Option Value) (h : Heap) (L : List Loc) : Prop := v = some (.int 0) ∧ Fr n0 L ∧ h = h0
set_option maxRecDepth 65536 in
set_option maxHeartbeats 40000000 in
theorem rmle10 (l : Launch) (Z : State) (a0 : Array Value) (hw : HW a0 Z) (ws : List Jvm.Cond) (a1 : Addr) (a2 : Addr) (kx : ClassId) (ky : ClassId) (x0 : Int32) (h0 : Heap) (n0 : Nat) (Z0 : n0 ≤ h0.size) (V_a1 : Arv Z h0 a1 kx .byte (1 : Int32) [(.int x0)] (.int 0)) (V_a2 : Arv Z h0 a2 ky .byte (0 : Int32) [] (.int 0)) :
    MF l y_10 (Jvm.Cond.code y_10 B10 3 (some .boolean) :: ws) (⟨0, 0, 0, 0⟩ : Room) Z h0 #[(.ref a1), (.ref a2)] (Q_rmle10 Z a1 a2 kx ky x0 h0 n0) := by
  refine MetFree.of_bodySF (plainFor_of_name pn_java_lang_StringLatin1) hisR ?_
  intro p e s m args below meth c s₁ Bd hml0 hP hK
  obtain ⟨rfl, hZ, hh⟩ := hP
  have hx := Bd.exec
  have hby := Bd.bytes
  have hml : c.maxLocals = 3 := hml0
  have hown : s.vm.findClass cs3 = some m.cls := findClass_of_methodNamed Bd.named
  have hnm := (name_of_methodNamed Bd.named Bd.method).1
  have X0 : Stand p l e (⟨0, 0, 0, 0⟩ : Room) s m #[(.ref a1), (.ref a2)] below meth c s₁ [] 0 0 := Stand.of_body Bd
  have e0 : s₁.heap = h0 := by rw [← hh, Bd.state]; rfl
  have N0 := Fr.nil n0
  have pre0 : Goes p e below (s₁.setTop (entryFrame m #[(.ref a1), (.ref a2)] 3)) (s₁.setTop (mkF m 0 #[vr a1, vr a2, .unset] [])) := fun t k => castTop (ef_10 m a1 a2) k
  obtain ⟨cl324, Ar324, q324, S324, N324n, H324, G324⟩ := id (V_a1)
  obtain ⟨cl325, Ar325, q325, S325, N325n, H325, G325⟩ := id (V_a2)
  obtain ⟨fs, hr, hrun, hended, hW, hsame⟩ := X0.leave (v := some (.int 0)) (fun h => by rw [Bd.returns] at h; cases h)
  refine ⟨_, _, pre0 _ ?_, hrun, hended, _, _, rfl, ?_, ⟨_, rfl⟩, hW, hsame.mono (by decide) (by decide)⟩
  · show Steps p.tables e below (s₁.setTop (mkF m 0 #[vr a1, vr a2, .unset] [])) _
    refine XS.aloadN X0.here hx rfl (hb hby d10_0) rfl rfl ?_
    refine X0.arraylength hx (by rw [e0]; exact Ar324.1) (State.isArrayOf_alike hZ.alike Ar324.2.1) (g := (mkF m 1 #[vr a1, vr a2, .unset] [(.ref a1)])) rfl rfl (hb hby d10_1) _ ?_
    rw [len_of S324 N324n]
    refine XS.aloadN X0.here hx rfl (hb hby d10_2) rfl rfl ?_
    refine X0.arraylength hx (by rw [e0]; exact Ar325.1) (State.isArrayOf_alike hZ.alike Ar325.2.1) (g := (mkF m 3 #[vr a1, vr a2, .unset] [(.ref a2), (.int 1)])) rfl rfl (hb hby d10_3) _ ?_
    rw [len_of S325 N325n]
    refine XS.icmpYes X0.here hx rfl (pc0 := 4) (pc' := 34) rfl (hb hby d10_4) rfl (feq (by decide)).2 (by decide) (by decide) ?_
    refine XS.iconst X0.here hx rfl (hb hby d10_34) ?_
    exact retN X0 hx (t := .boolean) Bd.returns (by simp) (hb hby d10_35) hr
  · show Q_rmle10 Z _ _ _ _ _ h0 n0 _ s₁.heap _
    rw [e0]
    exact ⟨rfl, N0, rfl⟩
theorem d10_15 : dc B10 15 (.aload_n 0) 1 := by decide +kernel
theorem d10_16 : dc B10 16 (.iload_n 2) 1 := by decide +kernel
theorem d10_17 : dc B10 17 .baload 1 := by decide +kernel
theorem d10_18 : dc B10 18 (.aload_n 1) 1 := by decide +kernel
theorem d10_19 : dc B10 19 (.iload_n 2) 1 := by decide +kernel
theorem d10_20 : dc B10 20 .baload 1 := by decide +kernel
theorem d10_21 : dc B10 21 (.if_icmp .eq 5) 3 := by decide +kernel
theorem d10_26 : dc B10 26 (.iinc 2 1) 3 := by decide +kernel
theorem d10_29 : dc B10 29 (.goto (-20)) 3 := by decide +kernel
def Q_rmle11eq (Z : State) (a1 : Addr) (a2 : Addr) (kx : ClassId) (ky : ClassId) (x0 : Int32) (y0 : Int32) (h0 : Heap) (n0 : Nat) (v : Option Value) (h : Heap) (L : List Loc) : Prop := v = some (.int 1) ∧ Fr n0 L ∧ h = h0
set_option maxRecDepth 65536 in
set_option maxHeartbeats 40000000 in
theorem rmle11eq (l : Launch) (Z : State) (a0 : Array Value) (hw : HW a0 Z) (ws : List Jvm.Cond) (a1 : Addr) (a2 : Addr) (kx : ClassId) (ky : ClassId) (x0 : Int32) (y0 : Int32) (h0 : Heap) (n0 : Nat) (Z0 : n0 ≤ h0.size) (V_a1 : Arv Z h0 a1 kx .byte (1 : Int32) [(.int x0)] (.int 0)) (V_a2 : Arv Z h0 a2 ky .byte (1 : Int32) [(.int y0)] (.int 0)) (he0 : x0 = y0) :
    MF l y_10 (Jvm.Cond.code y_10 B10 3 (some .boolean) :: ws) (⟨0, 0, 0, 0⟩ : Room) Z h0 #[(.ref a1), (.ref a2)] (Q_rmle11eq Z a1 a2 kx ky x0 y0 h0 n0) := by
  refine MetFree.of_bodySF (plainFor_of_name pn_java_lang_StringLatin1) hisR ?_
  intro p e s m args below meth c s₁ Bd hml0 hP hK
  obtain ⟨rfl, hZ, hh⟩ := hP
  have hx := Bd.exec
  have hby := Bd.bytes
  have hml : c.maxLocals = 3 := hml0
  have hown : s.vm.findClass cs3 = some m.cls := findClass_of_methodNamed Bd.named
  have hnm := (name_of_methodNamed Bd.named Bd.method).1
  have X0 : Stand p l e (⟨0, 0, 0, 0⟩ : Room) s m #[(.ref a1), (.ref a2)] below meth c s₁ [] 0 0 := Stand.of_body Bd
  have e0 : s₁.heap = h0 := by rw [← hh, Bd.state]; rfl
  have N0 := Fr.nil n0
  have pre0 : Goes p e below (s₁.setTop (entryFrame m #[(.ref a1), (.ref a2)] 3)) (s₁.setTop (mkF m 0 #[vr a1, vr a2, .unset] [])) := fun t k => castTop (ef_10 m a1 a2) k
  obtain ⟨cl326, Ar326, q326, S326, N326n, H326, G326⟩ := id (V_a1)
  obtain ⟨cl327, Ar327, q327, S327, N327n, H327, G327⟩ := id (V_a2)
  obtain ⟨cl328, Ar328, q328, S328, N328n, H328, G328⟩ := id (V_a1)
  obtain ⟨cl329, Ar329, q329, S329, N329n, H329, G329⟩ := id (V_a1)
  have hin329 : ¬ ((0 : Int32) < 0 ∨ cl329.slots.size ≤ ((0 : Int32)).toNatClampNeg) := inb_of S329 ⟨by decide, by decide⟩
  have hat329 : cl329.slots[((0 : Int32)).toNatClampNeg]? = some (.int x0) := H329.at hin329 rfl
  obtain ⟨cl330, Ar330, q330, S330, N330n, H330, G330⟩ := id (V_a2)
  have hin330 : ¬ ((0 : Int32) < 0 ∨ cl330.slots.size ≤ ((0 : Int32)).toNatClampNeg) := inb_of S330 ⟨by decide, by decide⟩
  have hat330 : cl330.slots[((0 : Int32)).toNatClampNeg]? = some (.int y0) := H330.at hin330 rfl
  obtain ⟨cl331, Ar331, q331, S331, N331n, H331, G331⟩ := id (V_a1)
  obtain ⟨fs, hr, hrun, hended, hW, hsame⟩ := X0.leave (v := some (.int 1)) (fun h => by rw [Bd.returns] at h; cases h)
  refine ⟨_, _, pre0 _ ?_, hrun, hended, _, _, rfl, ?_, ⟨_, rfl⟩, hW, hsame.mono (by decide) (by decide)⟩
  · show Steps p.tables e below (s₁.setTop (mkF m 0 #[vr a1, vr a2, .unset] [])) _
    refine XS.aloadN X0.here hx rfl (hb hby d10_0) rfl rfl ?_
    refine X0.arraylength hx (by rw [e0]; exact Ar326.1) (State.isArrayOf_alike hZ.alike Ar326.2.1) (g := (mkF m 1 #[vr a1, vr a2, .unset] [(.ref a1)])) rfl rfl (hb hby d10_1) _ ?_
    rw [len_of S326 N326n]
    refine XS.aloadN X0.here hx rfl (hb hby d10_2) rfl rfl ?_
    refine X0.arraylength hx (by rw [e0]; exact Ar327.1) (State.isArrayOf_alike hZ.alike Ar327.2.1) (g := (mkF m 3 #[vr a1, vr a2, .unset] [(.ref a2), (.int 1)])) rfl rfl (hb hby d10_3) _ ?_
    rw [len_of S327 N327n]
    refine XS.icmpNo X0.here hx rfl (hb hby d10_4) rfl (teq (rfl : (1 : Int32) = (1 : Int32))).2 ?_
    refine XS.iconst X0.here hx rfl (hb hby d10_7) ?_
    refine XS.istoreN X0.here hx rfl (hb hby d10_8) rfl (l' := #[vr a1, vr a2, vi 0]) rfl ?_
    refine XS.iloadN X0.here hx rfl (hb hby d10_9) rfl ?_
    refine XS.aloadN X0.here hx rfl (hb hby d10_10) rfl rfl ?_
    refine X0.arraylength hx (by rw [e0]; exact Ar328.1) (State.isArrayOf_alike hZ.alike Ar328.2.1) (g := (mkF m 11 #[vr a1, vr a2, vi 0] [(.ref a1), (.int 0)])) rfl rfl (hb hby d10_11) _ ?_
    rw [len_of S328 N328n]
    show Steps p.tables e below (s₁.setTop (mkF m 12 #[vr a1, vr a2, vi 0] [(.int 1), (.int 0)])) _
    refine XS.icmpNo X0.here hx rfl (hb hby d10_12) rfl (tlt (by decide)).2.1 ?_
    refine XS.aloadN X0.here hx rfl (hb hby d10_15) rfl rfl ?_
    refine XS.iloadN X0.here hx rfl (hb hby d10_16) rfl ?_
    refine X0.baloadBytes hx (j := (0 : Int32)) (v := (.int x0)) (by rw [e0]; exact Ar329.1) (State.isArrayOf_alike hZ.alike Ar329.2.1) Ar329.2.2 hin329 hat329 (g := (mkF m 17 #[vr a1, vr a2, vi 0] [(.int 0), (.ref a1)])) rfl rfl (hb hby d10_17) _ ?_
    refine XS.aloadN X0.here hx rfl (hb hby d10_18) rfl rfl ?_
    refine XS.iloadN X0.here hx rfl (hb hby d10_19) rfl ?_
    refine X0.baloadBytes hx (j := (0 : Int32)) (v := (.int y0)) (by rw [e0]; exact Ar330.1) (State.isArrayOf_alike hZ.alike Ar330.2.1) Ar330.2.2 hin330 hat330 (g := (mkF m 20 #[vr a1, vr a2, vi 0] [(.int 0), (.ref a2), (.int x0)])) rfl rfl (hb hby d10_20) _ ?_
    refine XS.icmpYes X0.here hx rfl (pc0 := 21) (pc' := 26) rfl (hb hby d10_21) rfl (teq he0).1 (by decide) (by decide) ?_
    refine XS.iinc X0.here hx rfl (hb hby d10_26) rfl (l' := #[vr a1, vr a2, vi 1]) rfl ?_
    refine XS.goto X0.here hx rfl (pc0 := 29) (pc' := 9) rfl (hb hby d10_29) (by decide) (by decide) ?_
    show Steps p.tables e below (s₁.setTop (mkF m 9 #[vr a1, vr a2, vi 1] [])) _
    refine XS.iloadN X0.here hx rfl (hb hby d10_9) rfl ?_
    refine XS.aloadN X0.here hx rfl (hb hby d10_10) rfl rfl ?_
    refine X0.arraylength hx (by rw [e0]; exact Ar331.1) (State.isArrayOf_alike hZ.alike Ar331.2.1) (g := (mkF m 11 #[vr a1, vr a2, vi 1] [(.ref a1), (.int 1)])) rfl rfl (hb hby d10_11) _ ?_
    rw [len_of S331 N331n]
    refine XS.icmpYes X0.here hx rfl (pc0 := 12) (pc' := 32) rfl (hb hby d10_12) rfl (flt (by decide)).2.1 (by decide) (by decide) ?_
    refine XS.iconst X0.here hx rfl (hb hby d10_32) ?_
    exact retN X0 hx (t := .boolean) Bd.returns (by simp) (hb hby d10_33) hr
  · show Q_rmle11eq Z _ _ _ _ _ _ h0 n0 _ s₁.heap _
    rw [e0]
    exact ⟨rfl, N0, rfl⟩
theorem d10_24 : dc B10 24 (.iconst 0) 1 := by decide +kernel
theorem d10_25 : dc B10 25 .ireturn 1 := by decide +kernel
def Q_rmle110 (Z : State) (a1 : Addr) (a2 : Addr) (kx : ClassId) (ky : ClassId) (x0 : Int32) (y0 : Int32) (h0 : Heap) (n0 : Nat) (v : Option Value) (h : Heap) (L : List Loc) : Prop := v = some (.int 0) ∧ Fr n0 L ∧ h = h0
set_option maxRecDepth 65536 in
set_option maxHeartbeats 40000000 in
theorem rmle110 (l : Launch) (Z : State) (a0 : Array Value) (hw : HW a0 Z) (ws : List Jvm.Cond) (a1 : Addr) (a2 : Addr) (kx : ClassId) (ky : ClassId) (x0 : Int32) (y0 : Int32) (h0 : Heap) (n0 : Nat) (Z0 : n0 ≤ h0.size) (V_a1 : Arv Z h0 a1 kx .byte (1 : Int32) [(.int x0)] (.int 0)) (V_a2 : Arv Z h0 a2 ky .byte (1 : Int32) [(.int y0)] (.int 0)) (hn : ¬ (x0 = y0)) :
    MF l y_10 (Jvm.Cond.code y_10 B10 3 (some .boolean) :: ws) (⟨0, 0, 0, 0⟩ : Room) Z h0 #[(.ref a1), (.ref a2)] (Q_rmle110 Z a1 a2 kx ky x0 y0 h0 n0) := by
  refine MetFree.of_bodySF (plainFor_of_name pn_java_lang_StringLatin1) hisR ?_
  intro p e s m args below meth c s₁ Bd hml0 hP hK
  obtain ⟨rfl, hZ, hh⟩ := hP
  have hx := Bd.exec
  have hby := Bd.bytes
  have hml : c.maxLocals = 3 := hml0
  have hown : s.vm.findClass cs3 = some m.cls := findClass_of_methodNamed Bd.named
  have hnm := (name_of_methodNamed Bd.named Bd.method).1
  have X0 : Stand p l e (⟨0, 0, 0, 0⟩ : Room) s m #[(.ref a1), (.ref a2)] below meth c s₁ [] 0 0 := Stand.of_body Bd
  have e0 : s₁.heap = h0 := by rw [← hh, Bd.state]; rfl
  have N0 := Fr.nil n0
  have pre0 : Goes p e below (s₁.setTop (entryFrame m #[(.ref a1), (.ref a2)] 3)) (s₁.setTop (mkF m 0 #[vr a1, vr a2, .unset] [])) := fun t k => castTop (ef_10 m a1 a2) k
  obtain ⟨cl332, Ar332, q332, S332, N332n, H332, G332⟩ := id (V_a1)
  obtain ⟨cl333, Ar333, q333, S333, N333n, H333, G333⟩ := id (V_a2)
  obtain ⟨cl334, Ar334, q334, S334, N334n, H334, G334⟩ := id (V_a1)
  obtain ⟨cl335, Ar335, q335, S335, N335n, H335, G335⟩ := id (V_a1)
  have hin335 : ¬ ((0 : Int32) < 0 ∨ cl335.slots.size ≤ ((0 : Int32)).toNatClampNeg) := inb_of S335 ⟨by decide, by decide⟩
  have hat335 : cl335.slots[((0 : Int32)).toNatClampNeg]? = some (.int x0) := H335.at hin335 rfl
  obtain ⟨cl336, Ar336, q336, S336, N336n, H336, G336⟩ := id (V_a2)
  have hin336 : ¬ ((0 : Int32) < 0 ∨ cl336.slots.size ≤ ((0 : Int32)).toNatClampNeg) := inb_of S336 ⟨by decide, by decide⟩
  have hat336 : cl336.slots[((0 : Int32)).toNatClampNeg]? = some (.int y0) := H336.at hin336 rfl
  obtain ⟨fs, hr, hrun, hended, hW, hsame⟩ := X0.leave (v := some (.int 0)) (fun h => by rw [Bd.returns] at h; cases h)
  refine ⟨_, _, pre0 _ ?_, hrun, hended, _, _, rfl, ?_, ⟨_, rfl⟩, hW, hsame.mono (by decide) (by decide)⟩
  · show Steps p.tables e below (s₁.setTop (mkF m 0 #[vr a1, vr a2, .unset] [])) _
    refine XS.aloadN X0.here hx rfl (hb hby d10_0) rfl rfl ?_
    refine X0.arraylength hx (by rw [e0]; exact Ar332.1) (State.isArrayOf_alike hZ.alike Ar332.2.1) (g := (mkF m 1 #[vr a1, vr a2, .unset] [(.ref a1)])) rfl rfl (hb hby d10_1) _ ?_
    rw [len_of S332 N332n]
    refine XS.aloadN X0.here hx rfl (hb hby d10_2) rfl rfl ?_
    refine X0.arraylength hx (by rw [e0]; exact Ar333.1) (State.isArrayOf_alike hZ.alike Ar333.2.1) (g := (mkF m 3 #[vr a1, vr a2, .unset] [(.ref a2), (.int 1)])) rfl rfl (hb hby d10_3) _ ?_
    rw [len_of S333 N333n]
    refine XS.icmpNo X0.here hx rfl (hb hby d10_4) rfl (teq (rfl : (1 : Int32) = (1 : Int32))).2 ?_
    refine XS.iconst X0.here hx rfl (hb hby d10_7) ?_
    refine XS.istoreN X0.here hx rfl (hb hby d10_8) rfl (l' := #[vr a1, vr a2, vi 0]) rfl ?_
    refine XS.iloadN X0.here hx rfl (hb hby d10_9) rfl ?_
    refine XS.aloadN X0.here hx rfl (hb hby d10_10) rfl rfl ?_
    refine X0.arraylength hx (by rw [e0]; exact Ar334.1) (State.isArrayOf_alike hZ.alike Ar334.2.1) (g := (mkF m 11 #[vr a1, vr a2, vi 0] [(.ref a1), (.int 0)])) rfl rfl (hb hby d10_11) _ ?_
    rw [len_of S334 N334n]
    show Steps p.tables e below (s₁.setTop (mkF m 12 #[vr a1, vr a2, vi 0] [(.int 1), (.int 0)])) _
    refine XS.icmpNo X0.here hx rfl (hb hby d10_12) rfl (tlt (by decide)).2.1 ?_
    refine XS.aloadN X0.here hx rfl (hb hby d10_15) rfl rfl ?_
    refine XS.iloadN X0.here hx rfl (hb hby d10_16) rfl ?_
    refine X0.baloadBytes hx (j := (0 : Int32)) (v := (.int x0)) (by rw [e0]; exact Ar335.1) (State.isArrayOf_alike hZ.alike Ar335.2.1) Ar335.2.2 hin335 hat335 (g := (mkF m 17 #[vr a1, vr a2, vi 0] [(.int 0), (.ref a1)])) rfl rfl (hb hby d10_17) _ ?_
    refine XS.aloadN X0.here hx rfl (hb hby d10_18) rfl rfl ?_
    refine XS.iloadN X0.here hx rfl (hb hby d10_19) rfl ?_
    refine X0.baloadBytes hx (j := (0 : Int32)) (v := (.int y0)) (by rw [e0]; exact Ar336.1) (State.isArrayOf_alike hZ.alike Ar336.2.1) Ar336.2.2 hin336 hat336 (g := (mkF m 20 #[vr a1, vr a2, vi 0] [(.int 0), (.ref a2), (.int x0)])) rfl rfl (hb hby d10_20) _ ?_
    refine XS.icmpNo X0.here hx rfl (hb hby d10_21) rfl (feq hn).1 ?_
    refine XS.iconst X0.here hx rfl (hb hby d10_24) ?_
    exact retN X0 hx (t := .boolean) Bd.returns (by simp) (hb hby d10_25) hr
  · show Q_rmle110 Z _ _ _ _ _ _ h0 n0 _ s₁.heap _
    rw [e0]
    exact ⟨rfl, N0, rfl⟩
def Q_rmle12 (Z : State) (a1 : Addr) (a2 : Addr) (kx : ClassId) (ky : ClassId) (x0 : Int32) (y0 : Int32) (y1 : Int32) (h0 : Heap) (n0 : Nat) (v : Option Value) (h : Heap) (L : List Loc) : Prop := v = some (.int 0) ∧ Fr n0 L ∧ h = h0
set_option maxRecDepth 65536 in
set_option maxHeartbeats 40000000 in
theorem rmle12 (l : Launch) (Z : State) (a0 : Array Value) (hw : HW a0 Z) (ws : List Jvm.Cond) (a1 : Addr) (a2 : Addr) (kx : ClassId) (ky : ClassId) (x0 : Int32) (y0 : Int32) (y1 : Int32) (h0 : Heap) (n0 : Nat) (Z0 : n0 ≤ h0.size) (V_a1 : Arv Z h0 a1 kx .byte (1 : Int32) [(.int x0)] (.int 0)) (V_a2 : Arv Z h0 a2 ky .byte (2 : Int32) [(.int y0), (.int y1)] (.int 0)) :
    MF l y_10 (Jvm.Cond.code y_10 B10 3 (some .boolean) :: ws) (⟨0, 0, 0, 0⟩ : Room) Z h0 #[(.ref a1), (.ref a2)] (Q_rmle12 Z a1 a2 kx ky x0 y0 y1 h0 n0) := by
  refine MetFree.of_bodySF (plainFor_of_name pn_java_lang_StringLatin1) hisR ?_
  intro p e s m args below meth c s₁ Bd hml0 hP hK
  obtain ⟨rfl, hZ, hh⟩ := hP
  have hx := Bd.exec
  have hby := Bd.bytes
  have hml : c.maxLocals = 3 := hml0
  have hown : s.vm.findClass cs3 = some m.cls := findClass_of_methodNamed Bd.named
  have hnm := (name_of_methodNamed Bd.named Bd.method).1
  have X0 : Stand p l e (⟨0, 0, 0, 0⟩ : Room) s m #[(.ref a1), (.ref a2)] below meth c s₁ [] 0 0 := Stand.of_body Bd
  have e0 : s₁.heap = h0 := by rw [← hh, Bd.state]; rfl
  have N0 := Fr.nil n0
  have pre0 : Goes p e below (s₁.setTop (entryFrame m #[(.ref a1), (.ref a2)] 3)) (s₁.setTop (mkF m 0 #[vr a1, vr a2, .unset] [])) := fun t k => castTop (ef_10 m a1 a2) k
  obtain ⟨cl337, Ar337, q337, S337, N337n, H337, G337⟩ := id (V_a1)
  obtain ⟨cl338, Ar338, q338, S338, N338n, H338, G338⟩ := id (V_a2)
  obtain ⟨fs, hr, hrun, hended, hW, hsame⟩ := X0.leave (v := some (.int 0)) (fun h => by rw [Bd.returns] at h; cases h)
  refine ⟨_, _, pre0 _ ?_, hrun, hended, _, _, rfl, ?_, ⟨_, rfl⟩, hW, hsame.mono (by decide) (by decide)⟩
  · show Steps p.tables e below (s₁.setTop (mkF m 0 #[vr a1, vr a2, .unset] [])) _
    refine XS.aloadN X0.here hx rfl (hb hby d10_0) rfl rfl ?_
    refine X0.arraylength hx (by rw [e0]; exact Ar337.1) (State.isArrayOf_alike hZ.alike Ar337.2.1) (g := (mkF m 1 #[vr a1, vr a2, .unset] [(.ref a1)])) rfl rfl (hb hby d10_1) _ ?_
    rw [len_of S337 N337n]
    refine XS.aloadN X0.here hx rfl (hb hby d10_2) rfl rfl ?_
    refine X0.arraylength hx (by rw [e0]; exact Ar338.1) (State.isArrayOf_alike hZ.alike Ar338.2.1) (g := (mkF m 3 #[vr a1, vr a2, .unset] [(.ref a2), (.int 1)])) rfl rfl (hb hby d10_3) _ ?_
    rw [len_of S338 N338n]
    refine XS.icmpYes X0.here hx rfl (pc0 := 4) (pc' := 34) rfl (hb hby d10_4) rfl (feq (by decide)).2 (by decide) (by decide) ?_
    refine XS.iconst X0.here hx rfl (hb hby d10_34) ?_
    exact retN X0 hx (t := .boolean) Bd.returns (by simp) (hb hby d10_35) hr
  · show Q_rmle12 Z _ _ _ _ _ _ _ h0 n0 _ s₁.heap _
    rw [e0]
    exact ⟨rfl, N0, rfl⟩
def Q_rmle13 (Z : State) (a1 : Addr) (a2 : Addr) (kx : ClassId) (ky : ClassId) (x0 : Int32) (y0 : Int32) (y1 : Int32) (y2 : Int32) (h0 : Heap) (n0 : Nat) (v : Option Value) (h : Heap) (L : List Loc) : Prop := v = some (.int 0) ∧ Fr n0 L ∧ h = h0
set_option maxRecDepth 65536 in
set_option maxHeartbeats 40000000 in
theorem rmle13 (l : Launch) (Z : State) (a0 : Array Value) (hw : HW a0 Z) (ws : List Jvm.Cond) (a1 : Addr) (a2 : Addr) (kx : ClassId) (ky : ClassId) (x0 : Int32) (y0 : Int32) (y1 : Int32) (y2 : Int32) (h0 : Heap) (n0 : Nat) (Z0 : n0 ≤ h0.size) (V_a1 : Arv Z h0 a1 kx .byte (1 : Int32) [(.int x0)] (.int 0)) (V_a2 : Arv Z h0 a2 ky .byte (3 : Int32) [(.int y0), (.int y1), (.int y2)] (.int 0)) :
    MF l y_10 (Jvm.Cond.code y_10 B10 3 (some .boolean) :: ws) (⟨0, 0, 0, 0⟩ : Room) Z h0 #[(.ref a1), (.ref a2)] (Q_rmle13 Z a1 a2 kx ky x0 y0 y1 y2 h0 n0) := by
  refine MetFree.of_bodySF (plainFor_of_name pn_java_lang_StringLatin1) hisR ?_
  intro p e s m args below meth c s₁ Bd hml0 hP hK
  obtain ⟨rfl, hZ, hh⟩ := hP
  have hx := Bd.exec
  have hby := Bd.bytes
  have hml : c.maxLocals = 3 := hml0
  have hown : s.vm.findClass cs3 = some m.cls := findClass_of_methodNamed Bd.named
  have hnm := (name_of_methodNamed Bd.named Bd.method).1
  have X0 : Stand p l e (⟨0, 0, 0, 0⟩ : Room) s m #[(.ref a1), (.ref a2)] below meth c s₁ [] 0 0 := Stand.of_body Bd
  have e0 : s₁.heap = h0 := by rw [← hh, Bd.state]; rfl
  have N0 := Fr.nil n0
  have pre0 : Goes p e below (s₁.setTop (entryFrame m #[(.ref a1), (.ref a2)] 3)) (s₁.setTop (mkF m 0 #[vr a1, vr a2, .unset] [])) := fun t k => castTop (ef_10 m a1 a2) k
  obtain ⟨cl339, Ar339, q339, S339, N339n, H339, G339⟩ := id (V_a1)
  obtain ⟨cl340, Ar340, q340, S340, N340n, H340, G340⟩ := id (V_a2)
  obtain ⟨fs, hr, hrun, hended, hW, hsame⟩ := X0.leave (v := some (.int 0)) (fun h => by rw [Bd.returns] at h; cases h)
  refine ⟨_, _, pre0 _ ?_, hrun, hended, _, _, rfl, ?_, ⟨_, rfl⟩, hW, hsame.mono (by decide) (by decide)⟩
  · show Steps p.tables e below (s₁.setTop (mkF m 0 #[vr a1, vr a2, .unset] [])) _
    refine XS.aloadN X0.here hx rfl (hb hby d10_0) rfl rfl ?_
    refine X0.arraylength hx (by rw [e0]; exact Ar339.1) (State.isArrayOf_alike hZ.alike Ar339.2.1) (g := (mkF m 1 #[vr a1, vr a2, .unset] [(.ref a1)])) rfl rfl (hb hby d10_1) _ ?_
    rw [len_of S339 N339n]
    refine XS.aloadN X0.here hx rfl (hb hby d10_2) rfl rfl ?_
    refine X0.arraylength hx (by rw [e0]; exact Ar340.1) (State.isArrayOf_alike hZ.alike Ar340.2.1) (g := (mkF m 3 #[vr a1, vr a2, .unset] [(.ref a2), (.int 1)])) rfl rfl (hb hby d10_3) _ ?_
    rw [len_of S340 N340n]
    refine XS.icmpYes X0.here hx rfl (pc0 := 4) (pc' := 34) rfl (hb hby d10_4) rfl (feq (by decide)).2 (by decide) (by decide) ?_
    refine XS.iconst X0.here hx rfl (hb hby d10_34) ?_
    exact retN X0 hx (t := .boolean) Bd.returns (by simp) (hb hby d10_35) hr
  · show Q_rmle13 Z _ _ _ _ _ _ _ _ h0 n0 _ s₁.heap _
    rw [e0]
    exact ⟨rfl, N0, rfl⟩
def Q_rmle20 (Z : State) (a1 : Addr) (a2 : Addr) (kx : ClassId) (ky : ClassId) (x0 : Int32) (x1 : Int32) (h0 : Heap) (n0 : Nat) (v : Option Value) (h : Heap) (L : List Loc) : Prop := v = some (.int 0) ∧ Fr n0 L ∧ h = h0
set_option maxRecDepth 65536 in
set_option maxHeartbeats 40000000 in
theorem rmle20 (l : Launch) (Z : State) (a0 : Array Value) (hw : HW a0 Z) (ws : List Jvm.Cond) (a1 : Addr) (a2 : Addr) (kx : ClassId) (ky : ClassId) (x0 : Int32) (x1 : Int32) (h0 : Heap) (n0 : Nat) (Z0 : n0 ≤ h0.size) (V_a1 : Arv Z h0 a1 kx .byte (2 : Int32) [(.int x0), (.int x1)] (.int 0)) (V_a2 : Arv Z h0 a2 ky .byte (0 : Int32) [] (.int 0)) :
    MF l y_10 (Jvm.Cond.code y_10 B10 3 (some .boolean) :: ws) (⟨0, 0, 0, 0⟩ : Room) Z h0 #[(.ref a1), (.ref a2)] (Q_rmle20 Z a1 a2 kx ky x0 x1 h0 n0) := by
  refine MetFree.of_bodySF (plainFor_of_name pn_java_lang_StringLatin1) hisR ?_
  intro p e s m args below meth c s₁ Bd hml0 hP hK
  obtain ⟨rfl, hZ, hh⟩ := hP
  have hx := Bd.exec
  have hby := Bd.bytes
  have hml : c.maxLocals = 3 := hml0
  have hown : s.vm.findClass cs3 = some m.cls := findClass_of_methodNamed Bd.named
  have hnm := (name_of_methodNamed Bd.named Bd.method).1
  have X0 : Stand p l e (⟨0, 0, 0, 0⟩ : Room) s m #[(.ref a1), (.ref a2)] below meth c s₁ [] 0 0 := Stand.of_body Bd
  have e0 : s₁.heap = h0 := by rw [← hh, Bd.state]; rfl
  have N0 := Fr.nil n0
  have pre0 : Goes p e below (s₁.setTop (entryFrame m #[(.ref a1), (.ref a2)] 3)) (s₁.setTop (mkF m 0 #[vr a1, vr a2, .unset] [])) := fun t k => castTop (ef_10 m a1 a2) k
  obtain ⟨cl341, Ar341, q341, S341, N341n, H341, G341⟩ := id (V_a1)
  obtain ⟨cl342, Ar342, q342, S342, N342n, H342, G342⟩ := id (V_a2)
  obtain ⟨fs, hr, hrun, hended, hW, hsame⟩ := X0.leave (v := some (.int 0)) (fun h => by rw [Bd.returns] at h; cases h)
  refine ⟨_, _, pre0 _ ?_, hrun, hended, _, _, rfl, ?_, ⟨_, rfl⟩, hW, hsame.mono (by decide) (by decide)⟩
  · show Steps p.tables e below (s₁.setTop (mkF m 0 #[vr a1, vr a2, .unset] [])) _
    refine XS.aloadN X0.here hx rfl (hb hby d10_0) rfl rfl ?_
    refine X0.arraylength hx (by rw [e0]; exact Ar341.1) (State.isArrayOf_alike hZ.alike Ar341.2.1) (g := (mkF m 1 #[vr a1, vr a2, .unset] [(.ref a1)])) rfl rfl (hb hby d10_1) _ ?_
    rw [len_of S341 N341n]
    refine XS.aloadN X0.here hx rfl (hb hby d10_2) rfl rfl ?_
    refine X0.arraylength hx (by rw [e0]; exact Ar342.1) (State.isArrayOf_alike hZ.alike Ar342.2.1) (g := (mkF m 3 #[vr a1, vr a2, .unset] [(.ref a2), (.int 2)])) rfl rfl (hb hby d10_3) _ ?_
    rw [len_of S342 N342n]
    refine XS.icmpYes X0.here hx rfl (pc0 := 4) (pc' := 34) rfl (hb hby d10_4) rfl (feq (by decide)).2 (by decide) (by decide) ?_
    refine XS.iconst X0.here hx rfl (hb hby d10_34) ?_
    exact retN X0 hx (t := .boolean) Bd.returns (by simp) (hb hby d10_35) hr
  · show Q_rmle20 Z _ _ _ _ _ _ h0 n0 _ s₁.heap _
    rw [e0]
    exact ⟨rfl, N0, rfl⟩
def Q_rmle21 (Z : State) (a1 : Addr) (a2 : Addr) (kx : ClassId) (ky : ClassId) (x0 : Int32) (x1 : Int32) (y0 : Int32) (h0 : Heap) (n0 : Nat) (v : Option Value) (h : Heap) (L : List Loc) : Prop := v = some (.int 0) ∧ Fr n0 L ∧ h = h0
set_option maxRecDepth 65536 in
set_option maxHeartbeats 40000000 in
theorem rmle21 (l : Launch) (Z : State) (a0 : Array Value) (hw : HW a0 Z) (ws : List Jvm.Cond) (a1 : Addr) (a2 : Addr) (kx : ClassId) (ky : ClassId) (x0 : Int32) (x1 : Int32) (y0 : Int32) (h0 : Heap) (n0 : Nat) (Z0 : n0 ≤ h0.size) (V_a1 : Arv Z h0 a1 kx .byte (2 : Int32) [(.int x0), (.int x1)] (.int 0)) (V_a2 : Arv Z h0 a2 ky .byte (1 : Int32) [(.int y0)] (.int 0)) :
    MF l y_10 (Jvm.Cond.code y_10 B10 3 (some .boolean) :: ws) (⟨0, 0, 0, 0⟩ : Room) Z h0 #[(.ref a1), (.ref a2)] (Q_rmle21 Z a1 a2 kx ky x0 x1 y0 h0 n0) := by
  refine MetFree.of_bodySF (plainFor_of_name pn_java_lang_StringLatin1) hisR ?_
  intro p e s m args below meth c s₁ Bd hml0 hP hK
  obtain ⟨rfl, hZ, hh⟩ := hP
  have hx := Bd.exec
  have hby := Bd.bytes
  have hml : c.maxLocals = 3 := hml0
  have hown : s.vm.findClass cs3 = some m.cls := findClass_of_methodNamed Bd.named
  have hnm := (name_of_methodNamed Bd.named Bd.method).1
  have X0 : Stand p l e (⟨0, 0, 0, 0⟩ : Room) s m #[(.ref a1), (.ref a2)] below meth c s₁ [] 0 0 := Stand.of_body Bd
  have e0 : s₁.heap = h0 := by rw [← hh, Bd.state]; rfl
  have N0 := Fr.nil n0
  have pre0 : Goes p e below (s₁.setTop (entryFrame m #[(.ref a1), (.ref a2)] 3)) (s₁.setTop (mkF m 0 #[vr a1, vr a2, .unset] [])) := fun t k => castTop (ef_10 m a1 a2) k
  obtain ⟨cl343, Ar343, q343, S343, N343n, H343, G343⟩ := id (V_a1)
  obtain ⟨cl344, Ar344, q344, S344, N344n, H344, G344⟩ := id (V_a2)
  obtain ⟨fs, hr, hrun, hended, hW, hsame⟩ := X0.leave (v := some (.int 0)) (fun h => by rw [Bd.returns] at h; cases h)
  refine ⟨_, _, pre0 _ ?_, hrun, hended, _, _, rfl, ?_, ⟨_, rfl⟩, hW, hsame.mono (by decide) (by decide)⟩
  · show Steps p.tables e below (s₁.setTop (mkF m 0 #[vr a1, vr a2, .unset] [])) _
    refine XS.aloadN X0.here hx rfl (hb hby d10_0) rfl rfl ?_
    refine X0.arraylength hx (by rw [e0]; exact Ar343.1) (State.isArrayOf_alike hZ.alike Ar343.2.1) (g := (mkF m 1 #[vr a1, vr a2, .unset] [(.ref a1)])) rfl rfl (hb hby d10_1) _ ?_
    rw [len_of S343 N343n]
    refine XS.aloadN X0.here hx rfl (hb hby d10_2) rfl rfl ?_
    refine X0.arraylength hx (by rw [e0]; exact Ar344.1) (State.isArrayOf_alike hZ.alike Ar344.2.1) (g := (mkF m 3 #[vr a1, vr a2, .unset] [(.ref a2), (.int 2)])) rfl rfl (hb hby d10_3) _ ?_
    rw [len_of S344 N344n]
    refine XS.icmpYes X0.here hx rfl (pc0 := 4) (pc' := 34) rfl (hb hby d10_4) rfl (feq (by decide)).2 (by decide) (by decide) ?_
    refine XS.iconst X0.here hx rfl (hb hby d10_34) ?_
    exact retN X0 hx (t := .boolean) Bd.returns (by simp) (hb hby d10_35) hr
  · show Q_rmle21 Z _ _ _ _ _ _ _ h0 n0 _ s₁.heap _
    rw [e0]
    exact ⟨rfl, N0, rfl⟩
def Q_rmle22eq (Z : State) (a1 : Addr) (a2 : Addr) (kx : ClassId) (ky : ClassId) (x0 : Int32) (x1 : Int32) (y0 : Int32) (y1 : Int32) (h0 : Heap) (n0 : Nat) (v : Option Value) (h : Heap) (L : List Loc) : Prop := v = some (.int 1) ∧ Fr n0 L ∧ h = h0
set_option maxRecDepth 65536 in
set_option maxHeartbeats 40000000 in
theorem rmle22eq (l : Launch) (Z : State) (a0 : Array Value) (hw : HW a0 Z) (ws : List Jvm.Cond) (a1 : Addr) (a2 : Addr) (kx : ClassId) (ky : ClassId) (x0 : Int32) (x1 : Int32) (y0 : Int32) (y1 : Int32) (h0 : Heap) (n0 : Nat) (Z0 : n0 ≤ h0.size) (V_a1 : Arv Z h0 a1 kx .byte (2 : Int32) [(.int x0), (.int x1)] (.int 0)) (V_a2 : Arv Z h0 a2 ky .byte (2 : Int32) [(.int y0), (.int y1)] (.int 0)) (he0 : x0 = y0) (he1 : x1 = y1) :
    MF l y_10 (Jvm.Cond.code y_10 B10 3 (some .boolean) :: ws) (⟨0, 0, 0, 0⟩ : Room) Z h0 #[(.ref a1), (.ref a2)] (Q_rmle22eq Z a1 a2 kx ky x0 x1 y0 y1 h0 n0) := by
  refine MetFree.of_bodySF (plainFor_of_name pn_java_lang_StringLatin1) hisR ?_
  intro p e s m args below meth c s₁ Bd hml0 hP hK
  obtain ⟨rfl, hZ, hh⟩ := hP
  have hx := Bd.exec
  have hby := Bd.bytes
  have hml : c.maxLocals = 3 := hml0
  have hown : s.vm.findClass cs3 = some m.cls := findClass_of_methodNamed Bd.named
  have hnm := (name_of_methodNamed Bd.named Bd.method).1
  have X0 : Stand p l e (⟨0, 0, 0, 0⟩ : Room) s m #[(.ref a1), (.ref a2)] below meth c s₁ [] 0 0 := Stand.of_body Bd
  have e0 : s₁.heap = h0 := by rw [← hh, Bd.state]; rfl
  have N0 := Fr.nil n0
  have pre0 : Goes p e below (s₁.setTop (entryFrame m #[(.ref a1), (.ref a2)] 3)) (s₁.setTop (mkF m 0 #[vr a1, vr a2, .unset] [])) := fun t k => castTop (ef_10 m a1 a2) k
  obtain ⟨cl345, Ar345, q345, S345, N345n, H345, G345⟩ := id (V_a1)
  obtain ⟨cl346, Ar346, q346, S346, N346n, H346, G346⟩ := id (V_a2)
  obtain ⟨cl347, Ar347, q347, S347, N347n, H347, G347⟩ := id (V_a1)
  obtain ⟨cl348, Ar348, q348, S348, N348n, H348, G348⟩ := id (V_a1)
  have hin348 : ¬ ((0 : Int32) < 0 ∨ cl348.slots.size ≤ ((0 : Int32)).toNatClampNeg) := inb_of S348 ⟨by decide, by decide⟩
  have hat348 : cl348.slots[((0 : Int32)).toNatClampNeg]? = some (.int x0) := H348.at hin348 rfl
  obtain ⟨cl349, Ar349, q349, S349, N349n, H349, G349⟩ := id (V_a2)
  have hin349 : ¬ ((0 : Int32) < 0 ∨ cl349.slots.size ≤ ((0 : Int32)).toNatClampNeg) := inb_of S349 ⟨by decide, by decide⟩
  have hat349 : cl349.slots[((0 : Int32)).toNatClampNeg]? = some (.int y0) := H349.at hin349 rfl
  obtain ⟨cl350, Ar350, q350, S350, N350n, H350, G350⟩ := id (V_a1)
  obtain ⟨cl351, Ar351, q351, S351, N351n, H351, G351⟩ := id (V_a1)
  have hin351 : ¬ ((1 : Int32) < 0 ∨ cl351.slots.size ≤ ((1 : Int32)).toNatClampNeg) := inb_of S351 ⟨by decide, by decide⟩
  have hat351 : cl351.slots[((1 : Int32)).toNatClampNeg]? = some (.int x1) := H351.at hin351 rfl
  obtain ⟨cl352, Ar352, q352, S352, N352n, H352, G352⟩ := id (V_a2)
  have hin352 : ¬ ((1 : Int32) < 0 ∨ cl352.slots.size ≤ ((1 : Int32)).toNatClampNeg) := inb_of S352 ⟨by decide, by decide⟩
  have hat352 : cl352.slots[((1 : Int32)).toNatClampNeg]? = some (.int y1) := H352.at hin352 rfl
  obtain ⟨cl353, Ar353, q353, S353, N353n, H353, G353⟩ := id (V_a1)
  obtain ⟨fs, hr, hrun, hended, hW, hsame⟩ := X0.leave (v := some (.int 1)) (fun h => by rw [Bd.returns] at h; cases h)
  refine ⟨_, _, pre0 _ ?_, hrun, hended, _, _, rfl, ?_, ⟨_, rfl⟩, hW, hsame.mono (by decide) (by decide)⟩
  · show Steps p.tables e below (s₁.setTop (mkF m 0 #[vr a1, vr a2, .unset] [])) _
    refine XS.aloadN X0.here hx rfl (hb hby d10_0) rfl rfl ?_
    refine X0.arraylength hx (by rw [e0]; exact Ar345.1) (State.isArrayOf_alike hZ.alike Ar345.2.1) (g := (mkF m 1 #[vr a1, vr a2, .unset] [(.ref a1)])) rfl rfl (hb hby d10_1) _ ?_
    rw [len_of S345 N345n]
    refine XS.aloadN X0.here hx rfl (hb hby d10_2) rfl rfl ?_
    refine X0.arraylength hx (by rw [e0]; exact Ar346.1) (State.isArrayOf_alike hZ.alike Ar346.2.1) (g := (mkF m 3 #[vr a1, vr a2, .unset] [(.ref a2), (.int 2)])) rfl rfl (hb hby d10_3) _ ?_
    rw [len_of S346 N346n]
    refine XS.icmpNo X0.here hx rfl (hb hby d10_4) rfl (teq (rfl : (2 : Int32) = (2 : Int32))).2 ?_
    refine XS.iconst X0.here hx rfl (hb hby d10_7) ?_
    refine XS.istoreN X0.here hx rfl (hb hby d10_8) rfl (l' := #[vr a1, vr a2, vi 0]) rfl ?_
    refine XS.iloadN X0.here hx rfl (hb hby d10_9) rfl ?_
    refine XS.aloadN X0.here hx rfl (hb hby d10_10) rfl rfl ?_
    refine X0.arraylength hx (by rw [e0]; exact Ar347.1) (State.isArrayOf_alike hZ.alike Ar347.2.1) (g := (mkF m 11 #[vr a1, vr a2, vi 0] [(.ref a1), (.int 0)])) rfl rfl (hb hby d10_11) _ ?_
    rw [len_of S347 N347n]
    show Steps p.tables e below (s₁.setTop (mkF m 12 #[vr a1, vr a2, vi 0] [(.int 2), (.int 0)])) _
    refine XS.icmpNo X0.here hx rfl (hb hby d10_12) rfl (tlt (by decide)).2.1 ?_
    refine XS.aloadN X0.here hx rfl (hb hby d10_15) rfl rfl ?_
    refine XS.iloadN X0.here hx rfl (hb hby d10_16) rfl ?_
    refine X0.baloadBytes hx (j := (0 : Int32)) (v := (.int x0)) (by rw [e0]; exact Ar348.1) (State.isArrayOf_alike hZ.alike Ar348.2.1) Ar348.2.2 hin348 hat348 (g := (mkF m 17 #[vr a1, vr a2, vi 0] [(.int 0), (.ref a1)])) rfl rfl (hb hby d10_17) _ ?_
    refine XS.aloadN X0.here hx rfl (hb hby d10_18) rfl rfl ?_
    refine XS.iloadN X0.here hx rfl (hb hby d10_19) rfl ?_
    refine X0.baloadBytes hx (j := (0 : Int32)) (v := (.int y0)) (by rw [e0]; exact Ar349.1) (State.isArrayOf_alike hZ.alike Ar349.2.1) Ar349.2.2 hin349 hat349 (g := (mkF m 20 #[vr a1, vr a2, vi 0] [(.int 0), (.ref a2), (.int x0)])) rfl rfl (hb hby d10_20) _ ?_
    refine XS.icmpYes X0.here hx rfl (pc0 := 21) (pc' := 26) rfl (hb hby d10_21) rfl (teq he0).1 (by decide) (by decide) ?_
    refine XS.iinc X0.here hx rfl (hb hby d10_26) rfl (l' := #[vr a1, vr a2, vi 1]) rfl ?_
    refine XS.goto X0.here hx rfl (pc0 := 29) (pc' := 9) rfl (hb hby d10_29) (by decide) (by decide) ?_
    show Steps p.tables e below (s₁.setTop (mkF m 9 #[vr a1, vr a2, vi 1] [])) _
    refine XS.iloadN X0.here hx rfl (hb hby d10_9) rfl ?_
    refine XS.aloadN X0.here hx rfl (hb hby d10_10) rfl rfl ?_
    refine X0.arraylength hx (by rw [e0]; exact Ar350.1) (State.isArrayOf_alike hZ.alike Ar350.2.1) (g := (mkF m 11 #[vr a1, vr a2, vi 1] [(.ref a1), (.int 1)])) rfl rfl (hb hby d10_11) _ ?_
    rw [len_of S350 N350n]
    refine XS.icmpNo X0.here hx rfl (hb hby d10_12) rfl (tlt (by decide)).2.1 ?_
    refine XS.aloadN X0.here hx rfl (hb hby d10_15) rfl rfl ?_
    refine XS.iloadN X0.here hx rfl (hb hby d10_16) rfl ?_
    refine X0.baloadBytes hx (j := (1 : Int32)) (v := (.int x1)) (by rw [e0]; exact Ar351.1) (State.isArrayOf_alike hZ.alike Ar351.2.1) Ar351.2.2 hin351 hat351 (g := (mkF m 17 #[vr a1, vr a2, vi 1] [(.int 1), (.ref a1)])) rfl rfl (hb hby d10_17) _ ?_
    refine XS.aloadN X0.here hx rfl (hb hby d10_18) rfl rfl ?_
    refine XS.iloadN X0.here hx rfl (hb hby d10_19) rfl ?_
    refine X0.baloadBytes hx (j := (1 : Int32)) (v := (.int y1)) (by rw [e0]; exact Ar352.1) (State.isArrayOf_alike hZ.alike Ar352.2.1) Ar352.2.2 hin352 hat352 (g := (mkF m 20 #[vr a1, vr a2, vi 1] [(.int 1), (.ref a2), (.int x1)])) rfl rfl (hb hby d10_20) _ ?_
    show Steps p.tables e below (s₁.setTop (mkF m 21 #[vr a1, vr a2, vi 1] [(.int y1), (.int x1)])) _
    refine XS.icmpYes X0.here hx rfl (pc0 := 21) (pc' := 26) rfl (hb hby d10_21) rfl (teq he1).1 (by decide) (by decide) ?_
    refine XS.iinc X0.here hx rfl (hb hby d10_26) rfl (l' := #[vr a1, vr a2, vi 2]) rfl ?_
    refine XS.goto X0.here hx rfl (pc0 := 29) (pc' := 9) rfl (hb hby d10_29) (by decide) (by decide) ?_
    refine XS.iloadN X0.here hx rfl (hb hby d10_9) rfl ?_
    refine XS.aloadN X0.here hx rfl (hb hby d10_10) rfl rfl ?_
    refine X0.arraylength hx (by rw [e0]; exact Ar353.1) (State.isArrayOf_alike hZ.alike Ar353.2.1) (g := (mkF m 11 #[vr a1, vr a2, vi 2] [(.ref a1), (.int 2)])) rfl rfl (hb hby d10_11) _ ?_
    rw [len_of S353 N353n]
    refine XS.icmpYes X0.here hx rfl (pc0 := 12) (pc' := 32) rfl (hb hby d10_12) rfl (flt (by decide)).2.1 (by decide) (by decide) ?_
    refine XS.iconst X0.here hx rfl (hb hby d10_32) ?_
    exact retN X0 hx (t := .boolean) Bd.returns (by simp) (hb hby d10_33) hr
  · show Q_rmle22eq Z _ _ _ _ _ _ _ _ h0 n0 _ s₁.heap _
    rw [e0]
    exact ⟨rfl, N0, rfl⟩
def Q_rmle220 (Z : State) (a1 : Addr) (a2 : Addr) (kx : ClassId) (ky : ClassId) (x0 : Int32) (x1 : Int32) (y0 : Int32) (y1 : Int32) (h0 : Heap) (n0 : Nat) (v : Option Value) (h : Heap) (L : List Loc) : Prop := v = some (.int 0) ∧ Fr n0 L ∧ h = h0
set_option maxRecDepth 65536 in
set_option maxHeartbeats 40000000 in
theorem rmle220 (l : Launch) (Z : State) (a0 : Array Value) (hw : HW a0 Z) (ws : List Jvm.Cond) (a1 : Addr) (a2 : Addr) (kx : ClassId) (ky : ClassId) (x0 : Int32) (x1 : Int32) (y0 : Int32) (y1 : Int32) (h0 : Heap) (n0 : Nat) (Z0 : n0 ≤ h0.size) (V_a1 : Arv Z h0 a1 kx .byte (2 : Int32) [(.int x0), (.int x1)] (.int 0)) (V_a2 : Arv Z h0 a2 ky .byte (2 : Int32) [(.int y0), (.int y1)] (.int 0)) (hn : ¬ (x0 = y0)) :
    MF l y_10 (Jvm.Cond.code y_10 B10 3 (some .boolean) :: ws) (⟨0, 0, 0, 0⟩ : Room) Z h0 #[(.ref a1), (.ref a2)] (Q_rmle220 Z a1 a2 kx ky x0 x1 y0 y1 h0 n0) := by
  refine MetFree.of_bodySF (plainFor_of_name pn_java_lang_StringLatin1) hisR ?_
  intro p e s m args below meth c s₁ Bd hml0 hP hK
  obtain ⟨rfl, hZ, hh⟩ := hP
  have hx := Bd.exec
  have hby := Bd.bytes
  have hml : c.maxLocals = 3 := hml0
  have hown : s.vm.findClass cs3 = some m.cls := findClass_of_methodNamed Bd.named
  have hnm := (name_of_methodNamed Bd.named Bd.method).1
  have X0 : Stand p l e (⟨0, 0, 0, 0⟩ : Room) s m #[(.ref a1), (.ref a2)] below meth c s₁ [] 0 0 := Stand.of_body Bd
  have e0 : s₁.heap = h0 := by rw [← hh, Bd.state]; rfl
  have N0 := Fr.nil n0
  have pre0 : Goes p e below (s₁.setTop (entryFrame m #[(.ref a1), (.ref a2)] 3)) (s₁.setTop (mkF m 0 #[vr a1, vr a2, .unset] [])) := fun t k => castTop (ef_10 m a1 a2) k
  obtain ⟨cl354, Ar354, q354, S354, N354n, H354, G354⟩ := id (V_a1)
  obtain ⟨cl355, Ar355, q355, S355, N355n, H355, G355⟩ := id (V_a2)
  obtain ⟨cl356, Ar356, q356, S356, N356n, H356, G356⟩ := id (V_a1)
  obtain ⟨cl357, Ar357, q357, S357, N357n, H357, G357⟩ := id (V_a1)
  have hin357 : ¬ ((0 : Int32) < 0 ∨ cl357.slots.size ≤ ((0 : Int32)).toNatClampNeg) := inb_of S357 ⟨by decide, by decide⟩
  have hat357 : cl357.slots[((0 : Int32)).toNatClampNeg]? = some (.int x0) := H357.at hin357 rfl
  obtain ⟨cl358, Ar358, q358, S358, N358n, H358, G358⟩ := id (V_a2)
  have hin358 : ¬ ((0 : Int32) < 0 ∨ cl358.slots.size ≤ ((0 : Int32)).toNatClampNeg) := inb_of S358 ⟨by decide, by decide⟩
  have hat358 : cl358.slots[((0 : Int32)).toNatClampNeg]? = some (.int y0) := H358.at hin358 rfl
  obtain ⟨fs, hr, hrun, hended, hW, hsame⟩ := X0.leave (v := some (.int 0)) (fun h => by rw [Bd.returns] at h; cases h)
  refine ⟨_, _, pre0 _ ?_, hrun, hended, _, _, rfl, ?_, ⟨_, rfl⟩, hW, hsame.mono (by decide) (by decide)⟩
  · show Steps p.tables e below (s₁.setTop (mkF m 0 #[vr a1, vr a2, .unset] [])) _
    refine XS.aloadN X0.here hx rfl (hb hby d10_0) rfl rfl ?_
    refine X0.arraylength hx (by rw [e0]; exact Ar354.1) (State.isArrayOf_alike hZ.alike Ar354.2.1) (g := (mkF m 1 #[vr a1, vr a2, .unset] [(.ref a1)])) rfl rfl (hb hby d10_1) _ ?_
    rw [len_of S354 N354n]
    refine XS.aloadN X0.here hx rfl (hb hby d10_2) rfl rfl ?_
    refine X0.arraylength hx (by rw [e0]; exact Ar355.1) (State.isArrayOf_alike hZ.alike Ar355.2.1) (g := (mkF m 3 #[vr a1, vr a2, .unset] [(.ref a2), (.int 2)])) rfl rfl (hb hby d10_3) _ ?_
    rw [len_of S355 N355n]
    refine XS.icmpNo X0.here hx rfl (hb hby d10_4) rfl (teq (rfl : (2 : Int32) = (2 : Int32))).2 ?_
    refine XS.iconst X0.here hx rfl (hb hby d10_7) ?_
    refine XS.istoreN X0.here hx rfl (hb hby d10_8) rfl (l' := #[vr a1, vr a2, vi 0]) rfl ?_
    refine XS.iloadN X0.here hx rfl (hb hby d10_9) rfl ?_
    refine XS.aloadN X0.here hx rfl (hb hby d10_10) rfl rfl ?_
    refine X0.arraylength hx (by rw [e0]; exact Ar356.1) (State.isArrayOf_alike hZ.alike Ar356.2.1) (g := (mkF m 11 #[vr a1, vr a2, vi 0] [(.ref a1), (.int 0)])) rfl rfl (hb hby d10_11) _ ?_
    rw [len_of S356 N356n]
    show Steps p.tables e below (s₁.setTop (mkF m 12 #[vr a1, vr a2, vi 0] [(.int 2), (.int 0)])) _
    refine XS.icmpNo X0.here hx rfl (hb hby d10_12) rfl (tlt (by decide)).2.1 ?_
    refine XS.aloadN X0.here hx rfl (hb hby d10_15) rfl rfl ?_
    refine XS.iloadN X0.here hx rfl (hb hby d10_16) rfl ?_
    refine X0.baloadBytes hx (j := (0 : Int32)) (v := (.int x0)) (by rw [e0]; exact Ar357.1) (State.isArrayOf_alike hZ.alike Ar357.2.1) Ar357.2.2 hin357 hat357 (g := (mkF m 17 #[vr a1, vr a2, vi 0] [(.int 0), (.ref a1)])) rfl rfl (hb hby d10_17) _ ?_
    refine XS.aloadN X0.here hx rfl (hb hby d10_18) rfl rfl ?_
    refine XS.iloadN X0.here hx rfl (hb hby d10_19) rfl ?_
    refine X0.baloadBytes hx (j := (0 : Int32)) (v := (.int y0)) (by rw [e0]; exact Ar358.1) (State.isArrayOf_alike hZ.alike Ar358.2.1) Ar358.2.2 hin358 hat358 (g := (mkF m 20 #[vr a1, vr a2, vi 0] [(.int 0), (.ref a2), (.int x0)])) rfl rfl (hb hby d10_20) _ ?_
    refine XS.icmpNo X0.here hx rfl (hb hby d10_21) rfl (feq hn).1 ?_
    refine XS.iconst X0.here hx rfl (hb hby d10_24) ?_
    exact retN X0 hx (t := .boolean) Bd.returns (by simp) (hb hby d10_25) hr
  · show Q_rmle220 Z _ _ _ _ _ _ _ _ h0 n0 _ s₁.heap _
    rw [e0]
    exact ⟨rfl, N0, rfl⟩
def Q_rmle221 (Z : State) (a1 : Addr) (a2 : Addr) (kx : ClassId) (ky : ClassId) (x0 : Int32) (x1 : Int32) (y0 : Int32) (y1 : Int32) (h0 : Heap) (n0 : Nat) (v : Option Value) (h : Heap) (L : List Loc) : Prop := v = some (.int 0) ∧ Fr n0 L ∧ h = h0
set_option maxRecDepth 65536 in
set_option maxHeartbeats 40000000 in
theorem rmle221 (l : Launch) (Z : State) (a0 : Array Value) (hw : HW a0 Z) (ws : List Jvm.Cond) (a1 : Addr) (a2 : Addr) (kx : ClassId) (ky : ClassId) (x0 : Int32) (x1 : Int32) (y0 : Int32) (y1 : Int32) (h0 : Heap) (n0 : Nat) (Z0 : n0 ≤ h0.size) (V_a1 : Arv Z h0 a1 kx .byte (2 : Int32) [(.int x0), (.int x1)] (.int 0)) (V_a2 : Arv Z h0 a2 ky .byte (2 : Int32) [(.int y0), (.int y1)] (.int 0)) (he0 : x0 = y0) (hn : ¬ (x1 = y1)) :
    MF l y_10 (Jvm.Cond.code y_10 B10 3 (some .boolean) :: ws) (⟨0, 0, 0, 0⟩ : Room) Z h0 #[(.ref a1), (.ref a2)] (Q_rmle221 Z a1 a2 kx ky x0 x1 y0 y1 h0 n0) := by
  refine MetFree.of_bodySF (plainFor_of_name pn_java_lang_StringLatin1) hisR ?_
  intro p e s m args below meth c s₁ Bd hml0 hP hK
  obtain ⟨rfl, hZ, hh⟩ := hP
  have hx := Bd.exec
  have hby := Bd.bytes
  have hml : c.maxLocals = 3 := hml0
  have hown : s.vm.findClass cs3 = some m.cls := findClass_of_methodNamed Bd.named
  have hnm := (name_of_methodNamed Bd.named Bd.method).1
  have X0 : Stand p l e (⟨0, 0, 0, 0⟩ : Room) s m #[(.ref a1), (.ref a2)] below meth c s₁ [] 0 0 := Stand.of_body Bd
  have e0 : s₁.heap = h0 := by rw [← hh, Bd.state]; rfl
  have N0 := Fr.nil n0
  have pre0 : Goes p e below (s₁.setTop (entryFrame m #[(.ref a1), (.ref a2)] 3)) (s₁.setTop (mkF m 0 #[vr a1, vr a2, .unset] [])) := fun t k => castTop (ef_10 m a1 a2) k
  obtain ⟨cl359, Ar359, q359, S359, N359n, H359, G359⟩ := id (V_a1)
  obtain ⟨cl360, Ar360, q360, S360, N360n, H360, G360⟩ := id (V_a2)
  obtain ⟨cl361, Ar361, q361, S361, N361n, H361, G361⟩ := id (V_a1)
  obtain ⟨cl362, Ar362, q362, S362, N362n, H362, G362⟩ := id (V_a1)
  have hin362 : ¬ ((0 : Int32) < 0 ∨ cl362.slots.size ≤ ((0 : Int32)).toNatClampNeg) := inb_of S362 ⟨by decide, by decide⟩
  have hat362 : cl362.slots[((0 : Int32)).toNatClampNeg]? = some (.int x0) := H362.at hin362 rfl
  obtain ⟨cl363, Ar363, q363, S363, N363n, H363, G363⟩ := id (V_a2)
  have hin363 : ¬ ((0 : Int32) < 0 ∨ cl363.slots.size ≤ ((0 : Int32)).toNatClampNeg) := inb_of S363 ⟨by decide, by decide⟩
  have hat363 : cl363.slots[((0 : Int32)).toNatClampNeg]? = some (.int y0) := H363.at hin363 rfl
  obtain ⟨cl364, Ar364, q364, S364, N364n, H364, G364⟩ := id (V_a1)
  obtain ⟨cl365, Ar365, q365, S365, N365n, H365, G365⟩ := id (V_a1)
  have hin365 : ¬ ((1 : Int32) < 0 ∨ cl365.slots.size ≤ ((1 : Int32)).toNatClampNeg) := inb_of S365 ⟨by decide, by decide⟩
  have hat365 : cl365.slots[((1 : Int32)).toNatClampNeg]? = some (.int x1) := H365.at hin365 rfl
  obtain ⟨cl366, Ar366, q366, S366, N366n, H366, G366⟩ := id (V_a2)
  have hin366 : ¬ ((1 : Int32) < 0 ∨ cl366.slots.size ≤ ((1 : Int32)).toNatClampNeg) := inb_of S366 ⟨by decide, by decide⟩
  have hat366 : cl366.slots[((1 : Int32)).toNatClampNeg]? = some (.int y1) := H366.at hin366 rfl
  obtain ⟨fs, hr, hrun, hended, hW, hsame⟩ := X0.leave (v := some (.int 0)) (fun h => by rw [Bd.returns] at h; cases h)
  refine ⟨_, _, pre0 _ ?_, hrun, hended, _, _, rfl, ?_, ⟨_, rfl⟩, hW, hsame.mono (by decide) (by decide)⟩
  · show Steps p.tables e below (s₁.setTop (mkF m 0 #[vr a1, vr a2, .unset] [])) _
    refine XS.aloadN X0.here hx rfl (hb hby d10_0) rfl rfl ?_
    refine X0.arraylength hx (by rw [e0]; exact Ar359.1) (State.isArrayOf_alike hZ.alike Ar359.2.1) (g := (mkF m 1 #[vr a1, vr a2, .unset] [(.ref a1)])) rfl rfl (hb hby d10_1) _ ?_
    rw [len_of S359 N359n]
    refine XS.aloadN X0.here hx rfl (hb hby d10_2) rfl rfl ?_
    refine X0.arraylength hx (by rw [e0]; exact Ar360.1) (State.isArrayOf_alike hZ.alike Ar360.2.1) (g := (mkF m 3 #[vr a1, vr a2, .unset] [(.ref a2), (.int 2)])) rfl rfl (hb hby d10_3) _ ?_
    rw [len_of S360 N360n]
    refine XS.icmpNo X0.here hx rfl (hb hby d10_4) rfl (teq (rfl : (2 : Int32) = (2 : Int32))).2 ?_
    refine XS.iconst X0.here hx rfl (hb hby d10_7) ?_
    refine XS.istoreN X0.here hx rfl (hb hby d10_8) rfl (l' := #[vr a1, vr a2, vi 0]) rfl ?_
    refine XS.iloadN X0.here hx rfl (hb hby d10_9) rfl ?_
    refine XS.aloadN X0.here hx rfl (hb hby d10_10) rfl rfl ?_
    refine X0.arraylength hx (by rw [e0]; exact Ar361.1) (State.isArrayOf_alike hZ.alike Ar361.2.1) (g := (mkF m 11 #[vr a1, vr a2, vi 0] [(.ref a1), (.int 0)])) rfl rfl (hb hby d10_11) _ ?_
    rw [len_of S361 N361n]
    show Steps p.tables e below (s₁.setTop (mkF m 12 #[vr a1, vr a2, vi 0] [(.int 2), (.int 0)])) _
    refine XS.icmpNo X0.here hx rfl (hb hby d10_12) rfl (tlt (by decide)).2.1 ?_
    refine XS.aloadN X0.here hx rfl (hb hby d10_15) rfl rfl ?_
    refine XS.iloadN X0.here hx rfl (hb hby d10_16) rfl ?_
    refine X0.baloadBytes hx (j := (0 : Int32)) (v := (.int x0)) (by rw [e0]; exact Ar362.1) (State.isArrayOf_alike hZ.alike Ar362.2.1) Ar362.2.2 hin362 hat362 (g := (mkF m 17 #[vr a1, vr a2, vi 0] [(.int 0), (.ref a1)])) rfl rfl (hb hby d10_17) _ ?_
    refine XS.aloadN X0.here hx rfl (hb hby d10_18) rfl rfl ?_
    refine XS.iloadN X0.here hx rfl (hb hby d10_19) rfl ?_
    refine X0.baloadBytes hx (j := (0 : Int32)) (v := (.int y0)) (by rw [e0]; exact Ar363.1) (State.isArrayOf_alike hZ.alike Ar363.2.1) Ar363.2.2 hin363 hat363 (g := (mkF m 20 #[vr a1, vr a2, vi 0] [(.int 0), (.ref a2), (.int x0)])) rfl rfl (hb hby d10_20) _ ?_
    refine XS.icmpYes X0.here hx rfl (pc0 := 21) (pc' := 26) rfl (hb hby d10_21) rfl (teq he0).1 (by decide) (by decide) ?_
    refine XS.iinc X0.here hx rfl (hb hby d10_26) rfl (l' := #[vr a1, vr a2, vi 1]) rfl ?_
    refine XS.goto X0.here hx rfl (pc0 := 29) (pc' := 9) rfl (hb hby d10_29) (by decide) (by decide) ?_
    show Steps p.tables e below (s₁.setTop (mkF m 9 #[vr a1, vr a2, vi 1] [])) _
    refine XS.iloadN X0.here hx rfl (hb hby d10_9) rfl ?_
    refine XS.aloadN X0.here hx rfl (hb hby d10_10) rfl rfl ?_
    refine X0.arraylength hx (by rw [e0]; exact Ar364.1) (State.isArrayOf_alike hZ.alike Ar364.2.1) (g := (mkF m 11 #[vr a1, vr a2, vi 1] [(.ref a1), (.int 1)])) rfl rfl (hb hby d10_11) _ ?_
    rw [len_of S364 N364n]
    refine XS.icmpNo X0.here hx rfl (hb hby d10_12) rfl (tlt (by decide)).2.1 ?_
    refine XS.aloadN X0.here hx rfl (hb hby d10_15) rfl rfl ?_
    refine XS.iloadN X0.here hx rfl (hb hby d10_16) rfl ?_
    refine X0.baloadBytes hx (j := (1 : Int32)) (v := (.int x1)) (by rw [e0]; exact Ar365.1) (State.isArrayOf_alike hZ.alike Ar365.2.1) Ar365.2.2 hin365 hat365 (g := (mkF m 17 #[vr a1, vr a2, vi 1] [(.int 1), (.ref a1)])) rfl rfl (hb hby d10_17) _ ?_
    refine XS.aloadN X0.here hx rfl (hb hby d10_18) rfl rfl ?_
    refine XS.iloadN X0.here hx rfl (hb hby d10_19) rfl ?_
    refine X0.baloadBytes hx (j := (1 : Int32)) (v := (.int y1)) (by rw [e0]; exact Ar366.1) (State.isArrayOf_alike hZ.alike Ar366.2.1) Ar366.2.2 hin366 hat366 (g := (mkF m 20 #[vr a1, vr a2, vi 1] [(.int 1), (.ref a2), (.int x1)])) rfl rfl (hb hby d10_20) _ ?_
    show Steps p.tables e below (s₁.setTop (mkF m 21 #[vr a1, vr a2, vi 1] [(.int y1), (.int x1)])) _
    refine XS.icmpNo X0.here hx rfl (hb hby d10_21) rfl (feq hn).1 ?_
    refine XS.iconst X0.here hx rfl (hb hby d10_24) ?_
    exact retN X0 hx (t := .boolean) Bd.returns (by simp) (hb hby d10_25) hr
  · show Q_rmle221 Z _ _ _ _ _ _ _ _ h0 n0 _ s₁.heap _
    rw [e0]
    exact ⟨rfl, N0, rfl⟩
def Q_rmle23 (Z : State) (a1 : Addr) (a2 : Addr) (kx : ClassId) (ky : ClassId) (x0 : Int32) (x1 : Int32) (y0 : Int32) (y1 : Int32) (y2 : Int32) (h0 : Heap) (n0 : Nat) (v : Option Value) (h : Heap) (L : List Loc) : Prop := v = some (.int 0) ∧ Fr n0 L ∧ h = h0
set_option maxRecDepth 65536 in
set_option maxHeartbeats 40000000 in
theorem rmle23 (l : Launch) (Z : State) (a0 : Array Value) (hw : HW a0 Z) (ws : List Jvm.Cond) (a1 : Addr) (a2 : Addr) (kx : ClassId) (ky : ClassId) (x0 : Int32) (x1 : Int32) (y0 : Int32) (y1 : Int32) (y2 : Int32) (h0 : Heap) (n0 : Nat) (Z0 : n0 ≤ h0.size) (V_a1 : Arv Z h0 a1 kx .byte (2 : Int32) [(.int x0), (.int x1)] (.int 0)) (V_a2 : Arv Z h0 a2 ky .byte (3 : Int32) [(.int y0), (.int y1), (.int y2)] (.int 0)) :
    MF l y_10 (Jvm.Cond.code y_10 B10 3 (some .boolean) :: ws) (⟨0, 0, 0, 0⟩ : Room) Z h0 #[(.ref a1), (.ref a2)] (Q_rmle23 Z a1 a2 kx ky x0 x1 y0 y1 y2 h0 n0) := by
  refine MetFree.of_bodySF (plainFor_of_name pn_java_lang_StringLatin1) hisR ?_
  intro p e s m args below meth c s₁ Bd hml0 hP hK
  obtain ⟨rfl, hZ, hh⟩ := hP
  have hx := Bd.exec
  have hby := Bd.bytes
  have hml : c.maxLocals = 3 := hml0
  have hown : s.vm.findClass cs3 = some m.cls := findClass_of_methodNamed Bd.named
  have hnm := (name_of_methodNamed Bd.named Bd.method).1
  have X0 : Stand p l e (⟨0, 0, 0, 0⟩ : Room) s m #[(.ref a1), (.ref a2)] below meth c s₁ [] 0 0 := Stand.of_body Bd
  have e0 : s₁.heap = h0 := by rw [← hh, Bd.state]; rfl
  have N0 := Fr.nil n0
  have pre0 : Goes p e below (s₁.setTop (entryFrame m #[(.ref a1), (.ref a2)] 3)) (s₁.setTop (mkF m 0 #[vr a1, vr a2, .unset] [])) := fun t k => castTop (ef_10 m a1 a2) k
  obtain ⟨cl367, Ar367, q367, S367, N367n, H367, G367⟩ := id (V_a1)
  obtain ⟨cl368, Ar368, q368, S368, N368n, H368, G368⟩ := id (V_a2)
  obtain ⟨fs, hr, hrun, hended, hW, hsame⟩ := X0.leave (v := some (.int 0)) (fun h => by rw [Bd.returns] at h; cases h)
  refine ⟨_, _, pre0 _ ?_, hrun, hended, _, _, rfl, ?_, ⟨_, rfl⟩, hW, hsame.mono (by decide) (by decide)⟩
  · show Steps p.tables e below (s₁.setTop (mkF m 0 #[vr a1, vr a2, .unset] [])) _
    refine XS.aloadN X0.here hx rfl (hb hby d10_0) rfl rfl ?_
    refine X0.arraylength hx (by rw [e0]; exact Ar367.1) (State.isArrayOf_alike hZ.alike Ar367.2.1) (g := (mkF m 1 #[vr a1, vr a2, .unset] [(.ref a1)])) rfl rfl (hb hby d10_1) _ ?_
    rw [len_of S367 N367n]
    refine XS.aloadN X0.here hx rfl (hb hby d10_2) rfl rfl ?_
    refine X0.arraylength hx (by rw [e0]; exact Ar368.1) (State.isArrayOf_alike hZ.alike Ar368.2.1) (g := (mkF m 3 #[vr a1, vr a2, .unset] [(.ref a2), (.int 2)])) rfl rfl (hb hby d10_3) _ ?_
    rw [len_of S368 N368n]
    refine XS.icmpYes X0.here hx rfl (pc0 := 4) (pc' := 34) rfl (hb hby d10_4) rfl (feq (by decide)).2 (by decide) (by decide) ?_
    refine XS.iconst X0.here hx rfl (hb hby d10_34) ?_
    exact retN X0 hx (t := .boolean) Bd.returns (by simp) (hb hby d10_35) hr
  · show Q_rmle23 Z _ _ _ _ _ _ _ _ _ h0 n0 _ s₁.heap _
    rw [e0]
    exact ⟨rfl, N0, rfl⟩
def Q_rmle30 (Z : State) (a1 : Addr) (a2 : Addr) (kx : ClassId) (ky : ClassId) (x0 : Int32) (x1 : Int32) (x2 : Int32) (h0 : Heap) (n0 : Nat) (v : Option Value) (h : Heap) (L : List Loc) : Prop := v = some (.int 0) ∧ Fr n0 L ∧ h = h0
set_option maxRecDepth 65536 in
set_option maxHeartbeats 40000000 in
theorem rmle30 (l : Launch) (Z : State) (a0 : Array Value) (hw : HW a0 Z) (ws : List Jvm.Cond) (a1 : Addr) (a2 : Addr) (kx : ClassId) (ky : ClassId) (x0 : Int32) (x1 : Int32) (x2 : Int32) (h0 : Heap) (n0 : Nat) (Z0 : n0 ≤ h0.size) (V_a1 : Arv Z h0 a1 kx .byte (3 : Int32) [(.int x0), (.int x1), (.int x2)] (.int 0)) (V_a2 : Arv Z h0 a2 ky .byte (0 : Int32) [] (.int 0)) :
    MF l y_10 (Jvm.Cond.code y_10 B10 3 (some .boolean) :: ws) (⟨0, 0, 0, 0⟩ : Room) Z h0 #[(.ref a1), (.ref a2)] (Q_rmle30 Z a1 a2 kx ky x0 x1 x2 h0 n0) := by
  refine MetFree.of_bodySF (plainFor_of_name pn_java_lang_StringLatin1) hisR ?_
  intro p e s m args below meth c s₁ Bd hml0 hP hK
  obtain ⟨rfl, hZ, hh⟩ := hP
  have hx := Bd.exec
  have hby := Bd.bytes
  have hml : c.maxLocals = 3 := hml0
  have hown : s.vm.findClass cs3 = some m.cls := findClass_of_methodNamed Bd.named
  have hnm := (name_of_methodNamed Bd.named Bd.method).1
  have X0 : Stand p l e (⟨0, 0, 0, 0⟩ : Room) s m #[(.ref a1), (.ref a2)] below meth c s₁ [] 0 0 := Stand.of_body Bd
  have e0 : s₁.heap = h0 := by rw [← hh, Bd.state]; rfl
  have N0 := Fr.nil n0
  have pre0 : Goes p e below (s₁.setTop (entryFrame m #[(.ref a1), (.ref a2)] 3)) (s₁.setTop (mkF m 0 #[vr a1, vr a2, .unset] [])) := fun t k => castTop (ef_10 m a1 a2) k
  obtain ⟨cl369, Ar369, q369, S369, N369n, H369, G369⟩ := id (V_a1)
  obtain ⟨cl370, Ar370, q370, S370, N370n, H370, G370⟩ := id (V_a2)
  obtain ⟨fs, hr, hrun, hended, hW, hsame⟩ := X0.leave (v := some (.int 0)) (fun h => by rw [Bd.returns] at h; cases h)
  refine ⟨_, _, pre0 _ ?_, hrun, hended, _, _, rfl, ?_, ⟨_, rfl⟩, hW, hsame.mono (by decide) (by decide)⟩
  · show Steps p.tables e below (s₁.setTop (mkF m 0 #[vr a1, vr a2, .unset] [])) _
    refine XS.aloadN X0.here hx rfl (hb hby d10_0) rfl rfl ?_
    refine X0.arraylength hx (by rw [e0]; exact Ar369.1) (State.isArrayOf_alike hZ.alike Ar369.2.1) (g := (mkF m 1 #[vr a1, vr a2, .unset] [(.ref a1)])) rfl rfl (hb hby d10_1) _ ?_
    rw [len_of S369 N369n]
    refine XS.aloadN X0.here hx rfl (hb hby d10_2) rfl rfl ?_
    refine X0.arraylength hx (by rw [e0]; exact Ar370.1) (State.isArrayOf_alike hZ.alike Ar370.2.1) (g := (mkF m 3 #[vr a1, vr a2, .unset] [(.ref a2), (.int 3)])) rfl rfl (hb hby d10_3) _ ?_
    rw [len_of S370 N370n]
    refine XS.icmpYes X0.here hx rfl (pc0 := 4) (pc' := 34) rfl (hb hby d10_4) rfl (feq (by decide)).2 (by decide) (by decide) ?_
    refine XS.iconst X0.here hx rfl (hb hby d10_34) ?_
    exact retN X0 hx (t := .boolean) Bd.returns (by simp) (hb hby d10_35) hr
  · show Q_rmle30 Z _ _ _ _ _ _ _ h0 n0 _ s₁.heap _
    rw [e0]
    exact ⟨rfl, N0, rfl⟩
def Q_rmle31 (Z : State) (a1 : Addr) (a2 : Addr) (kx : ClassId) (ky : ClassId) (x0 : Int32) (x1 : Int32) (x2 : Int32) (y0 : Int32) (h0 : Heap) (n0 : Nat) (v : Option Value) (h : Heap) (L : List Loc) : Prop := v = some (.int 0) ∧ Fr n0 L ∧ h = h0
set_option maxRecDepth 65536 in
set_option maxHeartbeats 40000000 in
theorem rmle31 (l : Launch) (Z : State) (a0 : Array Value) (hw : HW a0 Z) (ws : List Jvm.Cond) (a1 : Addr) (a2 : Addr) (kx : ClassId) (ky : ClassId) (x0 : Int32) (x1 : Int32) (x2 : Int32) (y0 : Int32) (h0 : Heap) (n0 : Nat) (Z0 : n0 ≤ h0.size) (V_a1 : Arv Z h0 a1 kx .byte (3 : Int32) [(.int x0), (.int x1), (.int x2)] (.int 0)) (V_a2 : Arv Z h0 a2 ky .byte (1 : Int32) [(.int y0)] (.int 0)) :
    MF l y_10 (Jvm.Cond.code y_10 B10 3 (some .boolean) :: ws) (⟨0, 0, 0, 0⟩ : Room) Z h0 #[(.ref a1), (.ref a2)] (Q_rmle31 Z a1 a2 kx ky x0 x1 x2 y0 h0 n0) := by
  refine MetFree.of_bodySF (plainFor_of_name pn_java_lang_StringLatin1) hisR ?_
  intro p e s m args below meth c s₁ Bd hml0 hP hK
  obtain ⟨rfl, hZ, hh⟩ := hP
  have hx := Bd.exec
  have hby := Bd.bytes
  have hml : c.maxLocals = 3 := hml0
  have hown : s.vm.findClass cs3 = some m.cls := findClass_of_methodNamed Bd.named
  have hnm := (name_of_methodNamed Bd.named Bd.method).1
  have X0 : Stand p l e (⟨0, 0, 0, 0⟩ : Room) s m #[(.ref a1), (.ref a2)] below meth c s₁ [] 0 0 := Stand.of_body Bd
  have e0 : s₁.heap = h0 := by rw [← hh, Bd.state]; rfl
  have N0 := Fr.nil n0
  have pre0 : Goes p e below (s₁.setTop (entryFrame m #[(.ref a1), (.ref a2)] 3)) (s₁.setTop (mkF m 0 #[vr a1, vr a2, .unset] [])) := fun t k => castTop (ef_10 m a1 a2) k
  obtain ⟨cl371, Ar371, q371, S371, N371n, H371, G371⟩ := id (V_a1)
  obtain ⟨cl372, Ar372, q372, S372, N372n, H372, G372⟩ := id (V_a2)
  obtain ⟨fs, hr, hrun, hended, hW, hsame⟩ := X0.leave (v := some (.int 0)) (fun h => by rw [Bd.returns] at h; cases h)
  refine ⟨_, _, pre0 _ ?_, hrun, hended, _, _, rfl, ?_, ⟨_, rfl⟩, hW, hsame.mono (by decide) (by decide)⟩
  · show Steps p.tables e below (s₁.setTop (mkF m 0 #[vr a1, vr a2, .unset] [])) _
    refine XS.aloadN X0.here hx rfl (hb hby d10_0) rfl rfl ?_
    refine X0.arraylength hx (by rw [e0]; exact Ar371.1) (State.isArrayOf_alike hZ.alike Ar371.2.1) (g := (mkF m 1 #[vr a1, vr a2, .unset] [(.ref a1)])) rfl rfl (hb hby d10_1) _ ?_
    rw [len_of S371 N371n]
    refine XS.aloadN X0.here hx rfl (hb hby d10_2) rfl rfl ?_
    refine X0.arraylength hx (by rw [e0]; exact Ar372.1) (State.isArrayOf_alike hZ.alike Ar372.2.1) (g := (mkF m 3 #[vr a1, vr a2, .unset] [(.ref a2), (.int 3)])) rfl rfl (hb hby d10_3) _ ?_
    rw [len_of S372 N372n]
    refine XS.icmpYes X0.here hx rfl (pc0 := 4) (pc' := 34) rfl (hb hby d10_4) rfl (feq (by decide)).2 (by decide) (by decide) ?_
    refine XS.iconst X0.here hx rfl (hb hby d10_34) ?_
    exact retN X0 hx (t := .boolean) Bd.returns (by simp) (hb hby d10_35) hr
  · show Q_rmle31 Z _ _ _ _ _ _ _ _ h0 n0 _ s₁.heap _
    rw [e0]
    exact ⟨rfl, N0, rfl⟩
def Q_rmle32 (Z : State) (a1 : Addr) (a2 : Addr) (kx : ClassId) (ky : ClassId) (x0 : Int32) (x1 : Int32) (x2 : Int32) (y0 : Int32) (y1 : Int32) (h0 : Heap) (n0 : Nat) (v : Option Value) (h : Heap) (L : List Loc) : Prop := v = some (.int 0) ∧ Fr n0 L ∧ h = h0
set_option maxRecDepth 65536 in
set_option maxHeartbeats 40000000 in
theorem rmle32 (l : Launch) (Z : State) (a0 : Array Value) (hw : HW a0 Z) (ws : List Jvm.Cond) (a1 : Addr) (a2 : Addr) (kx : ClassId) (ky : ClassId) (x0 : Int32) (x1 : Int32) (x2 : Int32) (y0 : Int32) (y1 : Int32) (h0 : Heap) (n0 : Nat) (Z0 : n0 ≤ h0.size) (V_a1 : Arv Z h0 a1 kx .byte (3 : Int32) [(.int x0), (.int x1), (.int x2)] (.int 0)) (V_a2 : Arv Z h0 a2 ky .byte (2 : Int32) [(.int y0), (.int y1)] (.int 0)) :
    MF l y_10 (Jvm.Cond.code y_10 B10 3 (some .boolean) :: ws) (⟨0, 0, 0, 0⟩ : Room) Z h0 #[(.ref a1), (.ref a2)] (Q_rmle32 Z a1 a2 kx ky x0 x1 x2 y0 y1 h0 n0) := by
  refine MetFree.of_bodySF (plainFor_of_name pn_java_lang_StringLatin1) hisR ?_
  intro p e s m args below meth c s₁ Bd hml0 hP hK
  obtain ⟨rfl, hZ, hh⟩ := hP
  have hx := Bd.exec
  have hby := Bd.bytes
  have hml : c.maxLocals = 3 := hml0
  have hown : s.vm.findClass cs3 = some m.cls := findClass_of_methodNamed Bd.named
  have hnm := (name_of_methodNamed Bd.named Bd.method).1
  have X0 : Stand p l e (⟨0, 0, 0, 0⟩ : Room) s m #[(.ref a1), (.ref a2)] below meth c s₁ [] 0 0 := Stand.of_body Bd
  have e0 : s₁.heap = h0 := by rw [← hh, Bd.state]; rfl
  have N0 := Fr.nil n0
  have pre0 : Goes p e below (s₁.setTop (entryFrame m #[(.ref a1), (.ref a2)] 3)) (s₁.setTop (mkF m 0 #[vr a1, vr a2, .unset] [])) := fun t k => castTop (ef_10 m a1 a2) k
  obtain ⟨cl373, Ar373, q373, S373, N373n, H373, G373⟩ := id (V_a1)
  obtain ⟨cl374, Ar374, q374, S374, N374n, H374, G374⟩ := id (V_a2)
  obtain ⟨fs, hr, hrun, hended, hW, hsame⟩ := X0.leave (v := some (.int 0)) (fun h => by rw [Bd.returns] at h; cases h)
  refine ⟨_, _, pre0 _ ?_, hrun, hended, _, _, rfl, ?_, ⟨_, rfl⟩, hW, hsame.mono (by decide) (by decide)⟩
  · show Steps p.tables e below (s₁.setTop (mkF m 0 #[vr a1, vr a2, .unset] [])) _
    refine XS.aloadN X0.here hx rfl (hb hby d10_0) rfl rfl ?_
    refine X0.arraylength hx (by rw [e0]; exact Ar373.1) (State.isArrayOf_alike hZ.alike Ar373.2.1) (g := (mkF m 1 #[vr a1, vr a2, .unset] [(.ref a1)])) rfl rfl (hb hby d10_1) _ ?_
    rw [len_of S373 N373n]
    refine XS.aloadN X0.here hx rfl (hb hby d10_2) rfl rfl ?_
    refine X0.arraylength hx (by rw [e0]; exact Ar374.1) (State.isArrayOf_alike hZ.alike Ar374.2.1) (g := (mkF m 3 #[vr a1, vr a2, .unset] [(.ref a2), (.int 3)])) rfl rfl (hb hby d10_3) _ ?_
    rw [len_of S374 N374n]
    refine XS.icmpYes X0.here hx rfl (pc0 := 4) (pc' := 34) rfl (hb hby d10_4) rfl (feq (by decide)).2 (by decide) (by decide) ?_
    refine XS.iconst X0.here hx rfl (hb hby d10_34) ?_
    exact retN X0 hx (t := .boolean) Bd.returns (by simp) (hb hby d10_35) hr
  · show Q_rmle32 Z _ _ _ _ _ _ _ _ _ h0 n0 _ s₁.heap _
    rw [e0]
    exact ⟨rfl, N0, rfl⟩
def Q_rmle33eq (Z : State) (a1 : Addr) (a2 : Addr) (kx : ClassId) (ky : ClassId) (x0 : Int32) (x1 : Int32) (x2 : Int32) (y0 : Int32) (y1 : Int32) (y2 : Int32) (h0 : Heap) (n0 : Nat) (v : Option Value) (h : Heap) (L : List Loc) : Prop := v = some (.int 1) ∧ Fr n0 L ∧ h = h0
set_option maxRecDepth 65536 in
set_option maxHeartbeats 40000000 in
theorem rmle33eq (l : Launch) (Z : State) (a0 : Array Value) (hw : HW a0 Z) (ws : List Jvm.Cond) (a1 : Addr) (a2 : Addr) (kx : ClassId) (ky : ClassId) (x0 : Int32) (x1 : Int32) (x2 : Int32) (y0 : Int32) (y1 : Int32) (y2 : Int32) (h0 : Heap) (n0 : Nat) (Z0 : n0 ≤ h0.size) (V_a1 : Arv Z h0 a1 kx .byte (3 : Int32) [(.int x0), (.int x1), (.int x2)] (.int 0)) (V_a2 : Arv Z h0 a2 ky .byte (3 : Int32) [(.int y0), (.int y1), (.int y2)] (.int 0)) (he0 : x0 = y0) (he1 : x1 = y1) (he2 : x2 = y2) :
    MF l y_10 (Jvm.Cond.code y_10 B10 3 (some .boolean) :: ws) (⟨0, 0, 0, 0⟩ : Room) Z h0 #[(.ref a1), (.ref a2)] (Q_rmle33eq Z a1 a2 kx ky x0 x1 x2 y0 y1 y2 h0 n0) := by
  refine MetFree.of_bodySF (plainFor_of_name pn_java_lang_StringLatin1) hisR ?_
  intro p e s m args below meth c s₁ Bd hml0 hP hK
  obtain ⟨rfl, hZ, hh⟩ := hP
  have hx := Bd.exec
  have hby := Bd.bytes
  have hml : c.maxLocals = 3 := hml0
  have hown : s.vm.findClass cs3 = some m.cls := findClass_of_methodNamed Bd.named
  have hnm := (name_of_methodNamed Bd.named Bd.method).1
  have X0 : Stand p l e (⟨0, 0, 0, 0⟩ : Room) s m #[(.ref a1), (.ref a2)] below meth c s₁ [] 0 0 := Stand.of_body Bd
  have e0 : s₁.heap = h0 := by rw [← hh, Bd.state]; rfl
  have N0 := Fr.nil n0
  have pre0 : Goes p e below (s₁.setTop (entryFrame m #[(.ref a1), (.ref a2)] 3)) (s₁.setTop (mkF m 0 #[vr a1, vr a2, .unset] [])) := fun t k => castTop (ef_10 m a1 a2) k
  obtain ⟨cl375, Ar375, q375, S375, N375n, H375, G375⟩ := id (V_a1)
  obtain ⟨cl376, Ar376, q376, S376, N376n, H376, G376⟩ := id (V_a2)
  obtain ⟨cl377, Ar377, q377, S377, N377n, H377, G377⟩ := id (V_a1)
  obtain ⟨cl378, Ar378, q378, S378, N378n, H378, G378⟩ := id (V_a1)
  have hin378 : ¬ ((0 : Int32) < 0 ∨ cl378.slots.size ≤ ((0 : Int32)).toNatClampNeg) := inb_of S378 ⟨by decide, by decide⟩
  have hat378 : cl378.slots[((0 : Int32)).toNatClampNeg]? = some (.int x0) := H378.at hin378 rfl
  obtain ⟨cl379, Ar379, q379, S379, N379n, H379, G379⟩ := id (V_a2)
  have hin379 : ¬ ((0 : Int32) < 0 ∨ cl379.slots.size ≤ ((0 : Int32)).toNatClampNeg) := inb_of S379 ⟨by decide, by decide⟩
  have hat379 : cl379.slots[((0 : Int32)).toNatClampNeg]? = some (.int y0) := H379.at hin379 rfl
  obtain ⟨cl380, Ar380, q380, S380, N380n, H380, G380⟩ := id (V_a1)
  obtain ⟨cl381, Ar381, q381, S381, N381n, H381, G381⟩ := id (V_a1)
  have hin381 : ¬ ((1 : Int32) < 0 ∨ cl381.slots.size ≤ ((1 : Int32)).toNatClampNeg) := inb_of S381 ⟨by decide, by decide⟩
  have hat381 : cl381.slots[((1 : Int32)).toNatClampNeg]? = some (.int x1) := H381.at hin381 rfl
  obtain ⟨cl382, Ar382, q382, S382, N382n, H382, G382⟩ := id (V_a2)
  have hin382 : ¬ ((1 : Int32) < 0 ∨ cl382.slots.size ≤ ((1 : Int32)).toNatClampNeg) := inb_of S382 ⟨by decide, by decide⟩
  have hat382 : cl382.slots[((1 : Int32)).toNatClampNeg]? = some (.int y1) := H382.at hin382 rfl
  obtain ⟨cl383, Ar383, q383, S383, N383n, H383, G383⟩ := id (V_a1)
  obtain ⟨cl384, Ar384, q384, S384, N384n, H384, G384⟩ := id (V_a1)
  have hin384 : ¬ ((2 : Int32) < 0 ∨ cl384.slots.size ≤ ((2 : Int32)).toNatClampNeg) := inb_of S384 ⟨by decide, by decide⟩
  have hat384 : cl384.slots[((2 : Int32)).toNatClampNeg]? = some (.int x2) := H384.at hin384 rfl
  obtain ⟨cl385, Ar385, q385, S385, N385n, H385, G385⟩ := id (V_a2)
  have hin385 : ¬ ((2 : Int32) < 0 ∨ cl385.slots.size ≤ ((2 : Int32)).toNatClampNeg) := inb_of S385 ⟨by decide, by decide⟩
  have hat385 : cl385.slots[((2 : Int32)).toNatClampNeg]? = some (.int y2) := H385.at hin385 rfl
  obtain ⟨cl386, Ar386, q386, S386, N386n, H386, G386⟩ := id (V_a1)
  obtain ⟨fs, hr, hrun, hended, hW, hsame⟩ := X0.leave (v := some (.int 1)) (fun h => by rw [Bd.returns] at h; cases h)
  refine ⟨_, _, pre0 _ ?_, hrun, hended, _, _, rfl, ?_, ⟨_, rfl⟩, hW, hsame.mono (by decide) (by decide)⟩
  · show Steps p.tables e below (s₁.setTop (mkF m 0 #[vr a1, vr a2, .unset] [])) _
    refine XS.aloadN X0.here hx rfl (hb hby d10_0) rfl rfl ?_
    refine X0.arraylength hx (by rw [e0]; exact Ar375.1) (State.isArrayOf_alike hZ.alike Ar375.2.1) (g := (mkF m 1 #[vr a1, vr a2, .unset] [(.ref a1)])) rfl rfl (hb hby d10_1) _ ?_
    rw [len_of S375 N375n]
    refine XS.aloadN X0.here hx rfl (hb hby d10_2) rfl rfl ?_
    refine X0.arraylength hx (by rw [e0]; exact Ar376.1) (State.isArrayOf_alike hZ.alike Ar376.2.1) (g := (mkF m 3 #[vr a1, vr a2, .unset] [(.ref a2), (.int 3)])) rfl rfl (hb hby d10_3) _ ?_
    rw [len_of S376 N376n]
    refine XS.icmpNo X0.here hx rfl (hb hby d10_4) rfl (teq (rfl : (3 : Int32) = (3 : Int32))).2 ?_
    refine XS.iconst X0.here hx rfl (hb hby d10_7) ?_
    refine XS.istoreN X0.here hx rfl (hb hby d10_8) rfl (l' := #[vr a1, vr a2, vi 0]) rfl ?_
    refine XS.iloadN X0.here hx rfl (hb hby d10_9) rfl ?_
    refine XS.aloadN X0.here hx rfl (hb hby d10_10) rfl rfl ?_
    refine X0.arraylength hx (by rw [e0]; exact Ar377.1) (State.isArrayOf_alike hZ.alike Ar377.2.1) (g := (mkF m 11 #[vr a1, vr a2, vi 0] [(.ref a1), (.int 0)])) rfl rfl (hb hby d10_11) _ ?_
    rw [len_of S377 N377n]
    show Steps p.tables e below (s₁.setTop (mkF m 12 #[vr a1, vr a2, vi 0] [(.int 3), (.int 0)])) _
    refine XS.icmpNo X0.here hx rfl (hb hby d10_12) rfl (tlt (by decide)).2.1 ?_
    refine XS.aloadN X0.here hx rfl (hb hby d10_15) rfl rfl ?_
    refine XS.iloadN X0.here hx rfl (hb hby d10_16) rfl ?_
    refine X0.baloadBytes hx (j := (0 : Int32)) (v := (.int x0)) (by rw [e0]; exact Ar378.1) (State.isArrayOf_alike hZ.alike Ar378.2.1) Ar378.2.2 hin378 hat378 (g := (mkF m 17 #[vr a1, vr a2, vi 0] [(.int 0), (.ref a1)])) rfl rfl (hb hby d10_17) _ ?_
    refine XS.aloadN X0.here hx rfl (hb hby d10_18) rfl rfl ?_
    refine XS.iloadN X0.here hx rfl (hb hby d10_19) rfl ?_
    refine X0.baloadBytes hx (j := (0 : Int32)) (v := (.int y0)) (by rw [e0]; exact Ar379.1) (State.isArrayOf_alike hZ.alike Ar379.2.1) Ar379.2.2 hin379 hat379 (g := (mkF m 20 #[vr a1, vr a2, vi 0] [(.int 0), (.ref a2), (.int x0)])) rfl rfl (hb hby d10_20) _ ?_
    refine XS.icmpYes X0.here hx rfl (pc0 := 21) (pc' := 26) rfl (hb hby d10_21) rfl (teq he0).1 (by decide) (by decide) ?_
    refine XS.iinc X0.here hx rfl (hb hby d10_26) rfl (l' := #[vr a1, vr a2, vi 1]) rfl ?_
    refine XS.goto X0.here hx rfl (pc0 := 29) (pc' := 9) rfl (hb hby d10_29) (by decide) (by decide) ?_
    show Steps p.tables e below (s₁.setTop (mkF m 9 #[vr a1, vr a2, vi 1] [])) _
    refine XS.iloadN X0.here hx rfl (hb hby d10_9) rfl ?_
    refine XS.aloadN X0.here hx rfl (hb hby d10_10) rfl rfl ?_
    refine X0.arraylength hx (by rw [e0]; exact Ar380.1) (State.isArrayOf_alike hZ.alike Ar380.2.1) (g := (mkF m 11 #[vr a1, vr a2, vi 1] [(.ref a1), (.int 1)])) rfl rfl (hb hby d10_11) _ ?_
    rw [len_of S380 N380n]
    refine XS.icmpNo X0.here hx rfl (hb hby d10_12) rfl (tlt (by decide)).2.1 ?_
    refine XS.aloadN X0.here hx rfl (hb hby d10_15) rfl rfl ?_
    refine XS.iloadN X0.here hx rfl (hb hby d10_16) rfl ?_
    refine X0.baloadBytes hx (j := (1 : Int32)) (v := (.int x1)) (by rw [e0]; exact Ar381.1) (State.isArrayOf_alike hZ.alike Ar381.2.1) Ar381.2.2 hin381 hat381 (g := (mkF m 17 #[vr a1, vr a2, vi 1] [(.int 1), (.ref a1)])) rfl rfl (hb hby d10_17) _ ?_
    refine XS.aloadN X0.here hx rfl (hb hby d10_18) rfl rfl ?_
    refine XS.iloadN X0.here hx rfl (hb hby d10_19) rfl ?_
    refine X0.baloadBytes hx (j := (1 : Int32)) (v := (.int y1)) (by rw [e0]; exact Ar382.1) (State.isArrayOf_alike hZ.alike Ar382.2.1) Ar382.2.2 hin382 hat382 (g := (mkF m 20 #[vr a1, vr a2, vi 1] [(.int 1), (.ref a2), (.int x1)])) rfl rfl (hb hby d10_20) _ ?_
    show Steps p.tables e below (s₁.setTop (mkF m 21 #[vr a1, vr a2, vi 1] [(.int y1), (.int x1)])) _
    refine XS.icmpYes X0.here hx rfl (pc0 := 21) (pc' := 26) rfl (hb hby d10_21) rfl (teq he1).1 (by decide) (by decide) ?_
    refine XS.iinc X0.here hx rfl (hb hby d10_26) rfl (l' := #[vr a1, vr a2, vi 2]) rfl ?_
    refine XS.goto X0.here hx rfl (pc0 := 29) (pc' := 9) rfl (hb hby d10_29) (by decide) (by decide) ?_
    refine XS.iloadN X0.here hx rfl (hb hby d10_9) rfl ?_
    refine XS.aloadN X0.here hx rfl (hb hby d10_10) rfl rfl ?_
    refine X0.arraylength hx (by rw [e0]; exact Ar383.1) (State.isArrayOf_alike hZ.alike Ar383.2.1) (g := (mkF m 11 #[vr a1, vr a2, vi 2] [(.ref a1), (.int 2)])) rfl rfl (hb hby d10_11) _ ?_
    rw [len_of S383 N383n]
    refine XS.icmpNo X0.here hx rfl (hb hby d10_12) rfl (tlt (by decide)).2.1 ?_
    refine XS.aloadN X0.here hx rfl (hb hby d10_15) rfl rfl ?_
    refine XS.iloadN X0.here hx rfl (hb hby d10_16) rfl ?_
    refine X0.baloadBytes hx (j := (2 : Int32)) (v := (.int x2)) (by rw [e0]; exact Ar384.1) (State.isArrayOf_alike hZ.alike Ar384.2.1) Ar384.2.2 hin384 hat384 (g := (mkF m 17 #[vr a1, vr a2, vi 2] [(.int 2), (.ref a1)])) rfl rfl (hb hby d10_17) _ ?_
    show Steps p.tables e below (s₁.setTop (mkF m 18 #[vr a1, vr a2, vi 2] [(.int x2)])) _
    refine XS.aloadN X0.here hx rfl (hb hby d10_18) rfl rfl ?_
    refine XS.iloadN X0.here hx rfl (hb hby d10_19) rfl ?_
    refine X0.baloadBytes hx (j := (2 : Int32)) (v := (.int y2)) (by rw [e0]; exact Ar385.1) (State.isArrayOf_alike hZ.alike Ar385.2.1) Ar385.2.2 hin385 hat385 (g := (mkF m 20 #[vr a1, vr a2, vi 2] [(.int 2), (.ref a2), (.int x2)])) rfl rfl (hb hby d10_20) _ ?_
    refine XS.icmpYes X0.here hx rfl (pc0 := 21) (pc' := 26) rfl (hb hby d10_21) rfl (teq he2).1 (by decide) (by decide) ?_
    refine XS.iinc X0.here hx rfl (hb hby d10_26) rfl (l' := #[vr a1, vr a2, vi 3]) rfl ?_
    refine XS.goto X0.here hx rfl (pc0 := 29) (pc' := 9) rfl (hb hby d10_29) (by decide) (by decide) ?_
    refine XS.iloadN X0.here hx rfl (hb hby d10_9) rfl ?_
    refine XS.aloadN X0.here hx rfl (hb hby d10_10) rfl rfl ?_
    refine X0.arraylength hx (by rw [e0]; exact Ar386.1) (State.isArrayOf_alike hZ.alike Ar386.2.1) (g := (mkF m 11 #[vr a1, vr a2, vi 3] [(.ref a1), (.int 3)])) rfl rfl (hb hby d10_11) _ ?_
    rw [len_of S386 N386n]
    refine XS.icmpYes X0.here hx rfl (pc0 := 12) (pc' := 32) rfl (hb hby d10_12) rfl (flt (by decide)).2.1 (by decide) (by decide) ?_
    show Steps p.tables e below (s₁.setTop (mkF m 32 #[vr a1, vr a2, vi 3] [])) _
    refine XS.iconst X0.here hx rfl (hb hby d10_32) ?_
    exact retN X0 hx (t := .boolean) Bd.returns (by simp) (hb hby d10_33) hr
  · show Q_rmle33eq Z _ _ _ _ _ _ _ _ _ _ h0 n0 _ s₁.heap _
    rw [e0]
    exact ⟨rfl, N0, rfl⟩
def Q_rmle330 (Z : State) (a1 : Addr) (a2 : Addr) (kx : ClassId) (ky : ClassId) (x0 : Int32) (x1 : Int32) (x2 : Int32) (y0 : Int32) (y1 : Int32) (y2 : Int32) (h0 : Heap) (n0 : Nat) (v : Option Value) (h : Heap) (L : List Loc) : Prop := v = some (.int 0) ∧ Fr n0 L ∧ h = h0
set_option maxRecDepth 65536 in
set_option maxHeartbeats 40000000 in
theorem rmle330 (l : Launch) (Z : State) (a0 : Array Value) (hw : HW a0 Z) (ws : List Jvm.Cond) (a1 : Addr) (a2 : Addr) (kx : ClassId) (ky : ClassId) (x0 : Int32) (x1 : Int32) (x2 : Int32) (y0 : Int32) (y1 : Int32) (y2 : Int32) (h0 : Heap) (n0 : Nat) (Z0 : n0 ≤ h0.size) (V_a1 : Arv Z h0 a1 kx .byte (3 : Int32) [(.int x0), (.int x1), (.int x2)] (.int 0)) (V_a2 : Arv Z h0 a2 ky .byte (3 : Int32) [(.int y0), (.int y1), (.int y2)] (.int 0)) (hn : ¬ (x0 = y0)) :
    MF l y_10 (Jvm.Cond.code y_10 B10 3 (some .boolean) :: ws) (⟨0, 0, 0, 0⟩ : Room) Z h0 #[(.ref a1), (.ref a2)] (Q_rmle330 Z a1 a2 kx ky x0 x1 x2 y0 y1 y2 h0 n0) := by
  refine MetFree.of_bodySF (plainFor_of_name pn_java_lang_StringLatin1) hisR ?_
  intro p e s m args below meth c s₁ Bd hml0 hP hK
  obtain ⟨rfl, hZ, hh⟩ := hP
  have hx := Bd.exec
  have hby := Bd.bytes
  have hml : c.maxLocals = 3 := hml0
  have hown : s.vm.findClass cs3 = some m.cls := findClass_of_methodNamed Bd.named
  have hnm := (name_of_methodNamed Bd.named Bd.method).1
  have X0 : Stand p l e (⟨0, 0, 0, 0⟩ : Room) s m #[(.ref a1), (.ref a2)] below meth c s₁ [] 0 0 := Stand.of_body Bd
  have e0 : s₁.heap = h0 := by rw [← hh, Bd.state]; rfl
  have N0 := Fr.nil n0
  have pre0 : Goes p e below (s₁.setTop (entryFrame m #[(.ref a1), (.ref a2)] 3)) (s₁.setTop (mkF m 0 #[vr a1, vr a2, .unset] [])) := fun t k => castTop (ef_10 m a1 a2) k
  obtain ⟨cl387, Ar387, q387, S387, N387n, H387, G387⟩ := id (V_a1)
  obtain ⟨cl388, Ar388, q388, S388, N388n, H388, G388⟩ := id (V_a2)
  obtain ⟨cl389, Ar389, q389, S389, N389n, H389, G389⟩ := id (V_a1)
  obtain ⟨cl390, Ar390, q390, S390, N390n, H390, G390⟩ := id (V_a1)
  have hin390 : ¬ ((0 : Int32) < 0 ∨ cl390.slots.size ≤ ((0 : Int32)).toNatClampNeg) := inb_of S390 ⟨by decide, by decide⟩
  have hat390 : cl390.slots[((0 : Int32)).toNatClampNeg]? = some (.int x0) := H390.at hin390 rfl
  obtain ⟨cl391, Ar391, q391, S391, N391n, H391, G391⟩ := id (V_a2)
  have hin391 : ¬ ((0 : Int32) < 0 ∨ cl391.slots.size ≤ ((0 : Int32)).toNatClampNeg) := inb_of S391 ⟨by decide, by decide⟩
  have hat391 : cl391.slots[((0 : Int32)).toNatClampNeg]? = some (.int y0) := H391.at hin391 rfl
  obtain ⟨fs, hr, hrun, hended, hW, hsame⟩ := X0.leave (v := some (.int 0)) (fun h => by rw [Bd.returns] at h; cases h)
  refine ⟨_, _, pre0 _ ?_, hrun, hended, _, _, rfl, ?_, ⟨_, rfl⟩, hW, hsame.mono (by decide) (by decide)⟩
  · show Steps p.tables e below (s₁.setTop (mkF m 0 #[vr a1, vr a2, .unset] [])) _
    refine XS.aloadN X0.here hx rfl (hb hby d10_0) rfl rfl ?_
    refine X0.arraylength hx (by rw [e0]; exact Ar387.1) (State.isArrayOf_alike hZ.alike Ar387.2.1) (g := (mkF m 1 #[vr a1, vr a2, .unset] [(.ref a1)])) rfl rfl (hb hby d10_1) _ ?_
    rw [len_of S387 N387n]
    refine XS.aloadN X0.here hx rfl (hb hby d10_2) rfl rfl ?_
    refine X0.arraylength hx (by rw [e0]; exact Ar388.1) (State.isArrayOf_alike hZ.alike Ar388.2.1) (g := (mkF m 3 #[vr a1, vr a2, .unset] [(.ref a2), (.int 3)])) rfl rfl (hb hby d10_3) _ ?_
    rw [len_of S388 N388n]
    refine XS.icmpNo X0.here hx rfl (hb hby d10_4) rfl (teq (rfl : (3 : Int32) = (3 : Int32))).2 ?_
    refine XS.iconst X0.here hx rfl (hb hby d10_7) ?_
    refine XS.istoreN X0.here hx rfl (hb hby d10_8) rfl (l' := #[vr a1, vr a2, vi 0]) rfl ?_
    refine XS.iloadN X0.here hx rfl (hb hby d10_9) rfl ?_
    refine XS.aloadN X0.here hx rfl (hb hby d10_10) rfl rfl ?_
    refine X0.arraylength hx (by rw [e0]; exact Ar389.1) (State.isArrayOf_alike hZ.alike Ar389.2.1) (g := (mkF m 11 #[vr a1, vr a2, vi 0] [(.ref a1), (.int 0)])) rfl rfl (hb hby d10_11) _ ?_
    rw [len_of S389 N389n]
    show Steps p.tables e below (s₁.setTop (mkF m 12 #[vr a1, vr a2, vi 0] [(.int 3), (.int 0)])) _
    refine XS.icmpNo X0.here hx rfl (hb hby d10_12) rfl (tlt (by decide)).2.1 ?_
    refine XS.aloadN X0.here hx rfl (hb hby d10_15) rfl rfl ?_
    refine XS.iloadN X0.here hx rfl (hb hby d10_16) rfl ?_
    refine X0.baloadBytes hx (j := (0 : Int32)) (v := (.int x0)) (by rw [e0]; exact Ar390.1) (State.isArrayOf_alike hZ.alike Ar390.2.1) Ar390.2.2 hin390 hat390 (g := (mkF m 17 #[vr a1, vr a2, vi 0] [(.int 0), (.ref a1)])) rfl rfl (hb hby d10_17) _ ?_
    refine XS.aloadN X0.here hx rfl (hb hby d10_18) rfl rfl ?_
    refine XS.iloadN X0.here hx rfl (hb hby d10_19) rfl ?_
    refine X0.baloadBytes hx (j := (0 : Int32)) (v := (.int y0)) (by rw [e0]; exact Ar391.1) (State.isArrayOf_alike hZ.alike Ar391.2.1) Ar391.2.2 hin391 hat391 (g := (mkF m 20 #[vr a1, vr a2, vi 0] [(.int 0), (.ref a2), (.int x0)])) rfl rfl (hb hby d10_20) _ ?_
    refine XS.icmpNo X0.here hx rfl (hb hby d10_21) rfl (feq hn).1 ?_
    refine XS.iconst X0.here hx rfl (hb hby d10_24) ?_
    exact retN X0 hx (t := .boolean) Bd.returns (by simp) (hb hby d10_25) hr
  · show Q_rmle330 Z _ _ _ _ _ _ _ _ _ _ h0 n0 _ s₁.heap _
    rw [e0]
    exact ⟨rfl, N0, rfl⟩
def Q_rmle331 (Z : State) (a1 : Addr) (a2 : Addr) (kx : ClassId) (ky : ClassId) (x0 : Int32) (x1 : Int32) (x2 : Int32) (y0 : Int32) (y1 : Int32) (y2 : Int32) (h0 : Heap) (n0 : Nat) (v : Option Value) (h : Heap) (L : List Loc) : Prop := v = some (.int 0) ∧ Fr n0 L ∧ h = h0
set_option maxRecDepth 65536 in
set_option maxHeartbeats 40000000 in
theorem rmle331 (l : Launch) (Z : State) (a0 : Array Value) (hw : HW a0 Z) (ws : List Jvm.Cond) (a1 : Addr) (a2 : Addr) (kx : ClassId) (ky : ClassId) (x0 : Int32) (x1 : Int32) (x2 : Int32) (y0 : Int32) (y1 : Int32) (y2 : Int32) (h0 : Heap) (n0 : Nat) (Z0 : n0 ≤ h0.size) (V_a1 : Arv Z h0 a1 kx .byte (3 : Int32) [(.int x0), (.int x1), (.int x2)] (.int 0)) (V_a2 : Arv Z h0 a2 ky .byte (3 : Int32) [(.int y0), (.int y1), (.int y2)] (.int 0)) (he0 : x0 = y0) (hn : ¬ (x1 = y1)) :
    MF l y_10 (Jvm.Cond.code y_10 B10 3 (some .boolean) :: ws) (⟨0, 0, 0, 0⟩ : Room) Z h0 #[(.ref a1), (.ref a2)] (Q_rmle331 Z a1 a2 kx ky x0 x1 x2 y0 y1 y2 h0 n0) := by
  refine MetFree.of_bodySF (plainFor_of_name pn_java_lang_StringLatin1) hisR ?_
  intro p e s m args below meth c s₁ Bd hml0 hP hK
  obtain ⟨rfl, hZ, hh⟩ := hP
  have hx := Bd.exec
  have hby := Bd.bytes
  have hml : c.maxLocals = 3 := hml0
  have hown : s.vm.findClass cs3 = some m.cls := findClass_of_methodNamed Bd.named
  have hnm := (name_of_methodNamed Bd.named Bd.method).1
  have X0 : Stand p l e (⟨0, 0, 0, 0⟩ : Room) s m #[(.ref a1), (.ref a2)] below meth c s₁ [] 0 0 := Stand.of_body Bd
  have e0 : s₁.heap = h0 := by rw [← hh, Bd.state]; rfl
  have N0 := Fr.nil n0
  have pre0 : Goes p e below (s₁.setTop (entryFrame m #[(.ref a1), (.ref a2)] 3)) (s₁.setTop (mkF m 0 #[vr a1, vr a2, .unset] [])) := fun t k => castTop (ef_10 m a1 a2) k
  obtain ⟨cl392, Ar392, q392, S392, N392n, H392, G392⟩ := id (V_a1)
  obtain ⟨cl393, Ar393, q393, S393, N393n, H393, G393⟩ := id (V_a2)
  obtain ⟨cl394, Ar394, q394, S394, N394n, H394, G394⟩ := id (V_a1)
  obtain ⟨cl395, Ar395, q395, S395, N395n, H395, G395⟩ := id (V_a1)
  have hin395 : ¬ ((0 : Int32) < 0 ∨ cl395.slots.size ≤ ((0 : Int32)).toNatClampNeg) := inb_of S395 ⟨by decide, by decide⟩
  have hat395 : cl395.slots[((0 : Int32)).toNatClampNeg]? = some (.int x0) := H395.at hin395 rfl
  obtain ⟨cl396, Ar396, q396, S396, N396n, H396, G396⟩ := id (V_a2)
  have hin396 : ¬ ((0 : Int32) < 0 ∨ cl396.slots.size ≤ ((0 : Int32)).toNatClampNeg) := inb_of S396 ⟨by decide, by decide⟩
  have hat396 : cl396.slots[((0 : Int32)).toNatClampNeg]? = some (.int y0) := H396.at hin396 rfl
  obtain ⟨cl397, Ar397, q397, S397, N397n, H397, G397⟩ := id (V_a1)
  obtain ⟨cl398, Ar398, q398, S398, N398n, H398, G398⟩ := id (V_a1)
  have hin398 : ¬ ((1 : Int32) < 0 ∨ cl398.slots.size ≤ ((1 : Int32)).toNatClampNeg) := inb_of S398 ⟨by decide, by decide⟩
  have hat398 : cl398.slots[((1 : Int32)).toNatClampNeg]? = some (.int x1) := H398.at hin398 rfl
  obtain ⟨cl399, Ar399, q399, S399, N399n, H399, G399⟩ := id (V_a2)
  have hin399 : ¬ ((1 : Int32) < 0 ∨ cl399.slots.size ≤ ((1 : Int32)).toNatClampNeg) := inb_of S399 ⟨by decide, by decide⟩
  have hat399 : cl399.slots[((1 : Int32)).toNatClampNeg]? = some (.int y1) := H399.at hin399 rfl
  obtain ⟨fs, hr, hrun, hended, hW, hsame⟩ := X0.leave (v := some (.int 0)) (fun h => by rw [Bd.returns] at h; cases h)
  refine ⟨_, _, pre0 _ ?_, hrun, hended, _, _, rfl, ?_, ⟨_, rfl⟩, hW, hsame.mono (by decide) (by decide)⟩
  · show Steps p.tables e below (s₁.setTop (mkF m 0 #[vr a1, vr a2, .unset] [])) _
    refine XS.aloadN X0.here hx rfl (hb hby d10_0) rfl rfl ?_
    refine X0.arraylength hx (by rw [e0]; exact Ar392.1) (State.isArrayOf_alike hZ.alike Ar392.2.1) (g := (mkF m 1 #[vr a1, vr a2, .unset] [(.ref a1)])) rfl rfl (hb hby d10_1) _ ?_
    rw [len_of S392 N392n]
    refine XS.aloadN X0.here hx rfl (hb hby d10_2) rfl rfl ?_
    refine X0.arraylength hx (by rw [e0]; exact Ar393.1) (State.isArrayOf_alike hZ.alike Ar393.2.1) (g := (mkF m 3 #[vr a1, vr a2, .unset] [(.ref a2), (.int 3)])) rfl rfl (hb hby d10_3) _ ?_
    rw [len_of S393 N393n]
    refine XS.icmpNo X0.here hx rfl (hb hby d10_4) rfl (teq (rfl : (3 : Int32) = (3 : Int32))).2 ?_
    refine XS.iconst X0.here hx rfl (hb hby d10_7) ?_
    refine XS.istoreN X0.here hx rfl (hb hby d10_8) rfl (l' := #[vr a1, vr a2, vi 0]) rfl ?_
    refine XS.iloadN X0.here hx rfl (hb hby d10_9) rfl ?_
    refine XS.aloadN X0.here hx rfl (hb hby d10_10) rfl rfl ?_
    refine X0.arraylength hx (by rw [e0]; exact Ar394.1) (State.isArrayOf_alike hZ.alike Ar394.2.1) (g := (mkF m 11 #[vr a1, vr a2, vi 0] [(.ref a1), (.int 0)])) rfl rfl (hb hby d10_11) _ ?_
    rw [len_of S394 N394n]
    show Steps p.tables e below (s₁.setTop (mkF m 12 #[vr a1, vr a2, vi 0] [(.int 3), (.int 0)])) _
    refine XS.icmpNo X0.here hx rfl (hb hby d10_12) rfl (tlt (by decide)).2.1 ?_
    refine XS.aloadN X0.here hx rfl (hb hby d10_15) rfl rfl ?_
    refine XS.iloadN X0.here hx rfl (hb hby d10_16) rfl ?_
    refine X0.baloadBytes hx (j := (0 : Int32)) (v := (.int x0)) (by rw [e0]; exact Ar395.1) (State.isArrayOf_alike hZ.alike Ar395.2.1) Ar395.2.2 hin395 hat395 (g := (mkF m 17 #[vr a1, vr a2, vi 0] [(.int 0), (.ref a1)])) rfl rfl (hb hby d10_17) _ ?_
    refine XS.aloadN X0.here hx rfl (hb hby d10_18) rfl rfl ?_
    refine XS.iloadN X0.here hx rfl (hb hby d10_19) rfl ?_
    refine X0.baloadBytes hx (j := (0 : Int32)) (v := (.int y0)) (by rw [e0]; exact Ar396.1) (State.isArrayOf_alike hZ.alike Ar396.2.1) Ar396.2.2 hin396 hat396 (g := (mkF m 20 #[vr a1, vr a2, vi 0] [(.int 0), (.ref a2), (.int x0)])) rfl rfl (hb hby d10_20) _ ?_
    refine XS.icmpYes X0.here hx rfl (pc0 := 21) (pc' := 26) rfl (hb hby d10_21) rfl (teq he0).1 (by decide) (by decide) ?_
    refine XS.iinc X0.here hx rfl (hb hby d10_26) rfl (l' := #[vr a1, vr a2, vi 1]) rfl ?_
    refine XS.goto X0.here hx rfl (pc0 := 29) (pc' := 9) rfl (hb hby d10_29) (by decide) (by decide) ?_
    show Steps p.tables e below (s₁.setTop (mkF m 9 #[vr a1, vr a2, vi 1] [])) _
    refine XS.iloadN X0.here hx rfl (hb hby d10_9) rfl ?_
    refine XS.aloadN X0.here hx rfl (hb hby d10_10) rfl rfl ?_
    refine X0.arraylength hx (by rw [e0]; exact Ar397.1) (State.isArrayOf_alike hZ.alike Ar397.2.1) (g := (mkF m 11 #[vr a1, vr a2, vi 1] [(.ref a1), (.int 1)])) rfl rfl (hb hby d10_11) _ ?_
    rw [len_of S397 N397n]
    refine XS.icmpNo X0.here hx rfl (hb hby d10_12) rfl (tlt (by decide)).2.1 ?_
    refine XS.aloadN X0.here hx rfl (hb hby d10_15) rfl rfl ?_
    refine XS.iloadN X0.here hx rfl (hb hby d10_16) rfl ?_
    refine X0.baloadBytes hx (j := (1 : Int32)) (v := (.int x1)) (by rw [e0]; exact Ar398.1) (State.isArrayOf_alike hZ.alike Ar398.2.1) Ar398.2.2 hin398 hat398 (g := (mkF m 17 #[vr a1, vr a2, vi 1] [(.int 1), (.ref a1)])) rfl rfl (hb hby d10_17) _ ?_
    refine XS.aloadN X0.here hx rfl (hb hby d10_18) rfl rfl ?_
    refine XS.iloadN X0.here hx rfl (hb hby d10_19) rfl ?_
    refine X0.baloadBytes hx (j := (1 : Int32)) (v := (.int y1)) (by rw [e0]; exact Ar399.1) (State.isArrayOf_alike hZ.alike Ar399.2.1) Ar399.2.2 hin399 hat399 (g := (mkF m 20 #[vr a1, vr a2, vi 1] [(.int 1), (.ref a2), (.int x1)])) rfl rfl (hb hby d10_20) _ ?_
    show Steps p.tables e below (s₁.setTop (mkF m 21 #[vr a1, vr a2, vi 1] [(.int y1), (.int x1)])) _
    refine XS.icmpNo X0.here hx rfl (hb hby d10_21) rfl (feq hn).1 ?_
    refine XS.iconst X0.here hx rfl (hb hby d10_24) ?_
    exact retN X0 hx (t := .boolean) Bd.returns (by simp) (hb hby d10_25) hr
  · show Q_rmle331 Z _ _ _ _ _ _ _ _ _ _ h0 n0 _ s₁.heap _
    rw [e0]
    exact ⟨rfl, N0, rfl⟩
def Q_rmle332 (Z : State) (a1 : Addr) (a2 : Addr) (kx : ClassId) (ky : ClassId) (x0 : Int32) (x1 : Int32) (x2 : Int32) (y0 : Int32) (y1 : Int32) (y2 : Int32) (h0 : Heap) (n0 : Nat) (v : Option Value) (h : Heap) (L : List Loc) : Prop := v = some (.int 0) ∧ Fr n0 L ∧ h = h0
set_option maxRecDepth 65536 in
set_option maxHeartbeats 40000000 in
theorem rmle332 (l : Launch) (Z : State) (a0 : Array Value) (hw : HW a0 Z) (ws : List Jvm.Cond) (a1 : Addr) (a2 : Addr) (kx : ClassId) (ky : ClassId) (x0 : Int32) (x1 : Int32) (x2 : Int32) (y0 : Int32) (y1 : Int32) (y2 : Int32) (h0 : Heap) (n0 : Nat) (Z0 : n0 ≤ h0.size) (V_a1 : Arv Z h0 a1 kx .byte (3 : Int32) [(.int x0), (.int x1), (.int x2)] (.int 0)) (V_a2 : Arv Z h0 a2 ky .byte (3 : Int32) [(.int y0), (.int y1), (.int y2)] (.int 0)) (he0 : x0 = y0) (he1 : x1 = y1) (hn : ¬ (x2 = y2)) :
    MF l y_10 (Jvm.Cond.code y_10 B10 3 (some .boolean) :: ws) (⟨0, 0, 0, 0⟩ : Room) Z h0 #[(.ref a1), (.ref a2)] (Q_rmle332 Z a1 a2 kx ky x0 x1 x2 y0 y1 y2 h0 n0) := by
  refine MetFree.of_bodySF (plainFor_of_name pn_java_lang_StringLatin1) hisR ?_
  intro p e s m args below meth c s₁ Bd hml0 hP hK
  obtain ⟨rfl, hZ, hh⟩ := hP
  have hx := Bd.exec
  have hby := Bd.bytes
  have hml : c.maxLocals = 3 := hml0
  have hown : s.vm.findClass cs3 = some m.cls := findClass_of_methodNamed Bd.named
  have hnm := (name_of_methodNamed Bd.named Bd.method).1
  have X0 : Stand p l e (⟨0, 0, 0, 0⟩ : Room) s m #[(.ref a1), (.ref a2)] below meth c s₁ [] 0 0 := Stand.of_body Bd
  have e0 : s₁.heap = h0 := by rw [← hh, Bd.state]; rfl
  have N0 := Fr.nil n0
  have pre0 : Goes p e below (s₁.setTop (entryFrame m #[(.ref a1), (.ref a2)] 3)) (s₁.setTop (mkF m 0 #[vr a1, vr a2, .unset] [])) := fun t k => castTop (ef_10 m a1 a2) k
  obtain ⟨cl400, Ar400, q400, S400, N400n, H400, G400⟩ := id (V_a1)
  obtain ⟨cl401, Ar401, q401, S401, N401n, H401, G401⟩ := id (V_a2)
  obtain ⟨cl402, Ar402, q402, S402, N402n, H402, G402⟩ := id (V_a1)
  obtain ⟨cl403, Ar403, q403, S403, N403n, H403, G403⟩ := id (V_a1)
  have hin403 : ¬ ((0 : Int32) < 0 ∨ cl403.slots.size ≤ ((0 : Int32)).toNatClampNeg) := inb_of S403 ⟨by decide, by decide⟩
  have hat403 : cl403.slots[((0 : Int32)).toNatClampNeg]? = some (.int x0) := H403.at hin403 rfl
  obtain ⟨cl404, Ar404, q404, S404, N404n, H404, G404⟩ := id (V_a2)
  have hin404 : ¬ ((0 : Int32) < 0 ∨ cl404.slots.size ≤ ((0 : Int32)).toNatClampNeg) := inb_of S404 ⟨by decide, by decide⟩
  have hat404 : cl404.slots[((0 : Int32)).toNatClampNeg]? = some (.int y0) := H404.at hin404 rfl
  obtain ⟨cl405, Ar405, q405, S405, N405n, H405, G405⟩ := id (V_a1)
  obtain ⟨cl406, Ar406, q406, S406, N406n, H406, G406⟩ := id (V_a1)
  have hin406 : ¬ ((1 : Int32) < 0 ∨ cl406.slots.size ≤ ((1 : Int32)).toNatClampNeg) := inb_of S406 ⟨by decide, by decide⟩
  have hat406 : cl406.slots[((1 : Int32)).toNatClampNeg]? = some (.int x1) := H406.at hin406 rfl
  obtain ⟨cl407, Ar407, q407, S407, N407n, H407, G407⟩ := id (V_a2)
  have hin407 : ¬ ((1 : Int32) < 0 ∨ cl407.slots.size ≤ ((1 : Int32)).toNatClampNeg) := inb_of S407 ⟨by decide, by decide⟩
  have hat407 : cl407.slots[((1 : Int32)).toNatClampNeg]? = some (.int y1) := H407.at hin407 rfl
  obtain ⟨cl408, Ar408, q408, S408, N408n, H408, G408⟩ := id (V_a1)
  obtain ⟨cl409, Ar409, q409, S409, N409n, H409, G409⟩ := id (V_a1)
  have hin409 : ¬ ((2 : Int32) < 0 ∨ cl409.slots.size ≤ ((2 : Int32)).toNatClampNeg) := inb_of S409 ⟨by decide, by decide⟩
  have hat409 : cl409.slots[((2 : Int32)).toNatClampNeg]? = some (.int x2) := H409.at hin409 rfl
  obtain ⟨cl410, Ar410, q410, S410, N410n, H410, G410⟩ := id (V_a2)
  have hin410 : ¬ ((2 : Int32) < 0 ∨ cl410.slots.size ≤ ((2 : Int32)).toNatClampNeg) := inb_of S410 ⟨by decide, by decide⟩
  have hat410 : cl410.slots[((2 : Int32)).toNatClampNeg]? = some (.int y2) := H410.at hin410 rfl
  obtain ⟨fs, hr, hrun, hended, hW, hsame⟩ := X0.leave (v := some (.int 0)) (fun h => by rw [Bd.returns] at h; cases h)
  refine ⟨_, _, pre0 _ ?_, hrun, hended, _, _, rfl, ?_, ⟨_, rfl⟩, hW, hsame.mono (by decide) (by decide)⟩
  · show Steps p.tables e below (s₁.setTop (mkF m 0 #[vr a1, vr a2, .unset] [])) _
    refine XS.aloadN X0.here hx rfl (hb hby d10_0) rfl rfl ?_
    refine X0.arraylength hx (by rw [e0]; exact Ar400.1) (State.isArrayOf_alike hZ.alike Ar400.2.1) (g := (mkF m 1 #[vr a1, vr a2, .unset] [(.ref a1)])) rfl rfl (hb hby d10_1) _ ?_
    rw [len_of S400 N400n]
    refine XS.aloadN X0.here hx rfl (hb hby d10_2) rfl rfl ?_
    refine X0.arraylength hx (by rw [e0]; exact Ar401.1) (State.isArrayOf_alike hZ.alike Ar401.2.1) (g := (mkF m 3 #[vr a1, vr a2, .unset] [(.ref a2), (.int 3)])) rfl rfl (hb hby d10_3) _ ?_
    rw [len_of S401 N401n]
    refine XS.icmpNo X0.here hx rfl (hb hby d10_4) rfl (teq (rfl : (3 : Int32) = (3 : Int32))).2 ?_
    refine XS.iconst X0.here hx rfl (hb hby d10_7) ?_
    refine XS.istoreN X0.here hx rfl (hb hby d10_8) rfl (l' := #[vr a1, vr a2, vi 0]) rfl ?_
    refine XS.iloadN X0.here hx rfl (hb hby d10_9) rfl ?_
    refine XS.aloadN X0.here hx rfl (hb hby d10_10) rfl rfl ?_
    refine X0.arraylength hx (by rw [e0]; exact Ar402.1) (State.isArrayOf_alike hZ.alike Ar402.2.1) (g := (mkF m 11 #[vr a1, vr a2, vi 0] [(.ref a1), (.int 0)])) rfl rfl (hb hby d10_11) _ ?_
    rw [len_of S402 N402n]
    show Steps p.tables e below (s₁.setTop (mkF m 12 #[vr a1, vr a2, vi 0] [(.int 3), (.int 0)])) _
    refine XS.icmpNo X0.here hx rfl (hb hby d10_12) rfl (tlt (by decide)).2.1 ?_
    refine XS.aloadN X0.here hx rfl (hb hby d10_15) rfl rfl ?_
    refine XS.iloadN X0.here hx rfl (hb hby d10_16) rfl ?_
    refine X0.baloadBytes hx (j := (0 : Int32)) (v := (.int x0)) (by rw [e0]; exact Ar403.1) (State.isArrayOf_alike hZ.alike Ar403.2.1) Ar403.2.2 hin403 hat403 (g := (mkF m 17 #[vr a1, vr a2, vi 0] [(.int 0), (.ref a1)])) rfl rfl (hb hby d10_17) _ ?_
    refine XS.aloadN X0.here hx rfl (hb hby d10_18) rfl rfl ?_
    refine XS.iloadN X0.here hx rfl (hb hby d10_19) rfl ?_
    refine X0.baloadBytes hx (j := (0 : Int32)) (v := (.int y0)) (by rw [e0]; exact Ar404.1) (State.isArrayOf_alike hZ.alike Ar404.2.1) Ar404.2.2 hin404 hat404 (g := (mkF m 20 #[vr a1, vr a2, vi 0] [(.int 0), (.ref a2), (.int x0)])) rfl rfl (hb hby d10_20) _ ?_
    refine XS.icmpYes X0.here hx rfl (pc0 := 21) (pc' := 26) rfl (hb hby d10_21) rfl (teq he0).1 (by decide) (by decide) ?_
    refine XS.iinc X0.here hx rfl (hb hby d10_26) rfl (l' := #[vr a1, vr a2, vi 1]) rfl ?_
    refine XS.goto X0.here hx rfl (pc0 := 29) (pc' := 9) rfl (hb hby d10_29) (by decide) (by decide) ?_
    show Steps p.tables e below (s₁.setTop (mkF m 9 #[vr a1, vr a2, vi 1] [])) _
    refine XS.iloadN X0.here hx rfl (hb hby d10_9) rfl ?_
    refine XS.aloadN X0.here hx rfl (hb hby d10_10) rfl rfl ?_
    refine X0.arraylength hx (by rw [e0]; exact Ar405.1) (State.isArrayOf_alike hZ.alike Ar405.2.1) (g := (mkF m 11 #[vr a1, vr a2, vi 1] [(.ref a1), (.int 1)])) rfl rfl (hb hby d10_11) _ ?_
    rw [len_of S405 N405n]
    refine XS.icmpNo X0.here hx rfl (hb hby d10_12) rfl (tlt (by decide)).2.1 ?_
    refine XS.aloadN X0.here hx rfl (hb hby d10_15) rfl rfl ?_
    refine XS.iloadN X0.here hx rfl (hb hby d10_16) rfl ?_
    refine X0.baloadBytes hx (j := (1 : Int32)) (v := (.int x1)) (by rw [e0]; exact Ar406.1) (State.isArrayOf_alike hZ.alike Ar406.2.1) Ar406.2.2 hin406 hat406 (g := (mkF m 17 #[vr a1, vr a2, vi 1] [(.int 1), (.ref a1)])) rfl rfl (hb hby d10_17) _ ?_
    refine XS.aloadN X0.here hx rfl (hb hby d10_18) rfl rfl ?_
    refine XS.iloadN X0.here hx rfl (hb hby d10_19) rfl ?_
    refine X0.baloadBytes hx (j := (1 : Int32)) (v := (.int y1)) (by rw [e0]; exact Ar407.1) (State.isArrayOf_alike hZ.alike Ar407.2.1) Ar407.2.2 hin407 hat407 (g := (mkF m 20 #[vr a1, vr a2, vi 1] [(.int 1), (.ref a2), (.int x1)])) rfl rfl (hb hby d10_20) _ ?_
    show Steps p.tables e below (s₁.setTop (mkF m 21 #[vr a1, vr a2, vi 1] [(.int y1), (.int x1)])) _
    refine XS.icmpYes X0.here hx rfl (pc0 := 21) (pc' := 26) rfl (hb hby d10_21) rfl (teq he1).1 (by decide) (by decide) ?_
    refine XS.iinc X0.here hx rfl (hb hby d10_26) rfl (l' := #[vr a1, vr a2, vi 2]) rfl ?_
    refine XS.goto X0.here hx rfl (pc0 := 29) (pc' := 9) rfl (hb hby d10_29) (by decide) (by decide) ?_
    refine XS.iloadN X0.here hx rfl (hb hby d10_9) rfl ?_
    refine XS.aloadN X0.here hx rfl (hb hby d10_10) rfl rfl ?_
    refine X0.arraylength hx (by rw [e0]; exact Ar408.1) (State.isArrayOf_alike hZ.alike Ar408.2.1) (g := (mkF m 11 #[vr a1, vr a2, vi 2] [(.ref a1), (.int 2)])) rfl rfl (hb hby d10_11) _ ?_
    rw [len_of S408 N408n]
    refine XS.icmpNo X0.here hx rfl (hb hby d10_12) rfl (tlt (by decide)).2.1 ?_
    refine XS.aloadN X0.here hx rfl (hb hby d10_15) rfl rfl ?_
    refine XS.iloadN X0.here hx rfl (hb hby d10_16) rfl ?_
    refine X0.baloadBytes hx (j := (2 : Int32)) (v := (.int x2)) (by rw [e0]; exact Ar409.1) (State.isArrayOf_alike hZ.alike Ar409.2.1) Ar409.2.2 hin409 hat409 (g := (mkF m 17 #[vr a1, vr a2, vi 2] [(.int 2), (.ref a1)])) rfl rfl (hb hby d10_17) _ ?_
    show Steps p.tables e below (s₁.setTop (mkF m 18 #[vr a1, vr a2, vi 2] [(.int x2)])) _
    refine XS.aloadN X0.here hx rfl (hb hby d10_18) rfl rfl ?_
    refine XS.iloadN X0.here hx rfl (hb hby d10_19) rfl ?_
    refine X0.baloadBytes hx (j := (2 : Int32)) (v := (.int y2)) (by rw [e0]; exact Ar410.1) (State.isArrayOf_alike hZ.alike Ar410.2.1) Ar410.2.2 hin410 hat410 (g := (mkF m 20 #[vr a1, vr a2, vi 2] [(.int 2), (.ref a2), (.int x2)])) rfl rfl (hb hby d10_20) _ ?_
    refine XS.icmpNo X0.here hx rfl (hb hby d10_21) rfl (feq hn).1 ?_
    refine XS.iconst X0.here hx rfl (hb hby d10_24) ?_
    exact retN X0 hx (t := .boolean) Bd.returns (by simp) (hb hby d10_25) hr
  · show Q_rmle332 Z _ _ _ _ _ _ _ _ _ _ h0 n0 _ s₁.heap _
    rw [e0]
    exact ⟨rfl, N0, rfl⟩
abbrev B9 : ByteArray := jdk_42_method_66_code
theorem d9_0 : dc B9 0 (.aload_n 0) 1 := by decide +kernel
theorem d9_1 : dc B9 1 (.aload_n 1) 1 := by decide +kernel
theorem d9_2 : dc B9 2 (.if_acmp .ne 5) 3 := by decide +kernel
theorem d9_7 : dc B9 7 (.aload_n 1) 1 := by decide +kernel
theorem d9_8 : dc B9 8 (.instanceof 10) 3 := by decide +kernel
theorem wd_58 {a0 Z} (hw : HW a0 Z) : Bw a0 Z (.classLink cs1 10 cs1) := hw _ (mx 58 rfl)
theorem d9_11 : dc B9 11 (.ifCond .eq 43) 3 := by decide +kernel
theorem d9_14 : dc B9 14 (.aload_n 1) 1 := by decide +kernel
theorem d9_15 : dc B9 15 (.checkcast 10) 3 := by decide +kernel
theorem d9_18 : dc B9 18 (.astore_n 2) 1 := by decide +kernel
theorem d9_19 : dc B9 19 (.getstatic 38) 3 := by decide +kernel
theorem d9_22 : dc B9 22 (.ifCond .eq 14) 3 := by decide +kernel
theorem d9_25 : dc B9 25 (.aload_n 0) 1 := by decide +kernel
theorem d9_26 : dc B9 26 (.getfield 15) 3 := by decide +kernel
theorem d9_29 : dc B9 29 (.aload_n 2) 1 := by decide +kernel
theorem d9_30 : dc B9 30 (.getfield 15) 3 := by decide +kernel
theorem d9_33 : dc B9 33 (.if_icmp .ne 21) 3 := by decide +kernel
theorem d9_36 : dc B9 36 (.aload_n 0) 1 := by decide +kernel
theorem d9_37 : dc B9 37 (.getfield 9) 3 := by decide +kernel
theorem d9_40 : dc B9 40 (.aload_n 2) 1 := by decide +kernel
theorem d9_41 : dc B9 41 (.getfield 9) 3 := by decide +kernel
theorem d9_44 : dc B9 44 (.invokestatic 541) 3 := by decide +kernel
theorem wd_60 {a0 Z} (hw : HW a0 Z) : Bw a0 Z (.methodLink cs1 541 ⟨cs3, "equals", "([B[B)Z"⟩) := hw _ (mx 60 rfl)
theorem wd_63 {a0 Z} (hw : HW a0 Z) : Bw a0 Z (.code ⟨cs3, "equals", "([B[B)Z"⟩ jdk_43_method_13_code 3 (Option.some .boolean)) := hw _ (mx 63 rfl)
theorem wd_62 {a0 Z} (hw : HW a0 Z) : Bw a0 Z (.initialized cs3) := hw _ (mx 62 rfl)
theorem pd___B_B_Z : parseMethodDescriptor "([B[B)Z" = some ⟨[(.array .byte), (.array .byte)], some .boolean⟩ := by decide +kernel
theorem wd_61 {a0 Z} (hw : HW a0 Z) : Bw a0 Z (.static ⟨cs3, "equals", "([B[B)Z"⟩) := hw _ (mx 61 rfl)
theorem d9_47 : dc B9 47 (.ifCond .eq 7) 3 := by decide +kernel
theorem d9_50 : dc B9 50 (.iconst 1) 1 := by decide +kernel
theorem d9_51 : dc B9 51 (.goto 4) 3 := by decide +kernel
theorem d9_55 : dc B9 55 .ireturn 1 := by decide +kernel
theorem d9_54 : dc B9 54 (.iconst 0) 1 := by decide +kernel
theorem ef_9 (m : MethodId) (x0 : Addr) (x1 : Addr) : entryFrame m #[(.ref x0), (.ref x1)] 3 = mkF m 0 #[.val (.ref x0), .val (.ref x1), .unset] [] := by first | (simp [entryFrame, mkF, argsToLocals, Value.category]; done) | rfl
def Q_rmeqS (Z : State) (a1 : Addr) (a2 : Addr) (qx : Int64) (qy : Int64) (wz : Int32) (h0 : Heap) (n0 : Nat) (v : Option Value) (h : Heap) (L : List Loc) : Prop := v = some (.int (own_sm qx qy)) ∧ Fr n0 L ∧ h = h0
set_option maxRecDepth 65536 in
set_option maxHeartbeats 40000000 in
abbrev y_9 : MethodName := ⟨cs1, "equals", cs5⟩
theorem rmeqS (l : Launch) (Z : State) (a0 : Array Value) (hw : HW a0 Z) (ws : List Jvm.Cond) (a1 : Addr) (a2 : Addr) (qx : Int64) (qy : Int64) (wz : Int32) (h0 : Heap) (n0 : Nat) (Z0 : n0 ≤ h0.size) (X_STR_a1 : STR Z h0 n0 a1 qx) (X_STR_a2 : STR Z h0 n0 a2 qy) (ne_a1_a2 : a1 ≠ a2) (Old0 : Old Z n0 h0) (S_COMPACT_STRINGS : Sta Z Z.heap cs1 cs6 "Z" (.int wz)) (hz : ¬ (wz = (0 : Int32))) :
    MF l y_9 (Jvm.Cond.code y_9 B9 3 (some .boolean) :: ws) (⟨1, 0, 0, 14⟩ : Room) Z h0 #[(.ref a1), (.ref a2)] (Q_rmeqS Z a1 a2 qx qy wz h0 n0) := by
  refine MetFree.of_bodySF (plainFor_of_name pn_java_lang_String) hisR ?_
  intro p e s m args below meth c s₁ Bd hml0 hP hK
  obtain ⟨rfl, hZ, hh⟩ := hP
  have hx := Bd.exec
  have hby := Bd.bytes
  have hml : c.maxLocals = 3 := hml0
  have hown : s.vm.findClass cs1 = some m.cls := findClass_of_methodNamed Bd.named
  have hnm := (name_of_methodNamed Bd.named Bd.method).1
  have X0 : Stand p l e (⟨1, 0, 0, 14⟩ : Room) s m #[(.ref a1), (.ref a2)] below meth c s₁ [] 0 0 := Stand.of_body Bd
  have e0 : s₁.heap = h0 := by rw [← hh, Bd.state]; rfl
  have N0 := Fr.nil n0
  have pre0 : Goes p e below (s₁.setTop (entryFrame m #[(.ref a1), (.ref a2)] 3)) (s₁.setTop (mkF m 0 #[vr a1, vr a2, .unset] [])) := fun t k => castTop (ef_9 m a1 a2) k
  obtain ⟨ta, ka_, E_a1, Fv_a1, Fc_a1, Va⟩ := X_STR_a1
  obtain ⟨tb, kb_, E_a2, Fv_a2, Fc_a2, Vb⟩ := X_STR_a2
  obtain ⟨T411, X411, e411, st411⟩ := instY X0 hx hZ hown (wd_58 hw) e0 (Ins.self E_a2) (g := (mkF m 8 #[vr a1, vr a2, .unset] [(.ref a2)])) rfl rfl (hb hby d9_8)
  obtain ⟨T412, X412, e412, st412⟩ := castY X411 hx hZ hown (wd_58 hw) e411 (Ins.self E_a2) (g := (mkF m 15 #[vr a1, vr a2, .unset] [(.ref a2)])) rfl rfl (hb hby d9_15)
  obtain ⟨T413, X413, e413, st413⟩ := getS2 X412 hx hZ hown (host := "") (Or.inl (wd_59 hw)) Via.refl e412 (S_COMPACT_STRINGS.ext (Old0).2) (g := (mkF m 19 #[vr a1, vr a2, vr a2] [])) rfl (hb hby d9_19)
  obtain ⟨T414, X414, e414, st414⟩ := getF X413 hx hZ hown (host := "") (Or.inl (wd_29 hw)) Via.refl e413 Fc_a1 (g := (mkF m 26 #[vr a1, vr a2, vr a2] [(.ref a1)])) rfl rfl (hb hby d9_26)
  obtain ⟨T415, X415, e415, st415⟩ := getF X414 hx hZ hown (host := "") (Or.inl (wd_29 hw)) Via.refl e414 Fc_a2 (g := (mkF m 30 #[vr a1, vr a2, vr a2] [(.ref a2), (.int 0)])) rfl rfl (hb hby d9_30)
  obtain ⟨T416, X416, e416, st416⟩ := getF X415 hx hZ hown (host := "") (Or.inl (wd_28 hw)) Via.refl e415 Fv_a1 (g := (mkF m 37 #[vr a1, vr a2, vr a2] [(.ref a1)])) rfl rfl (hb hby d9_37)
  obtain ⟨T417, X417, e417, st417⟩ := getF X416 hx hZ hown (host := "") (Or.inl (wd_28 hw)) Via.refl e416 Fv_a2 (g := (mkF m 41 #[vr a1, vr a2, vr a2] [(.ref a2), (.ref ta)])) rfl rfl (hb hby d9_41)
  have pre418 : Goes p e below (s₁.setTop (entryFrame m #[(.ref a1), (.ref a2)] 3)) (T417.setTop (mkF m 44 #[vr a1, vr a2, vr a2] [(.ref tb), (.ref ta)])) := by
    intro t kt
    refine pre0 _ ?_
    show Steps p.tables e below (s₁.setTop (mkF m 0 #[vr a1, vr a2, .unset] [])) _
    refine XS.aloadN X0.here hx rfl (hb hby d9_0) rfl rfl ?_
    refine XS.aloadN X0.here hx rfl (hb hby d9_1) rfl rfl ?_
    refine Jvm.RoadKit.acmp (g := (mkF m 2 #[vr a1, vr a2, .unset] [(.ref a2), (.ref a1)])) X0 hx rfl rfl rfl (pc0 := 2) (pc' := 7) (same := false) rfl (hb hby d9_2) rfl (decide_eq_false fun q => ne_a1_a2 (Value.ref.inj q)) (by decide) (by decide) ?_
    refine XS.aloadN X0.here hx rfl (hb hby d9_7) rfl rfl ?_
    refine st411 _ ?_
    refine XS.ifNo X411.here hx rfl (hb hby d9_11) rfl ((if0 _ _).trans (feq (by decide)).1) ?_
    refine XS.aloadN X411.here hx rfl (hb hby d9_14) rfl rfl ?_
    refine st412 _ ?_
    refine XS.astoreN X412.here hx rfl (hb hby d9_18) rfl rfl (l' := #[vr a1, vr a2, vr a2]) rfl ?_
    refine st413 _ ?_
    show Steps p.tables e below (T413.setTop (mkF m 22 #[vr a1, vr a2, vr a2] [(.int wz)])) _
    refine XS.ifNo X413.here hx rfl (hb hby d9_22) rfl ((if0 _ _).trans (feq hz).1) ?_
    refine XS.aloadN X413.here hx rfl (hb hby d9_25) rfl rfl ?_
    refine st414 _ ?_
    refine XS.aloadN X414.here hx rfl (hb hby d9_29) rfl rfl ?_
    refine st415 _ ?_
    refine XS.icmpNo X415.here hx rfl (hb hby d9_33) rfl (teq (rfl : (0 : Int32) = (0 : Int32))).2 ?_
    refine XS.aloadN X415.here hx rfl (hb hby d9_36) rfl rfl ?_
    refine st416 _ ?_
    refine XS.aloadN X416.here hx rfl (hb hby d9_40) rfl rfl ?_
    refine st417 _ ?_
    show Steps p.tables e below (T417.setTop (mkF m 44 #[vr a1, vr a2, vr a2] [(.ref tb), (.ref ta)])) _
    exact kt
  rcases Va with ⟨hla, Va_⟩ | ⟨hla, Va_⟩ | ⟨hla, Va_⟩ | ⟨hla, Va_⟩ <;> rcases Vb with ⟨hlb, Vb_⟩ | ⟨hlb, Vb_⟩ | ⟨hlb, Vb_⟩ | ⟨hlb, Vb_⟩
  · obtain ⟨_, _, ⟨T419, L419, k419, n419⟩, -, X419, ⟨Lc419, hQ419, l419, y419, z419⟩, st419⟩ := Jvm.LawKit.callS X417 hx (y := y_10) hown (mvT hZ (wd_60 hw)) (mvT hZ (wd_61 hw)) (mvT hZ (wd_62 hw)) (mvT hZ (wd_63 hw)) (by decide) (backOf (W := 0) (rmle00eq l Z a0 hw [] ta tb ka_ kb_ h0 n0 Z0 Va_ Vb_) hZ (wd_63 hw) (wd_62 hw) (by decide) (by decide)) (g := (mkF m 44 #[vr a1, vr a2, vr a2] [(.ref tb), (.ref ta)])) rfl (by rw [hml]; rfl) (argsL := [(.ref ta), (.ref tb)]) (rest := []) (lenOf pd___B_B_Z rfl) rfl (by show 2 * 0 + _ ≤ _; exact Nat.le_of_eq rfl) (hb hby d9_44) (fun _ _ => ⟨rfl, e417, (by decide : 0 + 0 ≤ _), (by decide : 0 + 0 ≤ _)⟩)
    dsimp only [Pt.U, Pt.locs, Pt.cells, Pt.slots] at X419 l419 y419 z419 st419 hQ419
    rw [l419, y419, z419] at X419
    obtain ⟨rfl, N419q, e419⟩ := hQ419
    have N419 := Fr.app N0 N419q
    obtain ⟨fs, hr, hrun, hended, hW, hsame⟩ := X419.leave (v := some (.int 1)) (fun h => by rw [Bd.returns] at h; cases h)
    refine ⟨_, _, pre418 _ ?_, hrun, hended, _, _, rfl, ?_, ⟨_, rfl⟩, hW, hsame.mono (by decide) (by decide)⟩
    · show Steps p.tables e below (T417.setTop (mkF m 44 #[vr a1, vr a2, vr a2] [(.ref tb), (.ref ta)])) _
      refine st419 _ ?_
      refine XS.ifNo X419.here hx rfl (hb hby d9_47) rfl ((if0 _ _).trans (feq (by decide)).1) ?_
      refine XS.iconst X419.here hx rfl (hb hby d9_50) ?_
      refine XS.goto X419.here hx rfl (pc0 := 51) (pc' := 55) rfl (hb hby d9_51) (by decide) (by decide) ?_
      exact retN X419 hx (t := .boolean) Bd.returns (by simp) (hb hby d9_55) hr
    · show Q_rmeqS Z _ _ _ _ _ h0 n0 _ T419.heap _
      rw [e419]
      exact ⟨(by rw [own_sm, hla, hlb, if_pos rfl, if_pos (by decide)]), N419, rfl⟩
  · obtain ⟨_, _, ⟨T420, L420, k420, n420⟩, -, X420, ⟨Lc420, hQ420, l420, y420, z420⟩, st420⟩ := Jvm.LawKit.callS X417 hx (y := y_10) hown (mvT hZ (wd_60 hw)) (mvT hZ (wd_61 hw)) (mvT hZ (wd_62 hw)) (mvT hZ (wd_63 hw)) (by decide) (backOf (W := 0) (rmle01 l Z a0 hw [] ta tb ka_ kb_ (bb (sh8 qy (0 : Int32))) h0 n0 Z0 Va_ Vb_) hZ (wd_63 hw) (wd_62 hw) (by decide) (by decide)) (g := (mkF m 44 #[vr a1, vr a2, vr a2] [(.ref tb), (.ref ta)])) rfl (by rw [hml]; rfl) (argsL := [(.ref ta), (.ref tb)]) (rest := []) (lenOf pd___B_B_Z rfl) rfl (by show 2 * 0 + _ ≤ _; exact Nat.le_of_eq rfl) (hb hby d9_44) (fun _ _ => ⟨rfl, e417, (by decide : 0 + 0 ≤ _), (by decide : 0 + 0 ≤ _)⟩)
    dsimp only [Pt.U, Pt.locs, Pt.cells, Pt.slots] at X420 l420 y420 z420 st420 hQ420
    rw [l420, y420, z420] at X420
    obtain ⟨rfl, N420q, e420⟩ := hQ420
    have N420 := Fr.app N0 N420q
    obtain ⟨fs, hr, hrun, hended, hW, hsame⟩ := X420.leave (v := some (.int 0)) (fun h => by rw [Bd.returns] at h; cases h)
    refine ⟨_, _, pre418 _ ?_, hrun, hended, _, _, rfl, ?_, ⟨_, rfl⟩, hW, hsame.mono (by decide) (by decide)⟩
    · show Steps p.tables e below (T417.setTop (mkF m 44 #[vr a1, vr a2, vr a2] [(.ref tb), (.ref ta)])) _
      refine st420 _ ?_
      refine XS.ifYes X420.here hx rfl (pc0 := 47) (pc' := 54) rfl (hb hby d9_47) rfl ((if0 _ _).trans (teq (rfl : (0 : Int32) = (0 : Int32))).1) (by decide) (by decide) ?_
      refine XS.iconst X420.here hx rfl (hb hby d9_54) ?_
      exact retN X420 hx (t := .boolean) Bd.returns (by simp) (hb hby d9_55) hr
    · show Q_rmeqS Z _ _ _ _ _ h0 n0 _ T420.heap _
      rw [e420]
      exact ⟨(by rw [own_sm, hla, hlb, if_neg (by decide)]), N420, rfl⟩
  · obtain ⟨_, _, ⟨T421, L421, k421, n421⟩, -, X421, ⟨Lc421, hQ421, l421, y421, z421⟩, st421⟩ := Jvm.LawKit.callS X417 hx (y := y_10) hown (mvT hZ (wd_60 hw)) (mvT hZ (wd_61 hw)) (mvT hZ (wd_62 hw)) (mvT hZ (wd_63 hw)) (by decide) (backOf (W := 0) (rmle02 l Z a0 hw [] ta tb ka_ kb_ (bb (sh8 qy (0 : Int32))) (bb (sh8 qy (8 : Int32))) h0 n0 Z0 Va_ Vb_) hZ (wd_63 hw) (wd_62 hw) (by decide) (by decide)) (g := (mkF m 44 #[vr a1, vr a2, vr a2] [(.ref tb), (.ref ta)])) rfl (by rw [hml]; rfl) (argsL := [(.ref ta), (.ref tb)]) (rest := []) (lenOf pd___B_B_Z rfl) rfl (by show 2 * 0 + _ ≤ _; exact Nat.le_of_eq rfl) (hb hby d9_44) (fun _ _ => ⟨rfl, e417, (by decide : 0 + 0 ≤ _), (by decide : 0 + 0 ≤ _)⟩)
    dsimp only [Pt.U, Pt.locs, Pt.cells, Pt.slots] at X421 l421 y421 z421 st421 hQ421
    rw [l421, y421, z421] at X421
    obtain ⟨rfl, N421q, e421⟩ := hQ421
    have N421 := Fr.app N0 N421q
    obtain ⟨fs, hr, hrun, hended, hW, hsame⟩ := X421.leave (v := some (.int 0)) (fun h => by rw [Bd.returns] at h; cases h)
    refine ⟨_, _, pre418 _ ?_, hrun, hended, _, _, rfl, ?_, ⟨_, rfl⟩, hW, hsame.mono (by decide) (by decide)⟩
    · show Steps p.tables e below (T417.setTop (mkF m 44 #[vr a1, vr a2, vr a2] [(.ref tb), (.ref ta)])) _
      refine st421 _ ?_
      refine XS.ifYes X421.here hx rfl (pc0 := 47) (pc' := 54) rfl (hb hby d9_47) rfl ((if0 _ _).trans (teq (rfl : (0 : Int32) = (0 : Int32))).1) (by decide) (by decide) ?_
      refine XS.iconst X421.here hx rfl (hb hby d9_54) ?_
      exact retN X421 hx (t := .boolean) Bd.returns (by simp) (hb hby d9_55) hr
    · show Q_rmeqS Z _ _ _ _ _ h0 n0 _ T421.heap _
      rw [e421]
      exact ⟨(by rw [own_sm, hla, hlb, if_neg (by decide)]), N421, rfl⟩
  · obtain ⟨_, _, ⟨T422, L422, k422, n422⟩, -, X422, ⟨Lc422, hQ422, l422, y422, z422⟩, st422⟩ := Jvm.LawKit.callS X417 hx (y := y_10) hown (mvT hZ (wd_60 hw)) (mvT hZ (wd_61 hw)) (mvT hZ (wd_62 hw)) (mvT hZ (wd_63 hw)) (by decide) (backOf (W := 0) (rmle03 l Z a0 hw [] ta tb ka_ kb_ (bb (sh8 qy (0 : Int32))) (bb (sh8 qy (8 : Int32))) (bb (sh8 qy (16 : Int32))) h0 n0 Z0 Va_ Vb_) hZ (wd_63 hw) (wd_62 hw) (by decide) (by decide)) (g := (mkF m 44 #[vr a1, vr a2, vr a2] [(.ref tb), (.ref ta)])) rfl (by rw [hml]; rfl) (argsL := [(.ref ta), (.ref tb)]) (rest := []) (lenOf pd___B_B_Z rfl) rfl (by show 2 * 0 + _ ≤ _; exact Nat.le_of_eq rfl) (hb hby d9_44) (fun _ _ => ⟨rfl, e417, (by decide : 0 + 0 ≤ _), (by decide : 0 + 0 ≤ _)⟩)
    dsimp only [Pt.U, Pt.locs, Pt.cells, Pt.slots] at X422 l422 y422 z422 st422 hQ422
    rw [l422, y422, z422] at X422
    obtain ⟨rfl, N422q, e422⟩ := hQ422
    have N422 := Fr.app N0 N422q
    obtain ⟨fs, hr, hrun, hended, hW, hsame⟩ := X422.leave (v := some (.int 0)) (fun h => by rw [Bd.returns] at h; cases h)
    refine ⟨_, _, pre418 _ ?_, hrun, hended, _, _, rfl, ?_, ⟨_, rfl⟩, hW, hsame.mono (by decide) (by decide)⟩
    · show Steps p.tables e below (T417.setTop (mkF m 44 #[vr a1, vr a2, vr a2] [(.ref tb), (.ref ta)])) _
      refine st422 _ ?_
      refine XS.ifYes X422.here hx rfl (pc0 := 47) (pc' := 54) rfl (hb hby d9_47) rfl ((if0 _ _).trans (teq (rfl : (0 : Int32) = (0 : Int32))).1) (by decide) (by decide) ?_
      refine XS.iconst X422.here hx rfl (hb hby d9_54) ?_
      exact retN X422 hx (t := .boolean) Bd.returns (by simp) (hb hby d9_55) hr
    · show Q_rmeqS Z _ _ _ _ _ h0 n0 _ T422.heap _
      rw [e422]
      exact ⟨(by rw [own_sm, hla, hlb, if_neg (by decide)]), N422, rfl⟩
  · obtain ⟨_, _, ⟨T423, L423, k423, n423⟩, -, X423, ⟨Lc423, hQ423, l423, y423, z423⟩, st423⟩ := Jvm.LawKit.callS X417 hx (y := y_10) hown (mvT hZ (wd_60 hw)) (mvT hZ (wd_61 hw)) (mvT hZ (wd_62 hw)) (mvT hZ (wd_63 hw)) (by decide) (backOf (W := 0) (rmle10 l Z a0 hw [] ta tb ka_ kb_ (bb (sh8 qx (0 : Int32))) h0 n0 Z0 Va_ Vb_) hZ (wd_63 hw) (wd_62 hw) (by decide) (by decide)) (g := (mkF m 44 #[vr a1, vr a2, vr a2] [(.ref tb), (.ref ta)])) rfl (by rw [hml]; rfl) (argsL := [(.ref ta), (.ref tb)]) (rest := []) (lenOf pd___B_B_Z rfl) rfl (by show 2 * 0 + _ ≤ _; exact Nat.le_of_eq rfl) (hb hby d9_44) (fun _ _ => ⟨rfl, e417, (by decide : 0 + 0 ≤ _), (by decide : 0 + 0 ≤ _)⟩)
    dsimp only [Pt.U, Pt.locs, Pt.cells, Pt.slots] at X423 l423 y423 z423 st423 hQ423
    rw [l423, y423, z423] at X423
    obtain ⟨rfl, N423q, e423⟩ := hQ423
    have N423 := Fr.app N0 N423q
    obtain ⟨fs, hr, hrun, hended, hW, hsame⟩ := X423.leave (v := some (.int 0)) (fun h => by rw [Bd.returns] at h; cases h)
    refine ⟨_, _, pre418 _ ?_, hrun, hended, _, _, rfl, ?_, ⟨_, rfl⟩, hW, hsame.mono (by decide) (by decide)⟩
    · show Steps p.tables e below (T417.setTop (mkF m 44 #[vr a1, vr a2, vr a2] [(.ref tb), (.ref ta)])) _
      refine st423 _ ?_
      refine XS.ifYes X423.here hx rfl (pc0 := 47) (pc' := 54) rfl (hb hby d9_47) rfl ((if0 _ _).trans (teq (rfl : (0 : Int32) = (0 : Int32))).1) (by decide) (by decide) ?_
      refine XS.iconst X423.here hx rfl (hb hby d9_54) ?_
      exact retN X423 hx (t := .boolean) Bd.returns (by simp) (hb hby d9_55) hr
    · show Q_rmeqS Z _ _ _ _ _ h0 n0 _ T423.heap _
      rw [e423]
      exact ⟨(by rw [own_sm, hla, hlb, if_neg (by decide)]), N423, rfl⟩
  · by_cases hc44_424 : (bb (sh8 qx (0 : Int32))) = (bb (sh8 qy (0 : Int32)))
    · obtain ⟨_, _, ⟨T425, L425, k425, n425⟩, -, X425, ⟨Lc425, hQ425, l425, y425, z425⟩, st425⟩ := Jvm.LawKit.callS X417 hx (y := y_10) hown (mvT hZ (wd_60 hw)) (mvT hZ (wd_61 hw)) (mvT hZ (wd_62 hw)) (mvT hZ (wd_63 hw)) (by decide) (backOf (W := 0) (rmle11eq l Z a0 hw [] ta tb ka_ kb_ (bb (sh8 qx (0 : Int32))) (bb (sh8 qy (0 : Int32))) h0 n0 Z0 Va_ Vb_ hc44_424) hZ (wd_63 hw) (wd_62 hw) (by decide) (by decide)) (g := (mkF m 44 #[vr a1, vr a2, vr a2] [(.ref tb), (.ref ta)])) rfl (by rw [hml]; rfl) (argsL := [(.ref ta), (.ref tb)]) (rest := []) (lenOf pd___B_B_Z rfl) rfl (by show 2 * 0 + _ ≤ _; exact Nat.le_of_eq rfl) (hb hby d9_44) (fun _ _ => ⟨rfl, e417, (by decide : 0 + 0 ≤ _), (by decide : 0 + 0 ≤ _)⟩)
      dsimp only [Pt.U, Pt.locs, Pt.cells, Pt.slots] at X425 l425 y425 z425 st425 hQ425
      rw [l425, y425, z425] at X425
      obtain ⟨rfl, N425q, e425⟩ := hQ425
      have N425 := Fr.app N0 N425q
      obtain ⟨fs, hr, hrun, hended, hW, hsame⟩ := X425.leave (v := some (.int 1)) (fun h => by rw [Bd.returns] at h; cases h)
      refine ⟨_, _, pre418 _ ?_, hrun, hended, _, _, rfl, ?_, ⟨_, rfl⟩, hW, hsame.mono (by decide) (by decide)⟩
      · show Steps p.tables e below (T417.setTop (mkF m 44 #[vr a1, vr a2, vr a2] [(.ref tb), (.ref ta)])) _
        refine st425 _ ?_
        refine XS.ifNo X425.here hx rfl (hb hby d9_47) rfl ((if0 _ _).trans (feq (by decide)).1) ?_
        refine XS.iconst X425.here hx rfl (hb hby d9_50) ?_
        refine XS.goto X425.here hx rfl (pc0 := 51) (pc' := 55) rfl (hb hby d9_51) (by decide) (by decide) ?_
        exact retN X425 hx (t := .boolean) Bd.returns (by simp) (hb hby d9_55) hr
      · show Q_rmeqS Z _ _ _ _ _ h0 n0 _ T425.heap _
        rw [e425]
        exact ⟨(by rw [own_sm, hla, hlb, if_pos rfl, if_neg (by decide), if_pos (bb_inj.mp hc44_424), if_pos (by decide)]), N425, rfl⟩
    · obtain ⟨_, _, ⟨T426, L426, k426, n426⟩, -, X426, ⟨Lc426, hQ426, l426, y426, z426⟩, st426⟩ := Jvm.LawKit.callS X417 hx (y := y_10) hown (mvT hZ (wd_60 hw)) (mvT hZ (wd_61 hw)) (mvT hZ (wd_62 hw)) (mvT hZ (wd_63 hw)) (by decide) (backOf (W := 0) (rmle110 l Z a0 hw [] ta tb ka_ kb_ (bb (sh8 qx (0 : Int32))) (bb (sh8 qy (0 : Int32))) h0 n0 Z0 Va_ Vb_ hc44_424) hZ (wd_63 hw) (wd_62 hw) (by decide) (by decide)) (g := (mkF m 44 #[vr a1, vr a2, vr a2] [(.ref tb), (.ref ta)])) rfl (by rw [hml]; rfl) (argsL := [(.ref ta), (.ref tb)]) (rest := []) (lenOf pd___B_B_Z rfl) rfl (by show 2 * 0 + _ ≤ _; exact Nat.le_of_eq rfl) (hb hby d9_44) (fun _ _ => ⟨rfl, e417, (by decide : 0 + 0 ≤ _), (by decide : 0 + 0 ≤ _)⟩)
      dsimp only [Pt.U, Pt.locs, Pt.cells, Pt.slots] at X426 l426 y426 z426 st426 hQ426
      rw [l426, y426, z426] at X426
      obtain ⟨rfl, N426q, e426⟩ := hQ426
      have N426 := Fr.app N0 N426q
      obtain ⟨fs, hr, hrun, hended, hW, hsame⟩ := X426.leave (v := some (.int 0)) (fun h => by rw [Bd.returns] at h; cases h)
      refine ⟨_, _, pre418 _ ?_, hrun, hended, _, _, rfl, ?_, ⟨_, rfl⟩, hW, hsame.mono (by decide) (by decide)⟩
      · show Steps p.tables e below (T417.setTop (mkF m 44 #[vr a1, vr a2, vr a2] [(.ref tb), (.ref ta)])) _
        refine st426 _ ?_
        refine XS.ifYes X426.here hx rfl (pc0 := 47) (pc' := 54) rfl (hb hby d9_47) rfl ((if0 _ _).trans (teq (rfl : (0 : Int32) = (0 : Int32))).1) (by decide) (by decide) ?_
        refine XS.iconst X426.here hx rfl (hb hby d9_54) ?_
        exact retN X426 hx (t := .boolean) Bd.returns (by simp) (hb hby d9_55) hr
      · show Q_rmeqS Z _ _ _ _ _ h0 n0 _ T426.heap _
        rw [e426]
        exact ⟨(by rw [own_sm, hla, hlb, if_pos rfl, if_neg (by decide), if_neg (fun q => hc44_424 (bb_inj.mpr q))]), N426, rfl⟩
  · obtain ⟨_, _, ⟨T427, L427, k427, n427⟩, -, X427, ⟨Lc427, hQ427, l427, y427, z427⟩, st427⟩ := Jvm.LawKit.callS X417 hx (y := y_10) hown (mvT hZ (wd_60 hw)) (mvT hZ (wd_61 hw)) (mvT hZ (wd_62 hw)) (mvT hZ (wd_63 hw)) (by decide) (backOf (W := 0) (rmle12 l Z a0 hw [] ta tb ka_ kb_ (bb (sh8 qx (0 : Int32))) (bb (sh8 qy (0 : Int32))) (bb (sh8 qy (8 : Int32))) h0 n0 Z0 Va_ Vb_) hZ (wd_63 hw) (wd_62 hw) (by decide) (by decide)) (g := (mkF m 44 #[vr a1, vr a2, vr a2] [(.ref tb), (.ref ta)])) rfl (by rw [hml]; rfl) (argsL := [(.ref ta), (.ref tb)]) (rest := []) (lenOf pd___B_B_Z rfl) rfl (by show 2 * 0 + _ ≤ _; exact Nat.le_of_eq rfl) (hb hby d9_44) (fun _ _ => ⟨rfl, e417, (by decide : 0 + 0 ≤ _), (by decide : 0 + 0 ≤ _)⟩)
    dsimp only [Pt.U, Pt.locs, Pt.cells, Pt.slots] at X427 l427 y427 z427 st427 hQ427
    rw [l427, y427, z427] at X427
    obtain ⟨rfl, N427q, e427⟩ := hQ427
    have N427 := Fr.app N0 N427q
    obtain ⟨fs, hr, hrun, hended, hW, hsame⟩ := X427.leave (v := some (.int 0)) (fun h => by rw [Bd.returns] at h; cases h)
    refine ⟨_, _, pre418 _ ?_, hrun, hended, _, _, rfl, ?_, ⟨_, rfl⟩, hW, hsame.mono (by decide) (by decide)⟩
    · show Steps p.tables e below (T417.setTop (mkF m 44 #[vr a1, vr a2, vr a2] [(.ref tb), (.ref ta)])) _
      refine st427 _ ?_
      refine XS.ifYes X427.here hx rfl (pc0 := 47) (pc' := 54) rfl (hb hby d9_47) rfl ((if0 _ _).trans (teq (rfl : (0 : Int32) = (0 : Int32))).1) (by decide) (by decide) ?_
      refine XS.iconst X427.here hx rfl (hb hby d9_54) ?_
      exact retN X427 hx (t := .boolean) Bd.returns (by simp) (hb hby d9_55) hr
    · show Q_rmeqS Z _ _ _ _ _ h0 n0 _ T427.heap _
      rw [e427]
      exact ⟨(by rw [own_sm, hla, hlb, if_neg (by decide)]), N427, rfl⟩
  · obtain ⟨_, _, ⟨T428, L428, k428, n428⟩, -, X428, ⟨Lc428, hQ428, l428, y428, z428⟩, st428⟩ := Jvm.LawKit.callS X417 hx (y := y_10) hown (mvT hZ (wd_60 hw)) (mvT hZ (wd_61 hw)) (mvT hZ (wd_62 hw)) (mvT hZ (wd_63 hw)) (by decide) (backOf (W := 0) (rmle13 l Z a0 hw [] ta tb ka_ kb_ (bb (sh8 qx (0 : Int32))) (bb (sh8 qy (0 : Int32))) (bb (sh8 qy (8 : Int32))) (bb (sh8 qy (16 : Int32))) h0 n0 Z0 Va_ Vb_) hZ (wd_63 hw) (wd_62 hw) (by decide) (by decide)) (g := (mkF m 44 #[vr a1, vr a2, vr a2] [(.ref tb), (.ref ta)])) rfl (by rw [hml]; rfl) (argsL := [(.ref ta), (.ref tb)]) (rest := []) (lenOf pd___B_B_Z rfl) rfl (by show 2 * 0 + _ ≤ _; exact Nat.le_of_eq rfl) (hb hby d9_44) (fun _ _ => ⟨rfl, e417, (by decide : 0 + 0 ≤ _), (by decide : 0 + 0 ≤ _)⟩)
    dsimp only [Pt.U, Pt.locs, Pt.cells, Pt.slots] at X428 l428 y428 z428 st428 hQ428
    rw [l428, y428, z428] at X428
    obtain ⟨rfl, N428q, e428⟩ := hQ428
    have N428 := Fr.app N0 N428q
    obtain ⟨fs, hr, hrun, hended, hW, hsame⟩ := X428.leave (v := some (.int 0)) (fun h => by rw [Bd.returns] at h; cases h)
    refine ⟨_, _, pre418 _ ?_, hrun, hended, _, _, rfl, ?_, ⟨_, rfl⟩, hW, hsame.mono (by decide) (by decide)⟩
    · show Steps p.tables e below (T417.setTop (mkF m 44 #[vr a1, vr a2, vr a2] [(.ref tb), (.ref ta)])) _
      refine st428 _ ?_
      refine XS.ifYes X428.here hx rfl (pc0 := 47) (pc' := 54) rfl (hb hby d9_47) rfl ((if0 _ _).trans (teq (rfl : (0 : Int32) = (0 : Int32))).1) (by decide) (by decide) ?_
      refine XS.iconst X428.here hx rfl (hb hby d9_54) ?_
      exact retN X428 hx (t := .boolean) Bd.returns (by simp) (hb hby d9_55) hr
    · show Q_rmeqS Z _ _ _ _ _ h0 n0 _ T428.heap _
      rw [e428]
      exact ⟨(by rw [own_sm, hla, hlb, if_neg (by decide)]), N428, rfl⟩
  · obtain ⟨_, _, ⟨T429, L429, k429, n429⟩, -, X429, ⟨Lc429, hQ429, l429, y429, z429⟩, st429⟩ := Jvm.LawKit.callS X417 hx (y := y_10) hown (mvT hZ (wd_60 hw)) (mvT hZ (wd_61 hw)) (mvT hZ (wd_62 hw)) (mvT hZ (wd_63 hw)) (by decide) (backOf (W := 0) (rmle20 l Z a0 hw [] ta tb ka_ kb_ (bb (sh8 qx (0 : Int32))) (bb (sh8 qx (8 : Int32))) h0 n0 Z0 Va_ Vb_) hZ (wd_63 hw) (wd_62 hw) (by decide) (by decide)) (g := (mkF m 44 #[vr a1, vr a2, vr a2] [(.ref tb), (.ref ta)])) rfl (by rw [hml]; rfl) (argsL := [(.ref ta), (.ref tb)]) (rest := []) (lenOf pd___B_B_Z rfl) rfl (by show 2 * 0 + _ ≤ _; exact Nat.le_of_eq rfl) (hb hby d9_44) (fun _ _ => ⟨rfl, e417, (by decide : 0 + 0 ≤ _), (by decide : 0 + 0 ≤ _)⟩)
    dsimp only [Pt.U, Pt.locs, Pt.cells, Pt.slots] at X429 l429 y429 z429 st429 hQ429
    rw [l429, y429, z429] at X429
    obtain ⟨rfl, N429q, e429⟩ := hQ429
    have N429 := Fr.app N0 N429q
    obtain ⟨fs, hr, hrun, hended, hW, hsame⟩ := X429.leave (v := some (.int 0)) (fun h => by rw [Bd.returns] at h; cases h)
    refine ⟨_, _, pre418 _ ?_, hrun, hended, _, _, rfl, ?_, ⟨_, rfl⟩, hW, hsame.mono (by decide) (by decide)⟩
    · show Steps p.tables e below (T417.setTop (mkF m 44 #[vr a1, vr a2, vr a2] [(.ref tb), (.ref ta)])) _
      refine st429 _ ?_
      refine XS.ifYes X429.here hx rfl (pc0 := 47) (pc' := 54) rfl (hb hby d9_47) rfl ((if0 _ _).trans (teq (rfl : (0 : Int32) = (0 : Int32))).1) (by decide) (by decide) ?_
      refine XS.iconst X429.here hx rfl (hb hby d9_54) ?_
      exact retN X429 hx (t := .boolean) Bd.returns (by simp) (hb hby d9_55) hr
    · show Q_rmeqS Z _ _ _ _ _ h0 n0 _ T429.heap _
      rw [e429]
      exact ⟨(by rw [own_sm, hla, hlb, if_neg (by decide)]), N429, rfl⟩
  · obtain ⟨_, _, ⟨T430, L430, k430, n430⟩, -, X430, ⟨Lc430, hQ430, l430, y430, z430⟩, st430⟩ := Jvm.LawKit.callS X417 hx (y := y_10) hown (mvT hZ (wd_60 hw)) (mvT hZ (wd_61 hw)) (mvT hZ (wd_62 hw)) (mvT hZ (wd_63 hw)) (by decide) (backOf (W := 0) (rmle21 l Z a0 hw [] ta tb ka_ kb_ (bb (sh8 qx (0 : Int32))) (bb (sh8 qx (8 : Int32))) (bb (sh8 qy (0 : Int32))) h0 n0 Z0 Va_ Vb_) hZ (wd_63 hw) (wd_62 hw) (by decide) (by decide)) (g := (mkF m 44 #[vr a1, vr a2, vr a2] [(.ref tb), (.ref ta)])) rfl (by rw [hml]; rfl) (argsL := [(.ref ta), (.ref tb)]) (rest := []) (lenOf pd___B_B_Z rfl) rfl (by show 2 * 0 + _ ≤ _; exact Nat.le_of_eq rfl) (hb hby d9_44) (fun _ _ => ⟨rfl, e417, (by decide : 0 + 0 ≤ _), (by decide : 0 + 0 ≤ _)⟩)
    dsimp only [Pt.U, Pt.locs, Pt.cells, Pt.slots] at X430 l430 y430 z430 st430 hQ430
    rw [l430, y430, z430] at X430
    obtain ⟨rfl, N430q, e430⟩ := hQ430
    have N430 := Fr.app N0 N430q
    obtain ⟨fs, hr, hrun, hended, hW, hsame⟩ := X430.leave (v := some (.int 0)) (fun h => by rw [Bd.returns] at h; cases h)
    refine ⟨_, _, pre418 _ ?_, hrun, hended, _, _, rfl, ?_, ⟨_, rfl⟩, hW, hsame.mono (by decide) (by decide)⟩
    · show Steps p.tables e below (T417.setTop (mkF m 44 #[vr a1, vr a2, vr a2] [(.ref tb), (.ref ta)])) _
      refine st430 _ ?_
      refine XS.ifYes X430.here hx rfl (pc0 := 47) (pc' := 54) rfl (hb hby d9_47) rfl ((if0 _ _).trans (teq (rfl : (0 : Int32) = (0 : Int32))).1) (by decide) (by decide) ?_
      refine XS.iconst X430.here hx rfl (hb hby d9_54) ?_
      exact retN X430 hx (t := .boolean) Bd.returns (by simp) (hb hby d9_55) hr
    · show Q_rmeqS Z _ _ _ _ _ h0 n0 _ T430.heap _
      rw [e430]
      exact ⟨(by rw [own_sm, hla, hlb, if_neg (by decide)]), N430, rfl⟩
  · by_cases hc44_431 : (bb (sh8 qx (0 : Int32))) = (bb (sh8 qy (0 : Int32)))
    · by_cases hc44_432 : (bb (sh8 qx (8 : Int32))) = (bb (sh8 qy (8 : Int32)))
      · obtain ⟨_, _, ⟨T433, L433, k433, n433⟩, -, X433, ⟨Lc433, hQ433, l433, y433, z433⟩, st433⟩ := Jvm.LawKit.callS X417 hx (y := y_10) hown (mvT hZ (wd_60 hw)) (mvT hZ (wd_61 hw)) (mvT hZ (wd_62 hw)) (mvT hZ (wd_63 hw)) (by decide) (backOf (W := 0) (rmle22eq l Z a0 hw [] ta tb ka_ kb_ (bb (sh8 qx (0 : Int32))) (bb (sh8 qx (8 : Int32))) (bb (sh8 qy (0 : Int32))) (bb (sh8 qy (8 : Int32))) h0 n0 Z0 Va_ Vb_ hc44_431 hc44_432) hZ (wd_63 hw) (wd_62 hw) (by decide) (by decide)) (g := (mkF m 44 #[vr a1, vr a2, vr a2] [(.ref tb), (.ref ta)])) rfl (by rw [hml]; rfl) (argsL := [(.ref ta), (.ref tb)]) (rest := []) (lenOf pd___B_B_Z rfl) rfl (by show 2 * 0 + _ ≤ _; exact Nat.le_of_eq rfl) (hb hby d9_44) (fun _ _ => ⟨rfl, e417, (by decide : 0 + 0 ≤ _), (by decide : 0 + 0 ≤ _)⟩)
        dsimp only [Pt.U, Pt.locs, Pt.cells, Pt.slots] at X433 l433 y433 z433 st433 hQ433
        rw [l433, y433, z433] at X433
        obtain ⟨rfl, N433q, e433⟩ := hQ433
        have N433 := Fr.app N0 N433q
        obtain ⟨fs, hr, hrun, hended, hW, hsame⟩ := X433.leave (v := some (.int 1)) (fun h => by rw [Bd.returns] at h; cases h)
        refine ⟨_, _, pre418 _ ?_, hrun, hended, _, _, rfl, ?_, ⟨_, rfl⟩, hW, hsame.mono (by decide) (by decide)⟩
        · show Steps p.tables e below (T417.setTop (mkF m 44 #[vr a1, vr a2, vr a2] [(.ref tb), (.ref ta)])) _
          refine st433 _ ?_
          refine XS.ifNo X433.here hx rfl (hb hby d9_47) rfl ((if0 _ _).trans (feq (by decide)).1) ?_
          refine XS.iconst X433.here hx rfl (hb hby d9_50) ?_
          refine XS.goto X433.here hx rfl (pc0 := 51) (pc' := 55) rfl (hb hby d9_51) (by decide) (by decide) ?_
          exact retN X433 hx (t := .boolean) Bd.returns (by simp) (hb hby d9_55) hr
        · show Q_rmeqS Z _ _ _ _ _ h0 n0 _ T433.heap _
          rw [e433]
          exact ⟨(by rw [own_sm, hla, hlb, if_pos rfl, if_neg (by decide), if_pos (bb_inj.mp hc44_431), if_neg (by decide), if_pos (bb_inj.mp hc44_432), if_pos (by decide)]), N433, rfl⟩
      · obtain ⟨_, _, ⟨T434, L434, k434, n434⟩, -, X434, ⟨Lc434, hQ434, l434, y434, z434⟩, st434⟩ := Jvm.LawKit.callS X417 hx (y := y_10) hown (mvT hZ (wd_60 hw)) (mvT hZ (wd_61 hw)) (mvT hZ (wd_62 hw)) (mvT hZ (wd_63 hw)) (by decide) (backOf (W := 0) (rmle221 l Z a0 hw [] ta tb ka_ kb_ (bb (sh8 qx (0 : Int32))) (bb (sh8 qx (8 : Int32))) (bb (sh8 qy (0 : Int32))) (bb (sh8 qy (8 : Int32))) h0 n0 Z0 Va_ Vb_ hc44_431 hc44_432) hZ (wd_63 hw) (wd_62 hw) (by decide) (by decide)) (g := (mkF m 44 #[vr a1, vr a2, vr a2] [(.ref tb), (.ref ta)])) rfl (by rw [hml]; rfl) (argsL := [(.ref ta), (.ref tb)]) (rest := []) (lenOf pd___B_B_Z rfl) rfl (by show 2 * 0 + _ ≤ _; exact Nat.le_of_eq rfl) (hb hby d9_44) (fun _ _ => ⟨rfl, e417, (by decide : 0 + 0 ≤ _), (by decide : 0 + 0 ≤ _)⟩)
        dsimp only [Pt.U, Pt.locs, Pt.cells, Pt.slots] at X434 l434 y434 z434 st434 hQ434
        rw [l434, y434, z434] at X434
        obtain ⟨rfl, N434q, e434⟩ := hQ434
        have N434 := Fr.app N0 N434q
        obtain ⟨fs, hr, hrun, hended, hW, hsame⟩ := X434.leave (v := some (.int 0)) (fun h => by rw [Bd.returns] at h; cases h)
        refine ⟨_, _, pre418 _ ?_, hrun, hended, _, _, rfl, ?_, ⟨_, rfl⟩, hW, hsame.mono (by decide) (by decide)⟩
        · show Steps p.tables e below (T417.setTop (mkF m 44 #[vr a1, vr a2, vr a2] [(.ref tb), (.ref ta)])) _
          refine st434 _ ?_
          refine XS.ifYes X434.here hx rfl (pc0 := 47) (pc' := 54) rfl (hb hby d9_47) rfl ((if0 _ _).trans (teq (rfl : (0 : Int32) = (0 : Int32))).1) (by decide) (by decide) ?_
          refine XS.iconst X434.here hx rfl (hb hby d9_54) ?_
          exact retN X434 hx (t := .boolean) Bd.returns (by simp) (hb hby d9_55) hr
        · show Q_rmeqS Z _ _ _ _ _ h0 n0 _ T434.heap _
          rw [e434]
          exact ⟨(by rw [own_sm, hla, hlb, if_pos rfl, if_neg (by decide), if_pos (bb_inj.mp hc44_431), if_neg (by decide), if_neg (fun q => hc44_432 (bb_inj.mpr q))]), N434, rfl⟩
    · obtain ⟨_, _, ⟨T435, L435, k435, n435⟩, -, X435, ⟨Lc435, hQ435, l435, y435, z435⟩, st435⟩ := Jvm.LawKit.callS X417 hx (y := y_10) hown (mvT hZ (wd_60 hw)) (mvT hZ (wd_61 hw)) (mvT hZ (wd_62 hw)) (mvT hZ (wd_63 hw)) (by decide) (backOf (W := 0) (rmle220 l Z a0 hw [] ta tb ka_ kb_ (bb (sh8 qx (0 : Int32))) (bb (sh8 qx (8 : Int32))) (bb (sh8 qy (0 : Int32))) (bb (sh8 qy (8 : Int32))) h0 n0 Z0 Va_ Vb_ hc44_431) hZ (wd_63 hw) (wd_62 hw) (by decide) (by decide)) (g := (mkF m 44 #[vr a1, vr a2, vr a2] [(.ref tb), (.ref ta)])) rfl (by rw [hml]; rfl) (argsL := [(.ref ta), (.ref tb)]) (rest := []) (lenOf pd___B_B_Z rfl) rfl (by show 2 * 0 + _ ≤ _; exact Nat.le_of_eq rfl) (hb hby d9_44) (fun _ _ => ⟨rfl, e417, (by decide : 0 + 0 ≤ _), (by decide : 0 + 0 ≤ _)⟩)
      dsimp only [Pt.U, Pt.locs, Pt.cells, Pt.slots] at X435 l435 y435 z435 st435 hQ435
      rw [l435, y435, z435] at X435
      obtain ⟨rfl, N435q, e435⟩ := hQ435
      have N435 := Fr.app N0 N435q
      obtain ⟨fs, hr, hrun, hended, hW, hsame⟩ := X435.leave (v := some (.int 0)) (fun h => by rw [Bd.returns] at h; cases h)
      refine ⟨_, _, pre418 _ ?_, hrun, hended, _, _, rfl, ?_, ⟨_, rfl⟩, hW, hsame.mono (by decide) (by decide)⟩
      · show Steps p.tables e below (T417.setTop (mkF m 44 #[vr a1, vr a2, vr a2] [(.ref tb), (.ref ta)])) _
        refine st435 _ ?_
        refine XS.ifYes X435.here hx rfl (pc0 := 47) (pc' := 54) rfl (hb hby d9_47) rfl ((if0 _ _).trans (teq (rfl : (0 : Int32) = (0 : Int32))).1) (by decide) (by decide) ?_
        refine XS.iconst X435.here hx rfl (hb hby d9_54) ?_
        exact retN X435 hx (t := .boolean) Bd.returns (by simp) (hb hby d9_55) hr
      · show Q_rmeqS Z _ _ _ _ _ h0 n0 _ T435.heap _
        rw [e435]
        exact ⟨(by rw [own_sm, hla, hlb, if_pos rfl, if_neg (by decide), if_neg (fun q => hc44_431 (bb_inj.mpr q))]), N435, rfl⟩
  · obtain ⟨_, _, ⟨T436, L436, k436, n436⟩, -, X436, ⟨Lc436, hQ436, l436, y436, z436⟩, st436⟩ := Jvm.LawKit.callS X417 hx (y := y_10) hown (mvT hZ (wd_60 hw)) (mvT hZ (wd_61 hw)) (mvT hZ (wd_62 hw)) (mvT hZ (wd_63 hw)) (by decide) (backOf (W := 0) (rmle23 l Z a0 hw [] ta tb ka_ kb_ (bb (sh8 qx (0 : Int32))) (bb (sh8 qx (8 : Int32))) (bb (sh8 qy (0 : Int32))) (bb (sh8 qy (8 : Int32))) (bb (sh8 qy (16 : Int32))) h0 n0 Z0 Va_ Vb_) hZ (wd_63 hw) (wd_62 hw) (by decide) (by decide)) (g := (mkF m 44 #[vr a1, vr a2, vr a2] [(.ref tb), (.ref ta)])) rfl (by rw [hml]; rfl) (argsL := [(.ref ta), (.ref tb)]) (rest := []) (lenOf pd___B_B_Z rfl) rfl (by show 2 * 0 + _ ≤ _; exact Nat.le_of_eq rfl) (hb hby d9_44) (fun _ _ => ⟨rfl, e417, (by decide : 0 + 0 ≤ _), (by decide : 0 + 0 ≤ _)⟩)
    dsimp only [Pt.U, Pt.locs, Pt.cells, Pt.slots] at X436 l436 y436 z436 st436 hQ436
    rw [l436, y436, z436] at X436
    obtain ⟨rfl, N436q, e436⟩ := hQ436
    have N436 := Fr.app N0 N436q
    obtain ⟨fs, hr, hrun, hended, hW, hsame⟩ := X436.leave (v := some (.int 0)) (fun h => by rw [Bd.returns] at h; cases h)
    refine ⟨_, _, pre418 _ ?_, hrun, hended, _, _, rfl, ?_, ⟨_, rfl⟩, hW, hsame.mono (by decide) (by decide)⟩
    · show Steps p.tables e below (T417.setTop (mkF m 44 #[vr a1, vr a2, vr a2] [(.ref tb), (.ref ta)])) _
      refine st436 _ ?_
      refine XS.ifYes X436.here hx rfl (pc0 := 47) (pc' := 54) rfl (hb hby d9_47) rfl ((if0 _ _).trans (teq (rfl : (0 : Int32) = (0 : Int32))).1) (by decide) (by decide) ?_
      refine XS.iconst X436.here hx rfl (hb hby d9_54) ?_
      exact retN X436 hx (t := .boolean) Bd.returns (by simp) (hb hby d9_55) hr
    · show Q_rmeqS Z _ _ _ _ _ h0 n0 _ T436.heap _
      rw [e436]
      exact ⟨(by rw [own_sm, hla, hlb, if_neg (by decide)]), N436, rfl⟩
  · obtain ⟨_, _, ⟨T437, L437, k437, n437⟩, -, X437, ⟨Lc437, hQ437, l437, y437, z437⟩, st437⟩ := Jvm.LawKit.callS X417 hx (y := y_10) hown (mvT hZ (wd_60 hw)) (mvT hZ (wd_61 hw)) (mvT hZ (wd_62 hw)) (mvT hZ (wd_63 hw)) (by decide) (backOf (W := 0) (rmle30 l Z a0 hw [] ta tb ka_ kb_ (bb (sh8 qx (0 : Int32))) (bb (sh8 qx (8 : Int32))) (bb (sh8 qx (16 : Int32))) h0 n0 Z0 Va_ Vb_) hZ (wd_63 hw) (wd_62 hw) (by decide) (by decide)) (g := (mkF m 44 #[vr a1, vr a2, vr a2] [(.ref tb), (.ref ta)])) rfl (by rw [hml]; rfl) (argsL := [(.ref ta), (.ref tb)]) (rest := []) (lenOf pd___B_B_Z rfl) rfl (by show 2 * 0 + _ ≤ _; exact Nat.le_of_eq rfl) (hb hby d9_44) (fun _ _ => ⟨rfl, e417, (by decide : 0 + 0 ≤ _), (by decide : 0 + 0 ≤ _)⟩)
    dsimp only [Pt.U, Pt.locs, Pt.cells, Pt.slots] at X437 l437 y437 z437 st437 hQ437
    rw [l437, y437, z437] at X437
    obtain ⟨rfl, N437q, e437⟩ := hQ437
    have N437 := Fr.app N0 N437q
    obtain ⟨fs, hr, hrun, hended, hW, hsame⟩ := X437.leave (v := some (.int 0)) (fun h => by rw [Bd.returns] at h; cases h)
    refine ⟨_, _, pre418 _ ?_, hrun, hended, _, _, rfl, ?_, ⟨_, rfl⟩, hW, hsame.mono (by decide) (by decide)⟩
    · show Steps p.tables e below (T417.setTop (mkF m 44 #[vr a1, vr a2, vr a2] [(.ref tb), (.ref ta)])) _
      refine st437 _ ?_
      refine XS.ifYes X437.here hx rfl (pc0 := 47) (pc' := 54) rfl (hb hby d9_47) rfl ((if0 _ _).trans (teq (rfl : (0 : Int32) = (0 : Int32))).1) (by decide) (by decide) ?_
      refine XS.iconst X437.here hx rfl (hb hby d9_54) ?_
      exact retN X437 hx (t := .boolean) Bd.returns (by simp) (hb hby d9_55) hr
    · show Q_rmeqS Z _ _ _ _ _ h0 n0 _ T437.heap _
      rw [e437]
      exact ⟨(by rw [own_sm, hla, hlb, if_neg (by decide)]), N437, rfl⟩
  · obtain ⟨_, _, ⟨T438, L438, k438, n438⟩, -, X438, ⟨Lc438, hQ438, l438, y438, z438⟩, st438⟩ := Jvm.LawKit.callS X417 hx (y := y_10) hown (mvT hZ (wd_60 hw)) (mvT hZ (wd_61 hw)) (mvT hZ (wd_62 hw)) (mvT hZ (wd_63 hw)) (by decide) (backOf (W := 0) (rmle31 l Z a0 hw [] ta tb ka_ kb_ (bb (sh8 qx (0 : Int32))) (bb (sh8 qx (8 : Int32))) (bb (sh8 qx (16 : Int32))) (bb (sh8 qy (0 : Int32))) h0 n0 Z0 Va_ Vb_) hZ (wd_63 hw) (wd_62 hw) (by decide) (by decide)) (g := (mkF m 44 #[vr a1, vr a2, vr a2] [(.ref tb), (.ref ta)])) rfl (by rw [hml]; rfl) (argsL := [(.ref ta), (.ref tb)]) (rest := []) (lenOf pd___B_B_Z rfl) rfl (by show 2 * 0 + _ ≤ _; exact Nat.le_of_eq rfl) (hb hby d9_44) (fun _ _ => ⟨rfl, e417, (by decide : 0 + 0 ≤ _), (by decide : 0 + 0 ≤ _)⟩)
    dsimp only [Pt.U, Pt.locs, Pt.cells, Pt.slots] at X438 l438 y438 z438 st438 hQ438
    rw [l438, y438, z438] at X438
    obtain ⟨rfl, N438q, e438⟩ := hQ438
    have N438 := Fr.app N0 N438q
    obtain ⟨fs, hr, hrun, hended, hW, hsame⟩ := X438.leave (v := some (.int 0)) (fun h => by rw [Bd.returns] at h; cases h)
    refine ⟨_, _, pre418 _ ?_, hrun, hended, _, _, rfl, ?_, ⟨_, rfl⟩, hW, hsame.mono (by decide) (by decide)⟩
    · show Steps p.tables e below (T417.setTop (mkF m 44 #[vr a1, vr a2, vr a2] [(.ref tb), (.ref ta)])) _
      refine st438 _ ?_
      refine XS.ifYes X438.here hx rfl (pc0 := 47) (pc' := 54) rfl (hb hby d9_47) rfl ((if0 _ _).trans (teq (rfl : (0 : Int32) = (0 : Int32))).1) (by decide) (by decide) ?_
      refine XS.iconst X438.here hx rfl (hb hby d9_54) ?_
      exact retN X438 hx (t := .boolean) Bd.returns (by simp) (hb hby d9_55) hr
    · show Q_rmeqS Z _ _ _ _ _ h0 n0 _ T438.heap _
      rw [e438]
      exact ⟨(by rw [own_sm, hla, hlb, if_neg (by decide)]), N438, rfl⟩
  · obtain ⟨_, _, ⟨T439, L439, k439, n439⟩, -, X439, ⟨Lc439, hQ439, l439, y439, z439⟩, st439⟩ := Jvm.LawKit.callS X417 hx (y := y_10) hown (mvT hZ (wd_60 hw)) (mvT hZ (wd_61 hw)) (mvT hZ (wd_62 hw)) (mvT hZ (wd_63 hw)) (by decide) (backOf (W := 0) (rmle32 l Z a0 hw [] ta tb ka_ kb_ (bb (sh8 qx (0 : Int32))) (bb (sh8 qx (8 : Int32))) (bb (sh8 qx (16 : Int32))) (bb (sh8 qy (0 : Int32))) (bb (sh8 qy (8 : Int32))) h0 n0 Z0 Va_ Vb_) hZ (wd_63 hw) (wd_62 hw) (by decide) (by decide)) (g := (mkF m 44 #[vr a1, vr a2, vr a2] [(.ref tb), (.ref ta)])) rfl (by rw [hml]; rfl) (argsL := [(.ref ta), (.ref tb)]) (rest := []) (lenOf pd___B_B_Z rfl) rfl (by show 2 * 0 + _ ≤ _; exact Nat.le_of_eq rfl) (hb hby d9_44) (fun _ _ => ⟨rfl, e417, (by decide : 0 + 0 ≤ _), (by decide : 0 + 0 ≤ _)⟩)
    dsimp only [Pt.U, Pt.locs, Pt.cells, Pt.slots] at X439 l439 y439 z439 st439 hQ439
    rw [l439, y439, z439] at X439
    obtain ⟨rfl, N439q, e439⟩ := hQ439
    have N439 := Fr.app N0 N439q
    obtain ⟨fs, hr, hrun, hended, hW, hsame⟩ := X439.leave (v := some (.int 0)) (fun h => by rw [Bd.returns] at h; cases h)
    refine ⟨_, _, pre418 _ ?_, hrun, hended, _, _, rfl, ?_, ⟨_, rfl⟩, hW, hsame.mono (by decide) (by decide)⟩
    · show Steps p.tables e below (T417.setTop (mkF m 44 #[vr a1, vr a2, vr a2] [(.ref tb), (.ref ta)])) _
      refine st439 _ ?_
      refine XS.ifYes X439.here hx rfl (pc0 := 47) (pc' := 54) rfl (hb hby d9_47) rfl ((if0 _ _).trans (teq (rfl : (0 : Int32) = (0 : Int32))).1) (by decide) (by decide) ?_
      refine XS.iconst X439.here hx rfl (hb hby d9_54) ?_
      exact retN X439 hx (t := .boolean) Bd.returns (by simp) (hb hby d9_55) hr
    · show Q_rmeqS Z _ _ _ _ _ h0 n0 _ T439.heap _
      rw [e439]
      exact ⟨(by rw [own_sm, hla, hlb, if_neg (by decide)]), N439, rfl⟩
  · by_cases hc44_440 : (bb (sh8 qx (0 : Int32))) = (bb (sh8 qy (0 : Int32)))
    · by_cases hc44_441 : (bb (sh8 qx (8 : Int32))) = (bb (sh8 qy (8 : Int32)))
      · by_cases hc44_442 : (bb (sh8 qx (16 : Int32))) = (bb (sh8 qy (16 : Int32)))
        · obtain ⟨_, _, ⟨T443, L443, k443, n443⟩, -, X443, ⟨Lc443, hQ443, l443, y443, z443⟩, st443⟩ := Jvm.LawKit.callS X417 hx (y := y_10) hown (mvT hZ (wd_60 hw)) (mvT hZ (wd_61 hw)) (mvT hZ (wd_62 hw)) (mvT hZ (wd_63 hw)) (by decide) (backOf (W := 0) (rmle33eq l Z a0 hw [] ta tb ka_ kb_ (bb (sh8 qx (0 : Int32))) (bb (sh8 qx (8 : Int32))) (bb (sh8 qx (16 : Int32))) (bb (sh8 qy (0 : Int32))) (bb (sh8 qy (8 : Int32))) (bb (sh8 qy (16 : Int32))) h0 n0 Z0 Va_ Vb_ hc44_440 hc44_441 hc44_442) hZ (wd_63 hw) (wd_62 hw) (by decide) (by decide)) (g := (mkF m 44 #[vr a1, vr a2, vr a2] [(.ref tb), (.ref ta)])) rfl (by rw [hml]; rfl) (argsL := [(.ref ta), (.ref tb)]) (rest := []) (lenOf pd___B_B_Z rfl) rfl (by show 2 * 0 + _ ≤ _; exact Nat.le_of_eq rfl) (hb hby d9_44) (fun _ _ => ⟨rfl, e417, (by decide : 0 + 0 ≤ _), (by decide : 0 + 0 ≤ _)⟩)
          dsimp only [Pt.U, Pt.locs, Pt.cells, Pt.slots] at X443 l443 y443 z443 st443 hQ443
          rw [l443, y443, z443] at X443
          obtain ⟨rfl, N443q, e443⟩ := hQ443
          have N443 := Fr.app N0 N443q
          obtain ⟨fs, hr, hrun, hended, hW, hsame⟩ := X443.leave (v := some (.int 1)) (fun h => by rw [Bd.returns] at h; cases h)
          refine ⟨_, _, pre418 _ ?_, hrun, hended, _, _, rfl, ?_, ⟨_, rfl⟩, hW, hsame.mono (by decide) (by decide)⟩
          · show Steps p.tables e below (T417.setTop (mkF m 44 #[vr a1, vr a2, vr a2] [(.ref tb), (.ref ta)])) _
            refine st443 _ ?_
            refine XS.ifNo X443.here hx rfl (hb hby d9_47) rfl ((if0 _ _).trans (feq (by decide)).1) ?_
            refine XS.iconst X443.here hx rfl (hb hby d9_50) ?_
            refine XS.goto X443.here hx rfl (pc0 := 51) (pc' := 55) rfl (hb hby d9_51) (by decide) (by decide) ?_
            exact retN X443 hx (t := .boolean) Bd.returns (by simp) (hb hby d9_55) hr
          · show Q_rmeqS Z _ _ _ _ _ h0 n0 _ T443.heap _
            rw [e443]
            exact ⟨(by rw [own_sm, hla, hlb, if_pos rfl, if_neg (by decide), if_pos (bb_inj.mp hc44_440), if_neg (by decide), if_pos (bb_inj.mp hc44_441), if_neg (by decide), if_pos (bb_inj.mp hc44_442)]), N443, rfl⟩
        · obtain ⟨_, _, ⟨T444, L444, k444, n444⟩, -, X444, ⟨Lc444, hQ444, l444, y444, z444⟩, st444⟩ := Jvm.LawKit.callS X417 hx (y := y_10) hown (mvT hZ (wd_60 hw)) (mvT hZ (wd_61 hw)) (mvT hZ (wd_62 hw)) (mvT hZ (wd_63 hw)) (by decide) (backOf (W := 0) (rmle332 l Z a0 hw [] ta tb ka_ kb_ (bb (sh8 qx (0 : Int32))) (bb (sh8 qx (8 : Int32))) (bb (sh8 qx (16 : Int32))) (bb (sh8 qy (0 : Int32))) (bb (sh8 qy (8 : Int32))) (bb (sh8 qy (16 : Int32))) h0 n0 Z0 Va_ Vb_ hc44_440 hc44_441 hc44_442) hZ (wd_63 hw) (wd_62 hw) (by decide) (by decide)) (g := (mkF m 44 #[vr a1, vr a2, vr a2] [(.ref tb), (.ref ta)])) rfl (by rw [hml]; rfl) (argsL := [(.ref ta), (.ref tb)]) (rest := []) (lenOf pd___B_B_Z rfl) rfl (by show 2 * 0 + _ ≤ _; exact Nat.le_of_eq rfl) (hb hby d9_44) (fun _ _ => ⟨rfl, e417, (by decide : 0 + 0 ≤ _), (by decide : 0 + 0 ≤ _)⟩)
          dsimp only [Pt.U, Pt.locs, Pt.cells, Pt.slots] at X444 l444 y444 z444 st444 hQ444
          rw [l444, y444, z444] at X444
          obtain ⟨rfl, N444q, e444⟩ := hQ444
          have N444 := Fr.app N0 N444q
          obtain ⟨fs, hr, hrun, hended, hW, hsame⟩ := X444.leave (v := some (.int 0)) (fun h => by rw [Bd.returns] at h; cases h)
          refine ⟨_, _, pre418 _ ?_, hrun, hended, _, _, rfl, ?_, ⟨_, rfl⟩, hW, hsame.mono (by decide) (by decide)⟩
          · show Steps p.tables e below (T417.setTop (mkF m 44 #[vr a1, vr a2, vr a2] [(.ref tb), (.ref ta)])) _
            refine st444 _ ?_
            refine XS.ifYes X444.here hx rfl (pc0 := 47) (pc' := 54) rfl (hb hby d9_47) rfl ((if0 _ _).trans (teq (rfl : (0 : Int32) = (0 : Int32))).1) (by decide) (by decide) ?_
            refine XS.iconst X444.here hx rfl (hb hby d9_54) ?_
            exact retN X444 hx (t := .boolean) Bd.returns (by simp) (hb hby d9_55) hr
          · show Q_rmeqS Z _ _ _ _ _ h0 n0 _ T444.heap _
            rw [e444]
            exact ⟨(by rw [own_sm, hla, hlb, if_pos rfl, if_neg (by decide), if_pos (bb_inj.mp hc44_440), if_neg (by decide), if_pos (bb_inj.mp hc44_441), if_neg (by decide), if_neg (fun q => hc44_442 (bb_inj.mpr q))]), N444, rfl⟩
      · obtain ⟨_, _, ⟨T445, L445, k445, n445⟩, -, X445, ⟨Lc445, hQ445, l445, y445, z445⟩, st445⟩ := Jvm.LawKit.callS X417 hx (y := y_10) hown (mvT hZ (wd_60 hw)) (mvT hZ (wd_61 hw)) (mvT hZ (wd_62 hw)) (mvT hZ (wd_63 hw)) (by decide) (backOf (W := 0) (rmle331 l Z a0 hw [] ta tb ka_ kb_ (bb (sh8 qx (0 : Int32))) (bb (sh8 qx (8 : Int32))) (bb (sh8 qx (16 : Int32))) (bb (sh8 qy (0 : Int32))) (bb (sh8 qy (8 : Int32))) (bb (sh8 qy (16 : Int32))) h0 n0 Z0 Va_ Vb_ hc44_440 hc44_441) hZ (wd_63 hw) (wd_62 hw) (by decide) (by decide)) (g := (mkF m 44 #[vr a1, vr a2, vr a2] [(.ref tb), (.ref ta)])) rfl (by rw [hml]; rfl) (argsL := [(.ref ta), (.ref tb)]) (rest := []) (lenOf pd___B_B_Z rfl) rfl (by show 2 * 0 + _ ≤ _; exact Nat.le_of_eq rfl) (hb hby d9_44) (fun _ _ => ⟨rfl, e417, (by decide : 0 + 0 ≤ _), (by decide : 0 + 0 ≤ _)⟩)
        dsimp only [Pt.U, Pt.locs, Pt.cells, Pt.slots] at X445 l445 y445 z445 st445 hQ445
        rw [l445, y445, z445] at X445
        obtain ⟨rfl, N445q, e445⟩ := hQ445
        have N445 := Fr.app N0 N445q
        obtain ⟨fs, hr, hrun, hended, hW, hsame⟩ := X445.leave (v := some (.int 0)) (fun h => by rw [Bd.returns] at h; cases h)
        refine ⟨_, _, pre418 _ ?_, hrun, hended, _, _, rfl, ?_, ⟨_, rfl⟩, hW, hsame.mono (by decide) (by decide)⟩
        · show Steps p.tables e below (T417.setTop (mkF m 44 #[vr a1, vr a2, vr a2] [(.ref tb), (.ref ta)])) _
          refine st445 _ ?_
          refine XS.ifYes X445.here hx rfl (pc0 := 47) (pc' := 54) rfl (hb hby d9_47) rfl ((if0 _ _).trans (teq (rfl : (0 : Int32) = (0 : Int32))).1) (by decide) (by decide) ?_
          refine XS.iconst X445.here hx rfl (hb hby d9_54) ?_
          exact retN X445 hx (t := .boolean) Bd.returns (by simp) (hb hby d9_55) hr
        · show Q_rmeqS Z _ _ _ _ _ h0 n0 _ T445.heap _
          rw [e445]
          exact ⟨(by rw [own_sm, hla, hlb, if_pos rfl, if_neg (by decide), if_pos (bb_inj.mp hc44_440), if_neg (by decide), if_neg (fun q => hc44_441 (bb_inj.mpr q))]), N445, rfl⟩
    · obtain ⟨_, _, ⟨T446, L446, k446, n446⟩, -, X446, ⟨Lc446, hQ446, l446, y446, z446⟩, st446⟩ := Jvm.LawKit.callS X417 hx (y := y_10) hown (mvT hZ (wd_60 hw)) (mvT hZ (wd_61 hw)) (mvT hZ (wd_62 hw)) (mvT hZ (wd_63 hw)) (by decide) (backOf (W := 0) (rmle330 l Z a0 hw [] ta tb ka_ kb_ (bb (sh8 qx (0 : Int32))) (bb (sh8 qx (8 : Int32))) (bb (sh8 qx (16 : Int32))) (bb (sh8 qy (0 : Int32))) (bb (sh8 qy (8 : Int32))) (bb (sh8 qy (16 : Int32))) h0 n0 Z0 Va_ Vb_ hc44_440) hZ (wd_63 hw) (wd_62 hw) (by decide) (by decide)) (g := (mkF m 44 #[vr a1, vr a2, vr a2] [(.ref tb), (.ref ta)])) rfl (by rw [hml]; rfl) (argsL := [(.ref ta), (.ref tb)]) (rest := []) (lenOf pd___B_B_Z rfl) rfl (by show 2 * 0 + _ ≤ _; exact Nat.le_of_eq rfl) (hb hby d9_44) (fun _ _ => ⟨rfl, e417, (by decide : 0 + 0 ≤ _), (by decide : 0 + 0 ≤ _)⟩)
      dsimp only [Pt.U, Pt.locs, Pt.cells, Pt.slots] at X446 l446 y446 z446 st446 hQ446
      rw [l446, y446, z446] at X446
      obtain ⟨rfl, N446q, e446⟩ := hQ446
      have N446 := Fr.app N0 N446q
      obtain ⟨fs, hr, hrun, hended, hW, hsame⟩ := X446.leave (v := some (.int 0)) (fun h => by rw [Bd.returns] at h; cases h)
      refine ⟨_, _, pre418 _ ?_, hrun, hended, _, _, rfl, ?_, ⟨_, rfl⟩, hW, hsame.mono (by decide) (by decide)⟩
      · show Steps p.tables e below (T417.setTop (mkF m 44 #[vr a1, vr a2, vr a2] [(.ref tb), (.ref ta)])) _
        refine st446 _ ?_
        refine XS.ifYes X446.here hx rfl (pc0 := 47) (pc' := 54) rfl (hb hby d9_47) rfl ((if0 _ _).trans (teq (rfl : (0 : Int32) = (0 : Int32))).1) (by decide) (by decide) ?_
        refine XS.iconst X446.here hx rfl (hb hby d9_54) ?_
        exact retN X446 hx (t := .boolean) Bd.returns (by simp) (hb hby d9_55) hr
      · show Q_rmeqS Z _ _ _ _ _ h0 n0 _ T446.heap _
        rw [e446]
        exact ⟨(by rw [own_sm, hla, hlb, if_pos rfl, if_neg (by decide), if_neg (fun q => hc44_440 (bb_inj.mpr q))]), N446, rfl⟩
theorem d9_5 : dc B9 5 (.iconst 1) 1 := by decide +kernel
theorem d9_6 : dc B9 6 .ireturn 1 := by decide +kernel
def Q_rmeqI (Z : State) (a1 : Addr) (h0 : Heap) (n0 : Nat) (v : Option Value) (h : Heap) (L : List Loc) : Prop := v = some (.int 1) ∧ Fr n0 L ∧ h = h0
set_option maxRecDepth 65536 in
set_option maxHeartbeats 40000000 in
theorem rmeqI (l : Launch) (Z : State) (a0 : Array Value) (hw : HW a0 Z) (ws : List Jvm.Cond) (a1 : Addr) (h0 : Heap) (n0 : Nat) (Z0 : n0 ≤ h0.size) (E_a1 : Exa Z h0 a1 cs1) :
    MF l y_9 (Jvm.Cond.code y_9 B9 3 (some .boolean) :: ws) (⟨0, 0, 0, 0⟩ : Room) Z h0 #[(.ref a1), (.ref a1)] (Q_rmeqI Z a1 h0 n0) := by
  refine MetFree.of_bodySF (plainFor_of_name pn_java_lang_String) hisR ?_
  intro p e s m args below meth c s₁ Bd hml0 hP hK
  obtain ⟨rfl, hZ, hh⟩ := hP
  have hx := Bd.exec
  have hby := Bd.bytes
  have hml : c.maxLocals = 3 := hml0
  have hown : s.vm.findClass cs1 = some m.cls := findClass_of_methodNamed Bd.named
  have hnm := (name_of_methodNamed Bd.named Bd.method).1
  have X0 : Stand p l e (⟨0, 0, 0, 0⟩ : Room) s m #[(.ref a1), (.ref a1)] below meth c s₁ [] 0 0 := Stand.of_body Bd
  have e0 : s₁.heap = h0 := by rw [← hh, Bd.state]; rfl
  have N0 := Fr.nil n0
  have pre0 : Goes p e below (s₁.setTop (entryFrame m #[(.ref a1), (.ref a1)] 3)) (s₁.setTop (mkF m 0 #[vr a1, vr a1, .unset] [])) := fun t k => castTop (ef_9 m a1 a1) k
  obtain ⟨fs, hr, hrun, hended, hW, hsame⟩ := X0.leave (v := some (.int 1)) (fun h => by rw [Bd.returns] at h; cases h)
  refine ⟨_, _, pre0 _ ?_, hrun, hended, _, _, rfl, ?_, ⟨_, rfl⟩, hW, hsame.mono (by decide) (by decide)⟩
  · show Steps p.tables e below (s₁.setTop (mkF m 0 #[vr a1, vr a1, .unset] [])) _
    refine XS.aloadN X0.here hx rfl (hb hby d9_0) rfl rfl ?_
    refine XS.aloadN X0.here hx rfl (hb hby d9_1) rfl rfl ?_
    refine Jvm.RoadKit.acmp (g := (mkF m 2 #[vr a1, vr a1, .unset] [(.ref a1), (.ref a1)])) X0 hx rfl rfl rfl (pc0 := 2) (pc' := 5) (same := true) rfl (hb hby d9_2) rfl (decide_eq_true rfl) (by decide) (by decide) ?_
    refine XS.iconst X0.here hx rfl (hb hby d9_5) ?_
    exact retN X0 hx (t := .boolean) Bd.returns (by simp) (hb hby d9_6) hr
  · show Q_rmeqI Z _ h0 n0 _ s₁.heap _
    rw [e0]
    exact ⟨rfl, N0, rfl⟩
abbrev B6 : ByteArray := prog_26_method_1_code
theorem d6_0 : dc B6 0 (.aload_n 0) 1 := by decide +kernel
theorem d6_1 : dc B6 1 (.invokespecial 1) 3 := by decide +kernel
theorem wd_36 {a0 Z} (hw : HW a0 Z) : Bw a0 Z (.methodLink cs0 1 ⟨"java/lang/Object", "<init>", "()V"⟩) := hw _ (mx 36 rfl)
theorem d6_4 : dc B6 4 (.aload_n 0) 1 := by decide +kernel
theorem d6_5 : dc B6 5 (.aload_n 1) 1 := by decide +kernel
theorem d6_6 : dc B6 6 (.putfield 7) 3 := by decide +kernel
theorem wd_37 {a0 Z} (hw : HW a0 Z) : Bw a0 Z (.fieldLink cs0 7 cs0 "file" "Ljava/lang/String;") := hw _ (mx 37 rfl)
theorem wd_38 {a0 Z} (hw : HW a0 Z) : Bw a0 Z (.laysFinal cs0 cs0 "file" "Ljava/lang/String;") := hw _ (mx 38 rfl)
theorem d6_9 : dc B6 9 (.aload_n 0) 1 := by decide +kernel
theorem d6_10 : dc B6 10 (.iload_n 2) 1 := by decide +kernel
theorem d6_11 : dc B6 11 (.putfield 13) 3 := by decide +kernel
theorem wd_39 {a0 Z} (hw : HW a0 Z) : Bw a0 Z (.fieldLink cs0 13 cs0 "line" "I") := hw _ (mx 39 rfl)
theorem wd_40 {a0 Z} (hw : HW a0 Z) : Bw a0 Z (.laysFinal cs0 cs0 "line" "I") := hw _ (mx 40 rfl)
theorem d6_14 : dc B6 14 (.aload_n 0) 1 := by decide +kernel
theorem d6_15 : dc B6 15 (.iload_n 3) 1 := by decide +kernel
theorem d6_16 : dc B6 16 (.putfield 17) 3 := by decide +kernel
theorem wd_41 {a0 Z} (hw : HW a0 Z) : Bw a0 Z (.fieldLink cs0 17 cs0 "column" "I") := hw _ (mx 41 rfl)
theorem wd_42 {a0 Z} (hw : HW a0 Z) : Bw a0 Z (.laysFinal cs0 cs0 "column" "I") := hw _ (mx 42 rfl)
theorem d6_19 : dc B6 19 .return_ 1 := by decide +kernel
theorem ef_6 (m : MethodId) (x0 : Addr) (x1 : Addr) (x2 : Int32) (x3 : Int32) : entryFrame m #[(.ref x0), (.ref x1), (.int x2), (.int x3)] 4 = mkF m 0 #[.val (.ref x0), .val (.ref x1), .val (.int x2), .val (.int x3)] [] := by first | (simp [entryFrame, mkF, argsToLocals, Value.category]; done) | rfl
theorem pn_com_example_xylem_xylem_model_Location : plainName cs0 = true := by first | (simp [plainName, overriddenIn]; done) | decide +kernel
def Q_rm6 (Z : State) (a1 : Addr) (a2 : Addr) (p3 : Int32) (p4 : Int32) (u1 : Value) (u2 : Value) (u3 : Value) (h0 : Heap) (n0 : Nat) (v : Option Value) (h : Heap) (L : List Loc) : Prop := v = none ∧ Fr n0 L ∧ Keep h0 h [a1] ∧ (Fld Z h a1 cs0 "file" "Ljava/lang/String;" (.ref a2)) ∧ (Fld Z h a1 cs0 "line" "I" (.int p3)) ∧ (Fld Z h a1 cs0 "column" "I" (.int p4))
set_option maxRecDepth 65536 in
set_option maxHeartbeats 40000000 in
abbrev y_6 : MethodName := ⟨cs0, "<init>", "(Ljava/lang/String;II)V"⟩
theorem rm6 (l : Launch) (Z : State) (a0 : Array Value) (hw : HW a0 Z) (ws : List Jvm.Cond) (a1 : Addr) (a2 : Addr) (p3 : Int32) (p4 : Int32) (u1 : Value) (u2 : Value) (u3 : Value) (h0 : Heap) (n0 : Nat) (Z0 : n0 ≤ h0.size) (F_file_a1 : Fld Z h0 a1 cs0 "file" "Ljava/lang/String;" u1) (F_line_a1 : Fld Z h0 a1 cs0 "line" "I" u2) (F_column_a1 : Fld Z h0 a1 cs0 "column" "I" u3) (E_a1 : Exa Z h0 a1 cs0) (g_a1 : n0 ≤ a1) :
    MF l y_6 (Jvm.Cond.code y_6 B6 4 none :: ws) (⟨1, 0, 0, 12⟩ : Room) Z h0 #[(.ref a1), (.ref a2), (.int p3), (.int p4)] (Q_rm6 Z a1 a2 p3 p4 u1 u2 u3 h0 n0) := by
  refine MetFree.of_bodySF (plainFor_of_name pn_com_example_xylem_xylem_model_Location) hisR ?_
  intro p e s m args below meth c s₁ Bd hml0 hP hK
  obtain ⟨rfl, hZ, hh⟩ := hP
  have hx := Bd.exec
  have hby := Bd.bytes
  have hml : c.maxLocals = 4 := hml0
  have hown : s.vm.findClass cs0 = some m.cls := findClass_of_methodNamed Bd.named
  have hnm := (name_of_methodNamed Bd.named Bd.method).1
  have X0 : Stand p l e (⟨1, 0, 0, 12⟩ : Room) s m #[(.ref a1), (.ref a2), (.int p3), (.int p4)] below meth c s₁ [] 0 0 := Stand.of_body Bd
  have e0 : s₁.heap = h0 := by rw [← hh, Bd.state]; rfl
  have N0 := Fr.nil n0
  have pre0 : Goes p e below (s₁.setTop (entryFrame m #[(.ref a1), (.ref a2), (.int p3), (.int p4)] 4)) (s₁.setTop (mkF m 0 #[vr a1, vr a2, vi p3, vi p4] [])) := fun t k => castTop (ef_6 m a1 a2 p3 p4) k
  obtain ⟨T447, X447, e447, st447⟩ := initO X0 hx hZ hown (wd_36 hw) (wd_20 hw) (wd_21 hw) e0 (g := (mkF m 1 #[vr a1, vr a2, vi p3, vi p4] [(.ref a1)])) rfl (by rw [hml]; rfl) rfl (hb hby d6_1) (by decide) (W := 0) (by show 2 * 0 + _ ≤ _; exact Nat.le_of_eq rfl) (by decide)
  obtain ⟨T448, h448, X448, e448, W448, st448⟩ := putF X447 hx hZ hown (host := "") (Or.inl (wd_37 hw)) Via.refl e447 F_file_a1 E_a1 (Or.inr ⟨(wd_38 hw), rfl, hnm⟩) (wd_31 hw) (ty := (.object cs1)) (by decide) rfl rfl (g := (mkF m 6 #[vr a1, vr a2, vi p3, vi p4] [(.ref a2), (.ref a1)])) rfl rfl (hb hby d6_6)
  have Fw448 := F_file_a1.same W448
  have Z449 := Nat.le_trans Z0 (Keep.of_wr W448).1
  have K450 := Keep.wr (Keep.refl h0 [a1]) W448 (Or.inl (List.mem_of_getElem? (i := 0) rfl))
  have N448 := Fr.snoc X448 N0 g_a1
  obtain ⟨T451, h451, X451, e451, W451, st451⟩ := putF X448 hx hZ hown (host := "") (Or.inl (wd_39 hw)) Via.refl e448 (F_line_a1.other W448 (Or.inr (slot_ne (Or.inr (wd_40 hw)) (Or.inr (wd_38 hw)) (by decide) (t := .int) (t' := (.object cs1)) (by decide) (by decide)))) (E_a1.keep K450) (Or.inr ⟨(wd_40 hw), rfl, hnm⟩) (wd_31 hw) (ty := .int) (by decide) rfl rfl (g := (mkF m 11 #[vr a1, vr a2, vi p3, vi p4] [(.int p3), (.ref a1)])) rfl rfl (hb hby d6_11)
  have Fw451 := (F_line_a1.other W448 (Or.inr (slot_ne (Or.inr (wd_40 hw)) (Or.inr (wd_38 hw)) (by decide) (t := .int) (t' := (.object cs1)) (by decide) (by decide)))).same W451
  have Z452 := Nat.le_trans Z449 (Keep.of_wr W451).1
  have K453 := Keep.wr K450 W451 (Or.inl (List.mem_of_getElem? (i := 0) rfl))
  have N451 := Fr.snoc X451 N448 g_a1
  obtain ⟨T454, h454, X454, e454, W454, st454⟩ := putF X451 hx hZ hown (host := "") (Or.inl (wd_41 hw)) Via.refl e451 ((F_column_a1.other W448 (Or.inr (slot_ne (Or.inr (wd_42 hw)) (Or.inr (wd_38 hw)) (by decide) (t := .int) (t' := (.object cs1)) (by decide) (by decide)))).other W451 (Or.inr (slot_ne (Or.inr (wd_42 hw)) (Or.inr (wd_40 hw)) (by decide) (t := .int) (t' := .int) (by decide) (by decide)))) (E_a1.keep K453) (Or.inr ⟨(wd_42 hw), rfl, hnm⟩) (wd_31 hw) (ty := .int) (by decide) rfl rfl (g := (mkF m 16 #[vr a1, vr a2, vi p3, vi p4] [(.int p4), (.ref a1)])) rfl rfl (hb hby d6_16)
  have Fw454 := ((F_column_a1.other W448 (Or.inr (slot_ne (Or.inr (wd_42 hw)) (Or.inr (wd_38 hw)) (by decide) (t := .int) (t' := (.object cs1)) (by decide) (by decide)))).other W451 (Or.inr (slot_ne (Or.inr (wd_42 hw)) (Or.inr (wd_40 hw)) (by decide) (t := .int) (t' := .int) (by decide) (by decide)))).same W454
  have Z455 := Nat.le_trans Z452 (Keep.of_wr W454).1
  have K456 := Keep.wr K453 W454 (Or.inl (List.mem_of_getElem? (i := 0) rfl))
  have N454 := Fr.snoc X454 N451 g_a1
  obtain ⟨fs, hr, hrun, hended, hW, hsame⟩ := X454.leave (v := none) (fun _ => rfl)
  refine ⟨_, _, pre0 _ ?_, hrun, hended, _, _, rfl, ?_, ⟨_, rfl⟩, hW, hsame.mono (by decide) (by decide)⟩
  · show Steps p.tables e below (s₁.setTop (mkF m 0 #[vr a1, vr a2, vi p3, vi p4] [])) _
    refine XS.aloadN X0.here hx rfl (hb hby d6_0) rfl rfl ?_
    refine st447 _ ?_
    refine XS.aloadN X447.here hx rfl (hb hby d6_4) rfl rfl ?_
    refine XS.aloadN X447.here hx rfl (hb hby d6_5) rfl rfl ?_
    refine st448 _ ?_
    refine XS.aloadN X448.here hx rfl (hb hby d6_9) rfl rfl ?_
    refine XS.iloadN X448.here hx rfl (hb hby d6_10) rfl ?_
    refine st451 _ ?_
    refine XS.aloadN X451.here hx rfl (hb hby d6_14) rfl rfl ?_
    refine XS.iloadN X451.here hx rfl (hb hby d6_15) rfl ?_
    show Steps p.tables e below (T451.setTop (mkF m 16 #[vr a1, vr a2, vi p3, vi p4] [(.int p4), (.ref a1)])) _
    refine st454 _ ?_
    exact X454.returnOut hx Bd.returns (hb hby d6_19) hr
  · show Q_rm6 Z _ _ _ _ _ _ _ h0 n0 _ T454.heap _
    rw [e454]
    exact ⟨rfl, N454, K456, ((Fw448.other W451 (Or.inr (slot_ne (Or.inr (wd_38 hw)) (Or.inr (wd_40 hw)) (by decide) (t := (.object cs1)) (t' := .int) (by decide) (by decide)))).other W454 (Or.inr (slot_ne (Or.inr (wd_38 hw)) (Or.inr (wd_42 hw)) (by decide) (t := (.object cs1)) (t' := .int) (by decide) (by decide)))), (Fw451.other W454 (Or.inr (slot_ne (Or.inr (wd_40 hw)) (Or.inr (wd_42 hw)) (by decide) (t := .int) (t' := .int) (by decide) (by decide)))), Fw454⟩
abbrev B8 : ByteArray := prog_26_method_6_code
theorem d8_0 : dc B8 0 (.aload_n 1) 1 := by decide +kernel
theorem d8_1 : dc B8 1 (.instanceof 8) 3 := by decide +kernel
theorem wd_51 {a0 Z} (hw : HW a0 Z) : Bw a0 Z (.classLink cs0 8 cs0) := hw _ (mx 51 rfl)
theorem d8_4 : dc B8 4 (.ifCond .eq 48) 3 := by decide +kernel
theorem d8_7 : dc B8 7 (.aload_n 1) 1 := by decide +kernel
theorem d8_8 : dc B8 8 (.checkcast 8) 3 := by decide +kernel
theorem d8_11 : dc B8 11 (.astore_n 2) 1 := by decide +kernel
theorem d8_12 : dc B8 12 (.aload_n 0) 1 := by decide +kernel
theorem d8_13 : dc B8 13 (.getfield 7) 3 := by decide +kernel
theorem d8_16 : dc B8 16 (.aload_n 2) 1 := by decide +kernel
theorem d8_17 : dc B8 17 (.getfield 7) 3 := by decide +kernel
theorem d8_20 : dc B8 20 (.invokevirtual 24) 3 := by decide +kernel
theorem wd_53 {a0 Z} (hw : HW a0 Z) : Bw a0 Z (.methodLink cs0 24 ⟨cs1, "equals", cs5⟩) := hw _ (mx 53 rfl)
theorem wd_57 {a0 Z} (hw : HW a0 Z) : Bw a0 Z (.code ⟨cs1, "equals", cs5⟩ jdk_42_method_66_code 3 (Option.some .boolean)) := hw _ (mx 57 rfl)
theorem pd__Ljava_lang_Object__Z : parseMethodDescriptor cs5 = some ⟨[(.object "java/lang/Object")], some .boolean⟩ := by decide +kernel
theorem wd_56 {a0 Z} (hw : HW a0 Z) : Bw a0 Z (.selects cs1 ⟨cs1, "equals", cs5⟩ ⟨cs1, "equals", cs5⟩) := hw _ (mx 56 rfl)
theorem wd_54 {a0 Z} (hw : HW a0 Z) : Bw a0 Z (.declares ⟨cs1, "equals", cs5⟩) := hw _ (mx 54 rfl)
theorem wd_55 {a0 Z} (hw : HW a0 Z) : Bw a0 Z (.instanceMethod ⟨cs1, "equals", cs5⟩) := hw _ (mx 55 rfl)
theorem d8_23 : dc B8 23 (.ifCond .eq 29) 3 := by decide +kernel
theorem d8_52 : dc B8 52 (.iconst 0) 1 := by decide +kernel
theorem d8_53 : dc B8 53 .ireturn 1 := by decide +kernel
theorem d8_26 : dc B8 26 (.aload_n 0) 1 := by decide +kernel
theorem d8_27 : dc B8 27 (.getfield 13) 3 := by decide +kernel
theorem d8_30 : dc B8 30 (.aload_n 2) 1 := by decide +kernel
theorem d8_31 : dc B8 31 (.getfield 13) 3 := by decide +kernel
theorem d8_34 : dc B8 34 (.if_icmp .ne 18) 3 := by decide +kernel
theorem d8_37 : dc B8 37 (.aload_n 0) 1 := by decide +kernel
theorem d8_38 : dc B8 38 (.getfield 17) 3 := by decide +kernel
theorem d8_41 : dc B8 41 (.aload_n 2) 1 := by decide +kernel
theorem d8_42 : dc B8 42 (.getfield 17) 3 := by decide +kernel
theorem d8_45 : dc B8 45 (.if_icmp .ne 7) 3 := by decide +kernel
theorem d8_48 : dc B8 48 (.iconst 1) 1 := by decide +kernel
theorem d8_49 : dc B8 49 (.goto 4) 3 := by decide +kernel
theorem ef_8 (m : MethodId) (x0 : Addr) (x1 : Addr) : entryFrame m #[(.ref x0), (.ref x1)] 3 = mkF m 0 #[.val (.ref x0), .val (.ref x1), .unset] [] := by first | (simp [entryFrame, mkF, argsToLocals, Value.category]; done) | rfl
def Q_rmlA (Z : State) (a1 : Addr) (a2 : Addr) (o1 : Addr) (o2 : Addr) (li1 : Int32) (li2 : Int32) (co1 : Int32) (co2 : Int32) (qx : Int64) (qy : Int64) (wz : Int32) (h0 : Heap) (n0 : Nat) (v : Option Value) (h : Heap) (L : List Loc) : Prop := v = some (.int (own_loc (own_sm qx qy) li1 li2 co1 co2)) ∧ Fr n0 L ∧ h = h0
set_option maxRecDepth 65536 in
set_option maxHeartbeats 40000000 in
abbrev y_8 : MethodName := ⟨cs0, "equals", cs5⟩
theorem rmlA (l : Launch) (Z : State) (a0 : Array Value) (hw : HW a0 Z) (ws : List Jvm.Cond) (a1 : Addr) (a2 : Addr) (o1 : Addr) (o2 : Addr) (li1 : Int32) (li2 : Int32) (co1 : Int32) (co2 : Int32) (qx : Int64) (qy : Int64) (wz : Int32) (h0 : Heap) (n0 : Nat) (Z0 : n0 ≤ h0.size) (E_a1 : Exa Z h0 a1 cs0) (E_a2 : Exa Z h0 a2 cs0) (F_file_a1 : Fld Z h0 a1 cs0 "file" "Ljava/lang/String;" (.ref o1)) (F_line_a1 : Fld Z h0 a1 cs0 "line" "I" (.int li1)) (F_column_a1 : Fld Z h0 a1 cs0 "column" "I" (.int co1)) (F_file_a2 : Fld Z h0 a2 cs0 "file" "Ljava/lang/String;" (.ref o2)) (F_line_a2 : Fld Z h0 a2 cs0 "line" "I" (.int li2)) (F_column_a2 : Fld Z h0 a2 cs0 "column" "I" (.int co2)) (X_STR_o1 : STR Z h0 n0 o1 qx) (X_STR_o2 : STR Z h0 n0 o2 qy) (ne_o1_o2 : o1 ≠ o2) (Old0 : Old Z n0 h0) (S_COMPACT_STRINGS : Sta Z Z.heap cs1 cs6 "Z" (.int wz)) (hz : ¬ (wz = (0 : Int32))) :
    MF l y_8 (Jvm.Cond.code y_8 B8 3 (some .boolean) :: ws) (⟨2, 0, 0, 28⟩ : Room) Z h0 #[(.ref a1), (.ref a2)] (Q_rmlA Z a1 a2 o1 o2 li1 li2 co1 co2 qx qy wz h0 n0) := by
  refine MetFree.of_bodySF (plainFor_of_name pn_com_example_xylem_xylem_model_Location) hisR ?_
  intro p e s m args below meth c s₁ Bd hml0 hP hK
  obtain ⟨rfl, hZ, hh⟩ := hP
  have hx := Bd.exec
  have hby := Bd.bytes
  have hml : c.maxLocals = 3 := hml0
  have hown : s.vm.findClass cs0 = some m.cls := findClass_of_methodNamed Bd.named
  have hnm := (name_of_methodNamed Bd.named Bd.method).1
  have X0 : Stand p l e (⟨2, 0, 0, 28⟩ : Room) s m #[(.ref a1), (.ref a2)] below meth c s₁ [] 0 0 := Stand.of_body Bd
  have e0 : s₁.heap = h0 := by rw [← hh, Bd.state]; rfl
  have N0 := Fr.nil n0
  have pre0 : Goes p e below (s₁.setTop (entryFrame m #[(.ref a1), (.ref a2)] 3)) (s₁.setTop (mkF m 0 #[vr a1, vr a2, .unset] [])) := fun t k => castTop (ef_8 m a1 a2) k
  obtain ⟨T457, X457, e457, st457⟩ := instY X0 hx hZ hown (wd_51 hw) e0 (Ins.self E_a2) (g := (mkF m 1 #[vr a1, vr a2, .unset] [(.ref a2)])) rfl rfl (hb hby d8_1)
  obtain ⟨T458, X458, e458, st458⟩ := castY X457 hx hZ hown (wd_51 hw) e457 (Ins.self E_a2) (g := (mkF m 8 #[vr a1, vr a2, .unset] [(.ref a2)])) rfl rfl (hb hby d8_8)
  obtain ⟨T459, X459, e459, st459⟩ := getF X458 hx hZ hown (host := "") (Or.inl (wd_37 hw)) Via.refl e458 F_file_a1 (g := (mkF m 13 #[vr a1, vr a2, vr a2] [(.ref a1)])) rfl rfl (hb hby d8_13)
  obtain ⟨_, _, E_o1, -⟩ := id X_STR_o1
  obtain ⟨T460, X460, e460, st460⟩ := getF X459 hx hZ hown (host := "") (Or.inl (wd_37 hw)) Via.refl e459 F_file_a2 (g := (mkF m 17 #[vr a1, vr a2, vr a2] [(.ref a2), (.ref o1)])) rfl rfl (hb hby d8_17)
  obtain ⟨_, T461, L461, X461, hQ461, st461⟩ := cV X460 hx hZ hown (wd_53 hw) (wd_54 hw) (wd_56 hw) (wd_55 hw) (by decide) 0 (rmeqS l Z a0 hw [] o1 o2 qx qy wz h0 n0 Z0 X_STR_o1 X_STR_o2 ne_o1_o2 Old0 S_COMPACT_STRINGS hz) (wd_57 hw) (wd_11 hw) (by decide) (by decide) e460 E_o1 hml (Ls := #[vr a1, vr a2, vr a2]) rfl (argsL := [(.ref o2)]) (rest := []) (lenOf pd__Ljava_lang_Object__Z rfl) (St := [(.ref o2), (.ref o1)]) rfl rfl (hb hby d8_20) rfl (by decide) (by decide)
  obtain ⟨rfl, N461q, e461⟩ := hQ461
  have N461 := Fr.app N0 N461q
  have pre463 : Goes p e below (s₁.setTop (entryFrame m #[(.ref a1), (.ref a2)] 3)) (T461.setTop (mkF m 23 #[vr a1, vr a2, vr a2] [(.int (own_sm qx qy))])) := by
    intro t kt
    refine pre0 _ ?_
    show Steps p.tables e below (s₁.setTop (mkF m 0 #[vr a1, vr a2, .unset] [])) _
    refine XS.aloadN X0.here hx rfl (hb hby d8_0) rfl rfl ?_
    refine st457 _ ?_
    refine XS.ifNo X457.here hx rfl (hb hby d8_4) rfl ((if0 _ _).trans (feq (by decide)).1) ?_
    refine XS.aloadN X457.here hx rfl (hb hby d8_7) rfl rfl ?_
    refine st458 _ ?_
    refine XS.astoreN X458.here hx rfl (hb hby d8_11) rfl rfl (l' := #[vr a1, vr a2, vr a2]) rfl ?_
    refine XS.aloadN X458.here hx rfl (hb hby d8_12) rfl rfl ?_
    refine st459 _ ?_
    refine XS.aloadN X459.here hx rfl (hb hby d8_16) rfl rfl ?_
    refine st460 _ ?_
    show Steps p.tables e below (T460.setTop (mkF m 20 #[vr a1, vr a2, vr a2] [(.ref o2), (.ref o1)])) _
    refine st461.trans ?_
    exact kt
  by_cases hc23_462 : (own_sm qx qy) = (0 : Int32)
  · obtain ⟨fs, hr, hrun, hended, hW, hsame⟩ := X461.leave (v := some (.int 0)) (fun h => by rw [Bd.returns] at h; cases h)
    refine ⟨_, _, pre463 _ ?_, hrun, hended, _, _, rfl, ?_, ⟨_, rfl⟩, hW, hsame.mono (by decide) (by decide)⟩
    · show Steps p.tables e below (T461.setTop (mkF m 23 #[vr a1, vr a2, vr a2] [(.int (own_sm qx qy))])) _
      refine XS.ifYes X461.here hx rfl (pc0 := 23) (pc' := 52) rfl (hb hby d8_23) rfl ((if0 _ _).trans (teq hc23_462).1) (by decide) (by decide) ?_
      refine XS.iconst X461.here hx rfl (hb hby d8_52) ?_
      exact retN X461 hx (t := .boolean) Bd.returns (by simp) (hb hby d8_53) hr
    · show Q_rmlA Z _ _ _ _ _ _ _ _ _ _ _ h0 n0 _ T461.heap _
      rw [e461]
      exact ⟨(by simp only [own_loc, if_pos hc23_462]), N461, rfl⟩
  · obtain ⟨T464, X464, e464, st464⟩ := getF X461 hx hZ hown (host := "") (Or.inl (wd_39 hw)) Via.refl e461 F_line_a1 (g := (mkF m 27 #[vr a1, vr a2, vr a2] [(.ref a1)])) rfl rfl (hb hby d8_27)
    obtain ⟨T465, X465, e465, st465⟩ := getF X464 hx hZ hown (host := "") (Or.inl (wd_39 hw)) Via.refl e464 F_line_a2 (g := (mkF m 31 #[vr a1, vr a2, vr a2] [(.ref a2), (.int li1)])) rfl rfl (hb hby d8_31)
    have pre467 : Goes p e below (s₁.setTop (entryFrame m #[(.ref a1), (.ref a2)] 3)) (T465.setTop (mkF m 34 #[vr a1, vr a2, vr a2] [(.int li2), (.int li1)])) := by
      intro t kt
      refine pre463 _ ?_
      show Steps p.tables e below (T461.setTop (mkF m 23 #[vr a1, vr a2, vr a2] [(.int (own_sm qx qy))])) _
      refine XS.ifNo X461.here hx rfl (hb hby d8_23) rfl ((if0 _ _).trans (feq hc23_462).1) ?_
      refine XS.aloadN X461.here hx rfl (hb hby d8_26) rfl rfl ?_
      refine st464 _ ?_
      refine XS.aloadN X464.here hx rfl (hb hby d8_30) rfl rfl ?_
      refine st465 _ ?_
      exact kt
    by_cases hc34_466 : li1 = li2
    · obtain ⟨T468, X468, e468, st468⟩ := getF X465 hx hZ hown (host := "") (Or.inl (wd_41 hw)) Via.refl e465 F_column_a1 (g := (mkF m 38 #[vr a1, vr a2, vr a2] [(.ref a1)])) rfl rfl (hb hby d8_38)
      obtain ⟨T469, X469, e469, st469⟩ := getF X468 hx hZ hown (host := "") (Or.inl (wd_41 hw)) Via.refl e468 F_column_a2 (g := (mkF m 42 #[vr a1, vr a2, vr a2] [(.ref a2), (.int co1)])) rfl rfl (hb hby d8_42)
      have pre471 : Goes p e below (s₁.setTop (entryFrame m #[(.ref a1), (.ref a2)] 3)) (T469.setTop (mkF m 45 #[vr a1, vr a2, vr a2] [(.int co2), (.int co1)])) := by
        intro t kt
        refine pre467 _ ?_
        show Steps p.tables e below (T465.setTop (mkF m 34 #[vr a1, vr a2, vr a2] [(.int li2), (.int li1)])) _
        refine XS.icmpNo X465.here hx rfl (hb hby d8_34) rfl (teq hc34_466).2 ?_
        refine XS.aloadN X465.here hx rfl (hb hby d8_37) rfl rfl ?_
        refine st468 _ ?_
        refine XS.aloadN X468.here hx rfl (hb hby d8_41) rfl rfl ?_
        show Steps p.tables e below (T468.setTop (mkF m 42 #[vr a1, vr a2, vr a2] [(.ref a2), (.int co1)])) _
        refine st469 _ ?_
        exact kt
      by_cases hc45_470 : co1 = co2
      · obtain ⟨fs, hr, hrun, hended, hW, hsame⟩ := X469.leave (v := some (.int 1)) (fun h => by rw [Bd.returns] at h; cases h)
        refine ⟨_, _, pre471 _ ?_, hrun, hended, _, _, rfl, ?_, ⟨_, rfl⟩, hW, hsame.mono (by decide) (by decide)⟩
        · show Steps p.tables e below (T469.setTop (mkF m 45 #[vr a1, vr a2, vr a2] [(.int co2), (.int co1)])) _
          refine XS.icmpNo X469.here hx rfl (hb hby d8_45) rfl (teq hc45_470).2 ?_
          refine XS.iconst X469.here hx rfl (hb hby d8_48) ?_
          refine XS.goto X469.here hx rfl (pc0 := 49) (pc' := 53) rfl (hb hby d8_49) (by decide) (by decide) ?_
          exact retN X469 hx (t := .boolean) Bd.returns (by simp) (hb hby d8_53) hr
        · show Q_rmlA Z _ _ _ _ _ _ _ _ _ _ _ h0 n0 _ T469.heap _
          rw [e469]
          exact ⟨(by simp only [own_loc, if_neg hc23_462, if_pos hc34_466, if_pos hc45_470]), N461, rfl⟩
      · obtain ⟨fs, hr, hrun, hended, hW, hsame⟩ := X469.leave (v := some (.int 0)) (fun h => by rw [Bd.returns] at h; cases h)
        refine ⟨_, _, pre471 _ ?_, hrun, hended, _, _, rfl, ?_, ⟨_, rfl⟩, hW, hsame.mono (by decide) (by decide)⟩
        · show Steps p.tables e below (T469.setTop (mkF m 45 #[vr a1, vr a2, vr a2] [(.int co2), (.int co1)])) _
          refine XS.icmpYes X469.here hx rfl (pc0 := 45) (pc' := 52) rfl (hb hby d8_45) rfl (feq hc45_470).2 (by decide) (by decide) ?_
          refine XS.iconst X469.here hx rfl (hb hby d8_52) ?_
          exact retN X469 hx (t := .boolean) Bd.returns (by simp) (hb hby d8_53) hr
        · show Q_rmlA Z _ _ _ _ _ _ _ _ _ _ _ h0 n0 _ T469.heap _
          rw [e469]
          exact ⟨(by simp only [own_loc, if_neg hc23_462, if_pos hc34_466, if_neg hc45_470]), N461, rfl⟩
    · obtain ⟨fs, hr, hrun, hended, hW, hsame⟩ := X465.leave (v := some (.int 0)) (fun h => by rw [Bd.returns] at h; cases h)
      refine ⟨_, _, pre467 _ ?_, hrun, hended, _, _, rfl, ?_, ⟨_, rfl⟩, hW, hsame.mono (by decide) (by decide)⟩
      · show Steps p.tables e below (T465.setTop (mkF m 34 #[vr a1, vr a2, vr a2] [(.int li2), (.int li1)])) _
        refine XS.icmpYes X465.here hx rfl (pc0 := 34) (pc' := 52) rfl (hb hby d8_34) rfl (feq hc34_466).2 (by decide) (by decide) ?_
        refine XS.iconst X465.here hx rfl (hb hby d8_52) ?_
        exact retN X465 hx (t := .boolean) Bd.returns (by simp) (hb hby d8_53) hr
      · show Q_rmlA Z _ _ _ _ _ _ _ _ _ _ _ h0 n0 _ T465.heap _
        rw [e465]
        exact ⟨(by simp only [own_loc, if_neg hc23_462, if_neg hc34_466]), N461, rfl⟩
theorem efn_8 (m : MethodId) (x0 : Addr) : entryFrame m #[(.ref x0), .null] 3 = mkF m 0 #[.val (.ref x0), .val .null, .unset] [] := by first | (simp [entryFrame, mkF, argsToLocals, Value.category]; done) | rfl
def Q_rmlB (Z : State) (a1 : Addr) (h0 : Heap) (n0 : Nat) (v : Option Value) (h : Heap) (L : List Loc) : Prop := v = some (.int 0) ∧ Fr n0 L ∧ h = h0
set_option maxRecDepth 65536 in
set_option maxHeartbeats 40000000 in
theorem rmlB (l : Launch) (Z : State) (a0 : Array Value) (hw : HW a0 Z) (ws : List Jvm.Cond) (a1 : Addr) (h0 : Heap) (n0 : Nat) (Z0 : n0 ≤ h0.size) (E_a1 : Exa Z h0 a1 cs0) :
    MF l y_8 (Jvm.Cond.code y_8 B8 3 (some .boolean) :: ws) (⟨0, 0, 0, 0⟩ : Room) Z h0 #[(.ref a1), .null] (Q_rmlB Z a1 h0 n0) := by
  refine MetFree.of_bodySF (plainFor_of_name pn_com_example_xylem_xylem_model_Location) hisR ?_
  intro p e s m args below meth c s₁ Bd hml0 hP hK
  obtain ⟨rfl, hZ, hh⟩ := hP
  have hx := Bd.exec
  have hby := Bd.bytes
  have hml : c.maxLocals = 3 := hml0
  have hown : s.vm.findClass cs0 = some m.cls := findClass_of_methodNamed Bd.named
  have hnm := (name_of_methodNamed Bd.named Bd.method).1
  have X0 : Stand p l e (⟨0, 0, 0, 0⟩ : Room) s m #[(.ref a1), .null] below meth c s₁ [] 0 0 := Stand.of_body Bd
  have e0 : s₁.heap = h0 := by rw [← hh, Bd.state]; rfl
  have N0 := Fr.nil n0
  have pre0 : Goes p e below (s₁.setTop (entryFrame m #[(.ref a1), .null] 3)) (s₁.setTop (mkF m 0 #[vr a1, .val .null, .unset] [])) := fun t k => castTop (efn_8 m a1) k
  obtain ⟨fs, hr, hrun, hended, hW, hsame⟩ := X0.leave (v := some (.int 0)) (fun h => by rw [Bd.returns] at h; cases h)
  refine ⟨_, _, pre0 _ ?_, hrun, hended, _, _, rfl, ?_, ⟨_, rfl⟩, hW, hsame.mono (by decide) (by decide)⟩
  · show Steps p.tables e below (s₁.setTop (mkF m 0 #[vr a1, .val .null, .unset] [])) _
    refine XS.aloadN X0.here hx rfl (hb hby d8_0) rfl rfl ?_
    refine X0.instanceofNull hx (g := (mkF m 1 #[vr a1, .val .null, .unset] [.null])) rfl rfl (hb hby d8_1) _ ?_
    refine XS.ifYes X0.here hx rfl (pc0 := 4) (pc' := 52) rfl (hb hby d8_4) rfl ((if0 _ _).trans (teq (rfl : (0 : Int32) = (0 : Int32))).1) (by decide) (by decide) ?_
    refine XS.iconst X0.here hx rfl (hb hby d8_52) ?_
    exact retN X0 hx (t := .boolean) Bd.returns (by simp) (hb hby d8_53) hr
  · show Q_rmlB Z _ h0 n0 _ s₁.heap _
    rw [e0]
    exact ⟨rfl, N0, rfl⟩
def Q_rmlC (Z : State) (a1 : Addr) (a2 : Addr) (h0 : Heap) (n0 : Nat) (v : Option Value) (h : Heap) (L : List Loc) : Prop := v = some (.int 0) ∧ Fr n0 L ∧ h = h0
set_option maxRecDepth 65536 in
set_option maxHeartbeats 40000000 in
theorem rmlC (l : Launch) (Z : State) (a0 : Array Value) (hw : HW a0 Z) (ws : List Jvm.Cond) (a1 : Addr) (a2 : Addr) (h0 : Heap) (n0 : Nat) (Z0 : n0 ≤ h0.size) (E_a1 : Exa Z h0 a1 cs0) (E_a2 : Exa Z h0 a2 cs1) :
    MF l y_8 (Jvm.Cond.code y_8 B8 3 (some .boolean) :: ws) (⟨0, 0, 0, 0⟩ : Room) Z h0 #[(.ref a1), (.ref a2)] (Q_rmlC Z a1 a2 h0 n0) := by
  refine MetFree.of_bodySF (plainFor_of_name pn_com_example_xylem_xylem_model_Location) hisR ?_
  intro p e s m args below meth c s₁ Bd hml0 hP hK
  obtain ⟨rfl, hZ, hh⟩ := hP
  have hx := Bd.exec
  have hby := Bd.bytes
  have hml : c.maxLocals = 3 := hml0
  have hown : s.vm.findClass cs0 = some m.cls := findClass_of_methodNamed Bd.named
  have hnm := (name_of_methodNamed Bd.named Bd.method).1
  have X0 : Stand p l e (⟨0, 0, 0, 0⟩ : Room) s m #[(.ref a1), (.ref a2)] below meth c s₁ [] 0 0 := Stand.of_body Bd
  have e0 : s₁.heap = h0 := by rw [← hh, Bd.state]; rfl
  have N0 := Fr.nil n0
  have pre0 : Goes p e below (s₁.setTop (entryFrame m #[(.ref a1), (.ref a2)] 3)) (s₁.setTop (mkF m 0 #[vr a1, vr a2, .unset] [])) := fun t k => castTop (ef_8 m a1 a2) k
  obtain ⟨T472, X472, e472, st472⟩ := instNo X0 hx hZ hown (wd_51 hw) e0 E_a2 (own_noSL hw) (g := (mkF m 1 #[vr a1, vr a2, .unset] [(.ref a2)])) rfl rfl (hb hby d8_1)
  obtain ⟨fs, hr, hrun, hended, hW, hsame⟩ := X472.leave (v := some (.int 0)) (fun h => by rw [Bd.returns] at h; cases h)
  refine ⟨_, _, pre0 _ ?_, hrun, hended, _, _, rfl, ?_, ⟨_, rfl⟩, hW, hsame.mono (by decide) (by decide)⟩
  · show Steps p.tables e below (s₁.setTop (mkF m 0 #[vr a1, vr a2, .unset] [])) _
    refine XS.aloadN X0.here hx rfl (hb hby d8_0) rfl rfl ?_
    refine st472 _ ?_
    refine XS.ifYes X472.here hx rfl (pc0 := 4) (pc' := 52) rfl (hb hby d8_4) rfl ((if0 _ _).trans (teq (rfl : (0 : Int32) = (0 : Int32))).1) (by decide) (by decide) ?_
    refine XS.iconst X472.here hx rfl (hb hby d8_52) ?_
    exact retN X472 hx (t := .boolean) Bd.returns (by simp) (hb hby d8_53) hr
  · show Q_rmlC Z _ _ h0 n0 _ T472.heap _
    rw [e472]
    exact ⟨rfl, N0, rfl⟩
def Q_rmlD (Z : State) (a1 : Addr) (o1 : Addr) (li1 : Int32) (co1 : Int32) (h0 : Heap) (n0 : Nat) (v : Option Value) (h : Heap) (L : List Loc) : Prop := v = some (.int 1) ∧ Fr n0 L ∧ h = h0
set_option maxRecDepth 65536 in
set_option maxHeartbeats 40000000 in
theorem rmlD (l : Launch) (Z : State) (a0 : Array Value) (hw : HW a0 Z) (ws : List Jvm.Cond) (a1 : Addr) (o1 : Addr) (li1 : Int32) (co1 : Int32) (h0 : Heap) (n0 : Nat) (Z0 : n0 ≤ h0.size) (E_a1 : Exa Z h0 a1 cs0) (F_file_a1 : Fld Z h0 a1 cs0 "file" "Ljava/lang/String;" (.ref o1)) (F_line_a1 : Fld Z h0 a1 cs0 "line" "I" (.int li1)) (F_column_a1 : Fld Z h0 a1 cs0 "column" "I" (.int co1)) (E_o1 : Exa Z h0 o1 cs1) :
    MF l y_8 (Jvm.Cond.code y_8 B8 3 (some .boolean) :: ws) (⟨1, 0, 0, 14⟩ : Room) Z h0 #[(.ref a1), (.ref a1)] (Q_rmlD Z a1 o1 li1 co1 h0 n0) := by
  refine MetFree.of_bodySF (plainFor_of_name pn_com_example_xylem_xylem_model_Location) hisR ?_
  intro p e s m args below meth c s₁ Bd hml0 hP hK
  obtain ⟨rfl, hZ, hh⟩ := hP
  have hx := Bd.exec
  have hby := Bd.bytes
  have hml : c.maxLocals = 3 := hml0
  have hown : s.vm.findClass cs0 = some m.cls := findClass_of_methodNamed Bd.named
  have hnm := (name_of_methodNamed Bd.named Bd.method).1
  have X0 : Stand p l e (⟨1, 0, 0, 14⟩ : Room) s m #[(.ref a1), (.ref a1)] below meth c s₁ [] 0 0 := Stand.of_body Bd
  have e0 : s₁.heap = h0 := by rw [← hh, Bd.state]; rfl
  have N0 := Fr.nil n0
  have pre0 : Goes p e below (s₁.setTop (entryFrame m #[(.ref a1), (.ref a1)] 3)) (s₁.setTop (mkF m 0 #[vr a1, vr a1, .unset] [])) := fun t k => castTop (ef_8 m a1 a1) k
  obtain ⟨T473, X473, e473, st473⟩ := instY X0 hx hZ hown (wd_51 hw) e0 (Ins.self E_a1) (g := (mkF m 1 #[vr a1, vr a1, .unset] [(.ref a1)])) rfl rfl (hb hby d8_1)
  obtain ⟨T474, X474, e474, st474⟩ := castY X473 hx hZ hown (wd_51 hw) e473 (Ins.self E_a1) (g := (mkF m 8 #[vr a1, vr a1, .unset] [(.ref a1)])) rfl rfl (hb hby d8_8)
  obtain ⟨T475, X475, e475, st475⟩ := getF X474 hx hZ hown (host := "") (Or.inl (wd_37 hw)) Via.refl e474 F_file_a1 (g := (mkF m 13 #[vr a1, vr a1, vr a1] [(.ref a1)])) rfl rfl (hb hby d8_13)
  obtain ⟨T476, X476, e476, st476⟩ := getF X475 hx hZ hown (host := "") (Or.inl (wd_37 hw)) Via.refl e475 F_file_a1 (g := (mkF m 17 #[vr a1, vr a1, vr a1] [(.ref a1), (.ref o1)])) rfl rfl (hb hby d8_17)
  obtain ⟨_, T477, L477, X477, hQ477, st477⟩ := cV X476 hx hZ hown (wd_53 hw) (wd_54 hw) (wd_56 hw) (wd_55 hw) (by decide) 0 (rmeqI l Z a0 hw [] o1 h0 n0 Z0 E_o1) (wd_57 hw) (wd_11 hw) (by decide) (by decide) e476 E_o1 hml (Ls := #[vr a1, vr a1, vr a1]) rfl (argsL := [(.ref o1)]) (rest := []) (lenOf pd__Ljava_lang_Object__Z rfl) (St := [(.ref o1), (.ref o1)]) rfl rfl (hb hby d8_20) rfl (by decide) (by decide)
  obtain ⟨rfl, N477q, e477⟩ := hQ477
  have N477 := Fr.app N0 N477q
  obtain ⟨T478, X478, e478, st478⟩ := getF X477 hx hZ hown (host := "") (Or.inl (wd_39 hw)) Via.refl e477 F_line_a1 (g := (mkF m 27 #[vr a1, vr a1, vr a1] [(.ref a1)])) rfl rfl (hb hby d8_27)
  obtain ⟨T479, X479, e479, st479⟩ := getF X478 hx hZ hown (host := "") (Or.inl (wd_39 hw)) Via.refl e478 F_line_a1 (g := (mkF m 31 #[vr a1, vr a1, vr a1] [(.ref a1), (.int li1)])) rfl rfl (hb hby d8_31)
  obtain ⟨T480, X480, e480, st480⟩ := getF X479 hx hZ hown (host := "") (Or.inl (wd_41 hw)) Via.refl e479 F_column_a1 (g := (mkF m 38 #[vr a1, vr a1, vr a1] [(.ref a1)])) rfl rfl (hb hby d8_38)
  obtain ⟨T481, X481, e481, st481⟩ := getF X480 hx hZ hown (host := "") (Or.inl (wd_41 hw)) Via.refl e480 F_column_a1 (g := (mkF m 42 #[vr a1, vr a1, vr a1] [(.ref a1), (.int co1)])) rfl rfl (hb hby d8_42)
  obtain ⟨fs, hr, hrun, hended, hW, hsame⟩ := X481.leave (v := some (.int 1)) (fun h => by rw [Bd.returns] at h; cases h)
  refine ⟨_, _, pre0 _ ?_, hrun, hended, _, _, rfl, ?_, ⟨_, rfl⟩, hW, hsame.mono (by decide) (by decide)⟩
  · show Steps p.tables e below (s₁.setTop (mkF m 0 #[vr a1, vr a1, .unset] [])) _
    refine XS.aloadN X0.here hx rfl (hb hby d8_0) rfl rfl ?_
    refine st473 _ ?_
    refine XS.ifNo X473.here hx rfl (hb hby d8_4) rfl ((if0 _ _).trans (feq (by decide)).1) ?_
    refine XS.aloadN X473.here hx rfl (hb hby d8_7) rfl rfl ?_
    refine st474 _ ?_
    refine XS.astoreN X474.here hx rfl (hb hby d8_11) rfl rfl (l' := #[vr a1, vr a1, vr a1]) rfl ?_
    refine XS.aloadN X474.here hx rfl (hb hby d8_12) rfl rfl ?_
    refine st475 _ ?_
    refine XS.aloadN X475.here hx rfl (hb hby d8_16) rfl rfl ?_
    refine st476 _ ?_
    show Steps p.tables e below (T476.setTop (mkF m 20 #[vr a1, vr a1, vr a1] [(.ref o1), (.ref o1)])) _
    refine st477.trans ?_
    refine XS.ifNo X477.here hx rfl (hb hby d8_23) rfl ((if0 _ _).trans (feq (by decide)).1) ?_
    refine XS.aloadN X477.here hx rfl (hb hby d8_26) rfl rfl ?_
    refine st478 _ ?_
    refine XS.aloadN X478.here hx rfl (hb hby d8_30) rfl rfl ?_
    refine st479 _ ?_
    refine XS.icmpNo X479.here hx rfl (hb hby d8_34) rfl (teq (rfl : li1 = li1)).2 ?_
    refine XS.aloadN X479.here hx rfl (hb hby d8_37) rfl rfl ?_
    refine st480 _ ?_
    refine XS.aloadN X480.here hx rfl (hb hby d8_41) rfl rfl ?_
    show Steps p.tables e below (T480.setTop (mkF m 42 #[vr a1, vr a1, vr a1] [(.ref a1), (.int co1)])) _
    refine st481 _ ?_
    refine XS.icmpNo X481.here hx rfl (hb hby d8_45) rfl (teq (rfl : co1 = co1)).2 ?_
    refine XS.iconst X481.here hx rfl (hb hby d8_48) ?_
    refine XS.goto X481.here hx rfl (pc0 := 49) (pc' := 53) rfl (hb hby d8_49) (by decide) (by decide) ?_
    exact retN X481 hx (t := .boolean) Bd.returns (by simp) (hb hby d8_53) hr
  · show Q_rmlD Z _ _ _ _ h0 n0 _ T481.heap _
    rw [e481]
    exact ⟨rfl, N477, rfl⟩
theorem wd_1 {a0 Z} (hw : HW a0 Z) : Bw a0 Z (.methodLink cs2 26 ⟨cs2, "mk", "(J)Ljava/lang/String;"⟩) := hw _ (mx 1 rfl)
theorem wd_4 {a0 Z} (hw : HW a0 Z) : Bw a0 Z (.code ⟨cs2, "mk", "(J)Ljava/lang/String;"⟩ method_4_code 4 (Option.some (.object cs1))) := hw _ (mx 4 rfl)
theorem pd__J_Ljava_lang_String_ : parseMethodDescriptor "(J)Ljava/lang/String;" = some ⟨[.long], some (.object cs1)⟩ := by decide +kernel
theorem wd_2 {a0 Z} (hw : HW a0 Z) : Bw a0 Z (.static ⟨cs2, "mk", "(J)Ljava/lang/String;"⟩) := hw _ (mx 2 rfl)
theorem wd_30 {a0 Z} (hw : HW a0 Z) : Bw a0 Z (.classLink cs2 30 cs0) := hw _ (mx 30 rfl)
theorem wd_32 {a0 Z} (hw : HW a0 Z) : Bw a0 Z (.initialized cs0) := hw _ (mx 32 rfl)
theorem wd_33 {a0 Z} (hw : HW a0 Z) : Bw a0 Z (.methodLink cs2 32 ⟨cs0, "<init>", "(Ljava/lang/String;II)V"⟩) := hw _ (mx 33 rfl)
theorem wd_35 {a0 Z} (hw : HW a0 Z) : Bw a0 Z (.code ⟨cs0, "<init>", "(Ljava/lang/String;II)V"⟩ prog_26_method_1_code 4 (Option.none : Option Jvm.ClassFile.FieldType)) := hw _ (mx 35 rfl)
theorem pd__Ljava_lang_String_II_V : parseMethodDescriptor "(Ljava/lang/String;II)V" = some ⟨[(.object cs1), .int, .int], none⟩ := by decide +kernel
theorem wd_34 {a0 Z} (hw : HW a0 Z) : Bw a0 Z (.instanceMethod ⟨cs0, "<init>", "(Ljava/lang/String;II)V"⟩) := hw _ (mx 34 rfl)
theorem wd_43 {a0 Z} (hw : HW a0 Z) : Bw a0 Z (.methodLink cs2 35 ⟨cs2, "same", "(JJ)Z"⟩) := hw _ (mx 43 rfl)
theorem wd_45 {a0 Z} (hw : HW a0 Z) : Bw a0 Z (.code ⟨cs2, "same", "(JJ)Z"⟩ method_5_code 5 (Option.some .boolean)) := hw _ (mx 45 rfl)
theorem pd__JJ_Z : parseMethodDescriptor "(JJ)Z" = some ⟨[.long, .long], some .boolean⟩ := by decide +kernel
theorem wd_44 {a0 Z} (hw : HW a0 Z) : Bw a0 Z (.static ⟨cs2, "same", "(JJ)Z"⟩) := hw _ (mx 44 rfl)
theorem wd_46 {a0 Z} (hw : HW a0 Z) : Bw a0 Z (.methodLink cs2 39 ⟨cs0, "equals", cs5⟩) := hw _ (mx 46 rfl)
theorem wd_50 {a0 Z} (hw : HW a0 Z) : Bw a0 Z (.code ⟨cs0, "equals", cs5⟩ prog_26_method_6_code 3 (Option.some .boolean)) := hw _ (mx 50 rfl)
theorem wd_47 {a0 Z} (hw : HW a0 Z) : Bw a0 Z (.declares ⟨cs0, "equals", cs5⟩) := hw _ (mx 47 rfl)
theorem wd_48 {a0 Z} (hw : HW a0 Z) : Bw a0 Z (.instanceMethod ⟨cs0, "equals", cs5⟩) := hw _ (mx 48 rfl)
theorem ef_0 (m : MethodId) (x0 : Int64) (x1 : Int64) (x2 : Int32) (x3 : Int32) (x4 : Int32) (x5 : Int32) : entryFrame m #[(.long x0), (.long x1), (.int x2), (.int x3), (.int x4), (.int x5)] maxLocals = mkF m 0 #[.val (.long x0), .second, .val (.long x1), .second, .val (.int x2), .val (.int x3), .val (.int x4), .val (.int x5), .unset, .unset, .unset, .unset, .unset, .unset, .unset, .unset, .unset, .unset, .unset, .unset] [] := by first | (simp [entryFrame, mkF, argsToLocals, Value.category, maxLocals]; done) | rfl
def Q_rm0 (Z : State) (q1 : Int64) (q2 : Int64) (p3 : Int32) (p4 : Int32) (p5 : Int32) (p6 : Int32) (wz : Int32) (h0 : Heap) (n0 : Nat) (v : Option Value) (h : Heap) (L : List Loc) : Prop := v = some (.int 1) ∧ Fr n0 L ∧ True
set_option maxRecDepth 65536 in
set_option maxHeartbeats 40000000 in
theorem rm0 (l : Launch) (Z : State) (a0 : Array Value) (hw : HW a0 Z) (ws : List Jvm.Cond) (q1 : Int64) (q2 : Int64) (p3 : Int32) (p4 : Int32) (p5 : Int32) (p6 : Int32) (wz : Int32) (h0 : Heap) (n0 : Nat) (Z0 : n0 ≤ h0.size) (Old0 : Old Z n0 h0) (S_COMPACT_STRINGS : Sta Z Z.heap cs1 cs6 "Z" (.int wz)) (hz : ¬ (wz = (0 : Int32))) :
    MFH l x (Jvm.Cond.code x code maxLocals ret :: ws) room_1 Z h0 #[(.long q1), (.long q2), (.int p3), (.int p4), (.int p5), (.int p6)] (Q_rm0 Z q1 q2 p3 p4 p5 p6 wz h0 n0) := by
  refine MetFree.of_bodySF (plainFor_of_name pn_com_example_xylem_xylem_model_LocationEqualsPinLaw) hisR ?_
  intro p e s m args below meth c s₁ Bd hml0 hP hK
  obtain ⟨rfl, hZ, hh, hCH⟩ := hP
  have hx := Bd.exec
  have hby := Bd.bytes
  have hml : c.maxLocals = 20 := hml0
  have hown : s.vm.findClass cs2 = some m.cls := findClass_of_methodNamed Bd.named
  have hnm := (name_of_methodNamed Bd.named Bd.method).1
  have X0 : Stand p l e room_1 (s.setVm s.vm) m #[(.long q1), (.long q2), (.int p3), (.int p4), (.int p5), (.int p6)] below meth c s₁ [] 0 0 := Stand.of_body Bd
  have e0 : s₁.heap = h0 := by rw [← hh, Bd.state]; rfl
  have N0 := Fr.nil n0
  have pre0 : Goes p e below (s₁.setTop (entryFrame m #[(.long q1), (.long q2), (.int p3), (.int p4), (.int p5), (.int p6)] maxLocals)) (s₁.setTop (mkF m 0 #[.val (.long q1), .second, .val (.long q2), .second, vi p3, vi p4, vi p5, vi p6, .unset, .unset, .unset, .unset, .unset, .unset, .unset, .unset, .unset, .unset, .unset, .unset] [])) := fun t k => castTop (ef_0 m q1 q2 p3 p4 p5 p6) k
  have hS := (State.WarmedH.refl s).since 0
  have hk0 : 0 ≤ h0.size := Nat.zero_le _
  have RR0 := CHr.refl hCH
  obtain ⟨v483, hv483⟩ : ∃ z : Int32, z = (if (lcmpW (((q2.toUInt64 >>> ((26 : Int32) &&& 0x3f).toInt64.toUInt64).toInt64) &&& (1 : Int64)) (0 : Int64)) = (0 : Int32) then (0 : Int32) else (1 : Int32)) := ⟨_, rfl⟩
  have pre484 : Goes p e below (s₁.setTop (entryFrame m #[(.long q1), (.long q2), (.int p3), (.int p4), (.int p5), (.int p6)] maxLocals)) (s₁.setTop (mkF m 16 #[.val (.long q1), .second, .val (.long q2), .second, vi p3, vi p4, vi p5, vi p6, .unset, .unset, .unset, .unset, .unset, .unset, .unset, .unset, .unset, .unset, .unset, .unset] [(.int v483)])) := by
    intro t kt
    refine pre0 _ ?_
    rw [hv483] at kt
    show Steps p.tables e below (s₁.setTop (mkF m 0 #[.val (.long q1), .second, .val (.long q2), .second, vi p3, vi p4, vi p5, vi p6, .unset, .unset, .unset, .unset, .unset, .unset, .unset, .unset, .unset, .unset, .unset, .unset] [])) _
    refine XS.lloadN X0.here hx rfl (hb hby at_0) rfl ?_
    refine XS.bipush X0.here hx rfl (hb hby at_1) ?_
    refine XS.lushr X0.here hx rfl (hb hby at_3) rfl ?_
    refine XS.lconst X0.here hx rfl (hb hby at_4) ?_
    refine XS.land X0.here hx rfl (hb hby at_5) rfl ?_
    refine XS.lconst X0.here hx rfl (hb hby at_6) ?_
    refine XS.lcmp X0.here hx rfl (hb hby at_7) rfl ?_
    by_cases hc8_482 : (lcmpW (((q2.toUInt64 >>> ((26 : Int32) &&& 0x3f).toInt64.toUInt64).toInt64) &&& (1 : Int64)) (0 : Int64)) = (0 : Int32)
    · try simp only [if_pos hc8_482] at kt
      refine XS.ifYes X0.here hx rfl (pc0 := 8) (pc' := 15) rfl (hb hby at_8) rfl ((if0 _ _).trans (teq hc8_482).1) (by decide) (by decide) ?_
      refine XS.iconst X0.here hx rfl (hb hby at_15) ?_
      exact kt
    · try simp only [if_neg hc8_482] at kt
      refine XS.ifNo X0.here hx rfl (hb hby at_8) rfl ((if0 _ _).trans (feq hc8_482).1) ?_
      refine XS.iconst X0.here hx rfl (hb hby at_11) ?_
      refine XS.goto X0.here hx rfl (pc0 := 12) (pc' := 16) rfl (hb hby at_12) (by decide) (by decide) ?_
      show Steps p.tables e below (s₁.setTop (mkF m 16 #[.val (.long q1), .second, .val (.long q2), .second, vi p3, vi p4, vi p5, vi p6, .unset, .unset, .unset, .unset, .unset, .unset, .unset, .unset, .unset, .unset, .unset, .unset] [(.int 1)])) _
      exact kt
  obtain ⟨v486, hv486⟩ : ∃ z : Int32, z = (if (lcmpW (((q2.toUInt64 >>> ((27 : Int32) &&& 0x3f).toInt64.toUInt64).toInt64) &&& (1 : Int64)) (0 : Int64)) = (0 : Int32) then (0 : Int32) else (1 : Int32)) := ⟨_, rfl⟩
  have pre487 : Goes p e below (s₁.setTop (entryFrame m #[(.long q1), (.long q2), (.int p3), (.int p4), (.int p5), (.int p6)] maxLocals)) (s₁.setTop (mkF m 34 #[.val (.long q1), .second, .val (.long q2), .second, vi p3, vi p4, vi p5, vi p6, vi v483, .unset, .unset, .unset, .unset, .unset, .unset, .unset, .unset, .unset, .unset, .unset] [(.int v486)])) := by
    intro t kt
    refine pre484 _ ?_
    rw [hv486] at kt
    show Steps p.tables e below (s₁.setTop (mkF m 16 #[.val (.long q1), .second, .val (.long q2), .second, vi p3, vi p4, vi p5, vi p6, .unset, .unset, .unset, .unset, .unset, .unset, .unset, .unset, .unset, .unset, .unset, .unset] [(.int v483)])) _
    refine XS.istore X0.here hx rfl (hb hby at_16) rfl (l' := #[.val (.long q1), .second, .val (.long q2), .second, vi p3, vi p4, vi p5, vi p6, vi v483, .unset, .unset, .unset, .unset, .unset, .unset, .unset, .unset, .unset, .unset, .unset]) rfl ?_
    refine XS.lloadN X0.here hx rfl (hb hby at_18) rfl ?_
    refine XS.bipush X0.here hx rfl (hb hby at_19) ?_
    refine XS.lushr X0.here hx rfl (hb hby at_21) rfl ?_
    refine XS.lconst X0.here hx rfl (hb hby at_22) ?_
    refine XS.land X0.here hx rfl (hb hby at_23) rfl ?_
    refine XS.lconst X0.here hx rfl (hb hby at_24) ?_
    refine XS.lcmp X0.here hx rfl (hb hby at_25) rfl ?_
    by_cases hc26_485 : (lcmpW (((q2.toUInt64 >>> ((27 : Int32) &&& 0x3f).toInt64.toUInt64).toInt64) &&& (1 : Int64)) (0 : Int64)) = (0 : Int32)
    · try simp only [if_pos hc26_485] at kt
      refine XS.ifYes X0.here hx rfl (pc0 := 26) (pc' := 33) rfl (hb hby at_26) rfl ((if0 _ _).trans (teq hc26_485).1) (by decide) (by decide) ?_
      refine XS.iconst X0.here hx rfl (hb hby at_33) ?_
      show Steps p.tables e below (s₁.setTop (mkF m 34 #[.val (.long q1), .second, .val (.long q2), .second, vi p3, vi p4, vi p5, vi p6, vi v483, .unset, .unset, .unset, .unset, .unset, .unset, .unset, .unset, .unset, .unset, .unset] [(.int 0)])) _
      exact kt
    · try simp only [if_neg hc26_485] at kt
      refine XS.ifNo X0.here hx rfl (hb hby at_26) rfl ((if0 _ _).trans (feq hc26_485).1) ?_
      refine XS.iconst X0.here hx rfl (hb hby at_29) ?_
      show Steps p.tables e below (s₁.setTop (mkF m 30 #[.val (.long q1), .second, .val (.long q2), .second, vi p3, vi p4, vi p5, vi p6, vi v483, .unset, .unset, .unset, .unset, .unset, .unset, .unset, .unset, .unset, .unset, .unset] [(.int 1)])) _
      refine XS.goto X0.here hx rfl (pc0 := 30) (pc' := 34) rfl (hb hby at_30) (by decide) (by decide) ?_
      exact kt
  obtain ⟨v489, hv489⟩ : ∃ z : Int32, z = (if (lcmpW (((q2.toUInt64 >>> ((28 : Int32) &&& 0x3f).toInt64.toUInt64).toInt64) &&& (1 : Int64)) (0 : Int64)) = (0 : Int32) then (0 : Int32) else (1 : Int32)) := ⟨_, rfl⟩
  have pre490 : Goes p e below (s₁.setTop (entryFrame m #[(.long q1), (.long q2), (.int p3), (.int p4), (.int p5), (.int p6)] maxLocals)) (s₁.setTop (mkF m 52 #[.val (.long q1), .second, .val (.long q2), .second, vi p3, vi p4, vi p5, vi p6, vi v483, vi v486, .unset, .unset, .unset, .unset, .unset, .unset, .unset, .unset, .unset, .unset] [(.int v489)])) := by
    intro t kt
    refine pre487 _ ?_
    rw [hv489] at kt
    show Steps p.tables e below (s₁.setTop (mkF m 34 #[.val (.long q1), .second, .val (.long q2), .second, vi p3, vi p4, vi p5, vi p6, vi v483, .unset, .unset, .unset, .unset, .unset, .unset, .unset, .unset, .unset, .unset, .unset] [(.int v486)])) _
    refine XS.istore X0.here hx rfl (hb hby at_34) rfl (l' := #[.val (.long q1), .second, .val (.long q2), .second, vi p3, vi p4, vi p5, vi p6, vi v483, vi v486, .unset, .unset, .unset, .unset, .unset, .unset, .unset, .unset, .unset, .unset]) rfl ?_
    refine XS.lloadN X0.here hx rfl (hb hby at_36) rfl ?_
    refine XS.bipush X0.here hx rfl (hb hby at_37) ?_
    refine XS.lushr X0.here hx rfl (hb hby at_39) rfl ?_
    refine XS.lconst X0.here hx rfl (hb hby at_40) ?_
    refine XS.land X0.here hx rfl (hb hby at_41) rfl ?_
    refine XS.lconst X0.here hx rfl (hb hby at_42) ?_
    refine XS.lcmp X0.here hx rfl (hb hby at_43) rfl ?_
    by_cases hc44_488 : (lcmpW (((q2.toUInt64 >>> ((28 : Int32) &&& 0x3f).toInt64.toUInt64).toInt64) &&& (1 : Int64)) (0 : Int64)) = (0 : Int32)
    · try simp only [if_pos hc44_488] at kt
      refine XS.ifYes X0.here hx rfl (pc0 := 44) (pc' := 51) rfl (hb hby at_44) rfl ((if0 _ _).trans (teq hc44_488).1) (by decide) (by decide) ?_
      refine XS.iconst X0.here hx rfl (hb hby at_51) ?_
      show Steps p.tables e below (s₁.setTop (mkF m 52 #[.val (.long q1), .second, .val (.long q2), .second, vi p3, vi p4, vi p5, vi p6, vi v483, vi v486, .unset, .unset, .unset, .unset, .unset, .unset, .unset, .unset, .unset, .unset] [(.int 0)])) _
      exact kt
    · try simp only [if_neg hc44_488] at kt
      refine XS.ifNo X0.here hx rfl (hb hby at_44) rfl ((if0 _ _).trans (feq hc44_488).1) ?_
      refine XS.iconst X0.here hx rfl (hb hby at_47) ?_
      show Steps p.tables e below (s₁.setTop (mkF m 48 #[.val (.long q1), .second, .val (.long q2), .second, vi p3, vi p4, vi p5, vi p6, vi v483, vi v486, .unset, .unset, .unset, .unset, .unset, .unset, .unset, .unset, .unset, .unset] [(.int 1)])) _
      refine XS.goto X0.here hx rfl (pc0 := 48) (pc' := 52) rfl (hb hby at_48) (by decide) (by decide) ?_
      exact kt
  obtain ⟨kk, hkk⟩ : ∃ z : Int32, z = ((((q2.toUInt64 >>> ((29 : Int32) &&& 0x3f).toInt64.toUInt64).toInt64) &&& (3 : Int64)).toInt32) := ⟨_, rfl⟩
  have pre491 : Goes p e below (s₁.setTop (entryFrame m #[(.long q1), (.long q2), (.int p3), (.int p4), (.int p5), (.int p6)] maxLocals)) (s₁.setTop (mkF m 65 #[.val (.long q1), .second, .val (.long q2), .second, vi p3, vi p4, vi p5, vi p6, vi v483, vi v486, vi v489, vi kk, .unset, .unset, .unset, .unset, .unset, .unset, .unset, .unset] [])) := by
    intro t kt
    rw [hkk] at kt
    refine pre490 _ ?_
    show Steps p.tables e below (s₁.setTop (mkF m 52 #[.val (.long q1), .second, .val (.long q2), .second, vi p3, vi p4, vi p5, vi p6, vi v483, vi v486, .unset, .unset, .unset, .unset, .unset, .unset, .unset, .unset, .unset, .unset] [(.int v489)])) _
    refine XS.istore X0.here hx rfl (hb hby at_52) rfl (l' := #[.val (.long q1), .second, .val (.long q2), .second, vi p3, vi p4, vi p5, vi p6, vi v483, vi v486, vi v489, .unset, .unset, .unset, .unset, .unset, .unset, .unset, .unset, .unset]) rfl ?_
    refine XS.lloadN X0.here hx rfl (hb hby at_54) rfl ?_
    refine XS.bipush X0.here hx rfl (hb hby at_55) ?_
    refine XS.lushr X0.here hx rfl (hb hby at_57) rfl ?_
    refine X0.ldc2Long hx hown (mvT hZ (wd_0 hw)) (g := (mkF m 58 #[.val (.long q1), .second, .val (.long q2), .second, vi p3, vi p4, vi p5, vi p6, vi v483, vi v486, vi v489, .unset, .unset, .unset, .unset, .unset, .unset, .unset, .unset, .unset] [(.long ((q2.toUInt64 >>> ((29 : Int32) &&& 0x3f).toInt64.toUInt64).toInt64))])) rfl (hb hby at_58) _ ?_
    refine XS.land X0.here hx rfl (hb hby at_61) rfl ?_
    refine XS.l2i X0.here hx rfl (hb hby at_62) rfl ?_
    refine XS.istore X0.here hx rfl (hb hby at_63) rfl (l' := #[.val (.long q1), .second, .val (.long q2), .second, vi p3, vi p4, vi p5, vi p6, vi v483, vi v486, vi v489, .val (.int ((((q2.toUInt64 >>> ((29 : Int32) &&& 0x3f).toInt64.toUInt64).toInt64) &&& (3 : Int64)).toInt32)), .unset, .unset, .unset, .unset, .unset, .unset, .unset, .unset]) rfl ?_
    exact kt
  obtain ⟨_, _, ⟨T492, L492, k492, n492⟩, -, X492, hT492, hg492, ⟨Lc492, hQ492, l492, y492, z492, C492⟩, st492⟩ := callSS X0 hx (y := y_1) hown (mvT hZ (wd_1 hw)) (mvT hZ (wd_2 hw)) (mvT hZ (wd_3 hw)) (mvT hZ (wd_4 hw)) (by decide) (backOfSH (W := 0) (rm1 l Z a0 hw [] q1 wz h0 n0 Z0 Old0 S_COMPACT_STRINGS hz) hZ (wd_4 hw) (wd_3 hw) (by decide) (by decide) (hELt hw) RR0.1) (g := (mkF m 66 #[.val (.long q1), .second, .val (.long q2), .second, vi p3, vi p4, vi p5, vi p6, vi v483, vi v486, vi v489, vi kk, .unset, .unset, .unset, .unset, .unset, .unset, .unset, .unset] [(.long q1)])) rfl (by rw [hml]; rfl) (argsL := [(.long q1)]) (rest := []) (lenOf pd__J_Ljava_lang_String_ rfl) rfl (by show 2 * 0 + _ ≤ _; exact Nat.le_of_eq rfl) (hb hby at_66) (fun _ _ => ⟨rfl, e0, (by decide : 0 + 6 ≤ _), (by decide : 0 + 12 ≤ _)⟩)
  dsimp only [Pt.U, Pt.locs, Pt.cells, Pt.slots] at X492 l492 y492 z492 st492 hQ492 hT492 hg492 C492
  rw [l492, y492, z492] at X492
  obtain ⟨X492, hS, hZ, hown⟩ := rebS hS (by rw [e0]; exact hk0) X492 hT492 hg492 hZ hown
  obtain ⟨b_492, rfl, N492q, K492q, g492_0, g492_1⟩ := hQ492
  have N492 := Fr.app N0 N492q
  have Z493 := Nat.le_trans Z0 K492q.1
  have cs_496 := C492
  have RR494 := CHr.trans RR0 cs_496
  have hk495 := Nat.le_refl T492.heap.size
  have g497 : n0 ≤ b_492 := Nat.le_trans Z0 g492_0
  obtain ⟨_, _, ob498, -⟩ := id g492_1
  have pre500 : Goes p e below (s₁.setTop (entryFrame m #[(.long q1), (.long q2), (.int p3), (.int p4), (.int p5), (.int p6)] maxLocals)) (T492.setTop (mkF m 73 #[.val (.long q1), .second, .val (.long q2), .second, vi p3, vi p4, vi p5, vi p6, vi v483, vi v486, vi v489, vi kk, vr b_492, .unset, .unset, .unset, .unset, .unset, .unset, .unset] [(.int v483)])) := by
    intro t kt
    refine pre491 _ ?_
    show Steps p.tables e below (s₁.setTop (mkF m 65 #[.val (.long q1), .second, .val (.long q2), .second, vi p3, vi p4, vi p5, vi p6, vi v483, vi v486, vi v489, vi kk, .unset, .unset, .unset, .unset, .unset, .unset, .unset, .unset] [])) _
    refine XS.lloadN X0.here hx rfl (hb hby at_65) rfl ?_
    refine st492.trans ?_
    refine XS.astore X492.here hx rfl (hb hby at_69) rfl rfl (l' := #[.val (.long q1), .second, .val (.long q2), .second, vi p3, vi p4, vi p5, vi p6, vi v483, vi v486, vi v489, vi kk, vr b_492, .unset, .unset, .unset, .unset, .unset, .unset, .unset]) rfl ?_
    refine XS.iload X492.here hx rfl (hb hby at_71) rfl ?_
    exact kt
  by_cases hc73_499 : v483 = (0 : Int32)
  · obtain ⟨_, _, ⟨T501, L501, k501, n501⟩, -, X501, hT501, hg501, ⟨Lc501, hQ501, l501, y501, z501, C501⟩, st501⟩ := callSS X492 hx (y := y_1) hown (mvT hZ (wd_1 hw)) (mvT hZ (wd_2 hw)) (mvT hZ (wd_3 hw)) (mvT hZ (wd_4 hw)) (by decide) (backOfSH (W := 0) (rm1 l Z a0 hw [] q2 wz T492.heap n0 Z493 (Old0.keep K492q all0) S_COMPACT_STRINGS hz) hZ (wd_4 hw) (wd_3 hw) (by decide) (by decide) (hELt hw) RR494.1) (g := (mkF m 84 #[.val (.long q1), .second, .val (.long q2), .second, vi p3, vi p4, vi p5, vi p6, vi v483, vi v486, vi v489, vi kk, vr b_492, .unset, .unset, .unset, .unset, .unset, .unset, .unset] [(.long q2)])) rfl (by rw [hml]; rfl) (argsL := [(.long q2)]) (rest := []) (lenOf pd__J_Ljava_lang_String_ rfl) rfl (by show 2 * 0 + _ ≤ _; exact Nat.le_of_eq rfl) (hb hby at_84) (fun _ _ => ⟨rfl, rfl, (by decide : 6 + 6 ≤ _), (by decide : 12 + 12 ≤ _)⟩)
    dsimp only [Pt.U, Pt.locs, Pt.cells, Pt.slots] at X501 l501 y501 z501 st501 hQ501 hT501 hg501 C501
    rw [l501, y501, z501] at X501
    obtain ⟨X501, hS, hZ, hown⟩ := rebS hS (hk495) X501 hT501 hg501 hZ hown
    obtain ⟨b_501, rfl, N501q, K501q, g501_0, g501_1⟩ := hQ501
    have N501 := Fr.app N492 N501q
    have Z502 := Nat.le_trans Z493 K501q.1
    have cs_505 := C501
    have RR503 := CHr.trans RR494 cs_505
    have hk504 := Nat.le_refl T501.heap.size
    have g506 : n0 ≤ b_501 := Nat.le_trans Z493 g501_0
    obtain ⟨_, _, ob507, -⟩ := id g501_1
    have xs508 := (str_keep g492_1 K501q)
    obtain ⟨v511, hv511⟩ : ∃ z : Int32, z = (if v486 = (0 : Int32) then p4 else p3) := ⟨_, rfl⟩
    have pre512 : Goes p e below (s₁.setTop (entryFrame m #[(.long q1), (.long q2), (.int p3), (.int p4), (.int p5), (.int p6)] maxLocals)) (T501.setTop (mkF m 101 #[.val (.long q1), .second, .val (.long q2), .second, vi p3, vi p4, vi p5, vi p6, vi v483, vi v486, vi v489, vi kk, vr b_492, vr b_501, .unset, .unset, .unset, .unset, .unset, .unset] [(.int v511)])) := by
      intro t kt
      refine pre500 _ ?_
      rw [hv511] at kt
      show Steps p.tables e below (T492.setTop (mkF m 73 #[.val (.long q1), .second, .val (.long q2), .second, vi p3, vi p4, vi p5, vi p6, vi v483, vi v486, vi v489, vi kk, vr b_492, .unset, .unset, .unset, .unset, .unset, .unset, .unset] [(.int v483)])) _
      refine XS.ifYes X492.here hx rfl (pc0 := 73) (pc' := 83) rfl (hb hby at_73) rfl ((if0 _ _).trans (teq hc73_499).1) (by decide) (by decide) ?_
      refine XS.lloadN X492.here hx rfl (hb hby at_83) rfl ?_
      refine st501.trans ?_
      refine XS.astore X501.here hx rfl (hb hby at_87) rfl rfl (l' := #[.val (.long q1), .second, .val (.long q2), .second, vi p3, vi p4, vi p5, vi p6, vi v483, vi v486, vi v489, vi kk, vr b_492, vr b_501, .unset, .unset, .unset, .unset, .unset, .unset]) rfl ?_
      refine XS.iload X501.here hx rfl (hb hby at_89) rfl ?_
      by_cases hc91_510 : v486 = (0 : Int32)
      · try simp only [if_pos hc91_510] at kt
        refine XS.ifYes X501.here hx rfl (pc0 := 91) (pc' := 99) rfl (hb hby at_91) rfl ((if0 _ _).trans (teq hc91_510).1) (by decide) (by decide) ?_
        show Steps p.tables e below (T501.setTop (mkF m 99 #[.val (.long q1), .second, .val (.long q2), .second, vi p3, vi p4, vi p5, vi p6, vi v483, vi v486, vi v489, vi kk, vr b_492, vr b_501, .unset, .unset, .unset, .unset, .unset, .unset] [])) _
        refine XS.iload X501.here hx rfl (hb hby at_99) rfl ?_
        exact kt
      · try simp only [if_neg hc91_510] at kt
        refine XS.ifNo X501.here hx rfl (hb hby at_91) rfl ((if0 _ _).trans (feq hc91_510).1) ?_
        show Steps p.tables e below (T501.setTop (mkF m 94 #[.val (.long q1), .second, .val (.long q2), .second, vi p3, vi p4, vi p5, vi p6, vi v483, vi v486, vi v489, vi kk, vr b_492, vr b_501, .unset, .unset, .unset, .unset, .unset, .unset] [])) _
        refine XS.iload X501.here hx rfl (hb hby at_94) rfl ?_
        refine XS.goto X501.here hx rfl (pc0 := 96) (pc' := 101) rfl (hb hby at_96) (by decide) (by decide) ?_
        exact kt
    obtain ⟨v514, hv514⟩ : ∃ z : Int32, z = (if v489 = (0 : Int32) then p6 else p5) := ⟨_, rfl⟩
    have pre515 : Goes p e below (s₁.setTop (entryFrame m #[(.long q1), (.long q2), (.int p3), (.int p4), (.int p5), (.int p6)] maxLocals)) (T501.setTop (mkF m 115 #[.val (.long q1), .second, .val (.long q2), .second, vi p3, vi p4, vi p5, vi p6, vi v483, vi v486, vi v489, vi kk, vr b_492, vr b_501, vi v511, .unset, .unset, .unset, .unset, .unset] [(.int v514)])) := by
      intro t kt
      refine pre512 _ ?_
      rw [hv514] at kt
      show Steps p.tables e below (T501.setTop (mkF m 101 #[.val (.long q1), .second, .val (.long q2), .second, vi p3, vi p4, vi p5, vi p6, vi v483, vi v486, vi v489, vi kk, vr b_492, vr b_501, .unset, .unset, .unset, .unset, .unset, .unset] [(.int v511)])) _
      refine XS.istore X501.here hx rfl (hb hby at_101) rfl (l' := #[.val (.long q1), .second, .val (.long q2), .second, vi p3, vi p4, vi p5, vi p6, vi v483, vi v486, vi v489, vi kk, vr b_492, vr b_501, vi v511, .unset, .unset, .unset, .unset, .unset]) rfl ?_
      refine XS.iload X501.here hx rfl (hb hby at_103) rfl ?_
      by_cases hc105_513 : v489 = (0 : Int32)
      · try simp only [if_pos hc105_513] at kt
        refine XS.ifYes X501.here hx rfl (pc0 := 105) (pc' := 113) rfl (hb hby at_105) rfl ((if0 _ _).trans (teq hc105_513).1) (by decide) (by decide) ?_
        refine XS.iload X501.here hx rfl (hb hby at_113) rfl ?_
        exact kt
      · try simp only [if_neg hc105_513] at kt
        refine XS.ifNo X501.here hx rfl (hb hby at_105) rfl ((if0 _ _).trans (feq hc105_513).1) ?_
        refine XS.iload X501.here hx rfl (hb hby at_108) rfl ?_
        refine XS.goto X501.here hx rfl (pc0 := 110) (pc' := 115) rfl (hb hby at_110) (by decide) (by decide) ?_
        exact kt
    obtain ⟨T516, h516, X516, e516, E516, A516, D516, -, st516⟩ := newO X501 hx hZ hown (wd_30 hw) (wd_31 hw) (wd_32 hw) rfl (g := (mkF m 117 #[.val (.long q1), .second, .val (.long q2), .second, vi p3, vi p4, vi p5, vi p6, vi v483, vi v486, vi v489, vi kk, vr b_492, vr b_501, vi v511, vi v514, .unset, .unset, .unset, .unset] [])) rfl (hb hby at_117) (by decide) (by decide)
    obtain ⟨b516, g516⟩ : ∃ z, z = T501.heap.size := ⟨_, rfl⟩
    rw [← g516] at A516 D516 st516
    have g_b516 : n0 ≤ b516 := Nat.le_trans Z502 (Nat.le_of_eq g516.symm)
    have zM517 : T501.heap.size ≤ b516 := Nat.le_trans (And.left (Keep.refl T501.heap [])) (Nat.le_of_eq g516.symm)
    have Z518 := Nat.le_trans Z502 E516.1
    have cs_521 := (CHr.ext E516 RR503.1)
    have RR519 := CHr.trans RR503 cs_521
    have hk520 := Nat.le_trans hk504 E516.1
    have KM522 := Keep.ext (Keep.refl T501.heap []) E516
    obtain ⟨_, T523, L523, X523, hQ523, st523⟩ := cN X516 hx hZ hown (wd_33 hw) (wd_34 hw) rfl (by decide) 1 (rm6 l Z a0 hw [] b516 b_492 p3 p5 .null (.int 0) (.int 0) h516 n0 Z518 (D516 (Or.inr (wd_38 hw)) (ty := (.object cs1)) (by decide)) (D516 (Or.inr (wd_40 hw)) (ty := .int) (by decide)) (D516 (Or.inr (wd_42 hw)) (ty := .int) (by decide)) A516 g_b516) (wd_35 hw) (wd_32 hw) (by decide) (by decide) e516 b516 hml (Ls := #[.val (.long q1), .second, .val (.long q2), .second, vi p3, vi p4, vi p5, vi p6, vi v483, vi v486, vi v489, vi kk, vr b_492, vr b_501, vi v511, vi v514, .unset, .unset, .unset, .unset]) rfl (argsL := [(.ref b_492), (.int p3), (.int p5)]) (rest := [(.ref b516)]) (lenOf pd__Ljava_lang_String_II_V rfl) (St := [(.int p5), (.int p3), (.ref b_492), (.ref b516), (.ref b516)]) rfl rfl (hb hby at_127) rfl (by decide) (by decide)
    obtain ⟨rfl, N523q, K523q, g523_0, g523_1, g523_2⟩ := hQ523
    have N523 := Fr.app N501 N523q
    have Z524 := Nat.le_trans Z518 K523q.1
    have cs_527 := (CHr.keep K523q (allS (Safe.exa hZ.alike A516 (by decide) (by decide)) all0) RR519.1)
    have RR525 := CHr.trans RR519 cs_527
    have hk526 := Nat.le_trans hk520 K523q.1
    have KM528 := Keep.trans KM522 K523q (allS (Or.inr zM517) all0)
    obtain ⟨T529, h529, X529, e529, E529, A529, D529, -, st529⟩ := newO X523 hx hZ hown (wd_30 hw) (wd_31 hw) (wd_32 hw) rfl (g := (mkF m 132 #[.val (.long q1), .second, .val (.long q2), .second, vi p3, vi p4, vi p5, vi p6, vi v483, vi v486, vi v489, vi kk, vr b_492, vr b_501, vi v511, vi v514, vr b516, .unset, .unset, .unset] [])) rfl (hb hby at_132) (by decide) (by decide)
    obtain ⟨b529, g529⟩ : ∃ z, z = T523.heap.size := ⟨_, rfl⟩
    rw [← g529] at A529 D529 st529
    have g_b529 : n0 ≤ b529 := Nat.le_trans Z524 (Nat.le_of_eq g529.symm)
    have zM530 : T501.heap.size ≤ b529 := Nat.le_trans (And.left KM528) (Nat.le_of_eq g529.symm)
    have Z531 := Nat.le_trans Z524 E529.1
    have cs_534 := (CHr.ext E529 RR525.1)
    have RR532 := CHr.trans RR525 cs_534
    have hk533 := Nat.le_trans hk526 E529.1
    have KM535 := Keep.ext KM528 E529
    obtain ⟨_, T536, L536, X536, hQ536, st536⟩ := cN X529 hx hZ hown (wd_33 hw) (wd_34 hw) rfl (by decide) 1 (rm6 l Z a0 hw [] b529 b_501 v511 v514 .null (.int 0) (.int 0) h529 n0 Z531 (D529 (Or.inr (wd_38 hw)) (ty := (.object cs1)) (by decide)) (D529 (Or.inr (wd_40 hw)) (ty := .int) (by decide)) (D529 (Or.inr (wd_42 hw)) (ty := .int) (by decide)) A529 g_b529) (wd_35 hw) (wd_32 hw) (by decide) (by decide) e529 b529 hml (Ls := #[.val (.long q1), .second, .val (.long q2), .second, vi p3, vi p4, vi p5, vi p6, vi v483, vi v486, vi v489, vi kk, vr b_492, vr b_501, vi v511, vi v514, vr b516, .unset, .unset, .unset]) rfl (argsL := [(.ref b_501), (.int v511), (.int v514)]) (rest := [(.ref b529)]) (lenOf pd__Ljava_lang_String_II_V rfl) (St := [(.int v514), (.int v511), (.ref b_501), (.ref b529), (.ref b529)]) rfl rfl (hb hby at_142) rfl (by decide) (by decide)
    obtain ⟨rfl, N536q, K536q, g536_0, g536_1, g536_2⟩ := hQ536
    have N536 := Fr.app N523 N536q
    have Z537 := Nat.le_trans Z531 K536q.1
    have cs_540 := (CHr.keep K536q (allS (Safe.exa hZ.alike A529 (by decide) (by decide)) all0) RR532.1)
    have RR538 := CHr.trans RR532 cs_540
    have hk539 := Nat.le_trans hk533 K536q.1
    have KM541 := Keep.trans KM535 K536q (allS (Or.inr zM530) all0)
    obtain ⟨_, _, ⟨T542, L542, k542, n542⟩, -, X542, ⟨Lc542, hQ542, l542, y542, z542⟩, st542⟩ := Jvm.LawKit.callS X536 hx (y := y_7) hown (mvT hZ (wd_43 hw)) (mvT hZ (wd_44 hw)) (mvT hZ (wd_3 hw)) (mvT hZ (wd_45 hw)) (by decide) (backOf (W := 0) (rm7 l Z a0 hw [] q1 q2 T536.heap n0 Z537) hZ (wd_45 hw) (wd_3 hw) (by decide) (by decide)) (g := (mkF m 154 #[.val (.long q1), .second, .val (.long q2), .second, vi p3, vi p4, vi p5, vi p6, vi v483, vi v486, vi v489, vi kk, vr b_492, vr b_501, vi v511, vi v514, vr b516, vr b529, .unset, .unset] [(.long q2), (.long q1)])) rfl (by rw [hml]; rfl) (argsL := [(.long q1), (.long q2)]) (rest := []) (lenOf pd__JJ_Z rfl) rfl (by show 2 * 0 + _ ≤ _; exact Nat.le_of_eq rfl) (hb hby at_154) (fun _ _ => ⟨rfl, rfl, (by decide : 14 + 0 ≤ _), (by decide : 30 + 0 ≤ _)⟩)
    dsimp only [Pt.U, Pt.locs, Pt.cells, Pt.slots] at X542 l542 y542 z542 st542 hQ542
    rw [l542, y542, z542] at X542
    obtain ⟨rfl, N542q, e542⟩ := hQ542
    have N542 := Fr.app N536 N542q
    obtain ⟨v544, hv544⟩ : ∃ z : Int32, z = (if (own_sm q1 q2) = (0 : Int32) then (0 : Int32) else (1 : Int32)) := ⟨_, rfl⟩
    have pre545 : Goes p e below (s₁.setTop (entryFrame m #[(.long q1), (.long q2), (.int p3), (.int p4), (.int p5), (.int p6)] maxLocals)) (T542.setTop (mkF m 165 #[.val (.long q1), .second, .val (.long q2), .second, vi p3, vi p4, vi p5, vi p6, vi v483, vi v486, vi v489, vi kk, vr b_492, vr b_501, vi v511, vi v514, vr b516, vr b529, .unset, .unset] [(.int v544)])) := by
      intro t kt
      refine pre515 _ ?_
      rw [hv544] at kt
      show Steps p.tables e below (T501.setTop (mkF m 115 #[.val (.long q1), .second, .val (.long q2), .second, vi p3, vi p4, vi p5, vi p6, vi v483, vi v486, vi v489, vi kk, vr b_492, vr b_501, vi v511, .unset, .unset, .unset, .unset, .unset] [(.int v514)])) _
      refine XS.istore X501.here hx rfl (hb hby at_115) rfl (l' := #[.val (.long q1), .second, .val (.long q2), .second, vi p3, vi p4, vi p5, vi p6, vi v483, vi v486, vi v489, vi kk, vr b_492, vr b_501, vi v511, vi v514, .unset, .unset, .unset, .unset]) rfl ?_
      refine st516 _ ?_
      refine XS.dup X516.here hx rfl (hb hby at_120) rfl rfl ?_
      refine XS.aload X516.here hx rfl (hb hby at_121) rfl rfl ?_
      refine XS.iload X516.here hx rfl (hb hby at_123) rfl ?_
      refine XS.iload X516.here hx rfl (hb hby at_125) rfl ?_
      refine st523.trans ?_
      refine XS.astore X523.here hx rfl (hb hby at_130) rfl rfl (l' := #[.val (.long q1), .second, .val (.long q2), .second, vi p3, vi p4, vi p5, vi p6, vi v483, vi v486, vi v489, vi kk, vr b_492, vr b_501, vi v511, vi v514, vr b516, .unset, .unset, .unset]) rfl ?_
      refine st529 _ ?_
      refine XS.dup X529.here hx rfl (hb hby at_135) rfl rfl ?_
      show Steps p.tables e below (T529.setTop (mkF m 136 #[.val (.long q1), .second, .val (.long q2), .second, vi p3, vi p4, vi p5, vi p6, vi v483, vi v486, vi v489, vi kk, vr b_492, vr b_501, vi v511, vi v514, vr b516, .unset, .unset, .unset] [(.ref b529), (.ref b529)])) _
      refine XS.aload X529.here hx rfl (hb hby at_136) rfl rfl ?_
      refine XS.iload X529.here hx rfl (hb hby at_138) rfl ?_
      refine XS.iload X529.here hx rfl (hb hby at_140) rfl ?_
      refine st536.trans ?_
      refine XS.astore X536.here hx rfl (hb hby at_145) rfl rfl (l' := #[.val (.long q1), .second, .val (.long q2), .second, vi p3, vi p4, vi p5, vi p6, vi v483, vi v486, vi v489, vi kk, vr b_492, vr b_501, vi v511, vi v514, vr b516, vr b529, .unset, .unset]) rfl ?_
      refine XS.iload X536.here hx rfl (hb hby at_147) rfl ?_
      refine XS.ifNo X536.here hx rfl (hb hby at_149) rfl ((if0 _ _).trans (teq hc73_499).2) ?_
      refine XS.lloadN X536.here hx rfl (hb hby at_152) rfl ?_
      refine XS.lloadN X536.here hx rfl (hb hby at_153) rfl ?_
      refine st542 _ ?_
      show Steps p.tables e below (T542.setTop (mkF m 157 #[.val (.long q1), .second, .val (.long q2), .second, vi p3, vi p4, vi p5, vi p6, vi v483, vi v486, vi v489, vi kk, vr b_492, vr b_501, vi v511, vi v514, vr b516, vr b529, .unset, .unset] [(.int (own_sm q1 q2))])) _
      by_cases hc157_543 : (own_sm q1 q2) = (0 : Int32)
      · try simp only [if_pos hc157_543] at kt
        refine XS.ifYes X542.here hx rfl (pc0 := 157) (pc' := 164) rfl (hb hby at_157) rfl ((if0 _ _).trans (teq hc157_543).1) (by decide) (by decide) ?_
        refine XS.iconst X542.here hx rfl (hb hby at_164) ?_
        exact kt
      · try simp only [if_neg hc157_543] at kt
        refine XS.ifNo X542.here hx rfl (hb hby at_157) rfl ((if0 _ _).trans (feq hc157_543).1) ?_
        refine XS.iconst X542.here hx rfl (hb hby at_160) ?_
        refine XS.goto X542.here hx rfl (pc0 := 161) (pc' := 165) rfl (hb hby at_161) (by decide) (by decide) ?_
        exact kt
    have pre547 : Goes p e below (s₁.setTop (entryFrame m #[(.long q1), (.long q2), (.int p3), (.int p4), (.int p5), (.int p6)] maxLocals)) (T542.setTop (mkF m 169 #[.val (.long q1), .second, .val (.long q2), .second, vi p3, vi p4, vi p5, vi p6, vi v483, vi v486, vi v489, vi kk, vr b_492, vr b_501, vi v511, vi v514, vr b516, vr b529, vi v544, .unset] [(.int kk)])) := by
      intro t kt
      refine pre545 _ ?_
      show Steps p.tables e below (T542.setTop (mkF m 165 #[.val (.long q1), .second, .val (.long q2), .second, vi p3, vi p4, vi p5, vi p6, vi v483, vi v486, vi v489, vi kk, vr b_492, vr b_501, vi v511, vi v514, vr b516, vr b529, .unset, .unset] [(.int v544)])) _
      refine XS.istore X542.here hx rfl (hb hby at_165) rfl (l' := #[.val (.long q1), .second, .val (.long q2), .second, vi p3, vi p4, vi p5, vi p6, vi v483, vi v486, vi v489, vi kk, vr b_492, vr b_501, vi v511, vi v514, vr b516, vr b529, vi v544, .unset]) rfl ?_
      refine XS.iload X542.here hx rfl (hb hby at_167) rfl ?_
      exact kt
    by_cases hc169_546 : kk = (0 : Int32)
    · obtain ⟨v551, hv551⟩ : ∃ z : Int32, z = (if v544 = (0 : Int32) then (0 : Int32) else (if p3 = v511 then (if p5 = v514 then (1 : Int32) else (0 : Int32)) else (0 : Int32))) := ⟨_, rfl⟩
      have pre552 : Goes p e below (s₁.setTop (entryFrame m #[(.long q1), (.long q2), (.int p3), (.int p4), (.int p5), (.int p6)] maxLocals)) (T542.setTop (mkF m 196 #[.val (.long q1), .second, .val (.long q2), .second, vi p3, vi p4, vi p5, vi p6, vi v483, vi v486, vi v489, vi kk, vr b_492, vr b_501, vi v511, vi v514, vr b516, vr b529, vi v544, .unset] [(.int v551)])) := by
        intro t kt
        refine pre547 _ ?_
        rw [hv551] at kt
        show Steps p.tables e below (T542.setTop (mkF m 169 #[.val (.long q1), .second, .val (.long q2), .second, vi p3, vi p4, vi p5, vi p6, vi v483, vi v486, vi v489, vi kk, vr b_492, vr b_501, vi v511, vi v514, vr b516, vr b529, vi v544, .unset] [(.int kk)])) _
        refine XS.ifNo X542.here hx rfl (hb hby at_169) rfl ((if0 _ _).trans (teq hc169_546).2) ?_
        refine XS.iload X542.here hx rfl (hb hby at_172) rfl ?_
        by_cases hc174_548 : v544 = (0 : Int32)
        · try simp only [if_pos hc174_548] at kt
          refine XS.ifYes X542.here hx rfl (pc0 := 174) (pc' := 195) rfl (hb hby at_174) rfl ((if0 _ _).trans (teq hc174_548).1) (by decide) (by decide) ?_
          refine XS.iconst X542.here hx rfl (hb hby at_195) ?_
          exact kt
        · try simp only [if_neg hc174_548] at kt
          refine XS.ifNo X542.here hx rfl (hb hby at_174) rfl ((if0 _ _).trans (feq hc174_548).1) ?_
          refine XS.iload X542.here hx rfl (hb hby at_177) rfl ?_
          refine XS.iload X542.here hx rfl (hb hby at_179) rfl ?_
          by_cases hc181_549 : p3 = v511
          · try simp only [if_pos hc181_549] at kt
            refine XS.icmpNo X542.here hx rfl (hb hby at_181) rfl (teq hc181_549).2 ?_
            refine XS.iload X542.here hx rfl (hb hby at_184) rfl ?_
            refine XS.iload X542.here hx rfl (hb hby at_186) rfl ?_
            show Steps p.tables e below (T542.setTop (mkF m 188 #[.val (.long q1), .second, .val (.long q2), .second, vi p3, vi p4, vi p5, vi p6, vi v483, vi v486, vi v489, vi kk, vr b_492, vr b_501, vi v511, vi v514, vr b516, vr b529, vi v544, .unset] [(.int v514), (.int p5)])) _
            by_cases hc188_550 : p5 = v514
            · try simp only [if_pos hc188_550] at kt
              refine XS.icmpNo X542.here hx rfl (hb hby at_188) rfl (teq hc188_550).2 ?_
              refine XS.iconst X542.here hx rfl (hb hby at_191) ?_
              refine XS.goto X542.here hx rfl (pc0 := 192) (pc' := 196) rfl (hb hby at_192) (by decide) (by decide) ?_
              exact kt
            · try simp only [if_neg hc188_550] at kt
              refine XS.icmpYes X542.here hx rfl (pc0 := 188) (pc' := 195) rfl (hb hby at_188) rfl (feq hc188_550).2 (by decide) (by decide) ?_
              refine XS.iconst X542.here hx rfl (hb hby at_195) ?_
              exact kt
          · try simp only [if_neg hc181_549] at kt
            refine XS.icmpYes X542.here hx rfl (pc0 := 181) (pc' := 195) rfl (hb hby at_181) rfl (feq hc181_549).2 (by decide) (by decide) ?_
            refine XS.iconst X542.here hx rfl (hb hby at_195) ?_
            exact kt
      have KP554 : Keep _ _ [b529] := own_ktr (Keep.ext (Keep.refl _ []) E529) K536q
      have KP555 : Keep _ _ [b516, b529] := own_ktr K523q KP554
      have ne_b516_b529 : b516 ≠ b529 := Nat.ne_of_lt (Nat.lt_of_lt_of_le ((A516.keep K523q)).lt (Nat.le_of_eq g529.symm))
      have ni556 := (ninS ne_b516_b529 nin0)
      have ne_b_492_b_501 : b_492 ≠ b_501 := Nat.ne_of_lt (Nat.lt_of_lt_of_le (ob498).lt g501_0)
      obtain ⟨_, T553, L553, X553, hQ553, st553⟩ := cV X542 hx hZ hown (wd_46 hw) (wd_47 hw) (wd_49 hw) (wd_48 hw) (by decide) 0 (rmlA l Z a0 hw [] b516 b529 b_492 b_501 p3 v511 p5 v514 q1 q2 wz T536.heap n0 Z537 (A516.keep KP555) (A529.keep K536q) (g523_0.keep KP554 ni556) (g523_1.keep KP554 ni556) (g523_2.keep KP554 ni556) g536_0 g536_1 g536_2 (str_keep xs508 KM541) (str_keep g501_1 KM541) ne_b_492_b_501 ((((((Old0.keep K492q all0).keep K501q all0).ext E516).keep K523q (allS g_b516 all0)).ext E529).keep K536q (allS g_b529 all0)) S_COMPACT_STRINGS hz) (wd_50 hw) (wd_32 hw) (by decide) (by decide) e542 (A516.keep KP555) hml (Ls := #[.val (.long q1), .second, .val (.long q2), .second, vi p3, vi p4, vi p5, vi p6, vi v483, vi v486, vi v489, vi kk, vr b_492, vr b_501, vi v511, vi v514, vr b516, vr b529, vi v544, vi v551]) rfl (argsL := [(.ref b529)]) (rest := []) (lenOf pd__Ljava_lang_Object__Z rfl) (St := [(.ref b529), (.ref b516)]) rfl rfl (hb hby at_202) rfl (by decide) (by decide)
      obtain ⟨rfl, N553q, e553⟩ := hQ553
      have N553 := Fr.app N542 N553q
      obtain ⟨_, T557, L557, X557, hQ557, st557⟩ := cV X553 hx hZ hown (wd_46 hw) (wd_47 hw) (wd_49 hw) (wd_48 hw) (by decide) 0 (rmlA l Z a0 hw [] b529 b516 b_501 b_492 v511 p3 v514 p5 q2 q1 wz T536.heap n0 Z537 (A529.keep K536q) (A516.keep KP555) g536_0 g536_1 g536_2 (g523_0.keep KP554 ni556) (g523_1.keep KP554 ni556) (g523_2.keep KP554 ni556) (str_keep g501_1 KM541) (str_keep xs508 KM541) (Ne.symm ne_b_492_b_501) ((((((Old0.keep K492q all0).keep K501q all0).ext E516).keep K523q (allS g_b516 all0)).ext E529).keep K536q (allS g_b529 all0)) S_COMPACT_STRINGS hz) (wd_50 hw) (wd_32 hw) (by decide) (by decide) e553 (A529.keep K536q) hml (Ls := #[.val (.long q1), .second, .val (.long q2), .second, vi p3, vi p4, vi p5, vi p6, vi v483, vi v486, vi v489, vi kk, vr b_492, vr b_501, vi v511, vi v514, vr b516, vr b529, vi v544, vi v551]) rfl (argsL := [(.ref b516)]) (rest := []) (lenOf pd__Ljava_lang_Object__Z rfl) (St := [(.ref b516), (.ref b529)]) rfl rfl (hb hby at_214) rfl (by decide) (by decide)
      obtain ⟨rfl, N557q, e557⟩ := hQ557
      have N557 := Fr.app N553 N557q
      obtain ⟨fs, hr, hrun, hended, hW⟩ := X557.leaveW hS (by rw [e557]; exact hk539) (v := some (.int 1)) (fun h => by rw [Bd.returns] at h; cases h)
      have hC_ : CHr Z consts_1 s.vm s.heap (T557.setFrames fs).vm (T557.setFrames fs).heap := by
        show CHr Z consts_1 s.vm s.heap T557.vm T557.heap
        rw [hh, e557]; exact CHr.trans RR538 (CHv.at X557 hZ (hELt hw) RR538.1)
      refine ⟨_, _, pre552 _ ?_, hrun, hended, _, _, rfl, ?_, hC_, hW.1, hW.2.1, hW.2.2.1, hW.2.2.2.mono (by decide) (by decide)⟩
      · show Steps p.tables e below (T542.setTop (mkF m 196 #[.val (.long q1), .second, .val (.long q2), .second, vi p3, vi p4, vi p5, vi p6, vi v483, vi v486, vi v489, vi kk, vr b_492, vr b_501, vi v511, vi v514, vr b516, vr b529, vi v544, .unset] [(.int v551)])) _
        refine XS.istore X542.here hx rfl (hb hby at_196) rfl (l' := #[.val (.long q1), .second, .val (.long q2), .second, vi p3, vi p4, vi p5, vi p6, vi v483, vi v486, vi v489, vi kk, vr b_492, vr b_501, vi v511, vi v514, vr b516, vr b529, vi v544, vi v551]) rfl ?_
        refine XS.aload X542.here hx rfl (hb hby at_198) rfl rfl ?_
        refine XS.aload X542.here hx rfl (hb hby at_200) rfl rfl ?_
        refine st553.trans ?_
        refine XS.iload X553.here hx rfl (hb hby at_205) rfl ?_
        refine XS.icmpNo X553.here hx rfl (hb hby at_207) rfl (teq (by rw [hv551, hv544]; exact own_loc_n)).2 ?_
        refine XS.aload X553.here hx rfl (hb hby at_210) rfl rfl ?_
        refine XS.aload X553.here hx rfl (hb hby at_212) rfl rfl ?_
        refine st557.trans ?_
        refine XS.iload X557.here hx rfl (hb hby at_217) rfl ?_
        show Steps p.tables e below (T557.setTop (mkF m 219 #[.val (.long q1), .second, .val (.long q2), .second, vi p3, vi p4, vi p5, vi p6, vi v483, vi v486, vi v489, vi kk, vr b_492, vr b_501, vi v511, vi v514, vr b516, vr b529, vi v544, vi v551] [(.int v551), (.int (own_loc (own_sm q2 q1) v511 p3 v514 p5))])) _
        refine XS.icmpNo X557.here hx rfl (hb hby at_219) rfl (teq (by rw [own_loc_s, own_sm_symm]; rw [hv551, hv544]; exact own_loc_n)).2 ?_
        refine XS.iconst X557.here hx rfl (hb hby at_222) ?_
        refine XS.goto X557.here hx rfl (pc0 := 223) (pc' := 227) rfl (hb hby at_223) (by decide) (by decide) ?_
        exact retN X557 hx (t := .boolean) Bd.returns (by simp) (hb hby at_227) hr
      · show Q_rm0 Z _ _ _ _ _ _ _ h0 n0 _ T557.heap _
        rw [e557]
        exact ⟨rfl, N557, trivial⟩
    · have pre559 : Goes p e below (s₁.setTop (entryFrame m #[(.long q1), (.long q2), (.int p3), (.int p4), (.int p5), (.int p6)] maxLocals)) (T542.setTop (mkF m 231 #[.val (.long q1), .second, .val (.long q2), .second, vi p3, vi p4, vi p5, vi p6, vi v483, vi v486, vi v489, vi kk, vr b_492, vr b_501, vi v511, vi v514, vr b516, vr b529, vi v544, .unset] [(.int 1), (.int kk)])) := by
        intro t kt
        refine pre547 _ ?_
        show Steps p.tables e below (T542.setTop (mkF m 169 #[.val (.long q1), .second, .val (.long q2), .second, vi p3, vi p4, vi p5, vi p6, vi v483, vi v486, vi v489, vi kk, vr b_492, vr b_501, vi v511, vi v514, vr b516, vr b529, vi v544, .unset] [(.int kk)])) _
        refine XS.ifYes X542.here hx rfl (pc0 := 169) (pc' := 228) rfl (hb hby at_169) rfl ((if0 _ _).trans (feq hc169_546).2) (by decide) (by decide) ?_
        refine XS.iload X542.here hx rfl (hb hby at_228) rfl ?_
        refine XS.iconst X542.here hx rfl (hb hby at_230) ?_
        exact kt
      by_cases hc231_558 : kk = (1 : Int32)
      · have KP561 : Keep _ _ [b529] := own_ktr (Keep.ext (Keep.refl _ []) E529) K536q
        have KP562 : Keep _ _ [b516, b529] := own_ktr K523q KP561
        obtain ⟨_, T560, L560, X560, hQ560, st560⟩ := cV X542 hx hZ hown (wd_46 hw) (wd_47 hw) (wd_49 hw) (wd_48 hw) (by decide) 0 (rmlB l Z a0 hw [] b516 T536.heap n0 Z537 (A516.keep KP562)) (wd_50 hw) (wd_32 hw) (by decide) (by decide) e542 (A516.keep KP562) hml (Ls := #[.val (.long q1), .second, .val (.long q2), .second, vi p3, vi p4, vi p5, vi p6, vi v483, vi v486, vi v489, vi kk, vr b_492, vr b_501, vi v511, vi v514, vr b516, vr b529, vi v544, .unset]) rfl (argsL := [.null]) (rest := []) (lenOf pd__Ljava_lang_Object__Z rfl) (St := [.null, (.ref b516)]) rfl rfl (hb hby at_237) rfl (by decide) (by decide)
        obtain ⟨rfl, N560q, e560⟩ := hQ560
        have N560 := Fr.app N542 N560q
        obtain ⟨fs, hr, hrun, hended, hW⟩ := X560.leaveW hS (by rw [e560]; exact hk539) (v := some (.int 1)) (fun h => by rw [Bd.returns] at h; cases h)
        have hC_ : CHr Z consts_1 s.vm s.heap (T560.setFrames fs).vm (T560.setFrames fs).heap := by
          show CHr Z consts_1 s.vm s.heap T560.vm T560.heap
          rw [hh, e560]; exact CHr.trans RR538 (CHv.at X560 hZ (hELt hw) RR538.1)
        refine ⟨_, _, pre559 _ ?_, hrun, hended, _, _, rfl, ?_, hC_, hW.1, hW.2.1, hW.2.2.1, hW.2.2.2.mono (by decide) (by decide)⟩
        · show Steps p.tables e below (T542.setTop (mkF m 231 #[.val (.long q1), .second, .val (.long q2), .second, vi p3, vi p4, vi p5, vi p6, vi v483, vi v486, vi v489, vi kk, vr b_492, vr b_501, vi v511, vi v514, vr b516, vr b529, vi v544, .unset] [(.int 1), (.int kk)])) _
          refine XS.icmpNo X542.here hx rfl (hb hby at_231) rfl (teq hc231_558).2 ?_
          refine XS.aload X542.here hx rfl (hb hby at_234) rfl rfl ?_
          refine XS.aconstNull X542.here hx rfl (hb hby at_236) ?_
          refine st560.trans ?_
          refine XS.ifNo X560.here hx rfl (hb hby at_240) rfl ((if0 _ _).trans (teq (rfl : (0 : Int32) = (0 : Int32))).2) ?_
          show Steps p.tables e below (T560.setTop (mkF m 243 #[.val (.long q1), .second, .val (.long q2), .second, vi p3, vi p4, vi p5, vi p6, vi v483, vi v486, vi v489, vi kk, vr b_492, vr b_501, vi v511, vi v514, vr b516, vr b529, vi v544, .unset] [])) _
          refine XS.iconst X560.here hx rfl (hb hby at_243) ?_
          refine XS.goto X560.here hx rfl (pc0 := 244) (pc' := 248) rfl (hb hby at_244) (by decide) (by decide) ?_
          exact retN X560 hx (t := .boolean) Bd.returns (by simp) (hb hby at_248) hr
        · show Q_rm0 Z _ _ _ _ _ _ _ h0 n0 _ T560.heap _
          rw [e560]
          exact ⟨rfl, N560, trivial⟩
      · have pre564 : Goes p e below (s₁.setTop (entryFrame m #[(.long q1), (.long q2), (.int p3), (.int p4), (.int p5), (.int p6)] maxLocals)) (T542.setTop (mkF m 252 #[.val (.long q1), .second, .val (.long q2), .second, vi p3, vi p4, vi p5, vi p6, vi v483, vi v486, vi v489, vi kk, vr b_492, vr b_501, vi v511, vi v514, vr b516, vr b529, vi v544, .unset] [(.int 2), (.int kk)])) := by
          intro t kt
          refine pre559 _ ?_
          show Steps p.tables e below (T542.setTop (mkF m 231 #[.val (.long q1), .second, .val (.long q2), .second, vi p3, vi p4, vi p5, vi p6, vi v483, vi v486, vi v489, vi kk, vr b_492, vr b_501, vi v511, vi v514, vr b516, vr b529, vi v544, .unset] [(.int 1), (.int kk)])) _
          refine XS.icmpYes X542.here hx rfl (pc0 := 231) (pc' := 249) rfl (hb hby at_231) rfl (feq hc231_558).2 (by decide) (by decide) ?_
          refine XS.iload X542.here hx rfl (hb hby at_249) rfl ?_
          refine XS.iconst X542.here hx rfl (hb hby at_251) ?_
          exact kt
        by_cases hc252_563 : kk = (2 : Int32)
        · have KP566 : Keep _ _ [b529] := own_ktr (Keep.ext (Keep.refl _ []) E529) K536q
          have KP567 : Keep _ _ [b516, b529] := own_ktr K523q KP566
          have KP568 : Keep _ _ [b516, b529] := own_ktr (Keep.ext (Keep.refl _ []) E516) KP567
          have KP569 : Keep _ _ [b516, b529] := own_ktr K501q KP568
          obtain ⟨_, T565, L565, X565, hQ565, st565⟩ := cV X542 hx hZ hown (wd_46 hw) (wd_47 hw) (wd_49 hw) (wd_48 hw) (by decide) 0 (rmlC l Z a0 hw [] b516 b_492 T536.heap n0 Z537 (A516.keep KP567) (ob498.keep KP569)) (wd_50 hw) (wd_32 hw) (by decide) (by decide) e542 (A516.keep KP567) hml (Ls := #[.val (.long q1), .second, .val (.long q2), .second, vi p3, vi p4, vi p5, vi p6, vi v483, vi v486, vi v489, vi kk, vr b_492, vr b_501, vi v511, vi v514, vr b516, vr b529, vi v544, .unset]) rfl (argsL := [(.ref b_492)]) (rest := []) (lenOf pd__Ljava_lang_Object__Z rfl) (St := [(.ref b_492), (.ref b516)]) rfl rfl (hb hby at_259) rfl (by decide) (by decide)
          obtain ⟨rfl, N565q, e565⟩ := hQ565
          have N565 := Fr.app N542 N565q
          obtain ⟨fs, hr, hrun, hended, hW⟩ := X565.leaveW hS (by rw [e565]; exact hk539) (v := some (.int 1)) (fun h => by rw [Bd.returns] at h; cases h)
          have hC_ : CHr Z consts_1 s.vm s.heap (T565.setFrames fs).vm (T565.setFrames fs).heap := by
            show CHr Z consts_1 s.vm s.heap T565.vm T565.heap
            rw [hh, e565]; exact CHr.trans RR538 (CHv.at X565 hZ (hELt hw) RR538.1)
          refine ⟨_, _, pre564 _ ?_, hrun, hended, _, _, rfl, ?_, hC_, hW.1, hW.2.1, hW.2.2.1, hW.2.2.2.mono (by decide) (by decide)⟩
          · show Steps p.tables e below (T542.setTop (mkF m 252 #[.val (.long q1), .second, .val (.long q2), .second, vi p3, vi p4, vi p5, vi p6, vi v483, vi v486, vi v489, vi kk, vr b_492, vr b_501, vi v511, vi v514, vr b516, vr b529, vi v544, .unset] [(.int 2), (.int kk)])) _
            refine XS.icmpNo X542.here hx rfl (hb hby at_252) rfl (teq hc252_563).2 ?_
            refine XS.aload X542.here hx rfl (hb hby at_255) rfl rfl ?_
            show Steps p.tables e below (T542.setTop (mkF m 257 #[.val (.long q1), .second, .val (.long q2), .second, vi p3, vi p4, vi p5, vi p6, vi v483, vi v486, vi v489, vi kk, vr b_492, vr b_501, vi v511, vi v514, vr b516, vr b529, vi v544, .unset] [(.ref b516)])) _
            refine XS.aload X542.here hx rfl (hb hby at_257) rfl rfl ?_
            refine st565.trans ?_
            refine XS.ifNo X565.here hx rfl (hb hby at_262) rfl ((if0 _ _).trans (teq (rfl : (0 : Int32) = (0 : Int32))).2) ?_
            refine XS.iconst X565.here hx rfl (hb hby at_265) ?_
            refine XS.goto X565.here hx rfl (pc0 := 266) (pc' := 270) rfl (hb hby at_266) (by decide) (by decide) ?_
            exact retN X565 hx (t := .boolean) Bd.returns (by simp) (hb hby at_270) hr
          · show Q_rm0 Z _ _ _ _ _ _ _ h0 n0 _ T565.heap _
            rw [e565]
            exact ⟨rfl, N565, trivial⟩
        · have KP571 : Keep _ _ [b529] := own_ktr (Keep.ext (Keep.refl _ []) E529) K536q
          have KP572 : Keep _ _ [b516, b529] := own_ktr K523q KP571
          have ne_b516_b529 : b516 ≠ b529 := Nat.ne_of_lt (Nat.lt_of_lt_of_le ((A516.keep K523q)).lt (Nat.le_of_eq g529.symm))
          have ni573 := (ninS ne_b516_b529 nin0)
          have KP574 : Keep _ _ [b516, b529] := own_ktr (Keep.ext (Keep.refl _ []) E516) KP572
          have KP575 : Keep _ _ [b516, b529] := own_ktr K501q KP574
          obtain ⟨_, T570, L570, X570, hQ570, st570⟩ := cV X542 hx hZ hown (wd_46 hw) (wd_47 hw) (wd_49 hw) (wd_48 hw) (by decide) 0 (rmlD l Z a0 hw [] b516 b_492 p3 p5 T536.heap n0 Z537 (A516.keep KP572) (g523_0.keep KP571 ni573) (g523_1.keep KP571 ni573) (g523_2.keep KP571 ni573) (ob498.keep KP575)) (wd_50 hw) (wd_32 hw) (by decide) (by decide) e542 (A516.keep KP572) hml (Ls := #[.val (.long q1), .second, .val (.long q2), .second, vi p3, vi p4, vi p5, vi p6, vi v483, vi v486, vi v489, vi kk, vr b_492, vr b_501, vi v511, vi v514, vr b516, vr b529, vi v544, .unset]) rfl (argsL := [(.ref b516)]) (rest := []) (lenOf pd__Ljava_lang_Object__Z rfl) (St := [(.ref b516), (.ref b516)]) rfl rfl (hb hby at_275) rfl (by decide) (by decide)
          obtain ⟨rfl, N570q, e570⟩ := hQ570
          have N570 := Fr.app N542 N570q
          obtain ⟨fs, hr, hrun, hended, hW⟩ := X570.leaveW hS (by rw [e570]; exact hk539) (v := some (.int 1)) (fun h => by rw [Bd.returns] at h; cases h)
          have hC_ : CHr Z consts_1 s.vm s.heap (T570.setFrames fs).vm (T570.setFrames fs).heap := by
            show CHr Z consts_1 s.vm s.heap T570.vm T570.heap
            rw [hh, e570]; exact CHr.trans RR538 (CHv.at X570 hZ (hELt hw) RR538.1)
          refine ⟨_, _, pre564 _ ?_, hrun, hended, _, _, rfl, ?_, hC_, hW.1, hW.2.1, hW.2.2.1, hW.2.2.2.mono (by decide) (by decide)⟩
          · show Steps p.tables e below (T542.setTop (mkF m 252 #[.val (.long q1), .second, .val (.long q2), .second, vi p3, vi p4, vi p5, vi p6, vi v483, vi v486, vi v489, vi kk, vr b_492, vr b_501, vi v511, vi v514, vr b516, vr b529, vi v544, .unset] [(.int 2), (.int kk)])) _
            refine XS.icmpYes X542.here hx rfl (pc0 := 252) (pc' := 271) rfl (hb hby at_252) rfl (feq hc252_563).2 (by decide) (by decide) ?_
            refine XS.aload X542.here hx rfl (hb hby at_271) rfl rfl ?_
            show Steps p.tables e below (T542.setTop (mkF m 273 #[.val (.long q1), .second, .val (.long q2), .second, vi p3, vi p4, vi p5, vi p6, vi v483, vi v486, vi v489, vi kk, vr b_492, vr b_501, vi v511, vi v514, vr b516, vr b529, vi v544, .unset] [(.ref b516)])) _
            refine XS.aload X542.here hx rfl (hb hby at_273) rfl rfl ?_
            refine st570.trans ?_
            exact retN X570 hx (t := .boolean) Bd.returns (by simp) (hb hby at_278) hr
          · show Q_rm0 Z _ _ _ _ _ _ _ h0 n0 _ T570.heap _
            rw [e570]
            exact ⟨rfl, N570, trivial⟩
  · obtain ⟨_, _, ⟨T576, L576, k576, n576⟩, -, X576, hT576, hg576, ⟨Lc576, hQ576, l576, y576, z576, C576⟩, st576⟩ := callSS X492 hx (y := y_1) hown (mvT hZ (wd_1 hw)) (mvT hZ (wd_2 hw)) (mvT hZ (wd_3 hw)) (mvT hZ (wd_4 hw)) (by decide) (backOfSH (W := 0) (rm1 l Z a0 hw [] q1 wz T492.heap n0 Z493 (Old0.keep K492q all0) S_COMPACT_STRINGS hz) hZ (wd_4 hw) (wd_3 hw) (by decide) (by decide) (hELt hw) RR494.1) (g := (mkF m 77 #[.val (.long q1), .second, .val (.long q2), .second, vi p3, vi p4, vi p5, vi p6, vi v483, vi v486, vi v489, vi kk, vr b_492, .unset, .unset, .unset, .unset, .unset, .unset, .unset] [(.long q1)])) rfl (by rw [hml]; rfl) (argsL := [(.long q1)]) (rest := []) (lenOf pd__J_Ljava_lang_String_ rfl) rfl (by show 2 * 0 + _ ≤ _; exact Nat.le_of_eq rfl) (hb hby at_77) (fun _ _ => ⟨rfl, rfl, (by decide : 6 + 6 ≤ _), (by decide : 12 + 12 ≤ _)⟩)
    dsimp only [Pt.U, Pt.locs, Pt.cells, Pt.slots] at X576 l576 y576 z576 st576 hQ576 hT576 hg576 C576
    rw [l576, y576, z576] at X576
    obtain ⟨X576, hS, hZ, hown⟩ := rebS hS (hk495) X576 hT576 hg576 hZ hown
    obtain ⟨b_576, rfl, N576q, K576q, g576_0, g576_1⟩ := hQ576
    have N576 := Fr.app N492 N576q
    have Z577 := Nat.le_trans Z493 K576q.1
    have cs_580 := C576
    have RR578 := CHr.trans RR494 cs_580
    have hk579 := Nat.le_refl T576.heap.size
    have g581 : n0 ≤ b_576 := Nat.le_trans Z493 g576_0
    obtain ⟨_, _, ob582, -⟩ := id g576_1
    have xs583 := (str_keep g492_1 K576q)
    obtain ⟨v586, hv586⟩ : ∃ z : Int32, z = (if v486 = (0 : Int32) then p4 else p3) := ⟨_, rfl⟩
    have pre587 : Goes p e below (s₁.setTop (entryFrame m #[(.long q1), (.long q2), (.int p3), (.int p4), (.int p5), (.int p6)] maxLocals)) (T576.setTop (mkF m 101 #[.val (.long q1), .second, .val (.long q2), .second, vi p3, vi p4, vi p5, vi p6, vi v483, vi v486, vi v489, vi kk, vr b_492, vr b_576, .unset, .unset, .unset, .unset, .unset, .unset] [(.int v586)])) := by
      intro t kt
      refine pre500 _ ?_
      rw [hv586] at kt
      show Steps p.tables e below (T492.setTop (mkF m 73 #[.val (.long q1), .second, .val (.long q2), .second, vi p3, vi p4, vi p5, vi p6, vi v483, vi v486, vi v489, vi kk, vr b_492, .unset, .unset, .unset, .unset, .unset, .unset, .unset] [(.int v483)])) _
      refine XS.ifNo X492.here hx rfl (hb hby at_73) rfl ((if0 _ _).trans (feq hc73_499).1) ?_
      refine XS.lloadN X492.here hx rfl (hb hby at_76) rfl ?_
      refine st576.trans ?_
      refine XS.goto X576.here hx rfl (pc0 := 80) (pc' := 87) rfl (hb hby at_80) (by decide) (by decide) ?_
      refine XS.astore X576.here hx rfl (hb hby at_87) rfl rfl (l' := #[.val (.long q1), .second, .val (.long q2), .second, vi p3, vi p4, vi p5, vi p6, vi v483, vi v486, vi v489, vi kk, vr b_492, vr b_576, .unset, .unset, .unset, .unset, .unset, .unset]) rfl ?_
      refine XS.iload X576.here hx rfl (hb hby at_89) rfl ?_
      show Steps p.tables e below (T576.setTop (mkF m 91 #[.val (.long q1), .second, .val (.long q2), .second, vi p3, vi p4, vi p5, vi p6, vi v483, vi v486, vi v489, vi kk, vr b_492, vr b_576, .unset, .unset, .unset, .unset, .unset, .unset] [(.int v486)])) _
      by_cases hc91_585 : v486 = (0 : Int32)
      · try simp only [if_pos hc91_585] at kt
        refine XS.ifYes X576.here hx rfl (pc0 := 91) (pc' := 99) rfl (hb hby at_91) rfl ((if0 _ _).trans (teq hc91_585).1) (by decide) (by decide) ?_
        refine XS.iload X576.here hx rfl (hb hby at_99) rfl ?_
        exact kt
      · try simp only [if_neg hc91_585] at kt
        refine XS.ifNo X576.here hx rfl (hb hby at_91) rfl ((if0 _ _).trans (feq hc91_585).1) ?_
        refine XS.iload X576.here hx rfl (hb hby at_94) rfl ?_
        refine XS.goto X576.here hx rfl (pc0 := 96) (pc' := 101) rfl (hb hby at_96) (by decide) (by decide) ?_
        exact kt
    obtain ⟨v589, hv589⟩ : ∃ z : Int32, z = (if v489 = (0 : Int32) then p6 else p5) := ⟨_, rfl⟩
    have pre590 : Goes p e below (s₁.setTop (entryFrame m #[(.long q1), (.long q2), (.int p3), (.int p4), (.int p5), (.int p6)] maxLocals)) (T576.setTop (mkF m 115 #[.val (.long q1), .second, .val (.long q2), .second, vi p3, vi p4, vi p5, vi p6, vi v483, vi v486, vi v489, vi kk, vr b_492, vr b_576, vi v586, .unset, .unset, .unset, .unset, .unset] [(.int v589)])) := by
      intro t kt
      refine pre587 _ ?_
      rw [hv589] at kt
      show Steps p.tables e below (T576.setTop (mkF m 101 #[.val (.long q1), .second, .val (.long q2), .second, vi p3, vi p4, vi p5, vi p6, vi v483, vi v486, vi v489, vi kk, vr b_492, vr b_576, .unset, .unset, .unset, .unset, .unset, .unset] [(.int v586)])) _
      refine XS.istore X576.here hx rfl (hb hby at_101) rfl (l' := #[.val (.long q1), .second, .val (.long q2), .second, vi p3, vi p4, vi p5, vi p6, vi v483, vi v486, vi v489, vi kk, vr b_492, vr b_576, vi v586, .unset, .unset, .unset, .unset, .unset]) rfl ?_
      refine XS.iload X576.here hx rfl (hb hby at_103) rfl ?_
      by_cases hc105_588 : v489 = (0 : Int32)
      · try simp only [if_pos hc105_588] at kt
        refine XS.ifYes X576.here hx rfl (pc0 := 105) (pc' := 113) rfl (hb hby at_105) rfl ((if0 _ _).trans (teq hc105_588).1) (by decide) (by decide) ?_
        refine XS.iload X576.here hx rfl (hb hby at_113) rfl ?_
        exact kt
      · try simp only [if_neg hc105_588] at kt
        refine XS.ifNo X576.here hx rfl (hb hby at_105) rfl ((if0 _ _).trans (feq hc105_588).1) ?_
        refine XS.iload X576.here hx rfl (hb hby at_108) rfl ?_
        refine XS.goto X576.here hx rfl (pc0 := 110) (pc' := 115) rfl (hb hby at_110) (by decide) (by decide) ?_
        exact kt
    obtain ⟨T591, h591, X591, e591, E591, A591, D591, -, st591⟩ := newO X576 hx hZ hown (wd_30 hw) (wd_31 hw) (wd_32 hw) rfl (g := (mkF m 117 #[.val (.long q1), .second, .val (.long q2), .second, vi p3, vi p4, vi p5, vi p6, vi v483, vi v486, vi v489, vi kk, vr b_492, vr b_576, vi v586, vi v589, .unset, .unset, .unset, .unset] [])) rfl (hb hby at_117) (by decide) (by decide)
    obtain ⟨b591, g591⟩ : ∃ z, z = T576.heap.size := ⟨_, rfl⟩
    rw [← g591] at A591 D591 st591
    have g_b591 : n0 ≤ b591 := Nat.le_trans Z577 (Nat.le_of_eq g591.symm)
    have zM592 : T576.heap.size ≤ b591 := Nat.le_trans (And.left (Keep.refl T576.heap [])) (Nat.le_of_eq g591.symm)
    have Z593 := Nat.le_trans Z577 E591.1
    have cs_596 := (CHr.ext E591 RR578.1)
    have RR594 := CHr.trans RR578 cs_596
    have hk595 := Nat.le_trans hk579 E591.1
    have KM597 := Keep.ext (Keep.refl T576.heap []) E591
    obtain ⟨_, T598, L598, X598, hQ598, st598⟩ := cN X591 hx hZ hown (wd_33 hw) (wd_34 hw) rfl (by decide) 1 (rm6 l Z a0 hw [] b591 b_492 p3 p5 .null (.int 0) (.int 0) h591 n0 Z593 (D591 (Or.inr (wd_38 hw)) (ty := (.object cs1)) (by decide)) (D591 (Or.inr (wd_40 hw)) (ty := .int) (by decide)) (D591 (Or.inr (wd_42 hw)) (ty := .int) (by decide)) A591 g_b591) (wd_35 hw) (wd_32 hw) (by decide) (by decide) e591 b591 hml (Ls := #[.val (.long q1), .second, .val (.long q2), .second, vi p3, vi p4, vi p5, vi p6, vi v483, vi v486, vi v489, vi kk, vr b_492, vr b_576, vi v586, vi v589, .unset, .unset, .unset, .unset]) rfl (argsL := [(.ref b_492), (.int p3), (.int p5)]) (rest := [(.ref b591)]) (lenOf pd__Ljava_lang_String_II_V rfl) (St := [(.int p5), (.int p3), (.ref b_492), (.ref b591), (.ref b591)]) rfl rfl (hb hby at_127) rfl (by decide) (by decide)
    obtain ⟨rfl, N598q, K598q, g598_0, g598_1, g598_2⟩ := hQ598
    have N598 := Fr.app N576 N598q
    have Z599 := Nat.le_trans Z593 K598q.1
    have cs_602 := (CHr.keep K598q (allS (Safe.exa hZ.alike A591 (by decide) (by decide)) all0) RR594.1)
    have RR600 := CHr.trans RR594 cs_602
    have hk601 := Nat.le_trans hk595 K598q.1
    have KM603 := Keep.trans KM597 K598q (allS (Or.inr zM592) all0)
    obtain ⟨T604, h604, X604, e604, E604, A604, D604, -, st604⟩ := newO X598 hx hZ hown (wd_30 hw) (wd_31 hw) (wd_32 hw) rfl (g := (mkF m 132 #[.val (.long q1), .second, .val (.long q2), .second, vi p3, vi p4, vi p5, vi p6, vi v483, vi v486, vi v489, vi kk, vr b_492, vr b_576, vi v586, vi v589, vr b591, .unset, .unset, .unset] [])) rfl (hb hby at_132) (by decide) (by decide)
    obtain ⟨b604, g604⟩ : ∃ z, z = T598.heap.size := ⟨_, rfl⟩
    rw [← g604] at A604 D604 st604
    have g_b604 : n0 ≤ b604 := Nat.le_trans Z599 (Nat.le_of_eq g604.symm)
    have zM605 : T576.heap.size ≤ b604 := Nat.le_trans (And.left KM603) (Nat.le_of_eq g604.symm)
    have Z606 := Nat.le_trans Z599 E604.1
    have cs_609 := (CHr.ext E604 RR600.1)
    have RR607 := CHr.trans RR600 cs_609
    have hk608 := Nat.le_trans hk601 E604.1
    have KM610 := Keep.ext KM603 E604
    obtain ⟨_, T611, L611, X611, hQ611, st611⟩ := cN X604 hx hZ hown (wd_33 hw) (wd_34 hw) rfl (by decide) 1 (rm6 l Z a0 hw [] b604 b_576 v586 v589 .null (.int 0) (.int 0) h604 n0 Z606 (D604 (Or.inr (wd_38 hw)) (ty := (.object cs1)) (by decide)) (D604 (Or.inr (wd_40 hw)) (ty := .int) (by decide)) (D604 (Or.inr (wd_42 hw)) (ty := .int) (by decide)) A604 g_b604) (wd_35 hw) (wd_32 hw) (by decide) (by decide) e604 b604 hml (Ls := #[.val (.long q1), .second, .val (.long q2), .second, vi p3, vi p4, vi p5, vi p6, vi v483, vi v486, vi v489, vi kk, vr b_492, vr b_576, vi v586, vi v589, vr b591, .unset, .unset, .unset]) rfl (argsL := [(.ref b_576), (.int v586), (.int v589)]) (rest := [(.ref b604)]) (lenOf pd__Ljava_lang_String_II_V rfl) (St := [(.int v589), (.int v586), (.ref b_576), (.ref b604), (.ref b604)]) rfl rfl (hb hby at_142) rfl (by decide) (by decide)
    obtain ⟨rfl, N611q, K611q, g611_0, g611_1, g611_2⟩ := hQ611
    have N611 := Fr.app N598 N611q
    have Z612 := Nat.le_trans Z606 K611q.1
    have cs_615 := (CHr.keep K611q (allS (Safe.exa hZ.alike A604 (by decide) (by decide)) all0) RR607.1)
    have RR613 := CHr.trans RR607 cs_615
    have hk614 := Nat.le_trans hk608 K611q.1
    have KM616 := Keep.trans KM610 K611q (allS (Or.inr zM605) all0)
    have pre618 : Goes p e below (s₁.setTop (entryFrame m #[(.long q1), (.long q2), (.int p3), (.int p4), (.int p5), (.int p6)] maxLocals)) (T611.setTop (mkF m 169 #[.val (.long q1), .second, .val (.long q2), .second, vi p3, vi p4, vi p5, vi p6, vi v483, vi v486, vi v489, vi kk, vr b_492, vr b_576, vi v586, vi v589, vr b591, vr b604, vi 1, .unset] [(.int kk)])) := by
      intro t kt
      refine pre590 _ ?_
      show Steps p.tables e below (T576.setTop (mkF m 115 #[.val (.long q1), .second, .val (.long q2), .second, vi p3, vi p4, vi p5, vi p6, vi v483, vi v486, vi v489, vi kk, vr b_492, vr b_576, vi v586, .unset, .unset, .unset, .unset, .unset] [(.int v589)])) _
      refine XS.istore X576.here hx rfl (hb hby at_115) rfl (l' := #[.val (.long q1), .second, .val (.long q2), .second, vi p3, vi p4, vi p5, vi p6, vi v483, vi v486, vi v489, vi kk, vr b_492, vr b_576, vi v586, vi v589, .unset, .unset, .unset, .unset]) rfl ?_
      refine st591 _ ?_
      refine XS.dup X591.here hx rfl (hb hby at_120) rfl rfl ?_
      refine XS.aload X591.here hx rfl (hb hby at_121) rfl rfl ?_
      refine XS.iload X591.here hx rfl (hb hby at_123) rfl ?_
      refine XS.iload X591.here hx rfl (hb hby at_125) rfl ?_
      refine st598.trans ?_
      refine XS.astore X598.here hx rfl (hb hby at_130) rfl rfl (l' := #[.val (.long q1), .second, .val (.long q2), .second, vi p3, vi p4, vi p5, vi p6, vi v483, vi v486, vi v489, vi kk, vr b_492, vr b_576, vi v586, vi v589, vr b591, .unset, .unset, .unset]) rfl ?_
      refine st604 _ ?_
      refine XS.dup X604.here hx rfl (hb hby at_135) rfl rfl ?_
      show Steps p.tables e below (T604.setTop (mkF m 136 #[.val (.long q1), .second, .val (.long q2), .second, vi p3, vi p4, vi p5, vi p6, vi v483, vi v486, vi v489, vi kk, vr b_492, vr b_576, vi v586, vi v589, vr b591, .unset, .unset, .unset] [(.ref b604), (.ref b604)])) _
      refine XS.aload X604.here hx rfl (hb hby at_136) rfl rfl ?_
      refine XS.iload X604.here hx rfl (hb hby at_138) rfl ?_
      refine XS.iload X604.here hx rfl (hb hby at_140) rfl ?_
      refine st611.trans ?_
      refine XS.astore X611.here hx rfl (hb hby at_145) rfl rfl (l' := #[.val (.long q1), .second, .val (.long q2), .second, vi p3, vi p4, vi p5, vi p6, vi v483, vi v486, vi v489, vi kk, vr b_492, vr b_576, vi v586, vi v589, vr b591, vr b604, .unset, .unset]) rfl ?_
      refine XS.iload X611.here hx rfl (hb hby at_147) rfl ?_
      refine XS.ifYes X611.here hx rfl (pc0 := 149) (pc' := 160) rfl (hb hby at_149) rfl ((if0 _ _).trans (feq hc73_499).2) (by decide) (by decide) ?_
      refine XS.iconst X611.here hx rfl (hb hby at_160) ?_
      refine XS.goto X611.here hx rfl (pc0 := 161) (pc' := 165) rfl (hb hby at_161) (by decide) (by decide) ?_
      refine XS.istore X611.here hx rfl (hb hby at_165) rfl (l' := #[.val (.long q1), .second, .val (.long q2), .second, vi p3, vi p4, vi p5, vi p6, vi v483, vi v486, vi v489, vi kk, vr b_492, vr b_576, vi v586, vi v589, vr b591, vr b604, vi 1, .unset]) rfl ?_
      show Steps p.tables e below (T611.setTop (mkF m 167 #[.val (.long q1), .second, .val (.long q2), .second, vi p3, vi p4, vi p5, vi p6, vi v483, vi v486, vi v489, vi kk, vr b_492, vr b_576, vi v586, vi v589, vr b591, vr b604, vi 1, .unset] [])) _
      refine XS.iload X611.here hx rfl (hb hby at_167) rfl ?_
      exact kt
    by_cases hc169_617 : kk = (0 : Int32)
    · obtain ⟨v621, hv621⟩ : ∃ z : Int32, z = (if p3 = v586 then (if p5 = v589 then (1 : Int32) else (0 : Int32)) else (0 : Int32)) := ⟨_, rfl⟩
      have pre622 : Goes p e below (s₁.setTop (entryFrame m #[(.long q1), (.long q2), (.int p3), (.int p4), (.int p5), (.int p6)] maxLocals)) (T611.setTop (mkF m 196 #[.val (.long q1), .second, .val (.long q2), .second, vi p3, vi p4, vi p5, vi p6, vi v483, vi v486, vi v489, vi kk, vr b_492, vr b_576, vi v586, vi v589, vr b591, vr b604, vi 1, .unset] [(.int v621)])) := by
        intro t kt
        refine pre618 _ ?_
        rw [hv621] at kt
        show Steps p.tables e below (T611.setTop (mkF m 169 #[.val (.long q1), .second, .val (.long q2), .second, vi p3, vi p4, vi p5, vi p6, vi v483, vi v486, vi v489, vi kk, vr b_492, vr b_576, vi v586, vi v589, vr b591, vr b604, vi 1, .unset] [(.int kk)])) _
        refine XS.ifNo X611.here hx rfl (hb hby at_169) rfl ((if0 _ _).trans (teq hc169_617).2) ?_
        refine XS.iload X611.here hx rfl (hb hby at_172) rfl ?_
        refine XS.ifNo X611.here hx rfl (hb hby at_174) rfl ((if0 _ _).trans (feq (by decide)).1) ?_
        refine XS.iload X611.here hx rfl (hb hby at_177) rfl ?_
        refine XS.iload X611.here hx rfl (hb hby at_179) rfl ?_
        by_cases hc181_619 : p3 = v586
        · try simp only [if_pos hc181_619] at kt
          refine XS.icmpNo X611.here hx rfl (hb hby at_181) rfl (teq hc181_619).2 ?_
          refine XS.iload X611.here hx rfl (hb hby at_184) rfl ?_
          refine XS.iload X611.here hx rfl (hb hby at_186) rfl ?_
          by_cases hc188_620 : p5 = v589
          · try simp only [if_pos hc188_620] at kt
            refine XS.icmpNo X611.here hx rfl (hb hby at_188) rfl (teq hc188_620).2 ?_
            show Steps p.tables e below (T611.setTop (mkF m 191 #[.val (.long q1), .second, .val (.long q2), .second, vi p3, vi p4, vi p5, vi p6, vi v483, vi v486, vi v489, vi kk, vr b_492, vr b_576, vi v586, vi v589, vr b591, vr b604, vi 1, .unset] [])) _
            refine XS.iconst X611.here hx rfl (hb hby at_191) ?_
            refine XS.goto X611.here hx rfl (pc0 := 192) (pc' := 196) rfl (hb hby at_192) (by decide) (by decide) ?_
            exact kt
          · try simp only [if_neg hc188_620] at kt
            refine XS.icmpYes X611.here hx rfl (pc0 := 188) (pc' := 195) rfl (hb hby at_188) rfl (feq hc188_620).2 (by decide) (by decide) ?_
            show Steps p.tables e below (T611.setTop (mkF m 195 #[.val (.long q1), .second, .val (.long q2), .second, vi p3, vi p4, vi p5, vi p6, vi v483, vi v486, vi v489, vi kk, vr b_492, vr b_576, vi v586, vi v589, vr b591, vr b604, vi 1, .unset] [])) _
            refine XS.iconst X611.here hx rfl (hb hby at_195) ?_
            exact kt
        · try simp only [if_neg hc181_619] at kt
          refine XS.icmpYes X611.here hx rfl (pc0 := 181) (pc' := 195) rfl (hb hby at_181) rfl (feq hc181_619).2 (by decide) (by decide) ?_
          refine XS.iconst X611.here hx rfl (hb hby at_195) ?_
          exact kt
      have KP624 : Keep _ _ [b604] := own_ktr (Keep.ext (Keep.refl _ []) E604) K611q
      have KP625 : Keep _ _ [b591, b604] := own_ktr K598q KP624
      have ne_b591_b604 : b591 ≠ b604 := Nat.ne_of_lt (Nat.lt_of_lt_of_le ((A591.keep K598q)).lt (Nat.le_of_eq g604.symm))
      have ni626 := (ninS ne_b591_b604 nin0)
      have ne_b_492_b_576 : b_492 ≠ b_576 := Nat.ne_of_lt (Nat.lt_of_lt_of_le (ob498).lt g576_0)
      obtain ⟨_, T623, L623, X623, hQ623, st623⟩ := cV X611 hx hZ hown (wd_46 hw) (wd_47 hw) (wd_49 hw) (wd_48 hw) (by decide) 0 (rmlA l Z a0 hw [] b591 b604 b_492 b_576 p3 v586 p5 v589 q1 q1 wz T611.heap n0 Z612 (A591.keep KP625) (A604.keep K611q) (g598_0.keep KP624 ni626) (g598_1.keep KP624 ni626) (g598_2.keep KP624 ni626) g611_0 g611_1 g611_2 (str_keep xs583 KM616) (str_keep g576_1 KM616) ne_b_492_b_576 ((((((Old0.keep K492q all0).keep K576q all0).ext E591).keep K598q (allS g_b591 all0)).ext E604).keep K611q (allS g_b604 all0)) S_COMPACT_STRINGS hz) (wd_50 hw) (wd_32 hw) (by decide) (by decide) rfl (A591.keep KP625) hml (Ls := #[.val (.long q1), .second, .val (.long q2), .second, vi p3, vi p4, vi p5, vi p6, vi v483, vi v486, vi v489, vi kk, vr b_492, vr b_576, vi v586, vi v589, vr b591, vr b604, vi 1, vi v621]) rfl (argsL := [(.ref b604)]) (rest := []) (lenOf pd__Ljava_lang_Object__Z rfl) (St := [(.ref b604), (.ref b591)]) rfl rfl (hb hby at_202) rfl (by decide) (by decide)
      obtain ⟨rfl, N623q, e623⟩ := hQ623
      have N623 := Fr.app N611 N623q
      obtain ⟨_, T627, L627, X627, hQ627, st627⟩ := cV X623 hx hZ hown (wd_46 hw) (wd_47 hw) (wd_49 hw) (wd_48 hw) (by decide) 0 (rmlA l Z a0 hw [] b604 b591 b_576 b_492 v586 p3 v589 p5 q1 q1 wz T611.heap n0 Z612 (A604.keep K611q) (A591.keep KP625) g611_0 g611_1 g611_2 (g598_0.keep KP624 ni626) (g598_1.keep KP624 ni626) (g598_2.keep KP624 ni626) (str_keep g576_1 KM616) (str_keep xs583 KM616) (Ne.symm ne_b_492_b_576) ((((((Old0.keep K492q all0).keep K576q all0).ext E591).keep K598q (allS g_b591 all0)).ext E604).keep K611q (allS g_b604 all0)) S_COMPACT_STRINGS hz) (wd_50 hw) (wd_32 hw) (by decide) (by decide) e623 (A604.keep K611q) hml (Ls := #[.val (.long q1), .second, .val (.long q2), .second, vi p3, vi p4, vi p5, vi p6, vi v483, vi v486, vi v489, vi kk, vr b_492, vr b_576, vi v586, vi v589, vr b591, vr b604, vi 1, vi v621]) rfl (argsL := [(.ref b591)]) (rest := []) (lenOf pd__Ljava_lang_Object__Z rfl) (St := [(.ref b591), (.ref b604)]) rfl rfl (hb hby at_214) rfl (by decide) (by decide)
      obtain ⟨rfl, N627q, e627⟩ := hQ627
      have N627 := Fr.app N623 N627q
      obtain ⟨fs, hr, hrun, hended, hW⟩ := X627.leaveW hS (by rw [e627]; exact hk614) (v := some (.int 1)) (fun h => by rw [Bd.returns] at h; cases h)
      have hC_ : CHr Z consts_1 s.vm s.heap (T627.setFrames fs).vm (T627.setFrames fs).heap := by
        show CHr Z consts_1 s.vm s.heap T627.vm T627.heap
        rw [hh, e627]; exact CHr.trans RR613 (CHv.at X627 hZ (hELt hw) RR613.1)
      refine ⟨_, _, pre622 _ ?_, hrun, hended, _, _, rfl, ?_, hC_, hW.1, hW.2.1, hW.2.2.1, hW.2.2.2.mono (by decide) (by decide)⟩
      · show Steps p.tables e below (T611.setTop (mkF m 196 #[.val (.long q1), .second, .val (.long q2), .second, vi p3, vi p4, vi p5, vi p6, vi v483, vi v486, vi v489, vi kk, vr b_492, vr b_576, vi v586, vi v589, vr b591, vr b604, vi 1, .unset] [(.int v621)])) _
        refine XS.istore X611.here hx rfl (hb hby at_196) rfl (l' := #[.val (.long q1), .second, .val (.long q2), .second, vi p3, vi p4, vi p5, vi p6, vi v483, vi v486, vi v489, vi kk, vr b_492, vr b_576, vi v586, vi v589, vr b591, vr b604, vi 1, vi v621]) rfl ?_
        refine XS.aload X611.here hx rfl (hb hby at_198) rfl rfl ?_
        refine XS.aload X611.here hx rfl (hb hby at_200) rfl rfl ?_
        refine st623.trans ?_
        refine XS.iload X623.here hx rfl (hb hby at_205) rfl ?_
        refine XS.icmpNo X623.here hx rfl (hb hby at_207) rfl (teq (by rw [own_sm_self, own_loc_1, hv621])).2 ?_
        refine XS.aload X623.here hx rfl (hb hby at_210) rfl rfl ?_
        refine XS.aload X623.here hx rfl (hb hby at_212) rfl rfl ?_
        refine st627.trans ?_
        refine XS.iload X627.here hx rfl (hb hby at_217) rfl ?_
        show Steps p.tables e below (T627.setTop (mkF m 219 #[.val (.long q1), .second, .val (.long q2), .second, vi p3, vi p4, vi p5, vi p6, vi v483, vi v486, vi v489, vi kk, vr b_492, vr b_576, vi v586, vi v589, vr b591, vr b604, vi 1, vi v621] [(.int v621), (.int (own_loc (own_sm q1 q1) v586 p3 v589 p5))])) _
        refine XS.icmpNo X627.here hx rfl (hb hby at_219) rfl (teq (by rw [own_loc_s, own_sm_self, own_loc_1, hv621])).2 ?_
        refine XS.iconst X627.here hx rfl (hb hby at_222) ?_
        refine XS.goto X627.here hx rfl (pc0 := 223) (pc' := 227) rfl (hb hby at_223) (by decide) (by decide) ?_
        exact retN X627 hx (t := .boolean) Bd.returns (by simp) (hb hby at_227) hr
      · show Q_rm0 Z _ _ _ _ _ _ _ h0 n0 _ T627.heap _
        rw [e627]
        exact ⟨rfl, N627, trivial⟩
    · have pre629 : Goes p e below (s₁.setTop (entryFrame m #[(.long q1), (.long q2), (.int p3), (.int p4), (.int p5), (.int p6)] maxLocals)) (T611.setTop (mkF m 231 #[.val (.long q1), .second, .val (.long q2), .second, vi p3, vi p4, vi p5, vi p6, vi v483, vi v486, vi v489, vi kk, vr b_492, vr b_576, vi v586, vi v589, vr b591, vr b604, vi 1, .unset] [(.int 1), (.int kk)])) := by
        intro t kt
        refine pre618 _ ?_
        show Steps p.tables e below (T611.setTop (mkF m 169 #[.val (.long q1), .second, .val (.long q2), .second, vi p3, vi p4, vi p5, vi p6, vi v483, vi v486, vi v489, vi kk, vr b_492, vr b_576, vi v586, vi v589, vr b591, vr b604, vi 1, .unset] [(.int kk)])) _
        refine XS.ifYes X611.here hx rfl (pc0 := 169) (pc' := 228) rfl (hb hby at_169) rfl ((if0 _ _).trans (feq hc169_617).2) (by decide) (by decide) ?_
        refine XS.iload X611.here hx rfl (hb hby at_228) rfl ?_
        refine XS.iconst X611.here hx rfl (hb hby at_230) ?_
        exact kt
      by_cases hc231_628 : kk = (1 : Int32)
      · have KP631 : Keep _ _ [b604] := own_ktr (Keep.ext (Keep.refl _ []) E604) K611q
        have KP632 : Keep _ _ [b591, b604] := own_ktr K598q KP631
        obtain ⟨_, T630, L630, X630, hQ630, st630⟩ := cV X611 hx hZ hown (wd_46 hw) (wd_47 hw) (wd_49 hw) (wd_48 hw) (by decide) 0 (rmlB l Z a0 hw [] b591 T611.heap n0 Z612 (A591.keep KP632)) (wd_50 hw) (wd_32 hw) (by decide) (by decide) rfl (A591.keep KP632) hml (Ls := #[.val (.long q1), .second, .val (.long q2), .second, vi p3, vi p4, vi p5, vi p6, vi v483, vi v486, vi v489, vi kk, vr b_492, vr b_576, vi v586, vi v589, vr b591, vr b604, vi 1, .unset]) rfl (argsL := [.null]) (rest := []) (lenOf pd__Ljava_lang_Object__Z rfl) (St := [.null, (.ref b591)]) rfl rfl (hb hby at_237) rfl (by decide) (by decide)
        obtain ⟨rfl, N630q, e630⟩ := hQ630
        have N630 := Fr.app N611 N630q
        obtain ⟨fs, hr, hrun, hended, hW⟩ := X630.leaveW hS (by rw [e630]; exact hk614) (v := some (.int 1)) (fun h => by rw [Bd.returns] at h; cases h)
        have hC_ : CHr Z consts_1 s.vm s.heap (T630.setFrames fs).vm (T630.setFrames fs).heap := by
          show CHr Z consts_1 s.vm s.heap T630.vm T630.heap
          rw [hh, e630]; exact CHr.trans RR613 (CHv.at X630 hZ (hELt hw) RR613.1)
        refine ⟨_, _, pre629 _ ?_, hrun, hended, _, _, rfl, ?_, hC_, hW.1, hW.2.1, hW.2.2.1, hW.2.2.2.mono (by decide) (by decide)⟩
        · show Steps p.tables e below (T611.setTop (mkF m 231 #[.val (.long q1), .second, .val (.long q2), .second, vi p3, vi p4, vi p5, vi p6, vi v483, vi v486, vi v489, vi kk, vr b_492, vr b_576, vi v586, vi v589, vr b591, vr b604, vi 1, .unset] [(.int 1), (.int kk)])) _
          refine XS.icmpNo X611.here hx rfl (hb hby at_231) rfl (teq hc231_628).2 ?_
          refine XS.aload X611.here hx rfl (hb hby at_234) rfl rfl ?_
          refine XS.aconstNull X611.here hx rfl (hb hby at_236) ?_
          refine st630.trans ?_
          refine XS.ifNo X630.here hx rfl (hb hby at_240) rfl ((if0 _ _).trans (teq (rfl : (0 : Int32) = (0 : Int32))).2) ?_
          refine XS.iconst X630.here hx rfl (hb hby at_243) ?_
          show Steps p.tables e below (T630.setTop (mkF m 244 #[.val (.long q1), .second, .val (.long q2), .second, vi p3, vi p4, vi p5, vi p6, vi v483, vi v486, vi v489, vi kk, vr b_492, vr b_576, vi v586, vi v589, vr b591, vr b604, vi 1, .unset] [(.int 1)])) _
          refine XS.goto X630.here hx rfl (pc0 := 244) (pc' := 248) rfl (hb hby at_244) (by decide) (by decide) ?_
          exact retN X630 hx (t := .boolean) Bd.returns (by simp) (hb hby at_248) hr
        · show Q_rm0 Z _ _ _ _ _ _ _ h0 n0 _ T630.heap _
          rw [e630]
          exact ⟨rfl, N630, trivial⟩
      · have pre634 : Goes p e below (s₁.setTop (entryFrame m #[(.long q1), (.long q2), (.int p3), (.int p4), (.int p5), (.int p6)] maxLocals)) (T611.setTop (mkF m 252 #[.val (.long q1), .second, .val (.long q2), .second, vi p3, vi p4, vi p5, vi p6, vi v483, vi v486, vi v489, vi kk, vr b_492, vr b_576, vi v586, vi v589, vr b591, vr b604, vi 1, .unset] [(.int 2), (.int kk)])) := by
          intro t kt
          refine pre629 _ ?_
          show Steps p.tables e below (T611.setTop (mkF m 231 #[.val (.long q1), .second, .val (.long q2), .second, vi p3, vi p4, vi p5, vi p6, vi v483, vi v486, vi v489, vi kk, vr b_492, vr b_576, vi v586, vi v589, vr b591, vr b604, vi 1, .unset] [(.int 1), (.int kk)])) _
          refine XS.icmpYes X611.here hx rfl (pc0 := 231) (pc' := 249) rfl (hb hby at_231) rfl (feq hc231_628).2 (by decide) (by decide) ?_
          refine XS.iload X611.here hx rfl (hb hby at_249) rfl ?_
          refine XS.iconst X611.here hx rfl (hb hby at_251) ?_
          exact kt
        by_cases hc252_633 : kk = (2 : Int32)
        · have KP636 : Keep _ _ [b604] := own_ktr (Keep.ext (Keep.refl _ []) E604) K611q
          have KP637 : Keep _ _ [b591, b604] := own_ktr K598q KP636
          have KP638 : Keep _ _ [b591, b604] := own_ktr (Keep.ext (Keep.refl _ []) E591) KP637
          have KP639 : Keep _ _ [b591, b604] := own_ktr K576q KP638
          obtain ⟨_, T635, L635, X635, hQ635, st635⟩ := cV X611 hx hZ hown (wd_46 hw) (wd_47 hw) (wd_49 hw) (wd_48 hw) (by decide) 0 (rmlC l Z a0 hw [] b591 b_492 T611.heap n0 Z612 (A591.keep KP637) (ob498.keep KP639)) (wd_50 hw) (wd_32 hw) (by decide) (by decide) rfl (A591.keep KP637) hml (Ls := #[.val (.long q1), .second, .val (.long q2), .second, vi p3, vi p4, vi p5, vi p6, vi v483, vi v486, vi v489, vi kk, vr b_492, vr b_576, vi v586, vi v589, vr b591, vr b604, vi 1, .unset]) rfl (argsL := [(.ref b_492)]) (rest := []) (lenOf pd__Ljava_lang_Object__Z rfl) (St := [(.ref b_492), (.ref b591)]) rfl rfl (hb hby at_259) rfl (by decide) (by decide)
          obtain ⟨rfl, N635q, e635⟩ := hQ635
          have N635 := Fr.app N611 N635q
          obtain ⟨fs, hr, hrun, hended, hW⟩ := X635.leaveW hS (by rw [e635]; exact hk614) (v := some (.int 1)) (fun h => by rw [Bd.returns] at h; cases h)
          have hC_ : CHr Z consts_1 s.vm s.heap (T635.setFrames fs).vm (T635.setFrames fs).heap := by
            show CHr Z consts_1 s.vm s.heap T635.vm T635.heap
            rw [hh, e635]; exact CHr.trans RR613 (CHv.at X635 hZ (hELt hw) RR613.1)
          refine ⟨_, _, pre634 _ ?_, hrun, hended, _, _, rfl, ?_, hC_, hW.1, hW.2.1, hW.2.2.1, hW.2.2.2.mono (by decide) (by decide)⟩
          · show Steps p.tables e below (T611.setTop (mkF m 252 #[.val (.long q1), .second, .val (.long q2), .second, vi p3, vi p4, vi p5, vi p6, vi v483, vi v486, vi v489, vi kk, vr b_492, vr b_576, vi v586, vi v589, vr b591, vr b604, vi 1, .unset] [(.int 2), (.int kk)])) _
            refine XS.icmpNo X611.here hx rfl (hb hby at_252) rfl (teq hc252_633).2 ?_
            refine XS.aload X611.here hx rfl (hb hby at_255) rfl rfl ?_
            refine XS.aload X611.here hx rfl (hb hby at_257) rfl rfl ?_
            show Steps p.tables e below (T611.setTop (mkF m 259 #[.val (.long q1), .second, .val (.long q2), .second, vi p3, vi p4, vi p5, vi p6, vi v483, vi v486, vi v489, vi kk, vr b_492, vr b_576, vi v586, vi v589, vr b591, vr b604, vi 1, .unset] [(.ref b_492), (.ref b591)])) _
            refine st635.trans ?_
            refine XS.ifNo X635.here hx rfl (hb hby at_262) rfl ((if0 _ _).trans (teq (rfl : (0 : Int32) = (0 : Int32))).2) ?_
            refine XS.iconst X635.here hx rfl (hb hby at_265) ?_
            refine XS.goto X635.here hx rfl (pc0 := 266) (pc' := 270) rfl (hb hby at_266) (by decide) (by decide) ?_
            exact retN X635 hx (t := .boolean) Bd.returns (by simp) (hb hby at_270) hr
          · show Q_rm0 Z _ _ _ _ _ _ _ h0 n0 _ T635.heap _
            rw [e635]
            exact ⟨rfl, N635, trivial⟩
        · have KP641 : Keep _ _ [b604] := own_ktr (Keep.ext (Keep.refl _ []) E604) K611q
          have KP642 : Keep _ _ [b591, b604] := own_ktr K598q KP641
          have ne_b591_b604 : b591 ≠ b604 := Nat.ne_of_lt (Nat.lt_of_lt_of_le ((A591.keep K598q)).lt (Nat.le_of_eq g604.symm))
          have ni643 := (ninS ne_b591_b604 nin0)
          have KP644 : Keep _ _ [b591, b604] := own_ktr (Keep.ext (Keep.refl _ []) E591) KP642
          have KP645 : Keep _ _ [b591, b604] := own_ktr K576q KP644
          obtain ⟨_, T640, L640, X640, hQ640, st640⟩ := cV X611 hx hZ hown (wd_46 hw) (wd_47 hw) (wd_49 hw) (wd_48 hw) (by decide) 0 (rmlD l Z a0 hw [] b591 b_492 p3 p5 T611.heap n0 Z612 (A591.keep KP642) (g598_0.keep KP641 ni643) (g598_1.keep KP641 ni643) (g598_2.keep KP641 ni643) (ob498.keep KP645)) (wd_50 hw) (wd_32 hw) (by decide) (by decide) rfl (A591.keep KP642) hml (Ls := #[.val (.long q1), .second, .val (.long q2), .second, vi p3, vi p4, vi p5, vi p6, vi v483, vi v486, vi v489, vi kk, vr b_492, vr b_576, vi v586, vi v589, vr b591, vr b604, vi 1, .unset]) rfl (argsL := [(.ref b591)]) (rest := []) (lenOf pd__Ljava_lang_Object__Z rfl) (St := [(.ref b591), (.ref b591)]) rfl rfl (hb hby at_275) rfl (by decide) (by decide)
          obtain ⟨rfl, N640q, e640⟩ := hQ640
          have N640 := Fr.app N611 N640q
          obtain ⟨fs, hr, hrun, hended, hW⟩ := X640.leaveW hS (by rw [e640]; exact hk614) (v := some (.int 1)) (fun h => by rw [Bd.returns] at h; cases h)
          have hC_ : CHr Z consts_1 s.vm s.heap (T640.setFrames fs).vm (T640.setFrames fs).heap := by
            show CHr Z consts_1 s.vm s.heap T640.vm T640.heap
            rw [hh, e640]; exact CHr.trans RR613 (CHv.at X640 hZ (hELt hw) RR613.1)
          refine ⟨_, _, pre634 _ ?_, hrun, hended, _, _, rfl, ?_, hC_, hW.1, hW.2.1, hW.2.2.1, hW.2.2.2.mono (by decide) (by decide)⟩
          · show Steps p.tables e below (T611.setTop (mkF m 252 #[.val (.long q1), .second, .val (.long q2), .second, vi p3, vi p4, vi p5, vi p6, vi v483, vi v486, vi v489, vi kk, vr b_492, vr b_576, vi v586, vi v589, vr b591, vr b604, vi 1, .unset] [(.int 2), (.int kk)])) _
            refine XS.icmpYes X611.here hx rfl (pc0 := 252) (pc' := 271) rfl (hb hby at_252) rfl (feq hc252_633).2 (by decide) (by decide) ?_
            refine XS.aload X611.here hx rfl (hb hby at_271) rfl rfl ?_
            refine XS.aload X611.here hx rfl (hb hby at_273) rfl rfl ?_
            show Steps p.tables e below (T611.setTop (mkF m 275 #[.val (.long q1), .second, .val (.long q2), .second, vi p3, vi p4, vi p5, vi p6, vi v483, vi v486, vi v489, vi kk, vr b_492, vr b_576, vi v586, vi v589, vr b591, vr b604, vi 1, .unset] [(.ref b591), (.ref b591)])) _
            refine st640.trans ?_
            exact retN X640 hx (t := .boolean) Bd.returns (by simp) (hb hby at_278) hr
          · show Q_rm0 Z _ _ _ _ _ _ _ h0 n0 _ T640.heap _
            rw [e640]
            exact ⟨rfl, N640, trivial⟩
set_option maxRecDepth 65536 in
set_option maxHeartbeats 40000000 in
theorem comes_1 {Post : Tables → Env → Array Value → State → Outcome → State → Prop} (hpost : ∀ tb e args s v u, (limb_1_1.after args s (.returned v) u = true ∧ limb_1_2.after args s (.returned v) u = true ∧ True) → ReturnedEndW s (.returned v) u (Jvm.fieldLocs frame_1_writes args s ++ Jvm.arrayLocs frame_1_arrays args s ++ Jvm.staticLocs frame_1_statics s) 32 1152 → Post tb e args s (.returned v) u) :
    ArmFor flags0 classFile x code maxLocals ret World_1 tables_1 room_1 Calls_1 rest_1 Pre_1 Post := by
  intro l hfl _ _ p e ha hc hk s m args below hf hA hF happ hP
  obtain ⟨hcalls, hrest, hpre⟩ := hP
  obtain ⟨-, -, -, hnamed, -, -, -, hat⟩ := (Spec.applies_iff hf).mp happ
  obtain ⟨hg, hn⟩ := and_e (Cond.before_iff.mp (show (Jvm.Cond.and given_1 narrow_1).before args s = true from hpre))
  obtain ⟨g646, g647⟩ := and_e hg
  obtain ⟨g648, g649⟩ := and_e g647
  obtain ⟨g650, g651⟩ := and_e g649
  obtain ⟨g652, g653⟩ := and_e g651
  obtain ⟨g654, g655⟩ := and_e g653
  obtain ⟨g656, g657⟩ := and_e g655
  obtain ⟨w0, w1, w2, w3, w4, w5, rfl⟩ : ∃ w0 w1 w2 w3 w4 w5 : Value, args = #[w0, w1, w2, w3, w4, w5] := by
    have hs : args.size = 6 := by simpa [Cond.value, given_1] using g646
    obtain ⟨L⟩ := args
    match L, hs with
    | [w0, w1, w2, w3, w4, w5], _ => exact ⟨w0, w1, w2, w3, w4, w5, rfl⟩
  have hw := fun d (hd : d ∈ tables_1) => atoms_spec (ws := Jvm.Cond.code x code maxLocals ret :: tables_1) hat d (List.mem_cons_of_mem _ hd)
  have hfit : Fit s := fun {y c} hc i hi => by
    obtain ⟨ha, rfl⟩ := Array.getElem?_eq_some_iff.mp hc
    have q := List.all_eq_true.mp ((Array.all_eq_true_iff_forall_mem.mp hF) _ (Array.getElem_mem ha)) i (List.mem_range.mpr hi)
    simpa [Array.getElem?_eq_getElem hi] using q
  obtain ⟨hsets, hown0⟩ := atoms_of _ (rest_1_c_eq ▸ (show rest_1_c.before _ s = true from hrest))
  have hr0 := Cond.before_iff.mp hown0
  obtain ⟨i0, ei0⟩ := isL_v g648
  obtain rfl : w0 = (.long i0) := Option.some.inj ei0
  obtain ⟨i1, ei1⟩ := isL_v g650
  obtain rfl : w1 = (.long i1) := Option.some.inj ei1
  obtain ⟨i2, ei2⟩ := is_v g652
  obtain rfl : w2 = (.int i2) := Option.some.inj ei2
  obtain ⟨i3, ei3⟩ := is_v g654
  obtain rfl : w3 = (.int i3) := Option.some.inj ei3
  obtain ⟨i4, ei4⟩ := is_v g656
  obtain rfl : w4 = (.int i4) := Option.some.inj ei4
  obtain ⟨i5, ei5⟩ := is_v g657
  obtain rfl : w5 = (.int i5) := Option.some.inj ei5
  obtain ⟨iz, eiz⟩ := is_v (Cond.before_iff.mp (hsets _ (List.mem_of_getElem? (i := 1) rfl)))
  have n5 := not_v (Cond.before_iff.mp (hsets _ (List.mem_of_getElem? (i := 2) rfl)))
  have SZ : Sta s s.heap cs1 cs6 "Z" (.int iz) := Sta.start eiz (Or.inl (hsets _ (List.mem_of_getElem? (i := 0) rfl)))
  have hz : ¬ (iz = (0 : Int32)) := gotF (Cond.eq_ints eiz (Term.int_eval (0))) n5
  have hCH : CHv s consts_1 s.vm s.heap := CHv.start (hELt hw) (fun p hp => hcalls.1 p hp) (hsets _ (List.mem_of_getElem? (i := 2) rfl)) (wd_23 hw) (wd_10 hw)
  obtain ⟨n, o, h1, h2, h3, _, L, rfl, ⟨rfl, N, -⟩, -, hq⟩ := rm0 l s _ hw tables_1 i0 i1 i2 i3 i4 i5 iz s.heap s.heap.size (Nat.le_refl _) (Old.start s) SZ hz p e ha hc hk s m _ below hf ((Spec.applies_iff_loose hf).mp happ).1 ⟨rfl, State.Warmed39.refl s, rfl, hCH⟩ trivial
  refine ⟨n, _, h1, h2, h3, hpost _ _ _ _ _ _ ⟨Cond.after_iff.mpr rfl, Cond.after_iff.mpr (eq_i res_at (Term.int_eval (1)) rfl), trivial⟩ ⟨hq.1, hq.2.1, hq.2.2.1, (hq.2.2.2.sift fun y hy => Or.inr (N y hy)).mono (by decide) (by decide)⟩⟩
theorem main_1_1 : Claimed_1_1 := comes_1 fun _ _ _ _ _ _ h hF => ⟨h.1, hF⟩
theorem main_1_2 : Claimed_1_2 := comes_1 fun _ _ _ _ _ _ h hF => ⟨h.2.1, hF⟩
end Jvm.Pilot.@@N@@
namespace Jvm.Pilot.@@N@@
open Jvm Jvm.ClassFile Sem Op Lib Jvm.Free Jvm.Stand Jvm.Pilot.@@N@@.Jvm.D
/-! MADE BY PROGRAM (witnessworld.py) out of the Statement's table words and the real class files: 20 classes; the members and pool entries that the words name. The judged class is class 1, her method 5. -/
namespace start1
open Jvm.ClassFile
def u (s : String) : CpInfo := .utf8 (stringToUtf16 s)
/-- a pool by its gaps: so many unusable entries, then the entry; so many at the end -/
def gap : Nat → List CpInfo → List CpInfo
  | 0, r => r
  | n + 1, r => .unusable :: gap n r
def poolList (es : List (Nat × CpInfo)) (last : Nat) : List CpInfo := es.foldr (fun e r => gap e.1 (e.2 :: r)) (gap last [])
def pool (es : List (Nat × CpInfo)) (last : Nat) : Array CpInfo := ⟨poolList es last⟩
def fileOf (pool : Array CpInfo) (this : Nat) (attrs : Array Attribute := #[]) (ms : Array MethodInfo := #[]) (fl : Nat := 33) (sup : Nat := 0) (ifs : Array Nat := #[]) (fds : Array FieldInfo := #[]) : ClassFile where
  minorVersion := 0
  majorVersion := 65
  constantPool := pool
  accessFlags := fl
  thisClass := this
  superClass := sup
  interfaces := ifs
  fields := fds
  methods := ms
  attributes := attrs
def plain (name : String) (sup : Option ClassId) : Class where
  name := name
  kind := .ordinary
  loader := none
  accessFlags := 33
  super := sup
  interfaces := #[]
  cf := none
  fields := #[]
  methods := #[]
  instanceTypes := #[]
  staticTypes := #[]
  resolved := #[]
  callSites := []
  init := .initialized
  statics := none
  mirror := none

def pool0 : Array CpInfo := pool [(5, u "<init>"), (0, u "()V"), (1, .class_ 10), (1, u "java/lang/Object")] 113

def k0c0 : Code := { maxStack := 0, maxLocals := 1, code := object_method_1_code, exceptionTable := #[], attributes := #[] }
def k0m0 : Method := { name := "<init>", desc := "()V", sig := { parameters := [], returnType := none }, accessFlags := 1, code := some k0c0 }
/-- java/lang/Object -/
def k0 : Class := { plain "java/lang/Object" none with
  accessFlags := 33
  interfaces := #[]
  cf := some (fileOf pool0 8 #[] #[{ accessFlags := 1, nameIndex := 5, descriptorIndex := 6, attributes := #[] }] 33 0 #[] #[])
  fields := #[]
  methods := #[k0m0]
  instanceTypes := #[]
  staticTypes := #[]
  resolved := Array.replicate 124 none
  statics := none }

def pool1 : Array CpInfo := pool [(2, .class_ 4), (1, u "java/lang/Object"), (0, u "<init>"), (0, u "()V"), (0, .long 3), (1, .long 255), (1, .methodref 12 13), (0, .class_ 14), (0, .nameAndType 15 16), (0, u "com/example/xylem/xylem/model/LocationEqualsPinLaw"), (0, u "len"), (0, u "(J)I"), (0, .methodref 12 18), (0, .nameAndType 19 20), (0, u "ch"), (0, u "(JI)C"), (0, .class_ 22), (0, u "java/lang/String"), (0, .methodref 21 24), (0, .nameAndType 5 25), (0, u "([C)V"), (0, .methodref 12 27), (0, .nameAndType 28 29), (0, u "mk"), (0, u "(J)Ljava/lang/String;"), (0, .class_ 31), (0, u "com/example/xylem/xylem/model/Location"), (0, .methodref 30 33), (0, .nameAndType 5 34), (0, u "(Ljava/lang/String;II)V"), (0, .methodref 12 36), (0, .nameAndType 37 38), (0, u "same"), (0, u "(JJ)Z"), (0, .methodref 30 40), (0, .nameAndType 41 42), (0, u "equals"), (0, u "(Ljava/lang/Object;)Z"), (5, u "law"), (0, u "(JJIIII)Z")] 2

def k1m0 : Method := { name := "<init>", desc := "()V", sig := { parameters := [], returnType := none }, accessFlags := 1, code := none }
def k1c1 : Code := { maxStack := 4, maxLocals := 2, code := method_2_code, exceptionTable := #[], attributes := #[] }
def k1m1 : Method := { name := "len", desc := "(J)I", sig := { parameters := [.long], returnType := some .int }, accessFlags := 10, code := some k1c1 }
def k1c2 : Code := { maxStack := 4, maxLocals := 3, code := method_3_code, exceptionTable := #[], attributes := #[] }
def k1m2 : Method := { name := "ch", desc := "(JI)C", sig := { parameters := [.long, .int], returnType := some .char }, accessFlags := 10, code := some k1c2 }
def k1c3 : Code := { maxStack := 6, maxLocals := 4, code := method_4_code, exceptionTable := #[], attributes := #[] }
def k1m3 : Method := { name := "mk", desc := "(J)Ljava/lang/String;", sig := { parameters := [.long], returnType := some (.object "java/lang/String") }, accessFlags := 10, code := some k1c3 }
def k1c4 : Code := { maxStack := 4, maxLocals := 5, code := method_5_code, exceptionTable := #[], attributes := #[] }
def k1m4 : Method := { name := "same", desc := "(JJ)Z", sig := { parameters := [.long, .long], returnType := some .boolean }, accessFlags := 10, code := some k1c4 }
def k1c5 : Code := { maxStack := 5, maxLocals := 20, code := code, exceptionTable := #[], attributes := #[] }
def k1m5 : Method := { name := "law", desc := "(JJIIII)Z", sig := { parameters := [.long, .long, .int, .int, .int, .int], returnType := some .boolean }, accessFlags := 9, code := some k1c5 }
/-- com/example/xylem/xylem/model/LocationEqualsPinLaw -/
def k1 : Class := { plain "com/example/xylem/xylem/model/LocationEqualsPinLaw" (some 0) with
  accessFlags := 49
  interfaces := #[]
  cf := some (fileOf pool1 12 #[] #[{ accessFlags := 1, nameIndex := 5, descriptorIndex := 6, attributes := #[] }, { accessFlags := 10, nameIndex := 15, descriptorIndex := 16, attributes := #[] }, { accessFlags := 10, nameIndex := 19, descriptorIndex := 20, attributes := #[] }, { accessFlags := 10, nameIndex := 28, descriptorIndex := 29, attributes := #[] }, { accessFlags := 10, nameIndex := 37, descriptorIndex := 38, attributes := #[] }, { accessFlags := 9, nameIndex := 48, descriptorIndex := 49, attributes := #[] }] 49 2 #[] #[])
  fields := #[]
  methods := #[k1m0, k1m1, k1m2, k1m3, k1m4, k1m5]
  instanceTypes := #[]
  staticTypes := #[]
  resolved := Array.replicate 52 none
  statics := none }

def pool2 : Array CpInfo := pool [(1, .class_ 2), (0, u "java/io/Serializable"), (0, .class_ 4), (0, u "java/lang/Object")] 2

/-- java/io/Serializable -/
def k2 : Class := { plain "java/io/Serializable" (some 0) with
  accessFlags := 1537
  interfaces := #[]
  cf := some (fileOf pool2 1 #[] #[] 1537 3 #[] #[])
  fields := #[]
  methods := #[]
  instanceTypes := #[]
  staticTypes := #[]
  resolved := Array.replicate 7 none
  statics := none }

def pool3 : Array CpInfo := pool [(1, .class_ 2), (0, u "java/lang/Comparable"), (0, .class_ 4), (0, u "java/lang/Object")] 7

/-- java/lang/Comparable -/
def k3 : Class := { plain "java/lang/Comparable" (some 0) with
  accessFlags := 1537
  interfaces := #[]
  cf := some (fileOf pool3 1 #[] #[] 1537 3 #[] #[])
  fields := #[]
  methods := #[]
  instanceTypes := #[]
  staticTypes := #[]
  resolved := Array.replicate 12 none
  statics := none }

def pool4 : Array CpInfo := pool [(2, .class_ 4), (1, u "java/lang/CharSequence"), (42, .class_ 48), (0, u "java/lang/CharSequence$1CodePointIterator"), (10, .class_ 60), (0, u "java/lang/CharSequence$1CharIterator"), (5, .class_ 67), (0, u "java/lang/Object")] 63

/-- java/lang/CharSequence -/
def k4 : Class := { plain "java/lang/CharSequence" (some 0) with
  accessFlags := 1537
  interfaces := #[]
  cf := some (fileOf pool4 2 #[.nestMembers #[47, 59]] #[] 1537 66 #[] #[])
  fields := #[]
  methods := #[]
  instanceTypes := #[]
  staticTypes := #[]
  resolved := Array.replicate 131 none
  statics := none }

def pool5 : Array CpInfo := pool [(1, .class_ 2), (0, u "java/lang/constant/Constable"), (0, .class_ 4), (0, u "java/lang/Object")] 6

/-- java/lang/constant/Constable -/
def k5 : Class := { plain "java/lang/constant/Constable" (some 0) with
  accessFlags := 1537
  interfaces := #[]
  cf := some (fileOf pool5 1 #[] #[] 1537 3 #[] #[])
  fields := #[]
  methods := #[]
  instanceTypes := #[]
  staticTypes := #[]
  resolved := Array.replicate 11 none
  statics := none }

def pool6 : Array CpInfo := pool [(1, .class_ 2), (0, u "java/lang/constant/ConstantDesc"), (0, .class_ 4), (0, u "java/lang/Object")] 32

/-- java/lang/constant/ConstantDesc -/
def k6 : Class := { plain "java/lang/constant/ConstantDesc" (some 0) with
  accessFlags := 1537
  interfaces := #[]
  cf := some (fileOf pool6 1 #[] #[] 1537 3 #[] #[])
  fields := #[]
  methods := #[]
  instanceTypes := #[]
  staticTypes := #[]
  resolved := Array.replicate 37 none
  statics := none }

def pool7 : Array CpInfo := pool [(1, .methodref 2 3), (0, .class_ 4), (0, .nameAndType 5 6), (0, u "java/lang/Object"), (0, u "<init>"), (0, u "()V"), (0, .string 8), (0, u ""), (0, .fieldref 10 11), (0, .class_ 12), (0, .nameAndType 13 14), (0, u "java/lang/String"), (0, u "value"), (0, u "[B"), (0, .fieldref 10 16), (0, .nameAndType 17 18), (0, u "coder"), (0, u "B"), (2, u "hash"), (0, u "I"), (2, u "hashIsZero"), (0, u "Z"), (0, .methodref 10 28), (0, .nameAndType 5 29), (0, u "([CIILjava/lang/Void;)V"), (8, .fieldref 10 39), (0, .nameAndType 40 26), (0, u "COMPACT_STRINGS"), (1, .class_ 44), (1, u "java/lang/StringUTF16"), (0, u "compress"), (1, .methodref 42 48), (0, .nameAndType 49 50), (0, u "coderFromArrayLen"), (0, u "([BI)B"), (56, .class_ 109), (1, u "java/lang/StringLatin1"), (67, .methodref 42 178), (0, .nameAndType 45 179), (0, u "([CII)[B"), (361, .methodref 107 542), (0, .nameAndType 543 544), (0, u "equals"), (0, u "([B[B)Z"), (28, u "(Ljava/lang/Object;)Z"), (1, .class_ 576), (0, u "java/lang/CharSequence"), (22, u "CASE_INSENSITIVE_ORDER"), (0, u "Ljava/util/Comparator;"), (409, u "([C)V"), (90, u "serialPersistentFields"), (0, u "[Ljava/io/ObjectStreamField;"), (0, .class_ 1104), (0, u "java/lang/String$CaseInsensitiveComparator"), (1, .class_ 1107), (0, u "java/io/Serializable"), (0, .class_ 1109), (0, u "java/lang/Comparable"), (0, .class_ 1111), (0, u "java/lang/constant/Constable"), (0, .class_ 1113), (0, u "java/lang/constant/ConstantDesc"), (2, u "serialVersionUID"), (0, u "J"), (3, u "REPL"), (0, u "C"), (2, u "LATIN1"), (1, u "UTF16")] 323

def k7m0 : Method := { name := "<init>", desc := "()V", sig := { parameters := [], returnType := none }, accessFlags := 1, code := none }
def k7c1 : Code := { maxStack := 5, maxLocals := 2, code := jdk_42_method_3_code, exceptionTable := #[], attributes := #[] }
def k7m1 : Method := { name := "<init>", desc := "([C)V", sig := { parameters := [(.array .char)], returnType := none }, accessFlags := 1, code := some k7c1 }
def k7c2 : Code := { maxStack := 2, maxLocals := 3, code := jdk_42_method_66_code, exceptionTable := #[], attributes := #[] }
def k7m2 : Method := { name := "equals", desc := "(Ljava/lang/Object;)Z", sig := { parameters := [(.object "java/lang/Object")], returnType := some .boolean }, accessFlags := 1, code := some k7c2 }
def k7c3 : Code := { maxStack := 4, maxLocals := 6, code := jdk_42_method_149_code, exceptionTable := #[], attributes := #[] }
def k7m3 : Method := { name := "<init>", desc := "([CIILjava/lang/Void;)V", sig := { parameters := [(.array .char), .int, .int, (.object "java/lang/Void")], returnType := none }, accessFlags := 2, code := some k7c3 }
/-- java/lang/String -/
def k7 : Class := { plain "java/lang/String" (some 0) with
  accessFlags := 49
  interfaces := #[2, 3, 4, 5, 6]
  cf := some (fileOf pool7 10 #[.nestMembers #[1103]] #[{ accessFlags := 1, nameIndex := 5, descriptorIndex := 6, attributes := #[] }, { accessFlags := 1, nameIndex := 5, descriptorIndex := 1010, attributes := #[] }, { accessFlags := 1, nameIndex := 543, descriptorIndex := 573, attributes := #[] }, { accessFlags := 2, nameIndex := 5, descriptorIndex := 29, attributes := #[] }] 49 2 #[1106, 1108, 575, 1110, 1112] #[{ accessFlags := 18, nameIndex := 13, descriptorIndex := 14, attributes := #[] }, { accessFlags := 18, nameIndex := 17, descriptorIndex := 18, attributes := #[] }, { accessFlags := 2, nameIndex := 21, descriptorIndex := 22, attributes := #[] }, { accessFlags := 2, nameIndex := 25, descriptorIndex := 26, attributes := #[] }, { accessFlags := 26, nameIndex := 1116, descriptorIndex := 1117, attributes := #[] }, { accessFlags := 24, nameIndex := 40, descriptorIndex := 26, attributes := #[] }, { accessFlags := 26, nameIndex := 1101, descriptorIndex := 1102, attributes := #[] }, { accessFlags := 26, nameIndex := 1121, descriptorIndex := 1122, attributes := #[] }, { accessFlags := 25, nameIndex := 599, descriptorIndex := 600, attributes := #[] }, { accessFlags := 24, nameIndex := 1125, descriptorIndex := 18, attributes := #[] }, { accessFlags := 24, nameIndex := 1127, descriptorIndex := 18, attributes := #[] }])
  fields := #[{ name := "value", type := (.array .byte), accessFlags := 18, slot := 0, constantValue := 0 }, { name := "coder", type := .byte, accessFlags := 18, slot := 1, constantValue := 0 }, { name := "hash", type := .int, accessFlags := 2, slot := 2, constantValue := 0 }, { name := "hashIsZero", type := .boolean, accessFlags := 2, slot := 3, constantValue := 0 }, { name := "serialVersionUID", type := .long, accessFlags := 26, slot := 0, constantValue := 0 }, { name := "COMPACT_STRINGS", type := .boolean, accessFlags := 24, slot := 1, constantValue := 0 }, { name := "serialPersistentFields", type := (.array (.object "java/io/ObjectStreamField")), accessFlags := 26, slot := 2, constantValue := 0 }, { name := "REPL", type := .char, accessFlags := 26, slot := 3, constantValue := 0 }, { name := "CASE_INSENSITIVE_ORDER", type := (.object "java/util/Comparator"), accessFlags := 25, slot := 4, constantValue := 0 }, { name := "LATIN1", type := .byte, accessFlags := 24, slot := 5, constantValue := 0 }, { name := "UTF16", type := .byte, accessFlags := 24, slot := 6, constantValue := 0 }]
  methods := #[k7m0, k7m1, k7m2, k7m3]
  instanceTypes := #[(.array .byte), .byte, .int, .boolean]
  staticTypes := #[.long, .boolean, (.array (.object "java/io/ObjectStreamField")), .char, (.object "java/util/Comparator"), .byte, .byte]
  resolved := Array.replicate 1451 none
  statics := some 0 }

def pool8 : Array CpInfo := pool [(1, .methodref 2 3), (0, .class_ 4), (0, .nameAndType 5 6), (0, u "java/lang/Object"), (0, u "<init>"), (0, u "()V"), (0, .fieldref 8 9), (0, .class_ 10), (0, .nameAndType 11 12), (0, u "com/example/xylem/xylem/model/Location"), (0, u "file"), (0, u "Ljava/lang/String;"), (0, .fieldref 8 14), (0, .nameAndType 15 16), (0, u "line"), (0, u "I"), (0, .fieldref 8 18), (0, .nameAndType 19 16), (0, u "column"), (4, .methodref 25 26), (0, .class_ 27), (0, .nameAndType 28 29), (0, u "java/lang/String"), (0, u "equals"), (0, u "(Ljava/lang/Object;)Z"), (15, u "(Ljava/lang/String;II)V")] 30

def k8c0 : Code := { maxStack := 2, maxLocals := 4, code := prog_26_method_1_code, exceptionTable := #[], attributes := #[] }
def k8m0 : Method := { name := "<init>", desc := "(Ljava/lang/String;II)V", sig := { parameters := [(.object "java/lang/String"), .int, .int], returnType := none }, accessFlags := 1, code := some k8c0 }
def k8c1 : Code := { maxStack := 2, maxLocals := 3, code := prog_26_method_6_code, exceptionTable := #[], attributes := #[] }
def k8m1 : Method := { name := "equals", desc := "(Ljava/lang/Object;)Z", sig := { parameters := [(.object "java/lang/Object")], returnType := some .boolean }, accessFlags := 1, code := some k8c1 }
/-- com/example/xylem/xylem/model/Location -/
def k8 : Class := { plain "com/example/xylem/xylem/model/Location" (some 0) with
  accessFlags := 49
  interfaces := #[]
  cf := some (fileOf pool8 8 #[] #[{ accessFlags := 1, nameIndex := 5, descriptorIndex := 45, attributes := #[] }, { accessFlags := 1, nameIndex := 28, descriptorIndex := 29, attributes := #[] }] 49 2 #[] #[{ accessFlags := 18, nameIndex := 11, descriptorIndex := 12, attributes := #[] }, { accessFlags := 18, nameIndex := 15, descriptorIndex := 16, attributes := #[] }, { accessFlags := 18, nameIndex := 19, descriptorIndex := 16, attributes := #[] }])
  fields := #[{ name := "file", type := (.object "java/lang/String"), accessFlags := 18, slot := 0, constantValue := 0 }, { name := "line", type := .int, accessFlags := 18, slot := 1, constantValue := 0 }, { name := "column", type := .int, accessFlags := 18, slot := 2, constantValue := 0 }]
  methods := #[k8m0, k8m1]
  instanceTypes := #[(.object "java/lang/String"), .int, .int]
  staticTypes := #[]
  resolved := Array.replicate 76 none
  statics := none }

def pool9 : Array CpInfo := pool [(4, .class_ 6), (1, u "java/lang/Object"), (0, u "<init>"), (0, u "()V"), (5, .class_ 16), (1, u "java/lang/StringLatin1"), (104, u "$assertionsDisabled"), (0, u "Z"), (98, .class_ 223), (1, u "java/lang/StringLatin1$LinesSpliterator"), (57, u "equals"), (0, u "([B[B)Z"), (107, .class_ 391), (0, u "java/lang/StringLatin1$CharsSpliterator")] 3

def k9m0 : Method := { name := "<init>", desc := "()V", sig := { parameters := [], returnType := none }, accessFlags := 0, code := none }
def k9c1 : Code := { maxStack := 3, maxLocals := 3, code := jdk_43_method_13_code, exceptionTable := #[], attributes := #[] }
def k9m1 : Method := { name := "equals", desc := "([B[B)Z", sig := { parameters := [(.array .byte), (.array .byte)], returnType := some .boolean }, accessFlags := 9, code := some k9c1 }
/-- java/lang/StringLatin1 -/
def k9 : Class := { plain "java/lang/StringLatin1" (some 0) with
  accessFlags := 48
  interfaces := #[]
  cf := some (fileOf pool9 14 #[.nestMembers #[390, 221]] #[{ accessFlags := 0, nameIndex := 7, descriptorIndex := 8, attributes := #[] }, { accessFlags := 9, nameIndex := 281, descriptorIndex := 282, attributes := #[] }] 48 4 #[] #[{ accessFlags := 4120, nameIndex := 121, descriptorIndex := 122, attributes := #[] }])
  fields := #[{ name := "$assertionsDisabled", type := .boolean, accessFlags := 4120, slot := 0, constantValue := 0 }]
  methods := #[k9m0, k9m1]
  instanceTypes := #[]
  staticTypes := #[.boolean]
  resolved := Array.replicate 395 none
  statics := none }

def pool10 : Array CpInfo := pool [(6, .class_ 8), (1, u "java/lang/Object"), (0, u "<init>"), (0, u "()V"), (1, .class_ 14), (1, u "java/lang/StringUTF16"), (31, u "$assertionsDisabled"), (0, u "Z"), (13, u "HI_BYTE_SHIFT"), (0, u "I"), (2, u "LO_BYTE_SHIFT"), (49, .methodref 12 116), (0, .nameAndType 117 118), (0, u "compress"), (0, u "([CI[BII)I"), (3, u "([CII)[B"), (138, u "coderFromArrayLen"), (0, u "([BI)B"), (106, .class_ 371), (1, u "java/lang/StringUTF16$LinesSpliterator"), (58, u "MAX_LENGTH"), (196, .class_ 628), (0, u "java/lang/StringUTF16$CodePointsSpliterator"), (0, .class_ 630), (0, u "java/lang/StringUTF16$CharsSpliterator")] 4

def k10m0 : Method := { name := "<init>", desc := "()V", sig := { parameters := [], returnType := none }, accessFlags := 0, code := none }
def k10c1 : Code := { maxStack := 2, maxLocals := 2, code := jdk_52_method_15_code, exceptionTable := #[], attributes := #[] }
def k10m1 : Method := { name := "coderFromArrayLen", desc := "([BI)B", sig := { parameters := [(.array .byte), .int], returnType := some .byte }, accessFlags := 8, code := some k10c1 }
def k10c2 : Code := { maxStack := 5, maxLocals := 6, code := jdk_52_method_16_code, exceptionTable := #[], attributes := #[] }
def k10m2 : Method := { name := "compress", desc := "([CII)[B", sig := { parameters := [(.array .char), .int, .int], returnType := some (.array .byte) }, accessFlags := 9, code := some k10c2 }
def k10c3 : Code := { maxStack := 3, maxLocals := 7, code := jdk_52_method_21_code, exceptionTable := #[], attributes := #[] }
def k10m3 : Method := { name := "compress", desc := "([CI[BII)I", sig := { parameters := [(.array .char), .int, (.array .byte), .int, .int], returnType := some .int }, accessFlags := 9, code := some k10c3 }
/-- java/lang/StringUTF16 -/
def k10 : Class := { plain "java/lang/StringUTF16" (some 0) with
  accessFlags := 48
  interfaces := #[]
  cf := some (fileOf pool10 12 #[.nestMembers #[627, 629, 369]] #[{ accessFlags := 0, nameIndex := 9, descriptorIndex := 10, attributes := #[] }, { accessFlags := 8, nameIndex := 261, descriptorIndex := 262, attributes := #[] }, { accessFlags := 9, nameIndex := 117, descriptorIndex := 122, attributes := #[] }, { accessFlags := 9, nameIndex := 117, descriptorIndex := 118, attributes := #[] }] 48 6 #[] #[{ accessFlags := 26, nameIndex := 61, descriptorIndex := 62, attributes := #[] }, { accessFlags := 26, nameIndex := 65, descriptorIndex := 62, attributes := #[] }, { accessFlags := 24, nameIndex := 430, descriptorIndex := 62, attributes := #[] }, { accessFlags := 4120, nameIndex := 46, descriptorIndex := 47, attributes := #[] }])
  fields := #[{ name := "HI_BYTE_SHIFT", type := .int, accessFlags := 26, slot := 0, constantValue := 0 }, { name := "LO_BYTE_SHIFT", type := .int, accessFlags := 26, slot := 1, constantValue := 0 }, { name := "MAX_LENGTH", type := .int, accessFlags := 24, slot := 2, constantValue := 0 }, { name := "$assertionsDisabled", type := .boolean, accessFlags := 4120, slot := 3, constantValue := 0 }]
  methods := #[k10m0, k10m1, k10m2, k10m3]
  instanceTypes := #[]
  staticTypes := #[.int, .int, .int, .boolean]
  resolved := Array.replicate 635 none
  statics := none }

def pool11 : Array CpInfo := pool [(2, .class_ 4), (1, u "java/lang/Object"), (0, u "<init>"), (0, u "()V"), (17, .class_ 26), (1, u "jdk/internal/util/Preconditions"), (28, .class_ 56), (0, u "jdk/internal/util/Preconditions$4"), (57, .class_ 115), (0, u "jdk/internal/util/Preconditions$1"), (7, u "SIOOBE_FORMATTER"), (0, u "Ljava/util/function/BiFunction;"), (0, .class_ 126), (0, u "jdk/internal/util/Preconditions$2"), (3, u "AIOOBE_FORMATTER"), (0, .class_ 132), (0, u "jdk/internal/util/Preconditions$3"), (3, u "IOOBE_FORMATTER")] 57

def k11m0 : Method := { name := "<init>", desc := "()V", sig := { parameters := [], returnType := none }, accessFlags := 1, code := none }
/-- jdk/internal/util/Preconditions -/
def k11 : Class := { plain "jdk/internal/util/Preconditions" (some 0) with
  accessFlags := 33
  interfaces := #[]
  cf := some (fileOf pool11 24 #[.nestMembers #[55, 131, 125, 114]] #[{ accessFlags := 1, nameIndex := 5, descriptorIndex := 6, attributes := #[] }] 33 2 #[] #[{ accessFlags := 25, nameIndex := 123, descriptorIndex := 124, attributes := #[] }, { accessFlags := 25, nameIndex := 130, descriptorIndex := 124, attributes := #[] }, { accessFlags := 25, nameIndex := 136, descriptorIndex := 124, attributes := #[] }])
  fields := #[{ name := "SIOOBE_FORMATTER", type := (.object "java/util/function/BiFunction"), accessFlags := 25, slot := 0, constantValue := 0 }, { name := "AIOOBE_FORMATTER", type := (.object "java/util/function/BiFunction"), accessFlags := 25, slot := 1, constantValue := 0 }, { name := "IOOBE_FORMATTER", type := (.object "java/util/function/BiFunction"), accessFlags := 25, slot := 2, constantValue := 0 }]
  methods := #[k11m0]
  instanceTypes := #[]
  staticTypes := #[(.object "java/util/function/BiFunction"), (.object "java/util/function/BiFunction"), (.object "java/util/function/BiFunction")]
  resolved := Array.replicate 194 none
  statics := some 1 }

def pool12 : Array CpInfo := pool [(9, u "<init>"), (6, .class_ 18), (1, u "java/lang/Object"), (0, u "()V"), (1, .class_ 23), (1, u "jdk/internal/util/ArraysSupport"), (0, u "LOG2_ARRAY_LONG_INDEX_SCALE"), (0, u "I"), (2, u "U"), (0, u "Ljdk/internal/misc/Unsafe;"), (8, u "BIG_ENDIAN"), (0, u "Z"), (8, u "LOG2_BYTE_BIT_SIZE"), (4, u "LOG2_ARRAY_INT_INDEX_SCALE"), (54, u "JLA"), (0, u "Ljdk/internal/access/JavaLangAccess;"), (11, u "LOG2_ARRAY_BOOLEAN_INDEX_SCALE"), (9, u "LOG2_ARRAY_BYTE_INDEX_SCALE"), (5, u "LOG2_ARRAY_CHAR_INDEX_SCALE"), (5, u "LOG2_ARRAY_SHORT_INDEX_SCALE"), (18, u "LOG2_ARRAY_FLOAT_INDEX_SCALE"), (24, u "LOG2_ARRAY_DOUBLE_INDEX_SCALE"), (89, u "T_BOOLEAN"), (2, u "T_CHAR"), (1, u "T_FLOAT"), (1, u "T_DOUBLE"), (1, u "T_BYTE"), (1, u "T_SHORT"), (1, u "T_INT"), (1, u "T_LONG"), (1, u "SOFT_MAX_ARRAY_LENGTH")] 83

def k12m0 : Method := { name := "<init>", desc := "()V", sig := { parameters := [], returnType := none }, accessFlags := 2, code := none }
/-- jdk/internal/util/ArraysSupport -/
def k12 : Class := { plain "jdk/internal/util/ArraysSupport" (some 0) with
  accessFlags := 33
  interfaces := #[]
  cf := some (fileOf pool12 21 #[] #[{ accessFlags := 2, nameIndex := 9, descriptorIndex := 19, attributes := #[] }] 33 16 #[] #[{ accessFlags := 24, nameIndex := 28, descriptorIndex := 29, attributes := #[] }, { accessFlags := 26, nameIndex := 38, descriptorIndex := 39, attributes := #[] }, { accessFlags := 25, nameIndex := 121, descriptorIndex := 25, attributes := #[] }, { accessFlags := 25, nameIndex := 131, descriptorIndex := 25, attributes := #[] }, { accessFlags := 25, nameIndex := 137, descriptorIndex := 25, attributes := #[] }, { accessFlags := 25, nameIndex := 143, descriptorIndex := 25, attributes := #[] }, { accessFlags := 25, nameIndex := 53, descriptorIndex := 25, attributes := #[] }, { accessFlags := 25, nameIndex := 24, descriptorIndex := 25, attributes := #[] }, { accessFlags := 25, nameIndex := 162, descriptorIndex := 25, attributes := #[] }, { accessFlags := 25, nameIndex := 187, descriptorIndex := 25, attributes := #[] }, { accessFlags := 26, nameIndex := 48, descriptorIndex := 25, attributes := #[] }, { accessFlags := 25, nameIndex := 277, descriptorIndex := 25, attributes := #[] }, { accessFlags := 25, nameIndex := 280, descriptorIndex := 25, attributes := #[] }, { accessFlags := 25, nameIndex := 282, descriptorIndex := 25, attributes := #[] }, { accessFlags := 25, nameIndex := 284, descriptorIndex := 25, attributes := #[] }, { accessFlags := 25, nameIndex := 286, descriptorIndex := 25, attributes := #[] }, { accessFlags := 25, nameIndex := 288, descriptorIndex := 25, attributes := #[] }, { accessFlags := 25, nameIndex := 290, descriptorIndex := 25, attributes := #[] }, { accessFlags := 25, nameIndex := 292, descriptorIndex := 25, attributes := #[] }, { accessFlags := 26, nameIndex := 108, descriptorIndex := 109, attributes := #[] }, { accessFlags := 25, nameIndex := 294, descriptorIndex := 25, attributes := #[] }])
  fields := #[{ name := "U", type := (.object "jdk/internal/misc/Unsafe"), accessFlags := 24, slot := 0, constantValue := 0 }, { name := "BIG_ENDIAN", type := .boolean, accessFlags := 26, slot := 1, constantValue := 0 }, { name := "LOG2_ARRAY_BOOLEAN_INDEX_SCALE", type := .int, accessFlags := 25, slot := 2, constantValue := 0 }, { name := "LOG2_ARRAY_BYTE_INDEX_SCALE", type := .int, accessFlags := 25, slot := 3, constantValue := 0 }, { name := "LOG2_ARRAY_CHAR_INDEX_SCALE", type := .int, accessFlags := 25, slot := 4, constantValue := 0 }, { name := "LOG2_ARRAY_SHORT_INDEX_SCALE", type := .int, accessFlags := 25, slot := 5, constantValue := 0 }, { name := "LOG2_ARRAY_INT_INDEX_SCALE", type := .int, accessFlags := 25, slot := 6, constantValue := 0 }, { name := "LOG2_ARRAY_LONG_INDEX_SCALE", type := .int, accessFlags := 25, slot := 7, constantValue := 0 }, { name := "LOG2_ARRAY_FLOAT_INDEX_SCALE", type := .int, accessFlags := 25, slot := 8, constantValue := 0 }, { name := "LOG2_ARRAY_DOUBLE_INDEX_SCALE", type := .int, accessFlags := 25, slot := 9, constantValue := 0 }, { name := "LOG2_BYTE_BIT_SIZE", type := .int, accessFlags := 26, slot := 10, constantValue := 0 }, { name := "T_BOOLEAN", type := .int, accessFlags := 25, slot := 11, constantValue := 0 }, { name := "T_CHAR", type := .int, accessFlags := 25, slot := 12, constantValue := 0 }, { name := "T_FLOAT", type := .int, accessFlags := 25, slot := 13, constantValue := 0 }, { name := "T_DOUBLE", type := .int, accessFlags := 25, slot := 14, constantValue := 0 }, { name := "T_BYTE", type := .int, accessFlags := 25, slot := 15, constantValue := 0 }, { name := "T_SHORT", type := .int, accessFlags := 25, slot := 16, constantValue := 0 }, { name := "T_INT", type := .int, accessFlags := 25, slot := 17, constantValue := 0 }, { name := "T_LONG", type := .int, accessFlags := 25, slot := 18, constantValue := 0 }, { name := "JLA", type := (.object "jdk/internal/access/JavaLangAccess"), accessFlags := 26, slot := 19, constantValue := 0 }, { name := "SOFT_MAX_ARRAY_LENGTH", type := .int, accessFlags := 25, slot := 20, constantValue := 0 }]
  methods := #[k12m0]
  instanceTypes := #[]
  staticTypes := #[(.object "jdk/internal/misc/Unsafe"), .boolean, .int, .int, .int, .int, .int, .int, .int, .int, .int, .int, .int, .int, .int, .int, .int, .int, .int, (.object "jdk/internal/access/JavaLangAccess"), .int]
  resolved := Array.replicate 378 none
  statics := none }

def pool13 : Array CpInfo := pool [(1, u "java/lang/Cloneable"), (0, .class_ 1), (0, u "java/lang/Object"), (0, .class_ 3)] 3

/-- java/lang/Cloneable -/
def k13 : Class := { plain "java/lang/Cloneable" (some 0) with
  accessFlags := 1537
  interfaces := #[]
  cf := some (fileOf pool13 2 #[] #[] 1537 4 #[] #[])
  fields := #[]
  methods := #[]
  instanceTypes := #[]
  staticTypes := #[]
  resolved := Array.replicate 8 none
  statics := none }

/-- the primitive byte -/
def k14 : Class := { plain "byte" none with kind := .primitive 'B', accessFlags := 0x411 }
/-- [B -/
def k15 : Class := { plain "[B" (some 0) with kind := .array 14 .byte, interfaces := #[13, 2], accessFlags := 1041 }

/-- the primitive char -/
def k16 : Class := { plain "char" none with kind := .primitive 'C', accessFlags := 0x411 }
/-- [C -/
def k17 : Class := { plain "[C" (some 0) with kind := .array 16 .char, interfaces := #[13, 2], accessFlags := 1041 }

/-- the primitive int -/
def k18 : Class := { plain "int" none with kind := .primitive 'I', accessFlags := 0x411 }
/-- [I -/
def k19 : Class := { plain "[I" (some 0) with kind := .array 18 .int, interfaces := #[13, 2], accessFlags := 1041 }

def heap : Heap := #[{ cls := 7, slots := #[.long 0, .int 1, .null, .int 0, .null, .int 0, .int 0], vm := .statics 7 },
  { cls := 11, slots := #[.null, .null, .null], vm := .statics 11 }]
def classes : Array Class := #[k0, k1, k2, k3, k4, k5, k6, k7, k8, k9, k10, k11, k12, k13, k14, k15, k16, k17, k18, k19]
def interned : List (Array UInt16 × Addr) := []
def slotsUsed : Nat := 10
def theMethod : MethodId := ⟨1, 5⟩
def args0 : Array Value := #[.long 1, .long 2, .int 3, .int 4, .int 5, .int 6]
def aboutOver (below : List Frame) : State where
  vm := { classes := classes, interned := interned.toArray }
  heap := heap
  slotsUsed := slotsUsed
  threads := #[{ frames := .invoking theMethod args0 :: below }]
def below0 : List Frame := [.native { method := ⟨0, 0⟩, args := #[] }]
def about1 : State := aboutOver below0
def p0 : Program := .bare "" "" ""
def e0 : Env := launch0.env 0 0 0
theorem w_frames : about1.frames = Frame.invoking theMethod args0 :: below0 := rfl
set_option maxRecDepth 65536 in
theorem w_args : argsFit about1.vm theMethod args0 = true := by decide +kernel
set_option maxRecDepth 65536 in
theorem w_heap : heapFits about1 = true := by decide +kernel
set_option maxRecDepth 65536 in
theorem w_runnable : about1.curStatus? = some .runnable := by decide +kernel
set_option maxRecDepth 65536 in
theorem w_alone : about1.alone = true := by decide +kernel
set_option maxRecDepth 65536 in
theorem w_named : about1.methodNamed? x = some theMethod := by decide +kernel
set_option maxRecDepth 65536 in
theorem w_hears : about1.hears theMethod below0 = true := by decide +kernel
set_option maxRecDepth 65536 in
theorem w_ripe : about1.ripe theMethod args0 below0 = true := by decide +kernel
theorem w_running : about1.status = .running := rfl
set_option maxRecDepth 65536 in
theorem w_room : about1.hasRoom e0.platform room_1 = true :=
  launch0.hasRoom_least _ room_1 (by decide +kernel) (by decide +kernel) (by decide +kernel) (by decide +kernel) (by decide +kernel) (by decide +kernel)
theorem allAtoms_all (ts : List Jvm.Cond) (a : Array Jvm.Value) (st : Jvm.State) : (allAtoms ts).before a st = ts.all (fun c => c.before a st) := by
  induction ts with
  | nil => rfl
  | cons c t ih =>
    show (Jvm.Cond.and c (allAtoms t)).before a st = _
    rw [Jvm.Cond.before_and, ih, List.all_cons]
def words1 : List Jvm.Cond := Jvm.Cond.code x code maxLocals ret :: tables_1
/-- a 'code' word, met by the world's own term for the bytes: nothing is compared byte by byte -/
theorem code_word {y : MethodName} {bytes : ByteArray} {mx : Nat} {rt : Option FieldType} {a : Array Value} {s : State} {m : MethodId} {meth : Method} {c : Code} (h1 : s.methodNamed? y = some m) (h2 : s.vm.method? m = some meth) (h3 : meth.code = some c) (h4 : c.code = bytes)
    (h5 : (c.maxLocals == mx && c.exceptionTable.isEmpty && decide (c.maxStack ≤ mostOperands) && decide (meth.sig.returnType = rt) && !meth.locks && decide (parseMethodDescriptor y.desc = some meth.sig)) = true) : (Jvm.Cond.code y bytes mx rt).before a s = true := by
  simp only [Bool.and_eq_true, beq_iff_eq, Bool.not_eq_true', decide_eq_true_eq] at h5
  obtain ⟨⟨⟨⟨⟨g1, g2⟩, g3⟩, g4⟩, g5⟩, g6⟩ := h5
  simp [Cond.before, Cond.holds, Cond.value, h1, h2, h3, h4, g1, g2, g3, g4, g5, g6]
def isCode : Jvm.Cond → Bool
  | .code _ _ _ _ => true
  | _ => false
theorem all_split {L : List Jvm.Cond} {P : Jvm.Cond → Bool} (h1 : L.all (fun c => isCode c || P c) = true) (h2 : ∀ c ∈ L.filter isCode, P c = true) : L.all P = true := by
  refine List.all_eq_true.mpr fun c hc => ?_
  have h := List.all_eq_true.mp h1 c hc
  rcases Bool.eq_false_or_eq_true (isCode c) with hi | hi
  · exact h2 c (List.mem_filter.mpr ⟨hc, hi⟩)
  · simpa [hi] using h
set_option maxRecDepth 65536 in
theorem w_c0 : (Jvm.Cond.code x code maxLocals ret).before args0 about1 = true := code_word (m := ⟨1, 5⟩) (meth := k1m5) (c := k1c5) (by decide +kernel) rfl rfl rfl (by decide +kernel)
set_option maxRecDepth 65536 in
theorem w_c1 : (Jvm.Cond.code ({ cls := "com/example/xylem/xylem/model/LocationEqualsPinLaw", name := "mk", desc := "(J)Ljava/lang/String;" } : Jvm.MethodName) method_4_code (4 : Nat) (Option.some (Jvm.ClassFile.FieldType.object "java/lang/String"))).before args0 about1 = true := code_word (m := ⟨1, 3⟩) (meth := k1m3) (c := k1c3) (by decide +kernel) rfl rfl rfl (by decide +kernel)
set_option maxRecDepth 65536 in
theorem w_c2 : (Jvm.Cond.code ({ cls := "com/example/xylem/xylem/model/LocationEqualsPinLaw", name := "len", desc := "(J)I" } : Jvm.MethodName) method_2_code (2 : Nat) (Option.some Jvm.ClassFile.FieldType.int)).before args0 about1 = true := code_word (m := ⟨1, 1⟩) (meth := k1m1) (c := k1c1) (by decide +kernel) rfl rfl rfl (by decide +kernel)
set_option maxRecDepth 65536 in
theorem w_c3 : (Jvm.Cond.code ({ cls := "java/lang/String", name := "<init>", desc := "([C)V" } : Jvm.MethodName) jdk_42_method_3_code (2 : Nat) (Option.none : Option Jvm.ClassFile.FieldType)).before args0 about1 = true := code_word (m := ⟨7, 1⟩) (meth := k7m1) (c := k7c1) (by decide +kernel) rfl rfl rfl (by decide +kernel)
set_option maxRecDepth 65536 in
theorem w_c4 : (Jvm.Cond.code ({ cls := "java/lang/String", name := "<init>", desc := "([CIILjava/lang/Void;)V" } : Jvm.MethodName) jdk_42_method_149_code (6 : Nat) (Option.none : Option Jvm.ClassFile.FieldType)).before args0 about1 = true := code_word (m := ⟨7, 3⟩) (meth := k7m3) (c := k7c3) (by decide +kernel) rfl rfl rfl (by decide +kernel)
set_option maxRecDepth 65536 in
theorem w_c5 : (Jvm.Cond.code ({ cls := "java/lang/Object", name := "<init>", desc := "()V" } : Jvm.MethodName) object_method_1_code (1 : Nat) (Option.none : Option Jvm.ClassFile.FieldType)).before args0 about1 = true := code_word (m := ⟨0, 0⟩) (meth := k0m0) (c := k0c0) (by decide +kernel) rfl rfl rfl (by decide +kernel)
set_option maxRecDepth 65536 in
theorem w_c6 : (Jvm.Cond.code ({ cls := "com/example/xylem/xylem/model/Location", name := "<init>", desc := "(Ljava/lang/String;II)V" } : Jvm.MethodName) prog_26_method_1_code (4 : Nat) (Option.none : Option Jvm.ClassFile.FieldType)).before args0 about1 = true := code_word (m := ⟨8, 0⟩) (meth := k8m0) (c := k8c0) (by decide +kernel) rfl rfl rfl (by decide +kernel)
set_option maxRecDepth 65536 in
theorem w_c7 : (Jvm.Cond.code ({ cls := "com/example/xylem/xylem/model/LocationEqualsPinLaw", name := "same", desc := "(JJ)Z" } : Jvm.MethodName) method_5_code (5 : Nat) (Option.some Jvm.ClassFile.FieldType.boolean)).before args0 about1 = true := code_word (m := ⟨1, 4⟩) (meth := k1m4) (c := k1c4) (by decide +kernel) rfl rfl rfl (by decide +kernel)
set_option maxRecDepth 65536 in
theorem w_c8 : (Jvm.Cond.code ({ cls := "com/example/xylem/xylem/model/Location", name := "equals", desc := "(Ljava/lang/Object;)Z" } : Jvm.MethodName) prog_26_method_6_code (3 : Nat) (Option.some Jvm.ClassFile.FieldType.boolean)).before args0 about1 = true := code_word (m := ⟨8, 1⟩) (meth := k8m1) (c := k8c1) (by decide +kernel) rfl rfl rfl (by decide +kernel)
set_option maxRecDepth 65536 in
theorem w_c9 : (Jvm.Cond.code ({ cls := "java/lang/String", name := "equals", desc := "(Ljava/lang/Object;)Z" } : Jvm.MethodName) jdk_42_method_66_code (3 : Nat) (Option.some Jvm.ClassFile.FieldType.boolean)).before args0 about1 = true := code_word (m := ⟨7, 2⟩) (meth := k7m2) (c := k7c2) (by decide +kernel) rfl rfl rfl (by decide +kernel)
set_option maxRecDepth 65536 in
theorem w_c10 : (Jvm.Cond.code ({ cls := "java/lang/StringLatin1", name := "equals", desc := "([B[B)Z" } : Jvm.MethodName) jdk_43_method_13_code (3 : Nat) (Option.some Jvm.ClassFile.FieldType.boolean)).before args0 about1 = true := code_word (m := ⟨9, 1⟩) (meth := k9m1) (c := k9c1) (by decide +kernel) rfl rfl rfl (by decide +kernel)
set_option maxRecDepth 65536 in
theorem w_c11 : (Jvm.Cond.code ({ cls := "com/example/xylem/xylem/model/LocationEqualsPinLaw", name := "ch", desc := "(JI)C" } : Jvm.MethodName) method_3_code (3 : Nat) (Option.some Jvm.ClassFile.FieldType.char)).before args0 about1 = true := code_word (m := ⟨1, 2⟩) (meth := k1m2) (c := k1c2) (by decide +kernel) rfl rfl rfl (by decide +kernel)
set_option maxRecDepth 65536 in
theorem w_c12 : (Jvm.Cond.code ({ cls := "java/lang/StringUTF16", name := "compress", desc := "([CII)[B" } : Jvm.MethodName) jdk_52_method_16_code (6 : Nat) (Option.some (Jvm.ClassFile.FieldType.array Jvm.ClassFile.FieldType.byte))).before args0 about1 = true := code_word (m := ⟨10, 2⟩) (meth := k10m2) (c := k10c2) (by decide +kernel) rfl rfl rfl (by decide +kernel)
set_option maxRecDepth 65536 in
theorem w_c13 : (Jvm.Cond.code ({ cls := "java/lang/StringUTF16", name := "compress", desc := "([CI[BII)I" } : Jvm.MethodName) jdk_52_method_21_code (7 : Nat) (Option.some Jvm.ClassFile.FieldType.int)).before args0 about1 = true := code_word (m := ⟨10, 3⟩) (meth := k10m3) (c := k10c3) (by decide +kernel) rfl rfl rfl (by decide +kernel)
set_option maxRecDepth 65536 in
theorem w_c14 : (Jvm.Cond.code ({ cls := "java/lang/StringUTF16", name := "coderFromArrayLen", desc := "([BI)B" } : Jvm.MethodName) jdk_52_method_15_code (2 : Nat) (Option.some Jvm.ClassFile.FieldType.byte)).before args0 about1 = true := code_word (m := ⟨10, 1⟩) (meth := k10m1) (c := k10c1) (by decide +kernel) rfl rfl rfl (by decide +kernel)
def codes1 : List Jvm.Cond := [Jvm.Cond.code x code maxLocals ret, Jvm.Cond.code ({ cls := "com/example/xylem/xylem/model/LocationEqualsPinLaw", name := "mk", desc := "(J)Ljava/lang/String;" } : Jvm.MethodName) method_4_code (4 : Nat) (Option.some (Jvm.ClassFile.FieldType.object "java/lang/String")), Jvm.Cond.code ({ cls := "com/example/xylem/xylem/model/LocationEqualsPinLaw", name := "len", desc := "(J)I" } : Jvm.MethodName) method_2_code (2 : Nat) (Option.some Jvm.ClassFile.FieldType.int), Jvm.Cond.code ({ cls := "java/lang/String", name := "<init>", desc := "([C)V" } : Jvm.MethodName) jdk_42_method_3_code (2 : Nat) (Option.none : Option Jvm.ClassFile.FieldType), Jvm.Cond.code ({ cls := "java/lang/String", name := "<init>", desc := "([CIILjava/lang/Void;)V" } : Jvm.MethodName) jdk_42_method_149_code (6 : Nat) (Option.none : Option Jvm.ClassFile.FieldType), Jvm.Cond.code ({ cls := "java/lang/Object", name := "<init>", desc := "()V" } : Jvm.MethodName) object_method_1_code (1 : Nat) (Option.none : Option Jvm.ClassFile.FieldType), Jvm.Cond.code ({ cls := "com/example/xylem/xylem/model/Location", name := "<init>", desc := "(Ljava/lang/String;II)V" } : Jvm.MethodName) prog_26_method_1_code (4 : Nat) (Option.none : Option Jvm.ClassFile.FieldType), Jvm.Cond.code ({ cls := "com/example/xylem/xylem/model/LocationEqualsPinLaw", name := "same", desc := "(JJ)Z" } : Jvm.MethodName) method_5_code (5 : Nat) (Option.some Jvm.ClassFile.FieldType.boolean), Jvm.Cond.code ({ cls := "com/example/xylem/xylem/model/Location", name := "equals", desc := "(Ljava/lang/Object;)Z" } : Jvm.MethodName) prog_26_method_6_code (3 : Nat) (Option.some Jvm.ClassFile.FieldType.boolean), Jvm.Cond.code ({ cls := "java/lang/String", name := "equals", desc := "(Ljava/lang/Object;)Z" } : Jvm.MethodName) jdk_42_method_66_code (3 : Nat) (Option.some Jvm.ClassFile.FieldType.boolean), Jvm.Cond.code ({ cls := "java/lang/StringLatin1", name := "equals", desc := "([B[B)Z" } : Jvm.MethodName) jdk_43_method_13_code (3 : Nat) (Option.some Jvm.ClassFile.FieldType.boolean), Jvm.Cond.code ({ cls := "com/example/xylem/xylem/model/LocationEqualsPinLaw", name := "ch", desc := "(JI)C" } : Jvm.MethodName) method_3_code (3 : Nat) (Option.some Jvm.ClassFile.FieldType.char), Jvm.Cond.code ({ cls := "java/lang/StringUTF16", name := "compress", desc := "([CII)[B" } : Jvm.MethodName) jdk_52_method_16_code (6 : Nat) (Option.some (Jvm.ClassFile.FieldType.array Jvm.ClassFile.FieldType.byte)), Jvm.Cond.code ({ cls := "java/lang/StringUTF16", name := "compress", desc := "([CI[BII)I" } : Jvm.MethodName) jdk_52_method_21_code (7 : Nat) (Option.some Jvm.ClassFile.FieldType.int), Jvm.Cond.code ({ cls := "java/lang/StringUTF16", name := "coderFromArrayLen", desc := "([BI)B" } : Jvm.MethodName) jdk_52_method_15_code (2 : Nat) (Option.some Jvm.ClassFile.FieldType.byte)]
set_option maxRecDepth 65536 in
theorem codes_eq : words1.filter isCode = codes1 := rfl
theorem w_codes : ∀ c ∈ words1.filter isCode, c.before args0 about1 = true := by
  rw [codes_eq]
  intro c hc
  simp only [codes1, List.mem_cons, List.not_mem_nil, or_false] at hc
  rcases hc with rfl | rfl | rfl | rfl | rfl | rfl | rfl | rfl | rfl | rfl | rfl | rfl | rfl | rfl | rfl
  · exact w_c0
  · exact w_c1
  · exact w_c2
  · exact w_c3
  · exact w_c4
  · exact w_c5
  · exact w_c6
  · exact w_c7
  · exact w_c8
  · exact w_c9
  · exact w_c10
  · exact w_c11
  · exact w_c12
  · exact w_c13
  · exact w_c14
set_option maxRecDepth 65536 in
theorem w_t1 : (words1.take 24).all (fun c => isCode c || c.before args0 about1) = true := by decide +kernel
set_option maxRecDepth 65536 in
theorem w_t2 : ((words1.drop 24).take 24).all (fun c => isCode c || c.before args0 about1) = true := by decide +kernel
set_option maxRecDepth 65536 in
theorem w_t3 : (((words1.drop 24).drop 24).take 24).all (fun c => isCode c || c.before args0 about1) = true := by decide +kernel
set_option maxRecDepth 65536 in
theorem w_t4 : (((words1.drop 24).drop 24).drop 24).all (fun c => isCode c || c.before args0 about1) = true := by decide +kernel
theorem w_tables : (allAtoms (Jvm.Cond.code x code maxLocals ret :: tables_1)).before args0 about1 = true := by
  rw [allAtoms_all]
  show words1.all (fun c => c.before args0 about1) = true
  refine all_split ?_ w_codes
  rw [← List.take_append_drop 24 words1, List.all_append, w_t1, ← List.take_append_drop 24 (words1.drop 24), List.all_append, w_t2, ← List.take_append_drop 24 ((words1.drop 24).drop 24), List.all_append, w_t3, w_t4]
  rfl
set_option maxRecDepth 65536 in
theorem w_rest : rest_1_c.before args0 about1 = true := by decide +kernel
set_option maxRecDepth 65536 in
theorem w_case : (Jvm.Cond.and given_1 narrow_1).before args0 about1 = true := by decide +kernel
set_option maxRecDepth 65536 in
theorem w_consts : constsHeld consts_1 about1 := Jvm.Lit.constsHeldB_iff.mp (by decide +kernel)
theorem w_applies : (headSpec (Jvm.Cond.code x code maxLocals ret :: tables_1) room_1).applies x e0.platform about1 = true :=
  (Spec.applies_iff w_frames).mpr ⟨w_running, w_runnable, w_alone, w_named, w_hears, w_ripe, w_room, w_tables⟩
theorem atStart : AtStart classFile x code maxLocals ret World_1 tables_1 room_1 Calls_1 rest_1 Pre_1 launch0 p0 e0 about1 theMethod args0 below0 :=
  ⟨lists_1, trivial, launch0.admits_env _ _ _, launch0.least_env, fairChoices_fair.cas, fairChoices_fair.clock, w_frames, w_args, w_heap, w_applies, ⟨w_consts, trivial⟩, w_rest, w_case⟩
end start1
theorem witness_1 : WitnessClaimed_1 := ⟨start1.p0, start1.e0, start1.about1, start1.theMethod, start1.args0, start1.below0, start1.atStart⟩
end Jvm.Pilot.@@N@@
