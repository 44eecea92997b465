import JvmDerived
import JvmDerived.Pilot.@@N@@Statement
import JvmDerived.Pilot.@@N@@Code
set_option linter.unusedVariables false
set_option linter.unusedSimpArgs false
namespace Jvm.RoadKit
open Sem ClassFile Op Lib Jvm.Stand Jvm.Free Jvm.LawKit
section New
variable {p : Program} {l : Launch} {e : Env} {R : Room} {s : State} {m : MethodId} {args : Array Value} {below : List Frame} {meth : Method} {c : Code} {T : State} {locs : List Loc} {cells slots : Nat}
theorem retI (X : Stand p l e R s m args below meth c T locs cells slots) (hx : p.tables.exec = Jvm.exec) {pc : Nat} {Ls : Array Slot} {z : Int32} {rest : List Value} (hret : meth.sig.returnType = some .int) (hd : decode c.code pc = .ok (.ireturn, 1)) {fs : List Frame}
    (hl : ∀ (f : JFrame) (acts : List Action), f.method = m → f.locked = none → f.entered = [] → (doReturn e (T.setTop f) acts (some (.int z))).1 = T.setFrames fs) : Steps p.tables e below (T.setTop (mkF m pc Ls (.int z :: rest))) (T.setFrames fs) := by
  have hm' : T.vm.method? m = some meth := X.method'
  have hn : narrow .int (.int z) = .int z := rfl
  show Steps p.tables e below (T.setTop { method := m, pc := pc, locals := Ls, stack := _ :: rest, locked := none }) _
  jvm_step X.here [X.here.top, hx, hd, hm', hret, hn]
  first | (intro acts; rw [hl _ acts rfl rfl rfl]) | rw [hl _ _ rfl rfl rfl]
  exact Steps.refl _
end New
end Jvm.RoadKit
namespace Jvm.Pilot.@@N@@
open Jvm Jvm.ClassFile Sem Op Lib Jvm.Free Jvm.Stand Jvm.LawKit Jvm.RoadKit Bundle Jvm.Pilot.@@N@@.Jvm.D
theorem own_lt {x y : Int32} {a b : Int} (h : x < y) (hx : x.toInt = a) (hy : y.toInt = b) : a < b := by rw [← hx, ← hy]; exact Int32.lt_iff_toInt_lt.mp h
theorem own_nlt {x y : Int32} {a b : Int} (h : ¬ x < y) (hx : x.toInt = a) (hy : y.toInt = b) : b ≤ a := by rw [← hx, ← hy]; exact Int.not_lt.mp fun q => h (Int32.lt_iff_toInt_lt.mpr q)
theorem own_eq {x y : Int32} {a b : Int} (h : x = y) (hx : x.toInt = a) (hy : y.toInt = b) : a = b := by rw [← hx, ← hy, h]
theorem own_ne {x y : Int32} {a b : Int} (h : ¬ x = y) (hx : x.toInt = a) (hy : y.toInt = b) : a ≠ b := by rw [← hx, ← hy]; exact fun q => h (Int32.toInt_inj.mp q)
def own_pick (k : Int32) (w0 : Addr) (w1 : Addr) (w2 : Addr) (w3 : Addr) (w4 : Addr) (w5 : Addr) (w6 : Addr) (w7 : Addr) (w8 : Addr) (w9 : Addr) (w10 : Addr) (w11 : Addr) (w12 : Addr) : Addr := (if k = (0 : Int32) then w0 else (if k = (1 : Int32) then w1 else (if k = (2 : Int32) then w2 else (if k = (3 : Int32) then w3 else (if k = (4 : Int32) then w4 else (if k = (5 : Int32) then w5 else (if k = (6 : Int32) then w6 else (if k = (7 : Int32) then w7 else (if k = (8 : Int32) then w8 else (if k = (9 : Int32) then w9 else (if k = (10 : Int32) then w10 else (if k = (11 : Int32) then w11 else w12))))))))))))
def own_isp (k : Int32) : Int32 := if k = 10 then 1 else if k = 11 then 1 else if k = 12 then 1 else 0
theorem own_k13 (x : Int32) : (x &&& (2147483647 : Int32)) % (13 : Int32) = (0 : Int32) ∨ (x &&& (2147483647 : Int32)) % (13 : Int32) = (1 : Int32) ∨ (x &&& (2147483647 : Int32)) % (13 : Int32) = (2 : Int32) ∨ (x &&& (2147483647 : Int32)) % (13 : Int32) = (3 : Int32) ∨ (x &&& (2147483647 : Int32)) % (13 : Int32) = (4 : Int32) ∨ (x &&& (2147483647 : Int32)) % (13 : Int32) = (5 : Int32) ∨ (x &&& (2147483647 : Int32)) % (13 : Int32) = (6 : Int32) ∨ (x &&& (2147483647 : Int32)) % (13 : Int32) = (7 : Int32) ∨ (x &&& (2147483647 : Int32)) % (13 : Int32) = (8 : Int32) ∨ (x &&& (2147483647 : Int32)) % (13 : Int32) = (9 : Int32) ∨ (x &&& (2147483647 : Int32)) % (13 : Int32) = (10 : Int32) ∨ (x &&& (2147483647 : Int32)) % (13 : Int32) = (11 : Int32) ∨ (x &&& (2147483647 : Int32)) % (13 : Int32) = (12 : Int32) := by
  have h1 := c_mask x 2147483647 31 (by decide) rfl
  have h2 := (c_irem (x &&& (2147483647 : Int32)) 13 13 rfl).1 (by omega)
  have e : ∀ (i : Int32) (n : Int), i.toInt = n → ((x &&& (2147483647 : Int32)) % (13 : Int32)).toInt = n → (x &&& (2147483647 : Int32)) % (13 : Int32) = i := fun i n h q => Int32.toInt_inj.mp (q.trans h.symm)
  have h3 : ((x &&& (2147483647 : Int32)) % (13 : Int32)).toInt = 0 ∨ ((x &&& (2147483647 : Int32)) % (13 : Int32)).toInt = 1 ∨ ((x &&& (2147483647 : Int32)) % (13 : Int32)).toInt = 2 ∨ ((x &&& (2147483647 : Int32)) % (13 : Int32)).toInt = 3 ∨ ((x &&& (2147483647 : Int32)) % (13 : Int32)).toInt = 4 ∨ ((x &&& (2147483647 : Int32)) % (13 : Int32)).toInt = 5 ∨ ((x &&& (2147483647 : Int32)) % (13 : Int32)).toInt = 6 ∨ ((x &&& (2147483647 : Int32)) % (13 : Int32)).toInt = 7 ∨ ((x &&& (2147483647 : Int32)) % (13 : Int32)).toInt = 8 ∨ ((x &&& (2147483647 : Int32)) % (13 : Int32)).toInt = 9 ∨ ((x &&& (2147483647 : Int32)) % (13 : Int32)).toInt = 10 ∨ ((x &&& (2147483647 : Int32)) % (13 : Int32)).toInt = 11 ∨ ((x &&& (2147483647 : Int32)) % (13 : Int32)).toInt = 12 := by omega
  rcases h3 with q | q | q | q | q | q | q | q | q | q | q | q | q
  · exact Or.inl (e 0 0 rfl q)
  · exact Or.inr (Or.inl (e 1 1 rfl q))
  · exact Or.inr (Or.inr (Or.inl (e 2 2 rfl q)))
  · exact Or.inr (Or.inr (Or.inr (Or.inl (e 3 3 rfl q))))
  · exact Or.inr (Or.inr (Or.inr (Or.inr (Or.inl (e 4 4 rfl q)))))
  · exact Or.inr (Or.inr (Or.inr (Or.inr (Or.inr (Or.inl (e 5 5 rfl q))))))
  · exact Or.inr (Or.inr (Or.inr (Or.inr (Or.inr (Or.inr (Or.inl (e 6 6 rfl q)))))))
  · exact Or.inr (Or.inr (Or.inr (Or.inr (Or.inr (Or.inr (Or.inr (Or.inl (e 7 7 rfl q))))))))
  · exact Or.inr (Or.inr (Or.inr (Or.inr (Or.inr (Or.inr (Or.inr (Or.inr (Or.inl (e 8 8 rfl q)))))))))
  · exact Or.inr (Or.inr (Or.inr (Or.inr (Or.inr (Or.inr (Or.inr (Or.inr (Or.inr (Or.inl (e 9 9 rfl q))))))))))
  · exact Or.inr (Or.inr (Or.inr (Or.inr (Or.inr (Or.inr (Or.inr (Or.inr (Or.inr (Or.inr (Or.inl (e 10 10 rfl q)))))))))))
  · exact Or.inr (Or.inr (Or.inr (Or.inr (Or.inr (Or.inr (Or.inr (Or.inr (Or.inr (Or.inr (Or.inr (Or.inl (e 11 11 rfl q))))))))))))
  · exact Or.inr (Or.inr (Or.inr (Or.inr (Or.inr (Or.inr (Or.inr (Or.inr (Or.inr (Or.inr (Or.inr (Or.inr (e 12 12 rfl q))))))))))))
theorem d1_0 : decode method_4_code 0 = .ok (.iload_n 0, 1) := by decide +kernel
theorem d1_1 : decode method_4_code 1 = .ok (.ifCond .ne 7, 3) := by decide +kernel
theorem d1_4 : decode method_4_code 4 = .ok (.getstatic 24, 3) := by decide +kernel
theorem wd_5 {a0 : Array Value} {Z : State} (hw : ∀ d ∈ tables_1, d.before a0 Z = true) : (Jvm.Cond.fieldLink "com/example/potager/potager/model/RankSpecialPinLaw" (24 : Nat) "com/example/potager/potager/model/Rank" "ONE" "Lcom/example/potager/potager/model/Rank;").before a0 Z = true := hw _ (List.mem_of_getElem? (i := 5) rfl)
theorem d1_7 : decode method_4_code 7 = .ok (.areturn, 1) := by decide +kernel
theorem d1_8 : decode method_4_code 8 = .ok (.iload_n 0, 1) := by decide +kernel
theorem d1_9 : decode method_4_code 9 = .ok (.iconst 1, 1) := by decide +kernel
theorem d1_10 : decode method_4_code 10 = .ok (.if_icmp .ne 7, 3) := by decide +kernel
theorem d1_13 : decode method_4_code 13 = .ok (.getstatic 28, 3) := by decide +kernel
theorem wd_32 {a0 : Array Value} {Z : State} (hw : ∀ d ∈ tables_1, d.before a0 Z = true) : (Jvm.Cond.fieldLink "com/example/potager/potager/model/RankSpecialPinLaw" (28 : Nat) "com/example/potager/potager/model/Rank" "TWO" "Lcom/example/potager/potager/model/Rank;").before a0 Z = true := hw _ (List.mem_of_getElem? (i := 32) rfl)
theorem d1_16 : decode method_4_code 16 = .ok (.areturn, 1) := by decide +kernel
theorem d1_17 : decode method_4_code 17 = .ok (.iload_n 0, 1) := by decide +kernel
theorem d1_18 : decode method_4_code 18 = .ok (.iconst 2, 1) := by decide +kernel
theorem d1_19 : decode method_4_code 19 = .ok (.if_icmp .ne 7, 3) := by decide +kernel
theorem d1_22 : decode method_4_code 22 = .ok (.getstatic 31, 3) := by decide +kernel
theorem wd_28 {a0 : Array Value} {Z : State} (hw : ∀ d ∈ tables_1, d.before a0 Z = true) : (Jvm.Cond.fieldLink "com/example/potager/potager/model/RankSpecialPinLaw" (31 : Nat) "com/example/potager/potager/model/Rank" "THREE" "Lcom/example/potager/potager/model/Rank;").before a0 Z = true := hw _ (List.mem_of_getElem? (i := 28) rfl)
theorem d1_25 : decode method_4_code 25 = .ok (.areturn, 1) := by decide +kernel
theorem d1_26 : decode method_4_code 26 = .ok (.iload_n 0, 1) := by decide +kernel
theorem d1_27 : decode method_4_code 27 = .ok (.iconst 3, 1) := by decide +kernel
theorem d1_28 : decode method_4_code 28 = .ok (.if_icmp .ne 7, 3) := by decide +kernel
theorem d1_31 : decode method_4_code 31 = .ok (.getstatic 34, 3) := by decide +kernel
theorem wd_18 {a0 : Array Value} {Z : State} (hw : ∀ d ∈ tables_1, d.before a0 Z = true) : (Jvm.Cond.fieldLink "com/example/potager/potager/model/RankSpecialPinLaw" (34 : Nat) "com/example/potager/potager/model/Rank" "FOUR" "Lcom/example/potager/potager/model/Rank;").before a0 Z = true := hw _ (List.mem_of_getElem? (i := 18) rfl)
theorem d1_34 : decode method_4_code 34 = .ok (.areturn, 1) := by decide +kernel
theorem d1_35 : decode method_4_code 35 = .ok (.iload_n 0, 1) := by decide +kernel
theorem d1_36 : decode method_4_code 36 = .ok (.iconst 4, 1) := by decide +kernel
theorem d1_37 : decode method_4_code 37 = .ok (.if_icmp .ne 7, 3) := by decide +kernel
theorem d1_40 : decode method_4_code 40 = .ok (.getstatic 37, 3) := by decide +kernel
theorem wd_40 {a0 : Array Value} {Z : State} (hw : ∀ d ∈ tables_1, d.before a0 Z = true) : (Jvm.Cond.fieldLink "com/example/potager/potager/model/RankSpecialPinLaw" (37 : Nat) "com/example/potager/potager/model/Rank" "FIVE" "Lcom/example/potager/potager/model/Rank;").before a0 Z = true := hw _ (List.mem_of_getElem? (i := 40) rfl)
theorem d1_43 : decode method_4_code 43 = .ok (.areturn, 1) := by decide +kernel
theorem d1_44 : decode method_4_code 44 = .ok (.iload_n 0, 1) := by decide +kernel
theorem d1_45 : decode method_4_code 45 = .ok (.iconst 5, 1) := by decide +kernel
theorem d1_46 : decode method_4_code 46 = .ok (.if_icmp .ne 7, 3) := by decide +kernel
theorem d1_49 : decode method_4_code 49 = .ok (.getstatic 40, 3) := by decide +kernel
theorem wd_22 {a0 : Array Value} {Z : State} (hw : ∀ d ∈ tables_1, d.before a0 Z = true) : (Jvm.Cond.fieldLink "com/example/potager/potager/model/RankSpecialPinLaw" (40 : Nat) "com/example/potager/potager/model/Rank" "SIX" "Lcom/example/potager/potager/model/Rank;").before a0 Z = true := hw _ (List.mem_of_getElem? (i := 22) rfl)
theorem d1_52 : decode method_4_code 52 = .ok (.areturn, 1) := by decide +kernel
theorem d1_53 : decode method_4_code 53 = .ok (.iload_n 0, 1) := by decide +kernel
theorem d1_54 : decode method_4_code 54 = .ok (.bipush 6, 2) := by decide +kernel
theorem d1_56 : decode method_4_code 56 = .ok (.if_icmp .ne 7, 3) := by decide +kernel
theorem d1_59 : decode method_4_code 59 = .ok (.getstatic 43, 3) := by decide +kernel
theorem wd_20 {a0 : Array Value} {Z : State} (hw : ∀ d ∈ tables_1, d.before a0 Z = true) : (Jvm.Cond.fieldLink "com/example/potager/potager/model/RankSpecialPinLaw" (43 : Nat) "com/example/potager/potager/model/Rank" "SEVEN" "Lcom/example/potager/potager/model/Rank;").before a0 Z = true := hw _ (List.mem_of_getElem? (i := 20) rfl)
theorem d1_62 : decode method_4_code 62 = .ok (.areturn, 1) := by decide +kernel
theorem d1_63 : decode method_4_code 63 = .ok (.iload_n 0, 1) := by decide +kernel
theorem d1_64 : decode method_4_code 64 = .ok (.bipush 7, 2) := by decide +kernel
theorem d1_66 : decode method_4_code 66 = .ok (.if_icmp .ne 7, 3) := by decide +kernel
theorem d1_69 : decode method_4_code 69 = .ok (.getstatic 46, 3) := by decide +kernel
theorem wd_24 {a0 : Array Value} {Z : State} (hw : ∀ d ∈ tables_1, d.before a0 Z = true) : (Jvm.Cond.fieldLink "com/example/potager/potager/model/RankSpecialPinLaw" (46 : Nat) "com/example/potager/potager/model/Rank" "EIGHT" "Lcom/example/potager/potager/model/Rank;").before a0 Z = true := hw _ (List.mem_of_getElem? (i := 24) rfl)
theorem d1_72 : decode method_4_code 72 = .ok (.areturn, 1) := by decide +kernel
theorem d1_73 : decode method_4_code 73 = .ok (.iload_n 0, 1) := by decide +kernel
theorem d1_74 : decode method_4_code 74 = .ok (.bipush 8, 2) := by decide +kernel
theorem d1_76 : decode method_4_code 76 = .ok (.if_icmp .ne 7, 3) := by decide +kernel
theorem d1_79 : decode method_4_code 79 = .ok (.getstatic 49, 3) := by decide +kernel
theorem wd_34 {a0 : Array Value} {Z : State} (hw : ∀ d ∈ tables_1, d.before a0 Z = true) : (Jvm.Cond.fieldLink "com/example/potager/potager/model/RankSpecialPinLaw" (49 : Nat) "com/example/potager/potager/model/Rank" "NINE" "Lcom/example/potager/potager/model/Rank;").before a0 Z = true := hw _ (List.mem_of_getElem? (i := 34) rfl)
theorem d1_82 : decode method_4_code 82 = .ok (.areturn, 1) := by decide +kernel
theorem d1_83 : decode method_4_code 83 = .ok (.iload_n 0, 1) := by decide +kernel
theorem d1_84 : decode method_4_code 84 = .ok (.bipush 9, 2) := by decide +kernel
theorem d1_86 : decode method_4_code 86 = .ok (.if_icmp .ne 7, 3) := by decide +kernel
theorem d1_89 : decode method_4_code 89 = .ok (.getstatic 52, 3) := by decide +kernel
theorem wd_26 {a0 : Array Value} {Z : State} (hw : ∀ d ∈ tables_1, d.before a0 Z = true) : (Jvm.Cond.fieldLink "com/example/potager/potager/model/RankSpecialPinLaw" (52 : Nat) "com/example/potager/potager/model/Rank" "TEN" "Lcom/example/potager/potager/model/Rank;").before a0 Z = true := hw _ (List.mem_of_getElem? (i := 26) rfl)
theorem d1_92 : decode method_4_code 92 = .ok (.areturn, 1) := by decide +kernel
theorem d1_93 : decode method_4_code 93 = .ok (.iload_n 0, 1) := by decide +kernel
theorem d1_94 : decode method_4_code 94 = .ok (.bipush 10, 2) := by decide +kernel
theorem d1_96 : decode method_4_code 96 = .ok (.if_icmp .ne 7, 3) := by decide +kernel
theorem d1_99 : decode method_4_code 99 = .ok (.getstatic 55, 3) := by decide +kernel
theorem wd_36 {a0 : Array Value} {Z : State} (hw : ∀ d ∈ tables_1, d.before a0 Z = true) : (Jvm.Cond.fieldLink "com/example/potager/potager/model/RankSpecialPinLaw" (55 : Nat) "com/example/potager/potager/model/Rank" "DOUBLE" "Lcom/example/potager/potager/model/Rank;").before a0 Z = true := hw _ (List.mem_of_getElem? (i := 36) rfl)
theorem d1_102 : decode method_4_code 102 = .ok (.areturn, 1) := by decide +kernel
theorem d1_103 : decode method_4_code 103 = .ok (.iload_n 0, 1) := by decide +kernel
theorem d1_104 : decode method_4_code 104 = .ok (.bipush 11, 2) := by decide +kernel
theorem d1_106 : decode method_4_code 106 = .ok (.if_icmp .ne 7, 3) := by decide +kernel
theorem d1_109 : decode method_4_code 109 = .ok (.getstatic 58, 3) := by decide +kernel
theorem wd_30 {a0 : Array Value} {Z : State} (hw : ∀ d ∈ tables_1, d.before a0 Z = true) : (Jvm.Cond.fieldLink "com/example/potager/potager/model/RankSpecialPinLaw" (58 : Nat) "com/example/potager/potager/model/Rank" "MINUS" "Lcom/example/potager/potager/model/Rank;").before a0 Z = true := hw _ (List.mem_of_getElem? (i := 30) rfl)
theorem d1_112 : decode method_4_code 112 = .ok (.areturn, 1) := by decide +kernel
theorem d1_113 : decode method_4_code 113 = .ok (.getstatic 61, 3) := by decide +kernel
theorem wd_38 {a0 : Array Value} {Z : State} (hw : ∀ d ∈ tables_1, d.before a0 Z = true) : (Jvm.Cond.fieldLink "com/example/potager/potager/model/RankSpecialPinLaw" (61 : Nat) "com/example/potager/potager/model/Rank" "ZERO" "Lcom/example/potager/potager/model/Rank;").before a0 Z = true := hw _ (List.mem_of_getElem? (i := 38) rfl)
theorem d1_116 : decode method_4_code 116 = .ok (.areturn, 1) := by decide +kernel
theorem ef_1 (m : MethodId) (x0 : Int32) : entryFrame m #[(.int x0)] 1 = mkF m 0 #[.val (.int x0)] [] := by first | (simp [entryFrame, mkF, argsToLocals, Value.category]; done) | rfl
theorem pn_com_example_potager_potager_model_RankSpecialPinLaw : plainName "com/example/potager/potager/model/RankSpecialPinLaw" = true := by first | (simp [plainName, overriddenIn]; done) | decide +kernel
def Q_rm1 (Z : State) (p1 : Int32) (w0 : Addr) (w1 : Addr) (w2 : Addr) (w3 : Addr) (w4 : Addr) (w5 : Addr) (w6 : Addr) (w7 : Addr) (w8 : Addr) (w9 : Addr) (w10 : Addr) (w11 : Addr) (w12 : Addr) (h0 : Heap) (n0 : Nat) (v : Option Value) (h : Heap) (L : List Loc) : Prop := v = some (.ref (own_pick p1 w0 w1 w2 w3 w4 w5 w6 w7 w8 w9 w10 w11 w12)) ∧ Fr n0 L ∧ h = h0
set_option maxRecDepth 65536 in
set_option maxHeartbeats 40000000 in
theorem rm1 (l : Launch) (Z : State) (a0 : Array Value) (hw : ∀ d ∈ tables_1, d.before a0 Z = true) (ws : List Jvm.Cond) (p1 : Int32) (w0 : Addr) (w1 : Addr) (w2 : Addr) (w3 : Addr) (w4 : Addr) (w5 : Addr) (w6 : Addr) (w7 : Addr) (w8 : Addr) (w9 : Addr) (w10 : Addr) (w11 : Addr) (w12 : Addr) (h0 : Heap) (n0 : Nat) (Z0 : n0 ≤ h0.size) (S_ONE : Sta Z h0 "com/example/potager/potager/model/Rank" "ONE" "Lcom/example/potager/potager/model/Rank;" (.ref w0)) (S_TWO : Sta Z h0 "com/example/potager/potager/model/Rank" "TWO" "Lcom/example/potager/potager/model/Rank;" (.ref w1)) (S_THREE : Sta Z h0 "com/example/potager/potager/model/Rank" "THREE" "Lcom/example/potager/potager/model/Rank;" (.ref w2)) (S_FOUR : Sta Z h0 "com/example/potager/potager/model/Rank" "FOUR" "Lcom/example/potager/potager/model/Rank;" (.ref w3)) (S_FIVE : Sta Z h0 "com/example/potager/potager/model/Rank" "FIVE" "Lcom/example/potager/potager/model/Rank;" (.ref w4)) (S_SIX : Sta Z h0 "com/example/potager/potager/model/Rank" "SIX" "Lcom/example/potager/potager/model/Rank;" (.ref w5)) (S_SEVEN : Sta Z h0 "com/example/potager/potager/model/Rank" "SEVEN" "Lcom/example/potager/potager/model/Rank;" (.ref w6)) (S_EIGHT : Sta Z h0 "com/example/potager/potager/model/Rank" "EIGHT" "Lcom/example/potager/potager/model/Rank;" (.ref w7)) (S_NINE : Sta Z h0 "com/example/potager/potager/model/Rank" "NINE" "Lcom/example/potager/potager/model/Rank;" (.ref w8)) (S_TEN : Sta Z h0 "com/example/potager/potager/model/Rank" "TEN" "Lcom/example/potager/potager/model/Rank;" (.ref w9)) (S_DOUBLE : Sta Z h0 "com/example/potager/potager/model/Rank" "DOUBLE" "Lcom/example/potager/potager/model/Rank;" (.ref w10)) (S_MINUS : Sta Z h0 "com/example/potager/potager/model/Rank" "MINUS" "Lcom/example/potager/potager/model/Rank;" (.ref w11)) (S_ZERO : Sta Z h0 "com/example/potager/potager/model/Rank" "ZERO" "Lcom/example/potager/potager/model/Rank;" (.ref w12)) :
    MetFree l (⟨"com/example/potager/potager/model/RankSpecialPinLaw", "pick", "(I)Lcom/example/potager/potager/model/Rank;"⟩ : MethodName) (head1 (Jvm.Cond.code (⟨"com/example/potager/potager/model/RankSpecialPinLaw", "pick", "(I)Lcom/example/potager/potager/model/Rank;"⟩ : MethodName) method_4_code 1 (some (.object "com/example/potager/potager/model/Rank")) :: ws) ({ frames := 0, cells := 0, slots := 0, locals := 0 } : Room)) (fun a U => a = #[(.int p1)] ∧ Z.Warmed39 U.vm ∧ U.heap = h0) (fun _ _ _ _ _ => True) (fun _ U o U' => ∃ v L, o = .returned v ∧ Q_rm1 Z p1 w0 w1 w2 w3 w4 w5 w6 w7 w8 w9 w10 w11 w12 h0 n0 v U'.heap L ∧ FrameEnd U o U' L ({ frames := 0, cells := 0, slots := 0, locals := 0 } : Room).cells ({ frames := 0, cells := 0, slots := 0, locals := 0 } : Room).slots) := by
  refine MetFree.of_bodySF (plainFor_of_name pn_com_example_potager_potager_model_RankSpecialPinLaw) hisR ?_
  intro p e s m args below meth c s₁ Bd hml0 hP hK
  obtain ⟨rfl, hZ, hh⟩ := hP
  have hx := Bd.exec
  have hby := Bd.bytes
  have hml : c.maxLocals = 1 := hml0
  have hown : s.vm.findClass "com/example/potager/potager/model/RankSpecialPinLaw" = some m.cls := findClass_of_methodNamed Bd.named
  have hnm := (name_of_methodNamed Bd.named Bd.method).1
  have X0 : Stand p l e ({ frames := 0, cells := 0, slots := 0, locals := 0 } : Room) s m #[(.int p1)] below meth c s₁ [] 0 0 := Stand.of_body Bd
  have e0 : s₁.heap = h0 := by rw [← hh, Bd.state]; rfl
  have N0 := Fr.nil n0
  have pre0 : ∀ t, Steps p.tables e below (s₁.setTop (mkF m 0 #[.val (.int p1)] [])) t → Steps p.tables e below (s₁.setTop (entryFrame m #[(.int p1)] 1)) t := fun t k => castTop (ef_1 m p1) k
  have pre2 : ∀ t, Steps p.tables e below (s₁.setTop (mkF m 1 #[.val (.int p1)] [(.int p1)])) t → Steps p.tables e below (s₁.setTop (entryFrame m #[(.int p1)] 1)) t := by
    intro t kt
    refine pre0 _ ?_
    show Steps p.tables e below (s₁.setTop (mkF m 0 #[.val (.int p1)] [])) _
    refine XS.iloadN X0.here hx rfl (hb hby d1_0) rfl ?_
    exact kt
  by_cases hc1_1 : p1 = (0 : Int32)
  · obtain ⟨T3, X3, e3, st3⟩ := getS2 X0 hx hZ hown (host := "") (Or.inl (wd_5 hw)) Via.refl e0 S_ONE (g := (mkF m 4 #[.val (.int p1)] [])) rfl (hb hby d1_4)
    obtain ⟨fs, hr, hrun, hended, hW, hsame⟩ := X3.leave (v := some (.ref w0)) (fun h => by rw [Bd.returns] at h; cases h)
    refine ⟨_, _, pre2 _ ?_, hrun, hended, _, _, rfl, ?_, ⟨_, rfl⟩, hW, hsame.mono (by decide) (by decide)⟩
    · show Steps p.tables e below (s₁.setTop (mkF m 1 #[.val (.int p1)] [(.int p1)])) _
      refine XS.ifNo X0.here hx rfl (hb hby d1_1) rfl ((if0 _ _).trans (teq hc1_1).2) ?_
      refine st3 _ ?_
      exact X3.areturnOut hx rfl Bd.returns rfl (hb hby d1_7) hr
    · show Q_rm1 Z p1 w0 w1 w2 w3 w4 w5 w6 w7 w8 w9 w10 w11 w12 h0 n0 _ T3.heap _
      rw [e3]
      exact ⟨(by simp only [own_pick, if_pos hc1_1]), N0, rfl⟩
  · have pre5 : ∀ t, Steps p.tables e below (s₁.setTop (mkF m 10 #[.val (.int p1)] [(.int (1 : Int32)), (.int p1)])) t → Steps p.tables e below (s₁.setTop (entryFrame m #[(.int p1)] 1)) t := by
      intro t kt
      refine pre2 _ ?_
      show Steps p.tables e below (s₁.setTop (mkF m 1 #[.val (.int p1)] [(.int p1)])) _
      refine XS.ifYes X0.here hx rfl (pc0 := 1) (pc' := 8) rfl (hb hby d1_1) rfl ((if0 _ _).trans (feq hc1_1).2) (by decide) (by decide) ?_
      refine XS.iloadN X0.here hx rfl (hb hby d1_8) rfl ?_
      refine XS.iconst X0.here hx rfl (hb hby d1_9) ?_
      show Steps p.tables e below (s₁.setTop (mkF m 10 #[.val (.int p1)] [(.int (1 : Int32)), (.int p1)])) _
      exact kt
    by_cases hc10_4 : p1 = (1 : Int32)
    · obtain ⟨T6, X6, e6, st6⟩ := getS2 X0 hx hZ hown (host := "") (Or.inl (wd_32 hw)) Via.refl e0 S_TWO (g := (mkF m 13 #[.val (.int p1)] [])) rfl (hb hby d1_13)
      obtain ⟨fs, hr, hrun, hended, hW, hsame⟩ := X6.leave (v := some (.ref w1)) (fun h => by rw [Bd.returns] at h; cases h)
      refine ⟨_, _, pre5 _ ?_, hrun, hended, _, _, rfl, ?_, ⟨_, rfl⟩, hW, hsame.mono (by decide) (by decide)⟩
      · show Steps p.tables e below (s₁.setTop (mkF m 10 #[.val (.int p1)] [(.int (1 : Int32)), (.int p1)])) _
        refine XS.icmpNo X0.here hx rfl (hb hby d1_10) rfl (teq hc10_4).2 ?_
        refine st6 _ ?_
        exact X6.areturnOut hx rfl Bd.returns rfl (hb hby d1_16) hr
      · show Q_rm1 Z p1 w0 w1 w2 w3 w4 w5 w6 w7 w8 w9 w10 w11 w12 h0 n0 _ T6.heap _
        rw [e6]
        exact ⟨(by simp only [own_pick, if_neg hc1_1, if_pos hc10_4]), N0, rfl⟩
    · have pre8 : ∀ t, Steps p.tables e below (s₁.setTop (mkF m 19 #[.val (.int p1)] [(.int (2 : Int32)), (.int p1)])) t → Steps p.tables e below (s₁.setTop (entryFrame m #[(.int p1)] 1)) t := by
        intro t kt
        refine pre5 _ ?_
        show Steps p.tables e below (s₁.setTop (mkF m 10 #[.val (.int p1)] [(.int (1 : Int32)), (.int p1)])) _
        refine XS.icmpYes X0.here hx rfl (pc0 := 10) (pc' := 17) rfl (hb hby d1_10) rfl (feq hc10_4).2 (by decide) (by decide) ?_
        refine XS.iloadN X0.here hx rfl (hb hby d1_17) rfl ?_
        refine XS.iconst X0.here hx rfl (hb hby d1_18) ?_
        exact kt
      by_cases hc19_7 : p1 = (2 : Int32)
      · obtain ⟨T9, X9, e9, st9⟩ := getS2 X0 hx hZ hown (host := "") (Or.inl (wd_28 hw)) Via.refl e0 S_THREE (g := (mkF m 22 #[.val (.int p1)] [])) rfl (hb hby d1_22)
        obtain ⟨fs, hr, hrun, hended, hW, hsame⟩ := X9.leave (v := some (.ref w2)) (fun h => by rw [Bd.returns] at h; cases h)
        refine ⟨_, _, pre8 _ ?_, hrun, hended, _, _, rfl, ?_, ⟨_, rfl⟩, hW, hsame.mono (by decide) (by decide)⟩
        · show Steps p.tables e below (s₁.setTop (mkF m 19 #[.val (.int p1)] [(.int (2 : Int32)), (.int p1)])) _
          refine XS.icmpNo X0.here hx rfl (hb hby d1_19) rfl (teq hc19_7).2 ?_
          show Steps p.tables e below (s₁.setTop (mkF m 22 #[.val (.int p1)] [])) _
          refine st9 _ ?_
          exact X9.areturnOut hx rfl Bd.returns rfl (hb hby d1_25) hr
        · show Q_rm1 Z p1 w0 w1 w2 w3 w4 w5 w6 w7 w8 w9 w10 w11 w12 h0 n0 _ T9.heap _
          rw [e9]
          exact ⟨(by simp only [own_pick, if_neg hc1_1, if_neg hc10_4, if_pos hc19_7]), N0, rfl⟩
      · have pre11 : ∀ t, Steps p.tables e below (s₁.setTop (mkF m 28 #[.val (.int p1)] [(.int (3 : Int32)), (.int p1)])) t → Steps p.tables e below (s₁.setTop (entryFrame m #[(.int p1)] 1)) t := by
          intro t kt
          refine pre8 _ ?_
          show Steps p.tables e below (s₁.setTop (mkF m 19 #[.val (.int p1)] [(.int (2 : Int32)), (.int p1)])) _
          refine XS.icmpYes X0.here hx rfl (pc0 := 19) (pc' := 26) rfl (hb hby d1_19) rfl (feq hc19_7).2 (by decide) (by decide) ?_
          show Steps p.tables e below (s₁.setTop (mkF m 26 #[.val (.int p1)] [])) _
          refine XS.iloadN X0.here hx rfl (hb hby d1_26) rfl ?_
          refine XS.iconst X0.here hx rfl (hb hby d1_27) ?_
          exact kt
        by_cases hc28_10 : p1 = (3 : Int32)
        · obtain ⟨T12, X12, e12, st12⟩ := getS2 X0 hx hZ hown (host := "") (Or.inl (wd_18 hw)) Via.refl e0 S_FOUR (g := (mkF m 31 #[.val (.int p1)] [])) rfl (hb hby d1_31)
          obtain ⟨fs, hr, hrun, hended, hW, hsame⟩ := X12.leave (v := some (.ref w3)) (fun h => by rw [Bd.returns] at h; cases h)
          refine ⟨_, _, pre11 _ ?_, hrun, hended, _, _, rfl, ?_, ⟨_, rfl⟩, hW, hsame.mono (by decide) (by decide)⟩
          · show Steps p.tables e below (s₁.setTop (mkF m 28 #[.val (.int p1)] [(.int (3 : Int32)), (.int p1)])) _
            refine XS.icmpNo X0.here hx rfl (hb hby d1_28) rfl (teq hc28_10).2 ?_
            refine st12 _ ?_
            show Steps p.tables e below (T12.setTop (mkF m 34 #[.val (.int p1)] [(.ref w3)])) _
            exact X12.areturnOut hx rfl Bd.returns rfl (hb hby d1_34) hr
          · show Q_rm1 Z p1 w0 w1 w2 w3 w4 w5 w6 w7 w8 w9 w10 w11 w12 h0 n0 _ T12.heap _
            rw [e12]
            exact ⟨(by simp only [own_pick, if_neg hc1_1, if_neg hc10_4, if_neg hc19_7, if_pos hc28_10]), N0, rfl⟩
        · have pre14 : ∀ t, Steps p.tables e below (s₁.setTop (mkF m 37 #[.val (.int p1)] [(.int (4 : Int32)), (.int p1)])) t → Steps p.tables e below (s₁.setTop (entryFrame m #[(.int p1)] 1)) t := by
            intro t kt
            refine pre11 _ ?_
            show Steps p.tables e below (s₁.setTop (mkF m 28 #[.val (.int p1)] [(.int (3 : Int32)), (.int p1)])) _
            refine XS.icmpYes X0.here hx rfl (pc0 := 28) (pc' := 35) rfl (hb hby d1_28) rfl (feq hc28_10).2 (by decide) (by decide) ?_
            refine XS.iloadN X0.here hx rfl (hb hby d1_35) rfl ?_
            show Steps p.tables e below (s₁.setTop (mkF m 36 #[.val (.int p1)] [(.int p1)])) _
            refine XS.iconst X0.here hx rfl (hb hby d1_36) ?_
            exact kt
          by_cases hc37_13 : p1 = (4 : Int32)
          · obtain ⟨T15, X15, e15, st15⟩ := getS2 X0 hx hZ hown (host := "") (Or.inl (wd_40 hw)) Via.refl e0 S_FIVE (g := (mkF m 40 #[.val (.int p1)] [])) rfl (hb hby d1_40)
            obtain ⟨fs, hr, hrun, hended, hW, hsame⟩ := X15.leave (v := some (.ref w4)) (fun h => by rw [Bd.returns] at h; cases h)
            refine ⟨_, _, pre14 _ ?_, hrun, hended, _, _, rfl, ?_, ⟨_, rfl⟩, hW, hsame.mono (by decide) (by decide)⟩
            · show Steps p.tables e below (s₁.setTop (mkF m 37 #[.val (.int p1)] [(.int (4 : Int32)), (.int p1)])) _
              refine XS.icmpNo X0.here hx rfl (hb hby d1_37) rfl (teq hc37_13).2 ?_
              refine st15 _ ?_
              exact X15.areturnOut hx rfl Bd.returns rfl (hb hby d1_43) hr
            · show Q_rm1 Z p1 w0 w1 w2 w3 w4 w5 w6 w7 w8 w9 w10 w11 w12 h0 n0 _ T15.heap _
              rw [e15]
              exact ⟨(by simp only [own_pick, if_neg hc1_1, if_neg hc10_4, if_neg hc19_7, if_neg hc28_10, if_pos hc37_13]), N0, rfl⟩
          · have pre17 : ∀ t, Steps p.tables e below (s₁.setTop (mkF m 46 #[.val (.int p1)] [(.int (5 : Int32)), (.int p1)])) t → Steps p.tables e below (s₁.setTop (entryFrame m #[(.int p1)] 1)) t := by
              intro t kt
              refine pre14 _ ?_
              show Steps p.tables e below (s₁.setTop (mkF m 37 #[.val (.int p1)] [(.int (4 : Int32)), (.int p1)])) _
              refine XS.icmpYes X0.here hx rfl (pc0 := 37) (pc' := 44) rfl (hb hby d1_37) rfl (feq hc37_13).2 (by decide) (by decide) ?_
              refine XS.iloadN X0.here hx rfl (hb hby d1_44) rfl ?_
              refine XS.iconst X0.here hx rfl (hb hby d1_45) ?_
              show Steps p.tables e below (s₁.setTop (mkF m 46 #[.val (.int p1)] [(.int (5 : Int32)), (.int p1)])) _
              exact kt
            by_cases hc46_16 : p1 = (5 : Int32)
            · obtain ⟨T18, X18, e18, st18⟩ := getS2 X0 hx hZ hown (host := "") (Or.inl (wd_22 hw)) Via.refl e0 S_SIX (g := (mkF m 49 #[.val (.int p1)] [])) rfl (hb hby d1_49)
              obtain ⟨fs, hr, hrun, hended, hW, hsame⟩ := X18.leave (v := some (.ref w5)) (fun h => by rw [Bd.returns] at h; cases h)
              refine ⟨_, _, pre17 _ ?_, hrun, hended, _, _, rfl, ?_, ⟨_, rfl⟩, hW, hsame.mono (by decide) (by decide)⟩
              · show Steps p.tables e below (s₁.setTop (mkF m 46 #[.val (.int p1)] [(.int (5 : Int32)), (.int p1)])) _
                refine XS.icmpNo X0.here hx rfl (hb hby d1_46) rfl (teq hc46_16).2 ?_
                refine st18 _ ?_
                exact X18.areturnOut hx rfl Bd.returns rfl (hb hby d1_52) hr
              · show Q_rm1 Z p1 w0 w1 w2 w3 w4 w5 w6 w7 w8 w9 w10 w11 w12 h0 n0 _ T18.heap _
                rw [e18]
                exact ⟨(by simp only [own_pick, if_neg hc1_1, if_neg hc10_4, if_neg hc19_7, if_neg hc28_10, if_neg hc37_13, if_pos hc46_16]), N0, rfl⟩
            · have pre20 : ∀ t, Steps p.tables e below (s₁.setTop (mkF m 56 #[.val (.int p1)] [(.int (6 : Int32)), (.int p1)])) t → Steps p.tables e below (s₁.setTop (entryFrame m #[(.int p1)] 1)) t := by
                intro t kt
                refine pre17 _ ?_
                show Steps p.tables e below (s₁.setTop (mkF m 46 #[.val (.int p1)] [(.int (5 : Int32)), (.int p1)])) _
                refine XS.icmpYes X0.here hx rfl (pc0 := 46) (pc' := 53) rfl (hb hby d1_46) rfl (feq hc46_16).2 (by decide) (by decide) ?_
                refine XS.iloadN X0.here hx rfl (hb hby d1_53) rfl ?_
                refine XS.bipush X0.here hx rfl (hb hby d1_54) ?_
                exact kt
              by_cases hc56_19 : p1 = (6 : Int32)
              · obtain ⟨T21, X21, e21, st21⟩ := getS2 X0 hx hZ hown (host := "") (Or.inl (wd_20 hw)) Via.refl e0 S_SEVEN (g := (mkF m 59 #[.val (.int p1)] [])) rfl (hb hby d1_59)
                obtain ⟨fs, hr, hrun, hended, hW, hsame⟩ := X21.leave (v := some (.ref w6)) (fun h => by rw [Bd.returns] at h; cases h)
                refine ⟨_, _, pre20 _ ?_, hrun, hended, _, _, rfl, ?_, ⟨_, rfl⟩, hW, hsame.mono (by decide) (by decide)⟩
                · show Steps p.tables e below (s₁.setTop (mkF m 56 #[.val (.int p1)] [(.int (6 : Int32)), (.int p1)])) _
                  refine XS.icmpNo X0.here hx rfl (hb hby d1_56) rfl (teq hc56_19).2 ?_
                  show Steps p.tables e below (s₁.setTop (mkF m 59 #[.val (.int p1)] [])) _
                  refine st21 _ ?_
                  exact X21.areturnOut hx rfl Bd.returns rfl (hb hby d1_62) hr
                · show Q_rm1 Z p1 w0 w1 w2 w3 w4 w5 w6 w7 w8 w9 w10 w11 w12 h0 n0 _ T21.heap _
                  rw [e21]
                  exact ⟨(by simp only [own_pick, if_neg hc1_1, if_neg hc10_4, if_neg hc19_7, if_neg hc28_10, if_neg hc37_13, if_neg hc46_16, if_pos hc56_19]), N0, rfl⟩
              · have pre23 : ∀ t, Steps p.tables e below (s₁.setTop (mkF m 66 #[.val (.int p1)] [(.int (7 : Int32)), (.int p1)])) t → Steps p.tables e below (s₁.setTop (entryFrame m #[(.int p1)] 1)) t := by
                  intro t kt
                  refine pre20 _ ?_
                  show Steps p.tables e below (s₁.setTop (mkF m 56 #[.val (.int p1)] [(.int (6 : Int32)), (.int p1)])) _
                  refine XS.icmpYes X0.here hx rfl (pc0 := 56) (pc' := 63) rfl (hb hby d1_56) rfl (feq hc56_19).2 (by decide) (by decide) ?_
                  show Steps p.tables e below (s₁.setTop (mkF m 63 #[.val (.int p1)] [])) _
                  refine XS.iloadN X0.here hx rfl (hb hby d1_63) rfl ?_
                  refine XS.bipush X0.here hx rfl (hb hby d1_64) ?_
                  exact kt
                by_cases hc66_22 : p1 = (7 : Int32)
                · obtain ⟨T24, X24, e24, st24⟩ := getS2 X0 hx hZ hown (host := "") (Or.inl (wd_24 hw)) Via.refl e0 S_EIGHT (g := (mkF m 69 #[.val (.int p1)] [])) rfl (hb hby d1_69)
                  obtain ⟨fs, hr, hrun, hended, hW, hsame⟩ := X24.leave (v := some (.ref w7)) (fun h => by rw [Bd.returns] at h; cases h)
                  refine ⟨_, _, pre23 _ ?_, hrun, hended, _, _, rfl, ?_, ⟨_, rfl⟩, hW, hsame.mono (by decide) (by decide)⟩
                  · show Steps p.tables e below (s₁.setTop (mkF m 66 #[.val (.int p1)] [(.int (7 : Int32)), (.int p1)])) _
                    refine XS.icmpNo X0.here hx rfl (hb hby d1_66) rfl (teq hc66_22).2 ?_
                    refine st24 _ ?_
                    show Steps p.tables e below (T24.setTop (mkF m 72 #[.val (.int p1)] [(.ref w7)])) _
                    exact X24.areturnOut hx rfl Bd.returns rfl (hb hby d1_72) hr
                  · show Q_rm1 Z p1 w0 w1 w2 w3 w4 w5 w6 w7 w8 w9 w10 w11 w12 h0 n0 _ T24.heap _
                    rw [e24]
                    exact ⟨(by simp only [own_pick, if_neg hc1_1, if_neg hc10_4, if_neg hc19_7, if_neg hc28_10, if_neg hc37_13, if_neg hc46_16, if_neg hc56_19, if_pos hc66_22]), N0, rfl⟩
                · have pre26 : ∀ t, Steps p.tables e below (s₁.setTop (mkF m 76 #[.val (.int p1)] [(.int (8 : Int32)), (.int p1)])) t → Steps p.tables e below (s₁.setTop (entryFrame m #[(.int p1)] 1)) t := by
                    intro t kt
                    refine pre23 _ ?_
                    show Steps p.tables e below (s₁.setTop (mkF m 66 #[.val (.int p1)] [(.int (7 : Int32)), (.int p1)])) _
                    refine XS.icmpYes X0.here hx rfl (pc0 := 66) (pc' := 73) rfl (hb hby d1_66) rfl (feq hc66_22).2 (by decide) (by decide) ?_
                    refine XS.iloadN X0.here hx rfl (hb hby d1_73) rfl ?_
                    show Steps p.tables e below (s₁.setTop (mkF m 74 #[.val (.int p1)] [(.int p1)])) _
                    refine XS.bipush X0.here hx rfl (hb hby d1_74) ?_
                    exact kt
                  by_cases hc76_25 : p1 = (8 : Int32)
                  · obtain ⟨T27, X27, e27, st27⟩ := getS2 X0 hx hZ hown (host := "") (Or.inl (wd_34 hw)) Via.refl e0 S_NINE (g := (mkF m 79 #[.val (.int p1)] [])) rfl (hb hby d1_79)
                    obtain ⟨fs, hr, hrun, hended, hW, hsame⟩ := X27.leave (v := some (.ref w8)) (fun h => by rw [Bd.returns] at h; cases h)
                    refine ⟨_, _, pre26 _ ?_, hrun, hended, _, _, rfl, ?_, ⟨_, rfl⟩, hW, hsame.mono (by decide) (by decide)⟩
                    · show Steps p.tables e below (s₁.setTop (mkF m 76 #[.val (.int p1)] [(.int (8 : Int32)), (.int p1)])) _
                      refine XS.icmpNo X0.here hx rfl (hb hby d1_76) rfl (teq hc76_25).2 ?_
                      refine st27 _ ?_
                      exact X27.areturnOut hx rfl Bd.returns rfl (hb hby d1_82) hr
                    · show Q_rm1 Z p1 w0 w1 w2 w3 w4 w5 w6 w7 w8 w9 w10 w11 w12 h0 n0 _ T27.heap _
                      rw [e27]
                      exact ⟨(by simp only [own_pick, if_neg hc1_1, if_neg hc10_4, if_neg hc19_7, if_neg hc28_10, if_neg hc37_13, if_neg hc46_16, if_neg hc56_19, if_neg hc66_22, if_pos hc76_25]), N0, rfl⟩
                  · have pre29 : ∀ t, Steps p.tables e below (s₁.setTop (mkF m 86 #[.val (.int p1)] [(.int (9 : Int32)), (.int p1)])) t → Steps p.tables e below (s₁.setTop (entryFrame m #[(.int p1)] 1)) t := by
                      intro t kt
                      refine pre26 _ ?_
                      show Steps p.tables e below (s₁.setTop (mkF m 76 #[.val (.int p1)] [(.int (8 : Int32)), (.int p1)])) _
                      refine XS.icmpYes X0.here hx rfl (pc0 := 76) (pc' := 83) rfl (hb hby d1_76) rfl (feq hc76_25).2 (by decide) (by decide) ?_
                      refine XS.iloadN X0.here hx rfl (hb hby d1_83) rfl ?_
                      refine XS.bipush X0.here hx rfl (hb hby d1_84) ?_
                      show Steps p.tables e below (s₁.setTop (mkF m 86 #[.val (.int p1)] [(.int (9 : Int32)), (.int p1)])) _
                      exact kt
                    by_cases hc86_28 : p1 = (9 : Int32)
                    · obtain ⟨T30, X30, e30, st30⟩ := getS2 X0 hx hZ hown (host := "") (Or.inl (wd_26 hw)) Via.refl e0 S_TEN (g := (mkF m 89 #[.val (.int p1)] [])) rfl (hb hby d1_89)
                      obtain ⟨fs, hr, hrun, hended, hW, hsame⟩ := X30.leave (v := some (.ref w9)) (fun h => by rw [Bd.returns] at h; cases h)
                      refine ⟨_, _, pre29 _ ?_, hrun, hended, _, _, rfl, ?_, ⟨_, rfl⟩, hW, hsame.mono (by decide) (by decide)⟩
                      · show Steps p.tables e below (s₁.setTop (mkF m 86 #[.val (.int p1)] [(.int (9 : Int32)), (.int p1)])) _
                        refine XS.icmpNo X0.here hx rfl (hb hby d1_86) rfl (teq hc86_28).2 ?_
                        refine st30 _ ?_
                        exact X30.areturnOut hx rfl Bd.returns rfl (hb hby d1_92) hr
                      · show Q_rm1 Z p1 w0 w1 w2 w3 w4 w5 w6 w7 w8 w9 w10 w11 w12 h0 n0 _ T30.heap _
                        rw [e30]
                        exact ⟨(by simp only [own_pick, if_neg hc1_1, if_neg hc10_4, if_neg hc19_7, if_neg hc28_10, if_neg hc37_13, if_neg hc46_16, if_neg hc56_19, if_neg hc66_22, if_neg hc76_25, if_pos hc86_28]), N0, rfl⟩
                    · have pre32 : ∀ t, Steps p.tables e below (s₁.setTop (mkF m 96 #[.val (.int p1)] [(.int (10 : Int32)), (.int p1)])) t → Steps p.tables e below (s₁.setTop (entryFrame m #[(.int p1)] 1)) t := by
                        intro t kt
                        refine pre29 _ ?_
                        show Steps p.tables e below (s₁.setTop (mkF m 86 #[.val (.int p1)] [(.int (9 : Int32)), (.int p1)])) _
                        refine XS.icmpYes X0.here hx rfl (pc0 := 86) (pc' := 93) rfl (hb hby d1_86) rfl (feq hc86_28).2 (by decide) (by decide) ?_
                        refine XS.iloadN X0.here hx rfl (hb hby d1_93) rfl ?_
                        refine XS.bipush X0.here hx rfl (hb hby d1_94) ?_
                        exact kt
                      by_cases hc96_31 : p1 = (10 : Int32)
                      · obtain ⟨T33, X33, e33, st33⟩ := getS2 X0 hx hZ hown (host := "") (Or.inl (wd_36 hw)) Via.refl e0 S_DOUBLE (g := (mkF m 99 #[.val (.int p1)] [])) rfl (hb hby d1_99)
                        obtain ⟨fs, hr, hrun, hended, hW, hsame⟩ := X33.leave (v := some (.ref w10)) (fun h => by rw [Bd.returns] at h; cases h)
                        refine ⟨_, _, pre32 _ ?_, hrun, hended, _, _, rfl, ?_, ⟨_, rfl⟩, hW, hsame.mono (by decide) (by decide)⟩
                        · show Steps p.tables e below (s₁.setTop (mkF m 96 #[.val (.int p1)] [(.int (10 : Int32)), (.int p1)])) _
                          refine XS.icmpNo X0.here hx rfl (hb hby d1_96) rfl (teq hc96_31).2 ?_
                          show Steps p.tables e below (s₁.setTop (mkF m 99 #[.val (.int p1)] [])) _
                          refine st33 _ ?_
                          exact X33.areturnOut hx rfl Bd.returns rfl (hb hby d1_102) hr
                        · show Q_rm1 Z p1 w0 w1 w2 w3 w4 w5 w6 w7 w8 w9 w10 w11 w12 h0 n0 _ T33.heap _
                          rw [e33]
                          exact ⟨(by simp only [own_pick, if_neg hc1_1, if_neg hc10_4, if_neg hc19_7, if_neg hc28_10, if_neg hc37_13, if_neg hc46_16, if_neg hc56_19, if_neg hc66_22, if_neg hc76_25, if_neg hc86_28, if_pos hc96_31]), N0, rfl⟩
                      · have pre35 : ∀ t, Steps p.tables e below (s₁.setTop (mkF m 106 #[.val (.int p1)] [(.int (11 : Int32)), (.int p1)])) t → Steps p.tables e below (s₁.setTop (entryFrame m #[(.int p1)] 1)) t := by
                          intro t kt
                          refine pre32 _ ?_
                          show Steps p.tables e below (s₁.setTop (mkF m 96 #[.val (.int p1)] [(.int (10 : Int32)), (.int p1)])) _
                          refine XS.icmpYes X0.here hx rfl (pc0 := 96) (pc' := 103) rfl (hb hby d1_96) rfl (feq hc96_31).2 (by decide) (by decide) ?_
                          show Steps p.tables e below (s₁.setTop (mkF m 103 #[.val (.int p1)] [])) _
                          refine XS.iloadN X0.here hx rfl (hb hby d1_103) rfl ?_
                          refine XS.bipush X0.here hx rfl (hb hby d1_104) ?_
                          exact kt
                        by_cases hc106_34 : p1 = (11 : Int32)
                        · obtain ⟨T36, X36, e36, st36⟩ := getS2 X0 hx hZ hown (host := "") (Or.inl (wd_30 hw)) Via.refl e0 S_MINUS (g := (mkF m 109 #[.val (.int p1)] [])) rfl (hb hby d1_109)
                          obtain ⟨fs, hr, hrun, hended, hW, hsame⟩ := X36.leave (v := some (.ref w11)) (fun h => by rw [Bd.returns] at h; cases h)
                          refine ⟨_, _, pre35 _ ?_, hrun, hended, _, _, rfl, ?_, ⟨_, rfl⟩, hW, hsame.mono (by decide) (by decide)⟩
                          · show Steps p.tables e below (s₁.setTop (mkF m 106 #[.val (.int p1)] [(.int (11 : Int32)), (.int p1)])) _
                            refine XS.icmpNo X0.here hx rfl (hb hby d1_106) rfl (teq hc106_34).2 ?_
                            refine st36 _ ?_
                            show Steps p.tables e below (T36.setTop (mkF m 112 #[.val (.int p1)] [(.ref w11)])) _
                            exact X36.areturnOut hx rfl Bd.returns rfl (hb hby d1_112) hr
                          · show Q_rm1 Z p1 w0 w1 w2 w3 w4 w5 w6 w7 w8 w9 w10 w11 w12 h0 n0 _ T36.heap _
                            rw [e36]
                            exact ⟨(by simp only [own_pick, if_neg hc1_1, if_neg hc10_4, if_neg hc19_7, if_neg hc28_10, if_neg hc37_13, if_neg hc46_16, if_neg hc56_19, if_neg hc66_22, if_neg hc76_25, if_neg hc86_28, if_neg hc96_31, if_pos hc106_34]), N0, rfl⟩
                        · obtain ⟨T37, X37, e37, st37⟩ := getS2 X0 hx hZ hown (host := "") (Or.inl (wd_38 hw)) Via.refl e0 S_ZERO (g := (mkF m 113 #[.val (.int p1)] [])) rfl (hb hby d1_113)
                          obtain ⟨fs, hr, hrun, hended, hW, hsame⟩ := X37.leave (v := some (.ref w12)) (fun h => by rw [Bd.returns] at h; cases h)
                          refine ⟨_, _, pre35 _ ?_, hrun, hended, _, _, rfl, ?_, ⟨_, rfl⟩, hW, hsame.mono (by decide) (by decide)⟩
                          · show Steps p.tables e below (s₁.setTop (mkF m 106 #[.val (.int p1)] [(.int (11 : Int32)), (.int p1)])) _
                            refine XS.icmpYes X0.here hx rfl (pc0 := 106) (pc' := 113) rfl (hb hby d1_106) rfl (feq hc106_34).2 (by decide) (by decide) ?_
                            refine st37 _ ?_
                            show Steps p.tables e below (T37.setTop (mkF m 116 #[.val (.int p1)] [(.ref w12)])) _
                            exact X37.areturnOut hx rfl Bd.returns rfl (hb hby d1_116) hr
                          · show Q_rm1 Z p1 w0 w1 w2 w3 w4 w5 w6 w7 w8 w9 w10 w11 w12 h0 n0 _ T37.heap _
                            rw [e37]
                            exact ⟨(by simp only [own_pick, if_neg hc1_1, if_neg hc10_4, if_neg hc19_7, if_neg hc28_10, if_neg hc37_13, if_neg hc46_16, if_neg hc56_19, if_neg hc66_22, if_neg hc76_25, if_neg hc86_28, if_neg hc96_31, if_neg hc106_34]), N0, rfl⟩
theorem d2_0 : decode method_3_code 0 = .ok (.iload_n 0, 1) := by decide +kernel
theorem d2_1 : decode method_3_code 1 = .ok (.bipush 10, 2) := by decide +kernel
theorem d2_3 : decode method_3_code 3 = .ok (.if_icmp .ne 5, 3) := by decide +kernel
theorem d2_6 : decode method_3_code 6 = .ok (.iconst 1, 1) := by decide +kernel
theorem d2_7 : decode method_3_code 7 = .ok (.ireturn, 1) := by decide +kernel
theorem d2_8 : decode method_3_code 8 = .ok (.iload_n 0, 1) := by decide +kernel
theorem d2_9 : decode method_3_code 9 = .ok (.bipush 11, 2) := by decide +kernel
theorem d2_11 : decode method_3_code 11 = .ok (.if_icmp .ne 5, 3) := by decide +kernel
theorem d2_14 : decode method_3_code 14 = .ok (.iconst 1, 1) := by decide +kernel
theorem d2_15 : decode method_3_code 15 = .ok (.ireturn, 1) := by decide +kernel
theorem d2_16 : decode method_3_code 16 = .ok (.iload_n 0, 1) := by decide +kernel
theorem d2_17 : decode method_3_code 17 = .ok (.bipush 12, 2) := by decide +kernel
theorem d2_19 : decode method_3_code 19 = .ok (.if_icmp .ne 5, 3) := by decide +kernel
theorem d2_22 : decode method_3_code 22 = .ok (.iconst 1, 1) := by decide +kernel
theorem d2_23 : decode method_3_code 23 = .ok (.ireturn, 1) := by decide +kernel
theorem d2_24 : decode method_3_code 24 = .ok (.iconst 0, 1) := by decide +kernel
theorem d2_25 : decode method_3_code 25 = .ok (.ireturn, 1) := by decide +kernel
theorem ef_2 (m : MethodId) (x0 : Int32) : entryFrame m #[(.int x0)] 1 = mkF m 0 #[.val (.int x0)] [] := by first | (simp [entryFrame, mkF, argsToLocals, Value.category]; done) | rfl
def Q_rm2 (Z : State) (p1 : Int32) (h0 : Heap) (n0 : Nat) (v : Option Value) (h : Heap) (L : List Loc) : Prop := v = some (.int (own_isp p1)) ∧ Fr n0 L ∧ h = h0
set_option maxRecDepth 65536 in
set_option maxHeartbeats 40000000 in
theorem rm2 (l : Launch) (Z : State) (a0 : Array Value) (hw : ∀ d ∈ tables_1, d.before a0 Z = true) (ws : List Jvm.Cond) (p1 : Int32) (h0 : Heap) (n0 : Nat) (Z0 : n0 ≤ h0.size) :
    MetFree l (⟨"com/example/potager/potager/model/RankSpecialPinLaw", "isSpecialIndex", "(I)Z"⟩ : MethodName) (head1 (Jvm.Cond.code (⟨"com/example/potager/potager/model/RankSpecialPinLaw", "isSpecialIndex", "(I)Z"⟩ : MethodName) method_3_code 1 (some .boolean) :: ws) ({ frames := 0, cells := 0, slots := 0, locals := 0 } : Room)) (fun a U => a = #[(.int p1)] ∧ Z.Warmed39 U.vm ∧ U.heap = h0) (fun _ _ _ _ _ => True) (fun _ U o U' => ∃ v L, o = .returned v ∧ Q_rm2 Z p1 h0 n0 v U'.heap L ∧ FrameEnd U o U' L ({ frames := 0, cells := 0, slots := 0, locals := 0 } : Room).cells ({ frames := 0, cells := 0, slots := 0, locals := 0 } : Room).slots) := by
  refine MetFree.of_bodySF (plainFor_of_name pn_com_example_potager_potager_model_RankSpecialPinLaw) hisR ?_
  intro p e s m args below meth c s₁ Bd hml0 hP hK
  obtain ⟨rfl, hZ, hh⟩ := hP
  have hx := Bd.exec
  have hby := Bd.bytes
  have hml : c.maxLocals = 1 := hml0
  have hown : s.vm.findClass "com/example/potager/potager/model/RankSpecialPinLaw" = some m.cls := findClass_of_methodNamed Bd.named
  have hnm := (name_of_methodNamed Bd.named Bd.method).1
  have X0 : Stand p l e ({ frames := 0, cells := 0, slots := 0, locals := 0 } : Room) s m #[(.int p1)] below meth c s₁ [] 0 0 := Stand.of_body Bd
  have e0 : s₁.heap = h0 := by rw [← hh, Bd.state]; rfl
  have N0 := Fr.nil n0
  have pre0 : ∀ t, Steps p.tables e below (s₁.setTop (mkF m 0 #[.val (.int p1)] [])) t → Steps p.tables e below (s₁.setTop (entryFrame m #[(.int p1)] 1)) t := fun t k => castTop (ef_2 m p1) k
  have pre39 : ∀ t, Steps p.tables e below (s₁.setTop (mkF m 3 #[.val (.int p1)] [(.int (10 : Int32)), (.int p1)])) t → Steps p.tables e below (s₁.setTop (entryFrame m #[(.int p1)] 1)) t := by
    intro t kt
    refine pre0 _ ?_
    show Steps p.tables e below (s₁.setTop (mkF m 0 #[.val (.int p1)] [])) _
    refine XS.iloadN X0.here hx rfl (hb hby d2_0) rfl ?_
    refine XS.bipush X0.here hx rfl (hb hby d2_1) ?_
    exact kt
  by_cases hc3_38 : p1 = (10 : Int32)
  · obtain ⟨fs, hr, hrun, hended, hW, hsame⟩ := X0.leave (v := some (.int (1 : Int32))) (fun h => by rw [Bd.returns] at h; cases h)
    refine ⟨_, _, pre39 _ ?_, hrun, hended, _, _, rfl, ?_, ⟨_, rfl⟩, hW, hsame.mono (by decide) (by decide)⟩
    · show Steps p.tables e below (s₁.setTop (mkF m 3 #[.val (.int p1)] [(.int (10 : Int32)), (.int p1)])) _
      refine XS.icmpNo X0.here hx rfl (hb hby d2_3) rfl (teq hc3_38).2 ?_
      refine XS.iconst X0.here hx rfl (hb hby d2_6) ?_
      show Steps p.tables e below (s₁.setTop (mkF m 7 #[.val (.int p1)] [(.int (1 : Int32))])) _
      exact retN X0 hx (t := .boolean) Bd.returns (by simp) (hb hby d2_7) hr
    · show Q_rm2 Z p1 h0 n0 _ s₁.heap _
      rw [e0]
      exact ⟨(by simp only [own_isp, if_pos hc3_38]), N0, rfl⟩
  · have pre41 : ∀ t, Steps p.tables e below (s₁.setTop (mkF m 11 #[.val (.int p1)] [(.int (11 : Int32)), (.int p1)])) t → Steps p.tables e below (s₁.setTop (entryFrame m #[(.int p1)] 1)) t := by
      intro t kt
      refine pre39 _ ?_
      show Steps p.tables e below (s₁.setTop (mkF m 3 #[.val (.int p1)] [(.int (10 : Int32)), (.int p1)])) _
      refine XS.icmpYes X0.here hx rfl (pc0 := 3) (pc' := 8) rfl (hb hby d2_3) rfl (feq hc3_38).2 (by decide) (by decide) ?_
      refine XS.iloadN X0.here hx rfl (hb hby d2_8) rfl ?_
      show Steps p.tables e below (s₁.setTop (mkF m 9 #[.val (.int p1)] [(.int p1)])) _
      refine XS.bipush X0.here hx rfl (hb hby d2_9) ?_
      exact kt
    by_cases hc11_40 : p1 = (11 : Int32)
    · obtain ⟨fs, hr, hrun, hended, hW, hsame⟩ := X0.leave (v := some (.int (1 : Int32))) (fun h => by rw [Bd.returns] at h; cases h)
      refine ⟨_, _, pre41 _ ?_, hrun, hended, _, _, rfl, ?_, ⟨_, rfl⟩, hW, hsame.mono (by decide) (by decide)⟩
      · show Steps p.tables e below (s₁.setTop (mkF m 11 #[.val (.int p1)] [(.int (11 : Int32)), (.int p1)])) _
        refine XS.icmpNo X0.here hx rfl (hb hby d2_11) rfl (teq hc11_40).2 ?_
        refine XS.iconst X0.here hx rfl (hb hby d2_14) ?_
        exact retN X0 hx (t := .boolean) Bd.returns (by simp) (hb hby d2_15) hr
      · show Q_rm2 Z p1 h0 n0 _ s₁.heap _
        rw [e0]
        exact ⟨(by simp only [own_isp, if_neg hc3_38, if_pos hc11_40]), N0, rfl⟩
    · have pre43 : ∀ t, Steps p.tables e below (s₁.setTop (mkF m 19 #[.val (.int p1)] [(.int (12 : Int32)), (.int p1)])) t → Steps p.tables e below (s₁.setTop (entryFrame m #[(.int p1)] 1)) t := by
        intro t kt
        refine pre41 _ ?_
        show Steps p.tables e below (s₁.setTop (mkF m 11 #[.val (.int p1)] [(.int (11 : Int32)), (.int p1)])) _
        refine XS.icmpYes X0.here hx rfl (pc0 := 11) (pc' := 16) rfl (hb hby d2_11) rfl (feq hc11_40).2 (by decide) (by decide) ?_
        refine XS.iloadN X0.here hx rfl (hb hby d2_16) rfl ?_
        refine XS.bipush X0.here hx rfl (hb hby d2_17) ?_
        show Steps p.tables e below (s₁.setTop (mkF m 19 #[.val (.int p1)] [(.int (12 : Int32)), (.int p1)])) _
        exact kt
      by_cases hc19_42 : p1 = (12 : Int32)
      · obtain ⟨fs, hr, hrun, hended, hW, hsame⟩ := X0.leave (v := some (.int (1 : Int32))) (fun h => by rw [Bd.returns] at h; cases h)
        refine ⟨_, _, pre43 _ ?_, hrun, hended, _, _, rfl, ?_, ⟨_, rfl⟩, hW, hsame.mono (by decide) (by decide)⟩
        · show Steps p.tables e below (s₁.setTop (mkF m 19 #[.val (.int p1)] [(.int (12 : Int32)), (.int p1)])) _
          refine XS.icmpNo X0.here hx rfl (hb hby d2_19) rfl (teq hc19_42).2 ?_
          refine XS.iconst X0.here hx rfl (hb hby d2_22) ?_
          exact retN X0 hx (t := .boolean) Bd.returns (by simp) (hb hby d2_23) hr
        · show Q_rm2 Z p1 h0 n0 _ s₁.heap _
          rw [e0]
          exact ⟨(by simp only [own_isp, if_neg hc3_38, if_neg hc11_40, if_pos hc19_42]), N0, rfl⟩
      · obtain ⟨fs, hr, hrun, hended, hW, hsame⟩ := X0.leave (v := some (.int (0 : Int32))) (fun h => by rw [Bd.returns] at h; cases h)
        refine ⟨_, _, pre43 _ ?_, hrun, hended, _, _, rfl, ?_, ⟨_, rfl⟩, hW, hsame.mono (by decide) (by decide)⟩
        · show Steps p.tables e below (s₁.setTop (mkF m 19 #[.val (.int p1)] [(.int (12 : Int32)), (.int p1)])) _
          refine XS.icmpYes X0.here hx rfl (pc0 := 19) (pc' := 24) rfl (hb hby d2_19) rfl (feq hc19_42).2 (by decide) (by decide) ?_
          refine XS.iconst X0.here hx rfl (hb hby d2_24) ?_
          exact retN X0 hx (t := .boolean) Bd.returns (by simp) (hb hby d2_25) hr
        · show Q_rm2 Z p1 h0 n0 _ s₁.heap _
          rw [e0]
          exact ⟨(by simp only [own_isp, if_neg hc3_38, if_neg hc11_40, if_neg hc19_42]), N0, rfl⟩
theorem d3_0 : decode prog_11_method_9_code 0 = .ok (.aload_n 0, 1) := by decide +kernel
theorem d3_1 : decode prog_11_method_9_code 1 = .ok (.getfield 78, 3) := by decide +kernel
theorem wd_16 {a0 : Array Value} {Z : State} (hw : ∀ d ∈ tables_1, d.before a0 Z = true) : (Jvm.Cond.fieldLink "com/example/potager/potager/model/Rank" (78 : Nat) "com/example/potager/potager/model/Rank" "value" "I").before a0 Z = true := hw _ (List.mem_of_getElem? (i := 16) rfl)
theorem d3_4 : decode prog_11_method_9_code 4 = .ok (.ifCond .ne 7, 3) := by decide +kernel
theorem d3_7 : decode prog_11_method_9_code 7 = .ok (.iconst 1, 1) := by decide +kernel
theorem d3_8 : decode prog_11_method_9_code 8 = .ok (.goto 4, 3) := by decide +kernel
theorem d3_12 : decode prog_11_method_9_code 12 = .ok (.ireturn, 1) := by decide +kernel
theorem d3_11 : decode prog_11_method_9_code 11 = .ok (.iconst 0, 1) := by decide +kernel
theorem ef_3 (m : MethodId) (x0 : Addr) : entryFrame m #[(.ref x0)] 1 = mkF m 0 #[.val (.ref x0)] [] := by first | (simp [entryFrame, mkF, argsToLocals, Value.category]; done) | rfl
theorem pn_com_example_potager_potager_model_Rank : plainName "com/example/potager/potager/model/Rank" = true := by first | (simp [plainName, overriddenIn]; done) | decide +kernel
def Q_rm3 (Z : State) (a1 : Addr) (w : Int32) (h0 : Heap) (n0 : Nat) (v : Option Value) (h : Heap) (L : List Loc) : Prop := v = some (.int (if w = (0 : Int32) then (1 : Int32) else (0 : Int32))) ∧ Fr n0 L ∧ h = h0
set_option maxRecDepth 65536 in
set_option maxHeartbeats 40000000 in
theorem rm3 (l : Launch) (Z : State) (a0 : Array Value) (hw : ∀ d ∈ tables_1, d.before a0 Z = true) (ws : List Jvm.Cond) (a1 : Addr) (w : Int32) (h0 : Heap) (n0 : Nat) (Z0 : n0 ≤ h0.size) (F_value_a1 : Fld Z h0 a1 "com/example/potager/potager/model/Rank" "value" "I" (.int w)) :
    MetFree l (⟨"com/example/potager/potager/model/Rank", "special", "()Z"⟩ : MethodName) (head1 (Jvm.Cond.code (⟨"com/example/potager/potager/model/Rank", "special", "()Z"⟩ : MethodName) prog_11_method_9_code 1 (some .boolean) :: ws) ({ frames := 0, cells := 0, slots := 0, locals := 0 } : Room)) (fun a U => a = #[(.ref a1)] ∧ Z.Warmed39 U.vm ∧ U.heap = h0) (fun _ _ _ _ _ => True) (fun _ U o U' => ∃ v L, o = .returned v ∧ Q_rm3 Z a1 w h0 n0 v U'.heap L ∧ FrameEnd U o U' L ({ frames := 0, cells := 0, slots := 0, locals := 0 } : Room).cells ({ frames := 0, cells := 0, slots := 0, locals := 0 } : Room).slots) := by
  refine MetFree.of_bodySF (plainFor_of_name pn_com_example_potager_potager_model_Rank) hisR ?_
  intro p e s m args below meth c s₁ Bd hml0 hP hK
  obtain ⟨rfl, hZ, hh⟩ := hP
  have hx := Bd.exec
  have hby := Bd.bytes
  have hml : c.maxLocals = 1 := hml0
  have hown : s.vm.findClass "com/example/potager/potager/model/Rank" = some m.cls := findClass_of_methodNamed Bd.named
  have hnm := (name_of_methodNamed Bd.named Bd.method).1
  have X0 : Stand p l e ({ frames := 0, cells := 0, slots := 0, locals := 0 } : Room) s m #[(.ref a1)] below meth c s₁ [] 0 0 := Stand.of_body Bd
  have e0 : s₁.heap = h0 := by rw [← hh, Bd.state]; rfl
  have N0 := Fr.nil n0
  have pre0 : ∀ t, Steps p.tables e below (s₁.setTop (mkF m 0 #[.val (.ref a1)] [])) t → Steps p.tables e below (s₁.setTop (entryFrame m #[(.ref a1)] 1)) t := fun t k => castTop (ef_3 m a1) k
  obtain ⟨T44, X44, e44, st44⟩ := getF X0 hx hZ hown (host := "") (Or.inl (wd_16 hw)) Via.refl e0 F_value_a1 (g := (mkF m 1 #[.val (.ref a1)] [(.ref a1)])) rfl rfl (hb hby d3_1)
  have pre46 : ∀ t, Steps p.tables e below (T44.setTop (mkF m 4 #[.val (.ref a1)] [(.int w)])) t → Steps p.tables e below (s₁.setTop (entryFrame m #[(.ref a1)] 1)) t := by
    intro t kt
    refine pre0 _ ?_
    show Steps p.tables e below (s₁.setTop (mkF m 0 #[.val (.ref a1)] [])) _
    refine XS.aloadN X0.here hx rfl (hb hby d3_0) rfl rfl ?_
    refine st44 _ ?_
    exact kt
  by_cases hc4_45 : w = (0 : Int32)
  · obtain ⟨fs, hr, hrun, hended, hW, hsame⟩ := X44.leave (v := some (.int (1 : Int32))) (fun h => by rw [Bd.returns] at h; cases h)
    refine ⟨_, _, pre46 _ ?_, hrun, hended, _, _, rfl, ?_, ⟨_, rfl⟩, hW, hsame.mono (by decide) (by decide)⟩
    · show Steps p.tables e below (T44.setTop (mkF m 4 #[.val (.ref a1)] [(.int w)])) _
      refine XS.ifNo X44.here hx rfl (hb hby d3_4) rfl ((if0 _ _).trans (teq hc4_45).2) ?_
      refine XS.iconst X44.here hx rfl (hb hby d3_7) ?_
      show Steps p.tables e below (T44.setTop (mkF m 8 #[.val (.ref a1)] [(.int (1 : Int32))])) _
      refine XS.goto X44.here hx rfl (pc0 := 8) (pc' := 12) rfl (hb hby d3_8) (by decide) (by decide) ?_
      exact retN X44 hx (t := .boolean) Bd.returns (by simp) (hb hby d3_12) hr
    · show Q_rm3 Z a1 w h0 n0 _ T44.heap _
      rw [e44]
      exact ⟨(by simp only [if_pos hc4_45]), N0, rfl⟩
  · obtain ⟨fs, hr, hrun, hended, hW, hsame⟩ := X44.leave (v := some (.int (0 : Int32))) (fun h => by rw [Bd.returns] at h; cases h)
    refine ⟨_, _, pre46 _ ?_, hrun, hended, _, _, rfl, ?_, ⟨_, rfl⟩, hW, hsame.mono (by decide) (by decide)⟩
    · show Steps p.tables e below (T44.setTop (mkF m 4 #[.val (.ref a1)] [(.int w)])) _
      refine XS.ifYes X44.here hx rfl (pc0 := 4) (pc' := 11) rfl (hb hby d3_4) rfl ((if0 _ _).trans (feq hc4_45).2) (by decide) (by decide) ?_
      refine XS.iconst X44.here hx rfl (hb hby d3_11) ?_
      show Steps p.tables e below (T44.setTop (mkF m 12 #[.val (.ref a1)] [(.int (0 : Int32))])) _
      exact retN X44 hx (t := .boolean) Bd.returns (by simp) (hb hby d3_12) hr
    · show Q_rm3 Z a1 w h0 n0 _ T44.heap _
      rw [e44]
      exact ⟨(by simp only [if_neg hc4_45]), N0, rfl⟩
theorem wd_0 {a0 : Array Value} {Z : State} (hw : ∀ d ∈ tables_1, d.before a0 Z = true) : (Jvm.Cond.constant "com/example/potager/potager/model/RankSpecialPinLaw" (7 : Nat) (2147483647 : Int32)).before a0 Z = true := hw _ (List.mem_of_getElem? (i := 0) rfl)
theorem wd_1 {a0 : Array Value} {Z : State} (hw : ∀ d ∈ tables_1, d.before a0 Z = true) : (Jvm.Cond.methodLink "com/example/potager/potager/model/RankSpecialPinLaw" (8 : Nat) ({ cls := "com/example/potager/potager/model/RankSpecialPinLaw", name := "pick", desc := "(I)Lcom/example/potager/potager/model/Rank;" } : Jvm.MethodName)).before a0 Z = true := hw _ (List.mem_of_getElem? (i := 1) rfl)
theorem wd_4 {a0 : Array Value} {Z : State} (hw : ∀ d ∈ tables_1, d.before a0 Z = true) : (Jvm.Cond.code ({ cls := "com/example/potager/potager/model/RankSpecialPinLaw", name := "pick", desc := "(I)Lcom/example/potager/potager/model/Rank;" } : Jvm.MethodName) method_4_code (1 : Nat) (Option.some (Jvm.ClassFile.FieldType.object "com/example/potager/potager/model/Rank"))).before a0 Z = true := hw _ (List.mem_of_getElem? (i := 4) rfl)
theorem wd_3 {a0 : Array Value} {Z : State} (hw : ∀ d ∈ tables_1, d.before a0 Z = true) : (Jvm.Cond.initialized "com/example/potager/potager/model/RankSpecialPinLaw").before a0 Z = true := hw _ (List.mem_of_getElem? (i := 3) rfl)
theorem pd__I_Lcom_example_potager_potager_model_Rank_ : parseMethodDescriptor "(I)Lcom/example/potager/potager/model/Rank;" = some ⟨[.int], some (.object "com/example/potager/potager/model/Rank")⟩ := by decide +kernel
theorem wd_2 {a0 : Array Value} {Z : State} (hw : ∀ d ∈ tables_1, d.before a0 Z = true) : (Jvm.Cond.static ({ cls := "com/example/potager/potager/model/RankSpecialPinLaw", name := "pick", desc := "(I)Lcom/example/potager/potager/model/Rank;" } : Jvm.MethodName)).before a0 Z = true := hw _ (List.mem_of_getElem? (i := 2) rfl)
theorem wd_8 {a0 : Array Value} {Z : State} (hw : ∀ d ∈ tables_1, d.before a0 Z = true) : (Jvm.Cond.methodLink "com/example/potager/potager/model/RankSpecialPinLaw" (14 : Nat) ({ cls := "com/example/potager/potager/model/RankSpecialPinLaw", name := "isSpecialIndex", desc := "(I)Z" } : Jvm.MethodName)).before a0 Z = true := hw _ (List.mem_of_getElem? (i := 8) rfl)
theorem wd_10 {a0 : Array Value} {Z : State} (hw : ∀ d ∈ tables_1, d.before a0 Z = true) : (Jvm.Cond.code ({ cls := "com/example/potager/potager/model/RankSpecialPinLaw", name := "isSpecialIndex", desc := "(I)Z" } : Jvm.MethodName) method_3_code (1 : Nat) (Option.some Jvm.ClassFile.FieldType.boolean)).before a0 Z = true := hw _ (List.mem_of_getElem? (i := 10) rfl)
theorem pd__I_Z : parseMethodDescriptor "(I)Z" = some ⟨[.int], some .boolean⟩ := by decide +kernel
theorem wd_9 {a0 : Array Value} {Z : State} (hw : ∀ d ∈ tables_1, d.before a0 Z = true) : (Jvm.Cond.static ({ cls := "com/example/potager/potager/model/RankSpecialPinLaw", name := "isSpecialIndex", desc := "(I)Z" } : Jvm.MethodName)).before a0 Z = true := hw _ (List.mem_of_getElem? (i := 9) rfl)
theorem wd_11 {a0 : Array Value} {Z : State} (hw : ∀ d ∈ tables_1, d.before a0 Z = true) : (Jvm.Cond.methodLink "com/example/potager/potager/model/RankSpecialPinLaw" (18 : Nat) ({ cls := "com/example/potager/potager/model/Rank", name := "special", desc := "()Z" } : Jvm.MethodName)).before a0 Z = true := hw _ (List.mem_of_getElem? (i := 11) rfl)
theorem wd_15 {a0 : Array Value} {Z : State} (hw : ∀ d ∈ tables_1, d.before a0 Z = true) : (Jvm.Cond.code ({ cls := "com/example/potager/potager/model/Rank", name := "special", desc := "()Z" } : Jvm.MethodName) prog_11_method_9_code (1 : Nat) (Option.some Jvm.ClassFile.FieldType.boolean)).before a0 Z = true := hw _ (List.mem_of_getElem? (i := 15) rfl)
theorem wd_6 {a0 : Array Value} {Z : State} (hw : ∀ d ∈ tables_1, d.before a0 Z = true) : (Jvm.Cond.initialized "com/example/potager/potager/model/Rank").before a0 Z = true := hw _ (List.mem_of_getElem? (i := 6) rfl)
theorem pd___Z : parseMethodDescriptor "()Z" = some ⟨[], some .boolean⟩ := by decide +kernel
theorem wd_14 {a0 : Array Value} {Z : State} (hw : ∀ d ∈ tables_1, d.before a0 Z = true) : (Jvm.Cond.selects "com/example/potager/potager/model/Rank" ({ cls := "com/example/potager/potager/model/Rank", name := "special", desc := "()Z" } : Jvm.MethodName) ({ cls := "com/example/potager/potager/model/Rank", name := "special", desc := "()Z" } : Jvm.MethodName)).before a0 Z = true := hw _ (List.mem_of_getElem? (i := 14) rfl)
theorem wd_12 {a0 : Array Value} {Z : State} (hw : ∀ d ∈ tables_1, d.before a0 Z = true) : (Jvm.Cond.declares ({ cls := "com/example/potager/potager/model/Rank", name := "special", desc := "()Z" } : Jvm.MethodName)).before a0 Z = true := hw _ (List.mem_of_getElem? (i := 12) rfl)
theorem wd_13 {a0 : Array Value} {Z : State} (hw : ∀ d ∈ tables_1, d.before a0 Z = true) : (Jvm.Cond.instanceMethod ({ cls := "com/example/potager/potager/model/Rank", name := "special", desc := "()Z" } : Jvm.MethodName)).before a0 Z = true := hw _ (List.mem_of_getElem? (i := 13) rfl)
theorem ef_0 (m : MethodId) (x0 : Int32) : entryFrame m #[(.int x0)] maxLocals = mkF m 0 #[.val (.int x0), .unset, .unset, .unset] [] := by first | (simp [entryFrame, mkF, argsToLocals, Value.category, maxLocals]; done) | rfl
def Q_rm0 (Z : State) (p1 : Int32) (w0 : Addr) (w1 : Addr) (w2 : Addr) (w3 : Addr) (w4 : Addr) (w5 : Addr) (w6 : Addr) (w7 : Addr) (w8 : Addr) (w9 : Addr) (w10 : Addr) (w11 : Addr) (w12 : Addr) (h0 : Heap) (n0 : Nat) (v : Option Value) (h : Heap) (L : List Loc) : Prop := v = some (.int (1 : Int32)) ∧ Fr n0 L ∧ True
set_option maxRecDepth 65536 in
set_option maxHeartbeats 40000000 in
theorem rm0 (l : Launch) (Z : State) (a0 : Array Value) (hw : ∀ d ∈ tables_1, d.before a0 Z = true) (ws : List Jvm.Cond) (p1 : Int32) (w0 : Addr) (w1 : Addr) (w2 : Addr) (w3 : Addr) (w4 : Addr) (w5 : Addr) (w6 : Addr) (w7 : Addr) (w8 : Addr) (w9 : Addr) (w10 : Addr) (w11 : Addr) (w12 : Addr) (h0 : Heap) (n0 : Nat) (Z0 : n0 ≤ h0.size) (S_ONE : Sta Z h0 "com/example/potager/potager/model/Rank" "ONE" "Lcom/example/potager/potager/model/Rank;" (.ref w0)) (S_TWO : Sta Z h0 "com/example/potager/potager/model/Rank" "TWO" "Lcom/example/potager/potager/model/Rank;" (.ref w1)) (S_THREE : Sta Z h0 "com/example/potager/potager/model/Rank" "THREE" "Lcom/example/potager/potager/model/Rank;" (.ref w2)) (S_FOUR : Sta Z h0 "com/example/potager/potager/model/Rank" "FOUR" "Lcom/example/potager/potager/model/Rank;" (.ref w3)) (S_FIVE : Sta Z h0 "com/example/potager/potager/model/Rank" "FIVE" "Lcom/example/potager/potager/model/Rank;" (.ref w4)) (S_SIX : Sta Z h0 "com/example/potager/potager/model/Rank" "SIX" "Lcom/example/potager/potager/model/Rank;" (.ref w5)) (S_SEVEN : Sta Z h0 "com/example/potager/potager/model/Rank" "SEVEN" "Lcom/example/potager/potager/model/Rank;" (.ref w6)) (S_EIGHT : Sta Z h0 "com/example/potager/potager/model/Rank" "EIGHT" "Lcom/example/potager/potager/model/Rank;" (.ref w7)) (S_NINE : Sta Z h0 "com/example/potager/potager/model/Rank" "NINE" "Lcom/example/potager/potager/model/Rank;" (.ref w8)) (S_TEN : Sta Z h0 "com/example/potager/potager/model/Rank" "TEN" "Lcom/example/potager/potager/model/Rank;" (.ref w9)) (S_DOUBLE : Sta Z h0 "com/example/potager/potager/model/Rank" "DOUBLE" "Lcom/example/potager/potager/model/Rank;" (.ref w10)) (S_MINUS : Sta Z h0 "com/example/potager/potager/model/Rank" "MINUS" "Lcom/example/potager/potager/model/Rank;" (.ref w11)) (S_ZERO : Sta Z h0 "com/example/potager/potager/model/Rank" "ZERO" "Lcom/example/potager/potager/model/Rank;" (.ref w12)) (E_w0 : Exa Z h0 w0 "com/example/potager/potager/model/Rank") (E_w1 : Exa Z h0 w1 "com/example/potager/potager/model/Rank") (E_w2 : Exa Z h0 w2 "com/example/potager/potager/model/Rank") (E_w3 : Exa Z h0 w3 "com/example/potager/potager/model/Rank") (E_w4 : Exa Z h0 w4 "com/example/potager/potager/model/Rank") (E_w5 : Exa Z h0 w5 "com/example/potager/potager/model/Rank") (E_w6 : Exa Z h0 w6 "com/example/potager/potager/model/Rank") (E_w7 : Exa Z h0 w7 "com/example/potager/potager/model/Rank") (E_w8 : Exa Z h0 w8 "com/example/potager/potager/model/Rank") (E_w9 : Exa Z h0 w9 "com/example/potager/potager/model/Rank") (E_w10 : Exa Z h0 w10 "com/example/potager/potager/model/Rank") (E_w11 : Exa Z h0 w11 "com/example/potager/potager/model/Rank") (E_w12 : Exa Z h0 w12 "com/example/potager/potager/model/Rank") (F_value_w0 : Fld Z h0 w0 "com/example/potager/potager/model/Rank" "value" "I" (.int (1 : Int32))) (F_value_w1 : Fld Z h0 w1 "com/example/potager/potager/model/Rank" "value" "I" (.int (2 : Int32))) (F_value_w2 : Fld Z h0 w2 "com/example/potager/potager/model/Rank" "value" "I" (.int (3 : Int32))) (F_value_w3 : Fld Z h0 w3 "com/example/potager/potager/model/Rank" "value" "I" (.int (4 : Int32))) (F_value_w4 : Fld Z h0 w4 "com/example/potager/potager/model/Rank" "value" "I" (.int (5 : Int32))) (F_value_w5 : Fld Z h0 w5 "com/example/potager/potager/model/Rank" "value" "I" (.int (6 : Int32))) (F_value_w6 : Fld Z h0 w6 "com/example/potager/potager/model/Rank" "value" "I" (.int (7 : Int32))) (F_value_w7 : Fld Z h0 w7 "com/example/potager/potager/model/Rank" "value" "I" (.int (8 : Int32))) (F_value_w8 : Fld Z h0 w8 "com/example/potager/potager/model/Rank" "value" "I" (.int (9 : Int32))) (F_value_w9 : Fld Z h0 w9 "com/example/potager/potager/model/Rank" "value" "I" (.int (10 : Int32))) (F_value_w10 : Fld Z h0 w10 "com/example/potager/potager/model/Rank" "value" "I" (.int (0 : Int32))) (F_value_w11 : Fld Z h0 w11 "com/example/potager/potager/model/Rank" "value" "I" (.int (0 : Int32))) (F_value_w12 : Fld Z h0 w12 "com/example/potager/potager/model/Rank" "value" "I" (.int (0 : Int32))) :
    MetFree l x (head1 (Jvm.Cond.code x code maxLocals ret :: ws) room_1) (fun a U => a = #[(.int p1)] ∧ Z.Warmed39 U.vm ∧ U.heap = h0) (fun _ _ _ _ _ => True) (fun _ U o U' => ∃ v L, o = .returned v ∧ Q_rm0 Z p1 w0 w1 w2 w3 w4 w5 w6 w7 w8 w9 w10 w11 w12 h0 n0 v U'.heap L ∧ FrameEnd U o U' L room_1.cells room_1.slots) := by
  refine MetFree.of_bodySF (plainFor_of_name pn_com_example_potager_potager_model_RankSpecialPinLaw) hisR ?_
  intro p e s m args below meth c s₁ Bd hml0 hP hK
  obtain ⟨rfl, hZ, hh⟩ := hP
  have hx := Bd.exec
  have hby := Bd.bytes
  have hml : c.maxLocals = 4 := hml0
  have hown : s.vm.findClass "com/example/potager/potager/model/RankSpecialPinLaw" = some m.cls := findClass_of_methodNamed Bd.named
  have hnm := (name_of_methodNamed Bd.named Bd.method).1
  have X0 : Stand p l e room_1 s m #[(.int p1)] below meth c s₁ [] 0 0 := Stand.of_body Bd
  have e0 : s₁.heap = h0 := by rw [← hh, Bd.state]; rfl
  have N0 := Fr.nil n0
  have pre0 : ∀ t, Steps p.tables e below (s₁.setTop (mkF m 0 #[.val (.int p1), .unset, .unset, .unset] [])) t → Steps p.tables e below (s₁.setTop (entryFrame m #[(.int p1)] maxLocals)) t := fun t k => castTop (ef_0 m p1) k
  obtain ⟨kk, hkk⟩ : ∃ z : Int32, z = ((p1 &&& (2147483647 : Int32)) % (13 : Int32)) := ⟨_, rfl⟩
  have pre47 : ∀ t, Steps p.tables e below (s₁.setTop (mkF m 8 #[.val (.int p1), .val (.int kk), .unset, .unset] [])) t → Steps p.tables e below (s₁.setTop (entryFrame m #[(.int p1)] maxLocals)) t := by
    intro t kt
    refine pre0 _ ?_
    show Steps p.tables e below (s₁.setTop (mkF m 0 #[.val (.int p1), .unset, .unset, .unset] [])) _
    refine XS.iloadN X0.here hx rfl (hb hby at_0) rfl ?_
    refine X0.ldcInt hx hown (mvT hZ (wd_0 hw)) (g := (mkF m 1 #[.val (.int p1), .unset, .unset, .unset] [(.int p1)])) rfl (hb hby at_1) _ ?_
    refine XS.iand X0.here hx rfl (hb hby at_3) rfl ?_
    refine XS.bipush X0.here hx rfl (hb hby at_4) ?_
    show Steps p.tables e below (s₁.setTop (mkF m 6 #[.val (.int p1), .unset, .unset, .unset] [(.int (13 : Int32)), (.int (p1 &&& (2147483647 : Int32)))])) _
    refine iremM (g := (mkF m 6 #[.val (.int p1), .unset, .unset, .unset] [(.int (13 : Int32)), (.int (p1 &&& (2147483647 : Int32)))])) X0 hx rfl (hb hby at_6) rfl (by decide) ?_
    refine XS.istoreN X0.here hx rfl (hb hby at_7) rfl (l' := #[.val (.int p1), .val (.int ((p1 &&& (2147483647 : Int32)) % (13 : Int32))), .unset, .unset]) rfl ?_
    rw [← hkk]
    exact kt
  have h13 := own_k13 p1
  rw [← hkk] at h13
  clear hkk
  rcases h13 with rfl | rfl | rfl | rfl | rfl | rfl | rfl | rfl | rfl | rfl | rfl | rfl | rfl
  · obtain ⟨_, _, ⟨T48, L48, k48, n48⟩, -, X48, ⟨Lc48, hQ48, l48, y48, z48⟩, st48⟩ := Jvm.LawKit.callS X0 hx (y := (⟨"com/example/potager/potager/model/RankSpecialPinLaw", "pick", "(I)Lcom/example/potager/potager/model/Rank;"⟩ : MethodName)) hown (mvT hZ (wd_1 hw)) (mvT hZ (wd_2 hw)) (mvT hZ (wd_3 hw)) (mvT hZ (wd_4 hw)) (by decide) (backOf (W := 0) (rm1 l Z a0 hw [] (0 : Int32) w0 w1 w2 w3 w4 w5 w6 w7 w8 w9 w10 w11 w12 h0 n0 Z0 S_ONE S_TWO S_THREE S_FOUR S_FIVE S_SIX S_SEVEN S_EIGHT S_NINE S_TEN S_DOUBLE S_MINUS S_ZERO) hZ (wd_4 hw) (wd_3 hw) (by decide) (by decide)) (g := (mkF m 9 #[.val (.int p1), .val (.int (0 : Int32)), .unset, .unset] [(.int (0 : Int32))])) rfl (by rw [hml]; rfl) (argsL := [(.int (0 : Int32))]) (rest := []) (lenOf pd__I_Lcom_example_potager_potager_model_Rank_ rfl) rfl (by show 2 * 0 + _ ≤ _; exact Nat.le_of_eq rfl) (hb hby at_9) (fun _ _ => ⟨rfl, e0, (by decide : 0 + 0 ≤ _), (by decide : 0 + 0 ≤ _)⟩)
    dsimp only [Pt.U, Pt.locs, Pt.cells, Pt.slots] at X48 l48 y48 z48 st48 hQ48
    subst l48 y48 z48
    obtain ⟨rfl, N48q, e48⟩ := hQ48
    have N48 := Fr.app N0 N48q
    obtain ⟨_, _, ⟨T49, L49, k49, n49⟩, -, X49, ⟨Lc49, hQ49, l49, y49, z49⟩, st49⟩ := Jvm.LawKit.callS X48 hx (y := (⟨"com/example/potager/potager/model/RankSpecialPinLaw", "isSpecialIndex", "(I)Z"⟩ : MethodName)) hown (mvT hZ (wd_8 hw)) (mvT hZ (wd_9 hw)) (mvT hZ (wd_3 hw)) (mvT hZ (wd_10 hw)) (by decide) (backOf (W := 0) (rm2 l Z a0 hw [] (0 : Int32) h0 n0 Z0) hZ (wd_10 hw) (wd_3 hw) (by decide) (by decide)) (g := (mkF m 14 #[.val (.int p1), .val (.int (0 : Int32)), .val (.ref w0), .unset] [(.int (0 : Int32))])) rfl (by rw [hml]; rfl) (argsL := [(.int (0 : Int32))]) (rest := []) (lenOf pd__I_Z rfl) rfl (by show 2 * 0 + _ ≤ _; exact Nat.le_of_eq rfl) (hb hby at_14) (fun _ _ => ⟨rfl, e48, (by decide : 0 + 0 ≤ _), (by decide : 0 + 0 ≤ _)⟩)
    dsimp only [Pt.U, Pt.locs, Pt.cells, Pt.slots] at X49 l49 y49 z49 st49 hQ49
    subst l49 y49 z49
    obtain ⟨rfl, N49q, e49⟩ := hQ49
    have N49 := Fr.app N48 N49q
    obtain ⟨cq50, kq50, q50a, q50b, q50c⟩ := isOf hZ e49 (E_w0)
    obtain ⟨_, _, ⟨T50, L50, k50, n50⟩, -, X50, ⟨Lc50, hQ50, l50, y50, z50⟩, st50⟩ := X49.virtualBack hx (y := (⟨"com/example/potager/potager/model/Rank", "special", "()Z"⟩ : MethodName)) (z := (⟨"com/example/potager/potager/model/Rank", "special", "()Z"⟩ : MethodName)) hown (mvT hZ (wd_11 hw)) (mvT hZ (wd_12 hw)) (notFace_of_selects (args := #[]) (mvT hZ (wd_14 hw))) (mvT hZ (wd_14 hw)) (mvT hZ (wd_13 hw)) (by decide) (backOf (W := 0) (rm3 l Z a0 hw [] w0 (1 : Int32) h0 n0 Z0 F_value_w0) hZ (wd_15 hw) (wd_6 hw) (by decide) (by decide)) q50a q50c (g := (mkF m 19 #[.val (.int p1), .val (.int (0 : Int32)), .val (.ref w0), .val (.int (0 : Int32))] [(.ref w0)])) rfl (by rw [hml]; rfl) (Steps.refl _) (argsL := []) (rest := []) (lenOf pd___Z rfl) rfl (by show 2 * 0 + _ ≤ _; exact Nat.le_of_eq rfl) (hb hby at_19) (fun _ _ => ⟨rfl, e49, (by decide : 0 + 0 ≤ _), (by decide : 0 + 0 ≤ _)⟩)
    dsimp only [Pt.U, Pt.locs, Pt.cells, Pt.slots] at X50 l50 y50 z50 st50 hQ50
    subst l50 y50 z50
    obtain ⟨rfl, N50q, e50⟩ := hQ50
    have N50 := Fr.app N49 N50q
    obtain ⟨fs, hr, hrun, hended, hW, hsame⟩ := X50.leave (v := some (.int (1 : Int32))) (fun h => by rw [Bd.returns] at h; cases h)
    refine ⟨_, _, pre47 _ ?_, hrun, hended, _, _, rfl, ?_, ⟨_, rfl⟩, hW, hsame.mono (by decide) (by decide)⟩
    · show Steps p.tables e below (s₁.setTop (mkF m 8 #[.val (.int p1), .val (.int (0 : Int32)), .unset, .unset] [])) _
      refine XS.iloadN X0.here hx rfl (hb hby at_8) rfl ?_
      refine st48 _ ?_
      show Steps p.tables e below (T48.setTop (mkF m 12 #[.val (.int p1), .val (.int (0 : Int32)), .unset, .unset] [(.ref w0)])) _
      refine XS.astoreN X48.here hx rfl (hb hby at_12) rfl rfl (l' := #[.val (.int p1), .val (.int (0 : Int32)), .val (.ref w0), .unset]) rfl ?_
      refine XS.iloadN X48.here hx rfl (hb hby at_13) rfl ?_
      refine st49 _ ?_
      show Steps p.tables e below (T49.setTop (mkF m 17 #[.val (.int p1), .val (.int (0 : Int32)), .val (.ref w0), .unset] [(.int (0 : Int32))])) _
      refine XS.istoreN X49.here hx rfl (hb hby at_17) rfl (l' := #[.val (.int p1), .val (.int (0 : Int32)), .val (.ref w0), .val (.int (0 : Int32))]) rfl ?_
      refine XS.aloadN X49.here hx rfl (hb hby at_18) rfl rfl ?_
      refine st50.trans ?_
      show Steps p.tables e below (T50.setTop (mkF m 22 #[.val (.int p1), .val (.int (0 : Int32)), .val (.ref w0), .val (.int (0 : Int32))] [(.int (0 : Int32))])) _
      refine XS.iloadN X50.here hx rfl (hb hby at_22) rfl ?_
      refine XS.icmpNo X50.here hx rfl (hb hby at_23) rfl (teq (rfl : (0 : Int32) = (0 : Int32))).2 ?_
      refine XS.iconst X50.here hx rfl (hb hby at_26) ?_
      refine XS.goto X50.here hx rfl (pc0 := 27) (pc' := 31) rfl (hb hby at_27) (by decide) (by decide) ?_
      show Steps p.tables e below (T50.setTop (mkF m 31 #[.val (.int p1), .val (.int (0 : Int32)), .val (.ref w0), .val (.int (0 : Int32))] [(.int (1 : Int32))])) _
      exact retN X50 hx (t := .boolean) Bd.returns (by simp) (hb hby at_31) hr
    · show Q_rm0 Z p1 w0 w1 w2 w3 w4 w5 w6 w7 w8 w9 w10 w11 w12 h0 n0 _ T50.heap _
      rw [e50]
      exact ⟨rfl, N50, trivial⟩
  · obtain ⟨_, _, ⟨T51, L51, k51, n51⟩, -, X51, ⟨Lc51, hQ51, l51, y51, z51⟩, st51⟩ := Jvm.LawKit.callS X0 hx (y := (⟨"com/example/potager/potager/model/RankSpecialPinLaw", "pick", "(I)Lcom/example/potager/potager/model/Rank;"⟩ : MethodName)) hown (mvT hZ (wd_1 hw)) (mvT hZ (wd_2 hw)) (mvT hZ (wd_3 hw)) (mvT hZ (wd_4 hw)) (by decide) (backOf (W := 0) (rm1 l Z a0 hw [] (1 : Int32) w0 w1 w2 w3 w4 w5 w6 w7 w8 w9 w10 w11 w12 h0 n0 Z0 S_ONE S_TWO S_THREE S_FOUR S_FIVE S_SIX S_SEVEN S_EIGHT S_NINE S_TEN S_DOUBLE S_MINUS S_ZERO) hZ (wd_4 hw) (wd_3 hw) (by decide) (by decide)) (g := (mkF m 9 #[.val (.int p1), .val (.int (1 : Int32)), .unset, .unset] [(.int (1 : Int32))])) rfl (by rw [hml]; rfl) (argsL := [(.int (1 : Int32))]) (rest := []) (lenOf pd__I_Lcom_example_potager_potager_model_Rank_ rfl) rfl (by show 2 * 0 + _ ≤ _; exact Nat.le_of_eq rfl) (hb hby at_9) (fun _ _ => ⟨rfl, e0, (by decide : 0 + 0 ≤ _), (by decide : 0 + 0 ≤ _)⟩)
    dsimp only [Pt.U, Pt.locs, Pt.cells, Pt.slots] at X51 l51 y51 z51 st51 hQ51
    subst l51 y51 z51
    obtain ⟨rfl, N51q, e51⟩ := hQ51
    have N51 := Fr.app N0 N51q
    obtain ⟨_, _, ⟨T52, L52, k52, n52⟩, -, X52, ⟨Lc52, hQ52, l52, y52, z52⟩, st52⟩ := Jvm.LawKit.callS X51 hx (y := (⟨"com/example/potager/potager/model/RankSpecialPinLaw", "isSpecialIndex", "(I)Z"⟩ : MethodName)) hown (mvT hZ (wd_8 hw)) (mvT hZ (wd_9 hw)) (mvT hZ (wd_3 hw)) (mvT hZ (wd_10 hw)) (by decide) (backOf (W := 0) (rm2 l Z a0 hw [] (1 : Int32) h0 n0 Z0) hZ (wd_10 hw) (wd_3 hw) (by decide) (by decide)) (g := (mkF m 14 #[.val (.int p1), .val (.int (1 : Int32)), .val (.ref w1), .unset] [(.int (1 : Int32))])) rfl (by rw [hml]; rfl) (argsL := [(.int (1 : Int32))]) (rest := []) (lenOf pd__I_Z rfl) rfl (by show 2 * 0 + _ ≤ _; exact Nat.le_of_eq rfl) (hb hby at_14) (fun _ _ => ⟨rfl, e51, (by decide : 0 + 0 ≤ _), (by decide : 0 + 0 ≤ _)⟩)
    dsimp only [Pt.U, Pt.locs, Pt.cells, Pt.slots] at X52 l52 y52 z52 st52 hQ52
    subst l52 y52 z52
    obtain ⟨rfl, N52q, e52⟩ := hQ52
    have N52 := Fr.app N51 N52q
    obtain ⟨cq53, kq53, q53a, q53b, q53c⟩ := isOf hZ e52 (E_w1)
    obtain ⟨_, _, ⟨T53, L53, k53, n53⟩, -, X53, ⟨Lc53, hQ53, l53, y53, z53⟩, st53⟩ := X52.virtualBack hx (y := (⟨"com/example/potager/potager/model/Rank", "special", "()Z"⟩ : MethodName)) (z := (⟨"com/example/potager/potager/model/Rank", "special", "()Z"⟩ : MethodName)) hown (mvT hZ (wd_11 hw)) (mvT hZ (wd_12 hw)) (notFace_of_selects (args := #[]) (mvT hZ (wd_14 hw))) (mvT hZ (wd_14 hw)) (mvT hZ (wd_13 hw)) (by decide) (backOf (W := 0) (rm3 l Z a0 hw [] w1 (2 : Int32) h0 n0 Z0 F_value_w1) hZ (wd_15 hw) (wd_6 hw) (by decide) (by decide)) q53a q53c (g := (mkF m 19 #[.val (.int p1), .val (.int (1 : Int32)), .val (.ref w1), .val (.int (0 : Int32))] [(.ref w1)])) rfl (by rw [hml]; rfl) (Steps.refl _) (argsL := []) (rest := []) (lenOf pd___Z rfl) rfl (by show 2 * 0 + _ ≤ _; exact Nat.le_of_eq rfl) (hb hby at_19) (fun _ _ => ⟨rfl, e52, (by decide : 0 + 0 ≤ _), (by decide : 0 + 0 ≤ _)⟩)
    dsimp only [Pt.U, Pt.locs, Pt.cells, Pt.slots] at X53 l53 y53 z53 st53 hQ53
    subst l53 y53 z53
    obtain ⟨rfl, N53q, e53⟩ := hQ53
    have N53 := Fr.app N52 N53q
    obtain ⟨fs, hr, hrun, hended, hW, hsame⟩ := X53.leave (v := some (.int (1 : Int32))) (fun h => by rw [Bd.returns] at h; cases h)
    refine ⟨_, _, pre47 _ ?_, hrun, hended, _, _, rfl, ?_, ⟨_, rfl⟩, hW, hsame.mono (by decide) (by decide)⟩
    · show Steps p.tables e below (s₁.setTop (mkF m 8 #[.val (.int p1), .val (.int (1 : Int32)), .unset, .unset] [])) _
      refine XS.iloadN X0.here hx rfl (hb hby at_8) rfl ?_
      refine st51 _ ?_
      show Steps p.tables e below (T51.setTop (mkF m 12 #[.val (.int p1), .val (.int (1 : Int32)), .unset, .unset] [(.ref w1)])) _
      refine XS.astoreN X51.here hx rfl (hb hby at_12) rfl rfl (l' := #[.val (.int p1), .val (.int (1 : Int32)), .val (.ref w1), .unset]) rfl ?_
      refine XS.iloadN X51.here hx rfl (hb hby at_13) rfl ?_
      refine st52 _ ?_
      show Steps p.tables e below (T52.setTop (mkF m 17 #[.val (.int p1), .val (.int (1 : Int32)), .val (.ref w1), .unset] [(.int (0 : Int32))])) _
      refine XS.istoreN X52.here hx rfl (hb hby at_17) rfl (l' := #[.val (.int p1), .val (.int (1 : Int32)), .val (.ref w1), .val (.int (0 : Int32))]) rfl ?_
      refine XS.aloadN X52.here hx rfl (hb hby at_18) rfl rfl ?_
      refine st53.trans ?_
      show Steps p.tables e below (T53.setTop (mkF m 22 #[.val (.int p1), .val (.int (1 : Int32)), .val (.ref w1), .val (.int (0 : Int32))] [(.int (0 : Int32))])) _
      refine XS.iloadN X53.here hx rfl (hb hby at_22) rfl ?_
      refine XS.icmpNo X53.here hx rfl (hb hby at_23) rfl (teq (rfl : (0 : Int32) = (0 : Int32))).2 ?_
      refine XS.iconst X53.here hx rfl (hb hby at_26) ?_
      refine XS.goto X53.here hx rfl (pc0 := 27) (pc' := 31) rfl (hb hby at_27) (by decide) (by decide) ?_
      show Steps p.tables e below (T53.setTop (mkF m 31 #[.val (.int p1), .val (.int (1 : Int32)), .val (.ref w1), .val (.int (0 : Int32))] [(.int (1 : Int32))])) _
      exact retN X53 hx (t := .boolean) Bd.returns (by simp) (hb hby at_31) hr
    · show Q_rm0 Z p1 w0 w1 w2 w3 w4 w5 w6 w7 w8 w9 w10 w11 w12 h0 n0 _ T53.heap _
      rw [e53]
      exact ⟨rfl, N53, trivial⟩
  · obtain ⟨_, _, ⟨T54, L54, k54, n54⟩, -, X54, ⟨Lc54, hQ54, l54, y54, z54⟩, st54⟩ := Jvm.LawKit.callS X0 hx (y := (⟨"com/example/potager/potager/model/RankSpecialPinLaw", "pick", "(I)Lcom/example/potager/potager/model/Rank;"⟩ : MethodName)) hown (mvT hZ (wd_1 hw)) (mvT hZ (wd_2 hw)) (mvT hZ (wd_3 hw)) (mvT hZ (wd_4 hw)) (by decide) (backOf (W := 0) (rm1 l Z a0 hw [] (2 : Int32) w0 w1 w2 w3 w4 w5 w6 w7 w8 w9 w10 w11 w12 h0 n0 Z0 S_ONE S_TWO S_THREE S_FOUR S_FIVE S_SIX S_SEVEN S_EIGHT S_NINE S_TEN S_DOUBLE S_MINUS S_ZERO) hZ (wd_4 hw) (wd_3 hw) (by decide) (by decide)) (g := (mkF m 9 #[.val (.int p1), .val (.int (2 : Int32)), .unset, .unset] [(.int (2 : Int32))])) rfl (by rw [hml]; rfl) (argsL := [(.int (2 : Int32))]) (rest := []) (lenOf pd__I_Lcom_example_potager_potager_model_Rank_ rfl) rfl (by show 2 * 0 + _ ≤ _; exact Nat.le_of_eq rfl) (hb hby at_9) (fun _ _ => ⟨rfl, e0, (by decide : 0 + 0 ≤ _), (by decide : 0 + 0 ≤ _)⟩)
    dsimp only [Pt.U, Pt.locs, Pt.cells, Pt.slots] at X54 l54 y54 z54 st54 hQ54
    subst l54 y54 z54
    obtain ⟨rfl, N54q, e54⟩ := hQ54
    have N54 := Fr.app N0 N54q
    obtain ⟨_, _, ⟨T55, L55, k55, n55⟩, -, X55, ⟨Lc55, hQ55, l55, y55, z55⟩, st55⟩ := Jvm.LawKit.callS X54 hx (y := (⟨"com/example/potager/potager/model/RankSpecialPinLaw", "isSpecialIndex", "(I)Z"⟩ : MethodName)) hown (mvT hZ (wd_8 hw)) (mvT hZ (wd_9 hw)) (mvT hZ (wd_3 hw)) (mvT hZ (wd_10 hw)) (by decide) (backOf (W := 0) (rm2 l Z a0 hw [] (2 : Int32) h0 n0 Z0) hZ (wd_10 hw) (wd_3 hw) (by decide) (by decide)) (g := (mkF m 14 #[.val (.int p1), .val (.int (2 : Int32)), .val (.ref w2), .unset] [(.int (2 : Int32))])) rfl (by rw [hml]; rfl) (argsL := [(.int (2 : Int32))]) (rest := []) (lenOf pd__I_Z rfl) rfl (by show 2 * 0 + _ ≤ _; exact Nat.le_of_eq rfl) (hb hby at_14) (fun _ _ => ⟨rfl, e54, (by decide : 0 + 0 ≤ _), (by decide : 0 + 0 ≤ _)⟩)
    dsimp only [Pt.U, Pt.locs, Pt.cells, Pt.slots] at X55 l55 y55 z55 st55 hQ55
    subst l55 y55 z55
    obtain ⟨rfl, N55q, e55⟩ := hQ55
    have N55 := Fr.app N54 N55q
    obtain ⟨cq56, kq56, q56a, q56b, q56c⟩ := isOf hZ e55 (E_w2)
    obtain ⟨_, _, ⟨T56, L56, k56, n56⟩, -, X56, ⟨Lc56, hQ56, l56, y56, z56⟩, st56⟩ := X55.virtualBack hx (y := (⟨"com/example/potager/potager/model/Rank", "special", "()Z"⟩ : MethodName)) (z := (⟨"com/example/potager/potager/model/Rank", "special", "()Z"⟩ : MethodName)) hown (mvT hZ (wd_11 hw)) (mvT hZ (wd_12 hw)) (notFace_of_selects (args := #[]) (mvT hZ (wd_14 hw))) (mvT hZ (wd_14 hw)) (mvT hZ (wd_13 hw)) (by decide) (backOf (W := 0) (rm3 l Z a0 hw [] w2 (3 : Int32) h0 n0 Z0 F_value_w2) hZ (wd_15 hw) (wd_6 hw) (by decide) (by decide)) q56a q56c (g := (mkF m 19 #[.val (.int p1), .val (.int (2 : Int32)), .val (.ref w2), .val (.int (0 : Int32))] [(.ref w2)])) rfl (by rw [hml]; rfl) (Steps.refl _) (argsL := []) (rest := []) (lenOf pd___Z rfl) rfl (by show 2 * 0 + _ ≤ _; exact Nat.le_of_eq rfl) (hb hby at_19) (fun _ _ => ⟨rfl, e55, (by decide : 0 + 0 ≤ _), (by decide : 0 + 0 ≤ _)⟩)
    dsimp only [Pt.U, Pt.locs, Pt.cells, Pt.slots] at X56 l56 y56 z56 st56 hQ56
    subst l56 y56 z56
    obtain ⟨rfl, N56q, e56⟩ := hQ56
    have N56 := Fr.app N55 N56q
    obtain ⟨fs, hr, hrun, hended, hW, hsame⟩ := X56.leave (v := some (.int (1 : Int32))) (fun h => by rw [Bd.returns] at h; cases h)
    refine ⟨_, _, pre47 _ ?_, hrun, hended, _, _, rfl, ?_, ⟨_, rfl⟩, hW, hsame.mono (by decide) (by decide)⟩
    · show Steps p.tables e below (s₁.setTop (mkF m 8 #[.val (.int p1), .val (.int (2 : Int32)), .unset, .unset] [])) _
      refine XS.iloadN X0.here hx rfl (hb hby at_8) rfl ?_
      refine st54 _ ?_
      show Steps p.tables e below (T54.setTop (mkF m 12 #[.val (.int p1), .val (.int (2 : Int32)), .unset, .unset] [(.ref w2)])) _
      refine XS.astoreN X54.here hx rfl (hb hby at_12) rfl rfl (l' := #[.val (.int p1), .val (.int (2 : Int32)), .val (.ref w2), .unset]) rfl ?_
      refine XS.iloadN X54.here hx rfl (hb hby at_13) rfl ?_
      refine st55 _ ?_
      show Steps p.tables e below (T55.setTop (mkF m 17 #[.val (.int p1), .val (.int (2 : Int32)), .val (.ref w2), .unset] [(.int (0 : Int32))])) _
      refine XS.istoreN X55.here hx rfl (hb hby at_17) rfl (l' := #[.val (.int p1), .val (.int (2 : Int32)), .val (.ref w2), .val (.int (0 : Int32))]) rfl ?_
      refine XS.aloadN X55.here hx rfl (hb hby at_18) rfl rfl ?_
      refine st56.trans ?_
      show Steps p.tables e below (T56.setTop (mkF m 22 #[.val (.int p1), .val (.int (2 : Int32)), .val (.ref w2), .val (.int (0 : Int32))] [(.int (0 : Int32))])) _
      refine XS.iloadN X56.here hx rfl (hb hby at_22) rfl ?_
      refine XS.icmpNo X56.here hx rfl (hb hby at_23) rfl (teq (rfl : (0 : Int32) = (0 : Int32))).2 ?_
      refine XS.iconst X56.here hx rfl (hb hby at_26) ?_
      refine XS.goto X56.here hx rfl (pc0 := 27) (pc' := 31) rfl (hb hby at_27) (by decide) (by decide) ?_
      show Steps p.tables e below (T56.setTop (mkF m 31 #[.val (.int p1), .val (.int (2 : Int32)), .val (.ref w2), .val (.int (0 : Int32))] [(.int (1 : Int32))])) _
      exact retN X56 hx (t := .boolean) Bd.returns (by simp) (hb hby at_31) hr
    · show Q_rm0 Z p1 w0 w1 w2 w3 w4 w5 w6 w7 w8 w9 w10 w11 w12 h0 n0 _ T56.heap _
      rw [e56]
      exact ⟨rfl, N56, trivial⟩
  · obtain ⟨_, _, ⟨T57, L57, k57, n57⟩, -, X57, ⟨Lc57, hQ57, l57, y57, z57⟩, st57⟩ := Jvm.LawKit.callS X0 hx (y := (⟨"com/example/potager/potager/model/RankSpecialPinLaw", "pick", "(I)Lcom/example/potager/potager/model/Rank;"⟩ : MethodName)) hown (mvT hZ (wd_1 hw)) (mvT hZ (wd_2 hw)) (mvT hZ (wd_3 hw)) (mvT hZ (wd_4 hw)) (by decide) (backOf (W := 0) (rm1 l Z a0 hw [] (3 : Int32) w0 w1 w2 w3 w4 w5 w6 w7 w8 w9 w10 w11 w12 h0 n0 Z0 S_ONE S_TWO S_THREE S_FOUR S_FIVE S_SIX S_SEVEN S_EIGHT S_NINE S_TEN S_DOUBLE S_MINUS S_ZERO) hZ (wd_4 hw) (wd_3 hw) (by decide) (by decide)) (g := (mkF m 9 #[.val (.int p1), .val (.int (3 : Int32)), .unset, .unset] [(.int (3 : Int32))])) rfl (by rw [hml]; rfl) (argsL := [(.int (3 : Int32))]) (rest := []) (lenOf pd__I_Lcom_example_potager_potager_model_Rank_ rfl) rfl (by show 2 * 0 + _ ≤ _; exact Nat.le_of_eq rfl) (hb hby at_9) (fun _ _ => ⟨rfl, e0, (by decide : 0 + 0 ≤ _), (by decide : 0 + 0 ≤ _)⟩)
    dsimp only [Pt.U, Pt.locs, Pt.cells, Pt.slots] at X57 l57 y57 z57 st57 hQ57
    subst l57 y57 z57
    obtain ⟨rfl, N57q, e57⟩ := hQ57
    have N57 := Fr.app N0 N57q
    obtain ⟨_, _, ⟨T58, L58, k58, n58⟩, -, X58, ⟨Lc58, hQ58, l58, y58, z58⟩, st58⟩ := Jvm.LawKit.callS X57 hx (y := (⟨"com/example/potager/potager/model/RankSpecialPinLaw", "isSpecialIndex", "(I)Z"⟩ : MethodName)) hown (mvT hZ (wd_8 hw)) (mvT hZ (wd_9 hw)) (mvT hZ (wd_3 hw)) (mvT hZ (wd_10 hw)) (by decide) (backOf (W := 0) (rm2 l Z a0 hw [] (3 : Int32) h0 n0 Z0) hZ (wd_10 hw) (wd_3 hw) (by decide) (by decide)) (g := (mkF m 14 #[.val (.int p1), .val (.int (3 : Int32)), .val (.ref w3), .unset] [(.int (3 : Int32))])) rfl (by rw [hml]; rfl) (argsL := [(.int (3 : Int32))]) (rest := []) (lenOf pd__I_Z rfl) rfl (by show 2 * 0 + _ ≤ _; exact Nat.le_of_eq rfl) (hb hby at_14) (fun _ _ => ⟨rfl, e57, (by decide : 0 + 0 ≤ _), (by decide : 0 + 0 ≤ _)⟩)
    dsimp only [Pt.U, Pt.locs, Pt.cells, Pt.slots] at X58 l58 y58 z58 st58 hQ58
    subst l58 y58 z58
    obtain ⟨rfl, N58q, e58⟩ := hQ58
    have N58 := Fr.app N57 N58q
    obtain ⟨cq59, kq59, q59a, q59b, q59c⟩ := isOf hZ e58 (E_w3)
    obtain ⟨_, _, ⟨T59, L59, k59, n59⟩, -, X59, ⟨Lc59, hQ59, l59, y59, z59⟩, st59⟩ := X58.virtualBack hx (y := (⟨"com/example/potager/potager/model/Rank", "special", "()Z"⟩ : MethodName)) (z := (⟨"com/example/potager/potager/model/Rank", "special", "()Z"⟩ : MethodName)) hown (mvT hZ (wd_11 hw)) (mvT hZ (wd_12 hw)) (notFace_of_selects (args := #[]) (mvT hZ (wd_14 hw))) (mvT hZ (wd_14 hw)) (mvT hZ (wd_13 hw)) (by decide) (backOf (W := 0) (rm3 l Z a0 hw [] w3 (4 : Int32) h0 n0 Z0 F_value_w3) hZ (wd_15 hw) (wd_6 hw) (by decide) (by decide)) q59a q59c (g := (mkF m 19 #[.val (.int p1), .val (.int (3 : Int32)), .val (.ref w3), .val (.int (0 : Int32))] [(.ref w3)])) rfl (by rw [hml]; rfl) (Steps.refl _) (argsL := []) (rest := []) (lenOf pd___Z rfl) rfl (by show 2 * 0 + _ ≤ _; exact Nat.le_of_eq rfl) (hb hby at_19) (fun _ _ => ⟨rfl, e58, (by decide : 0 + 0 ≤ _), (by decide : 0 + 0 ≤ _)⟩)
    dsimp only [Pt.U, Pt.locs, Pt.cells, Pt.slots] at X59 l59 y59 z59 st59 hQ59
    subst l59 y59 z59
    obtain ⟨rfl, N59q, e59⟩ := hQ59
    have N59 := Fr.app N58 N59q
    obtain ⟨fs, hr, hrun, hended, hW, hsame⟩ := X59.leave (v := some (.int (1 : Int32))) (fun h => by rw [Bd.returns] at h; cases h)
    refine ⟨_, _, pre47 _ ?_, hrun, hended, _, _, rfl, ?_, ⟨_, rfl⟩, hW, hsame.mono (by decide) (by decide)⟩
    · show Steps p.tables e below (s₁.setTop (mkF m 8 #[.val (.int p1), .val (.int (3 : Int32)), .unset, .unset] [])) _
      refine XS.iloadN X0.here hx rfl (hb hby at_8) rfl ?_
      refine st57 _ ?_
      show Steps p.tables e below (T57.setTop (mkF m 12 #[.val (.int p1), .val (.int (3 : Int32)), .unset, .unset] [(.ref w3)])) _
      refine XS.astoreN X57.here hx rfl (hb hby at_12) rfl rfl (l' := #[.val (.int p1), .val (.int (3 : Int32)), .val (.ref w3), .unset]) rfl ?_
      refine XS.iloadN X57.here hx rfl (hb hby at_13) rfl ?_
      refine st58 _ ?_
      show Steps p.tables e below (T58.setTop (mkF m 17 #[.val (.int p1), .val (.int (3 : Int32)), .val (.ref w3), .unset] [(.int (0 : Int32))])) _
      refine XS.istoreN X58.here hx rfl (hb hby at_17) rfl (l' := #[.val (.int p1), .val (.int (3 : Int32)), .val (.ref w3), .val (.int (0 : Int32))]) rfl ?_
      refine XS.aloadN X58.here hx rfl (hb hby at_18) rfl rfl ?_
      refine st59.trans ?_
      show Steps p.tables e below (T59.setTop (mkF m 22 #[.val (.int p1), .val (.int (3 : Int32)), .val (.ref w3), .val (.int (0 : Int32))] [(.int (0 : Int32))])) _
      refine XS.iloadN X59.here hx rfl (hb hby at_22) rfl ?_
      refine XS.icmpNo X59.here hx rfl (hb hby at_23) rfl (teq (rfl : (0 : Int32) = (0 : Int32))).2 ?_
      refine XS.iconst X59.here hx rfl (hb hby at_26) ?_
      refine XS.goto X59.here hx rfl (pc0 := 27) (pc' := 31) rfl (hb hby at_27) (by decide) (by decide) ?_
      show Steps p.tables e below (T59.setTop (mkF m 31 #[.val (.int p1), .val (.int (3 : Int32)), .val (.ref w3), .val (.int (0 : Int32))] [(.int (1 : Int32))])) _
      exact retN X59 hx (t := .boolean) Bd.returns (by simp) (hb hby at_31) hr
    · show Q_rm0 Z p1 w0 w1 w2 w3 w4 w5 w6 w7 w8 w9 w10 w11 w12 h0 n0 _ T59.heap _
      rw [e59]
      exact ⟨rfl, N59, trivial⟩
  · obtain ⟨_, _, ⟨T60, L60, k60, n60⟩, -, X60, ⟨Lc60, hQ60, l60, y60, z60⟩, st60⟩ := Jvm.LawKit.callS X0 hx (y := (⟨"com/example/potager/potager/model/RankSpecialPinLaw", "pick", "(I)Lcom/example/potager/potager/model/Rank;"⟩ : MethodName)) hown (mvT hZ (wd_1 hw)) (mvT hZ (wd_2 hw)) (mvT hZ (wd_3 hw)) (mvT hZ (wd_4 hw)) (by decide) (backOf (W := 0) (rm1 l Z a0 hw [] (4 : Int32) w0 w1 w2 w3 w4 w5 w6 w7 w8 w9 w10 w11 w12 h0 n0 Z0 S_ONE S_TWO S_THREE S_FOUR S_FIVE S_SIX S_SEVEN S_EIGHT S_NINE S_TEN S_DOUBLE S_MINUS S_ZERO) hZ (wd_4 hw) (wd_3 hw) (by decide) (by decide)) (g := (mkF m 9 #[.val (.int p1), .val (.int (4 : Int32)), .unset, .unset] [(.int (4 : Int32))])) rfl (by rw [hml]; rfl) (argsL := [(.int (4 : Int32))]) (rest := []) (lenOf pd__I_Lcom_example_potager_potager_model_Rank_ rfl) rfl (by show 2 * 0 + _ ≤ _; exact Nat.le_of_eq rfl) (hb hby at_9) (fun _ _ => ⟨rfl, e0, (by decide : 0 + 0 ≤ _), (by decide : 0 + 0 ≤ _)⟩)
    dsimp only [Pt.U, Pt.locs, Pt.cells, Pt.slots] at X60 l60 y60 z60 st60 hQ60
    subst l60 y60 z60
    obtain ⟨rfl, N60q, e60⟩ := hQ60
    have N60 := Fr.app N0 N60q
    obtain ⟨_, _, ⟨T61, L61, k61, n61⟩, -, X61, ⟨Lc61, hQ61, l61, y61, z61⟩, st61⟩ := Jvm.LawKit.callS X60 hx (y := (⟨"com/example/potager/potager/model/RankSpecialPinLaw", "isSpecialIndex", "(I)Z"⟩ : MethodName)) hown (mvT hZ (wd_8 hw)) (mvT hZ (wd_9 hw)) (mvT hZ (wd_3 hw)) (mvT hZ (wd_10 hw)) (by decide) (backOf (W := 0) (rm2 l Z a0 hw [] (4 : Int32) h0 n0 Z0) hZ (wd_10 hw) (wd_3 hw) (by decide) (by decide)) (g := (mkF m 14 #[.val (.int p1), .val (.int (4 : Int32)), .val (.ref w4), .unset] [(.int (4 : Int32))])) rfl (by rw [hml]; rfl) (argsL := [(.int (4 : Int32))]) (rest := []) (lenOf pd__I_Z rfl) rfl (by show 2 * 0 + _ ≤ _; exact Nat.le_of_eq rfl) (hb hby at_14) (fun _ _ => ⟨rfl, e60, (by decide : 0 + 0 ≤ _), (by decide : 0 + 0 ≤ _)⟩)
    dsimp only [Pt.U, Pt.locs, Pt.cells, Pt.slots] at X61 l61 y61 z61 st61 hQ61
    subst l61 y61 z61
    obtain ⟨rfl, N61q, e61⟩ := hQ61
    have N61 := Fr.app N60 N61q
    obtain ⟨cq62, kq62, q62a, q62b, q62c⟩ := isOf hZ e61 (E_w4)
    obtain ⟨_, _, ⟨T62, L62, k62, n62⟩, -, X62, ⟨Lc62, hQ62, l62, y62, z62⟩, st62⟩ := X61.virtualBack hx (y := (⟨"com/example/potager/potager/model/Rank", "special", "()Z"⟩ : MethodName)) (z := (⟨"com/example/potager/potager/model/Rank", "special", "()Z"⟩ : MethodName)) hown (mvT hZ (wd_11 hw)) (mvT hZ (wd_12 hw)) (notFace_of_selects (args := #[]) (mvT hZ (wd_14 hw))) (mvT hZ (wd_14 hw)) (mvT hZ (wd_13 hw)) (by decide) (backOf (W := 0) (rm3 l Z a0 hw [] w4 (5 : Int32) h0 n0 Z0 F_value_w4) hZ (wd_15 hw) (wd_6 hw) (by decide) (by decide)) q62a q62c (g := (mkF m 19 #[.val (.int p1), .val (.int (4 : Int32)), .val (.ref w4), .val (.int (0 : Int32))] [(.ref w4)])) rfl (by rw [hml]; rfl) (Steps.refl _) (argsL := []) (rest := []) (lenOf pd___Z rfl) rfl (by show 2 * 0 + _ ≤ _; exact Nat.le_of_eq rfl) (hb hby at_19) (fun _ _ => ⟨rfl, e61, (by decide : 0 + 0 ≤ _), (by decide : 0 + 0 ≤ _)⟩)
    dsimp only [Pt.U, Pt.locs, Pt.cells, Pt.slots] at X62 l62 y62 z62 st62 hQ62
    subst l62 y62 z62
    obtain ⟨rfl, N62q, e62⟩ := hQ62
    have N62 := Fr.app N61 N62q
    obtain ⟨fs, hr, hrun, hended, hW, hsame⟩ := X62.leave (v := some (.int (1 : Int32))) (fun h => by rw [Bd.returns] at h; cases h)
    refine ⟨_, _, pre47 _ ?_, hrun, hended, _, _, rfl, ?_, ⟨_, rfl⟩, hW, hsame.mono (by decide) (by decide)⟩
    · show Steps p.tables e below (s₁.setTop (mkF m 8 #[.val (.int p1), .val (.int (4 : Int32)), .unset, .unset] [])) _
      refine XS.iloadN X0.here hx rfl (hb hby at_8) rfl ?_
      refine st60 _ ?_
      show Steps p.tables e below (T60.setTop (mkF m 12 #[.val (.int p1), .val (.int (4 : Int32)), .unset, .unset] [(.ref w4)])) _
      refine XS.astoreN X60.here hx rfl (hb hby at_12) rfl rfl (l' := #[.val (.int p1), .val (.int (4 : Int32)), .val (.ref w4), .unset]) rfl ?_
      refine XS.iloadN X60.here hx rfl (hb hby at_13) rfl ?_
      refine st61 _ ?_
      show Steps p.tables e below (T61.setTop (mkF m 17 #[.val (.int p1), .val (.int (4 : Int32)), .val (.ref w4), .unset] [(.int (0 : Int32))])) _
      refine XS.istoreN X61.here hx rfl (hb hby at_17) rfl (l' := #[.val (.int p1), .val (.int (4 : Int32)), .val (.ref w4), .val (.int (0 : Int32))]) rfl ?_
      refine XS.aloadN X61.here hx rfl (hb hby at_18) rfl rfl ?_
      refine st62.trans ?_
      show Steps p.tables e below (T62.setTop (mkF m 22 #[.val (.int p1), .val (.int (4 : Int32)), .val (.ref w4), .val (.int (0 : Int32))] [(.int (0 : Int32))])) _
      refine XS.iloadN X62.here hx rfl (hb hby at_22) rfl ?_
      refine XS.icmpNo X62.here hx rfl (hb hby at_23) rfl (teq (rfl : (0 : Int32) = (0 : Int32))).2 ?_
      refine XS.iconst X62.here hx rfl (hb hby at_26) ?_
      refine XS.goto X62.here hx rfl (pc0 := 27) (pc' := 31) rfl (hb hby at_27) (by decide) (by decide) ?_
      show Steps p.tables e below (T62.setTop (mkF m 31 #[.val (.int p1), .val (.int (4 : Int32)), .val (.ref w4), .val (.int (0 : Int32))] [(.int (1 : Int32))])) _
      exact retN X62 hx (t := .boolean) Bd.returns (by simp) (hb hby at_31) hr
    · show Q_rm0 Z p1 w0 w1 w2 w3 w4 w5 w6 w7 w8 w9 w10 w11 w12 h0 n0 _ T62.heap _
      rw [e62]
      exact ⟨rfl, N62, trivial⟩
  · obtain ⟨_, _, ⟨T63, L63, k63, n63⟩, -, X63, ⟨Lc63, hQ63, l63, y63, z63⟩, st63⟩ := Jvm.LawKit.callS X0 hx (y := (⟨"com/example/potager/potager/model/RankSpecialPinLaw", "pick", "(I)Lcom/example/potager/potager/model/Rank;"⟩ : MethodName)) hown (mvT hZ (wd_1 hw)) (mvT hZ (wd_2 hw)) (mvT hZ (wd_3 hw)) (mvT hZ (wd_4 hw)) (by decide) (backOf (W := 0) (rm1 l Z a0 hw [] (5 : Int32) w0 w1 w2 w3 w4 w5 w6 w7 w8 w9 w10 w11 w12 h0 n0 Z0 S_ONE S_TWO S_THREE S_FOUR S_FIVE S_SIX S_SEVEN S_EIGHT S_NINE S_TEN S_DOUBLE S_MINUS S_ZERO) hZ (wd_4 hw) (wd_3 hw) (by decide) (by decide)) (g := (mkF m 9 #[.val (.int p1), .val (.int (5 : Int32)), .unset, .unset] [(.int (5 : Int32))])) rfl (by rw [hml]; rfl) (argsL := [(.int (5 : Int32))]) (rest := []) (lenOf pd__I_Lcom_example_potager_potager_model_Rank_ rfl) rfl (by show 2 * 0 + _ ≤ _; exact Nat.le_of_eq rfl) (hb hby at_9) (fun _ _ => ⟨rfl, e0, (by decide : 0 + 0 ≤ _), (by decide : 0 + 0 ≤ _)⟩)
    dsimp only [Pt.U, Pt.locs, Pt.cells, Pt.slots] at X63 l63 y63 z63 st63 hQ63
    subst l63 y63 z63
    obtain ⟨rfl, N63q, e63⟩ := hQ63
    have N63 := Fr.app N0 N63q
    obtain ⟨_, _, ⟨T64, L64, k64, n64⟩, -, X64, ⟨Lc64, hQ64, l64, y64, z64⟩, st64⟩ := Jvm.LawKit.callS X63 hx (y := (⟨"com/example/potager/potager/model/RankSpecialPinLaw", "isSpecialIndex", "(I)Z"⟩ : MethodName)) hown (mvT hZ (wd_8 hw)) (mvT hZ (wd_9 hw)) (mvT hZ (wd_3 hw)) (mvT hZ (wd_10 hw)) (by decide) (backOf (W := 0) (rm2 l Z a0 hw [] (5 : Int32) h0 n0 Z0) hZ (wd_10 hw) (wd_3 hw) (by decide) (by decide)) (g := (mkF m 14 #[.val (.int p1), .val (.int (5 : Int32)), .val (.ref w5), .unset] [(.int (5 : Int32))])) rfl (by rw [hml]; rfl) (argsL := [(.int (5 : Int32))]) (rest := []) (lenOf pd__I_Z rfl) rfl (by show 2 * 0 + _ ≤ _; exact Nat.le_of_eq rfl) (hb hby at_14) (fun _ _ => ⟨rfl, e63, (by decide : 0 + 0 ≤ _), (by decide : 0 + 0 ≤ _)⟩)
    dsimp only [Pt.U, Pt.locs, Pt.cells, Pt.slots] at X64 l64 y64 z64 st64 hQ64
    subst l64 y64 z64
    obtain ⟨rfl, N64q, e64⟩ := hQ64
    have N64 := Fr.app N63 N64q
    obtain ⟨cq65, kq65, q65a, q65b, q65c⟩ := isOf hZ e64 (E_w5)
    obtain ⟨_, _, ⟨T65, L65, k65, n65⟩, -, X65, ⟨Lc65, hQ65, l65, y65, z65⟩, st65⟩ := X64.virtualBack hx (y := (⟨"com/example/potager/potager/model/Rank", "special", "()Z"⟩ : MethodName)) (z := (⟨"com/example/potager/potager/model/Rank", "special", "()Z"⟩ : MethodName)) hown (mvT hZ (wd_11 hw)) (mvT hZ (wd_12 hw)) (notFace_of_selects (args := #[]) (mvT hZ (wd_14 hw))) (mvT hZ (wd_14 hw)) (mvT hZ (wd_13 hw)) (by decide) (backOf (W := 0) (rm3 l Z a0 hw [] w5 (6 : Int32) h0 n0 Z0 F_value_w5) hZ (wd_15 hw) (wd_6 hw) (by decide) (by decide)) q65a q65c (g := (mkF m 19 #[.val (.int p1), .val (.int (5 : Int32)), .val (.ref w5), .val (.int (0 : Int32))] [(.ref w5)])) rfl (by rw [hml]; rfl) (Steps.refl _) (argsL := []) (rest := []) (lenOf pd___Z rfl) rfl (by show 2 * 0 + _ ≤ _; exact Nat.le_of_eq rfl) (hb hby at_19) (fun _ _ => ⟨rfl, e64, (by decide : 0 + 0 ≤ _), (by decide : 0 + 0 ≤ _)⟩)
    dsimp only [Pt.U, Pt.locs, Pt.cells, Pt.slots] at X65 l65 y65 z65 st65 hQ65
    subst l65 y65 z65
    obtain ⟨rfl, N65q, e65⟩ := hQ65
    have N65 := Fr.app N64 N65q
    obtain ⟨fs, hr, hrun, hended, hW, hsame⟩ := X65.leave (v := some (.int (1 : Int32))) (fun h => by rw [Bd.returns] at h; cases h)
    refine ⟨_, _, pre47 _ ?_, hrun, hended, _, _, rfl, ?_, ⟨_, rfl⟩, hW, hsame.mono (by decide) (by decide)⟩
    · show Steps p.tables e below (s₁.setTop (mkF m 8 #[.val (.int p1), .val (.int (5 : Int32)), .unset, .unset] [])) _
      refine XS.iloadN X0.here hx rfl (hb hby at_8) rfl ?_
      refine st63 _ ?_
      show Steps p.tables e below (T63.setTop (mkF m 12 #[.val (.int p1), .val (.int (5 : Int32)), .unset, .unset] [(.ref w5)])) _
      refine XS.astoreN X63.here hx rfl (hb hby at_12) rfl rfl (l' := #[.val (.int p1), .val (.int (5 : Int32)), .val (.ref w5), .unset]) rfl ?_
      refine XS.iloadN X63.here hx rfl (hb hby at_13) rfl ?_
      refine st64 _ ?_
      show Steps p.tables e below (T64.setTop (mkF m 17 #[.val (.int p1), .val (.int (5 : Int32)), .val (.ref w5), .unset] [(.int (0 : Int32))])) _
      refine XS.istoreN X64.here hx rfl (hb hby at_17) rfl (l' := #[.val (.int p1), .val (.int (5 : Int32)), .val (.ref w5), .val (.int (0 : Int32))]) rfl ?_
      refine XS.aloadN X64.here hx rfl (hb hby at_18) rfl rfl ?_
      refine st65.trans ?_
      show Steps p.tables e below (T65.setTop (mkF m 22 #[.val (.int p1), .val (.int (5 : Int32)), .val (.ref w5), .val (.int (0 : Int32))] [(.int (0 : Int32))])) _
      refine XS.iloadN X65.here hx rfl (hb hby at_22) rfl ?_
      refine XS.icmpNo X65.here hx rfl (hb hby at_23) rfl (teq (rfl : (0 : Int32) = (0 : Int32))).2 ?_
      refine XS.iconst X65.here hx rfl (hb hby at_26) ?_
      refine XS.goto X65.here hx rfl (pc0 := 27) (pc' := 31) rfl (hb hby at_27) (by decide) (by decide) ?_
      show Steps p.tables e below (T65.setTop (mkF m 31 #[.val (.int p1), .val (.int (5 : Int32)), .val (.ref w5), .val (.int (0 : Int32))] [(.int (1 : Int32))])) _
      exact retN X65 hx (t := .boolean) Bd.returns (by simp) (hb hby at_31) hr
    · show Q_rm0 Z p1 w0 w1 w2 w3 w4 w5 w6 w7 w8 w9 w10 w11 w12 h0 n0 _ T65.heap _
      rw [e65]
      exact ⟨rfl, N65, trivial⟩
  · obtain ⟨_, _, ⟨T66, L66, k66, n66⟩, -, X66, ⟨Lc66, hQ66, l66, y66, z66⟩, st66⟩ := Jvm.LawKit.callS X0 hx (y := (⟨"com/example/potager/potager/model/RankSpecialPinLaw", "pick", "(I)Lcom/example/potager/potager/model/Rank;"⟩ : MethodName)) hown (mvT hZ (wd_1 hw)) (mvT hZ (wd_2 hw)) (mvT hZ (wd_3 hw)) (mvT hZ (wd_4 hw)) (by decide) (backOf (W := 0) (rm1 l Z a0 hw [] (6 : Int32) w0 w1 w2 w3 w4 w5 w6 w7 w8 w9 w10 w11 w12 h0 n0 Z0 S_ONE S_TWO S_THREE S_FOUR S_FIVE S_SIX S_SEVEN S_EIGHT S_NINE S_TEN S_DOUBLE S_MINUS S_ZERO) hZ (wd_4 hw) (wd_3 hw) (by decide) (by decide)) (g := (mkF m 9 #[.val (.int p1), .val (.int (6 : Int32)), .unset, .unset] [(.int (6 : Int32))])) rfl (by rw [hml]; rfl) (argsL := [(.int (6 : Int32))]) (rest := []) (lenOf pd__I_Lcom_example_potager_potager_model_Rank_ rfl) rfl (by show 2 * 0 + _ ≤ _; exact Nat.le_of_eq rfl) (hb hby at_9) (fun _ _ => ⟨rfl, e0, (by decide : 0 + 0 ≤ _), (by decide : 0 + 0 ≤ _)⟩)
    dsimp only [Pt.U, Pt.locs, Pt.cells, Pt.slots] at X66 l66 y66 z66 st66 hQ66
    subst l66 y66 z66
    obtain ⟨rfl, N66q, e66⟩ := hQ66
    have N66 := Fr.app N0 N66q
    obtain ⟨_, _, ⟨T67, L67, k67, n67⟩, -, X67, ⟨Lc67, hQ67, l67, y67, z67⟩, st67⟩ := Jvm.LawKit.callS X66 hx (y := (⟨"com/example/potager/potager/model/RankSpecialPinLaw", "isSpecialIndex", "(I)Z"⟩ : MethodName)) hown (mvT hZ (wd_8 hw)) (mvT hZ (wd_9 hw)) (mvT hZ (wd_3 hw)) (mvT hZ (wd_10 hw)) (by decide) (backOf (W := 0) (rm2 l Z a0 hw [] (6 : Int32) h0 n0 Z0) hZ (wd_10 hw) (wd_3 hw) (by decide) (by decide)) (g := (mkF m 14 #[.val (.int p1), .val (.int (6 : Int32)), .val (.ref w6), .unset] [(.int (6 : Int32))])) rfl (by rw [hml]; rfl) (argsL := [(.int (6 : Int32))]) (rest := []) (lenOf pd__I_Z rfl) rfl (by show 2 * 0 + _ ≤ _; exact Nat.le_of_eq rfl) (hb hby at_14) (fun _ _ => ⟨rfl, e66, (by decide : 0 + 0 ≤ _), (by decide : 0 + 0 ≤ _)⟩)
    dsimp only [Pt.U, Pt.locs, Pt.cells, Pt.slots] at X67 l67 y67 z67 st67 hQ67
    subst l67 y67 z67
    obtain ⟨rfl, N67q, e67⟩ := hQ67
    have N67 := Fr.app N66 N67q
    obtain ⟨cq68, kq68, q68a, q68b, q68c⟩ := isOf hZ e67 (E_w6)
    obtain ⟨_, _, ⟨T68, L68, k68, n68⟩, -, X68, ⟨Lc68, hQ68, l68, y68, z68⟩, st68⟩ := X67.virtualBack hx (y := (⟨"com/example/potager/potager/model/Rank", "special", "()Z"⟩ : MethodName)) (z := (⟨"com/example/potager/potager/model/Rank", "special", "()Z"⟩ : MethodName)) hown (mvT hZ (wd_11 hw)) (mvT hZ (wd_12 hw)) (notFace_of_selects (args := #[]) (mvT hZ (wd_14 hw))) (mvT hZ (wd_14 hw)) (mvT hZ (wd_13 hw)) (by decide) (backOf (W := 0) (rm3 l Z a0 hw [] w6 (7 : Int32) h0 n0 Z0 F_value_w6) hZ (wd_15 hw) (wd_6 hw) (by decide) (by decide)) q68a q68c (g := (mkF m 19 #[.val (.int p1), .val (.int (6 : Int32)), .val (.ref w6), .val (.int (0 : Int32))] [(.ref w6)])) rfl (by rw [hml]; rfl) (Steps.refl _) (argsL := []) (rest := []) (lenOf pd___Z rfl) rfl (by show 2 * 0 + _ ≤ _; exact Nat.le_of_eq rfl) (hb hby at_19) (fun _ _ => ⟨rfl, e67, (by decide : 0 + 0 ≤ _), (by decide : 0 + 0 ≤ _)⟩)
    dsimp only [Pt.U, Pt.locs, Pt.cells, Pt.slots] at X68 l68 y68 z68 st68 hQ68
    subst l68 y68 z68
    obtain ⟨rfl, N68q, e68⟩ := hQ68
    have N68 := Fr.app N67 N68q
    obtain ⟨fs, hr, hrun, hended, hW, hsame⟩ := X68.leave (v := some (.int (1 : Int32))) (fun h => by rw [Bd.returns] at h; cases h)
    refine ⟨_, _, pre47 _ ?_, hrun, hended, _, _, rfl, ?_, ⟨_, rfl⟩, hW, hsame.mono (by decide) (by decide)⟩
    · show Steps p.tables e below (s₁.setTop (mkF m 8 #[.val (.int p1), .val (.int (6 : Int32)), .unset, .unset] [])) _
      refine XS.iloadN X0.here hx rfl (hb hby at_8) rfl ?_
      refine st66 _ ?_
      show Steps p.tables e below (T66.setTop (mkF m 12 #[.val (.int p1), .val (.int (6 : Int32)), .unset, .unset] [(.ref w6)])) _
      refine XS.astoreN X66.here hx rfl (hb hby at_12) rfl rfl (l' := #[.val (.int p1), .val (.int (6 : Int32)), .val (.ref w6), .unset]) rfl ?_
      refine XS.iloadN X66.here hx rfl (hb hby at_13) rfl ?_
      refine st67 _ ?_
      show Steps p.tables e below (T67.setTop (mkF m 17 #[.val (.int p1), .val (.int (6 : Int32)), .val (.ref w6), .unset] [(.int (0 : Int32))])) _
      refine XS.istoreN X67.here hx rfl (hb hby at_17) rfl (l' := #[.val (.int p1), .val (.int (6 : Int32)), .val (.ref w6), .val (.int (0 : Int32))]) rfl ?_
      refine XS.aloadN X67.here hx rfl (hb hby at_18) rfl rfl ?_
      refine st68.trans ?_
      show Steps p.tables e below (T68.setTop (mkF m 22 #[.val (.int p1), .val (.int (6 : Int32)), .val (.ref w6), .val (.int (0 : Int32))] [(.int (0 : Int32))])) _
      refine XS.iloadN X68.here hx rfl (hb hby at_22) rfl ?_
      refine XS.icmpNo X68.here hx rfl (hb hby at_23) rfl (teq (rfl : (0 : Int32) = (0 : Int32))).2 ?_
      refine XS.iconst X68.here hx rfl (hb hby at_26) ?_
      refine XS.goto X68.here hx rfl (pc0 := 27) (pc' := 31) rfl (hb hby at_27) (by decide) (by decide) ?_
      show Steps p.tables e below (T68.setTop (mkF m 31 #[.val (.int p1), .val (.int (6 : Int32)), .val (.ref w6), .val (.int (0 : Int32))] [(.int (1 : Int32))])) _
      exact retN X68 hx (t := .boolean) Bd.returns (by simp) (hb hby at_31) hr
    · show Q_rm0 Z p1 w0 w1 w2 w3 w4 w5 w6 w7 w8 w9 w10 w11 w12 h0 n0 _ T68.heap _
      rw [e68]
      exact ⟨rfl, N68, trivial⟩
  · obtain ⟨_, _, ⟨T69, L69, k69, n69⟩, -, X69, ⟨Lc69, hQ69, l69, y69, z69⟩, st69⟩ := Jvm.LawKit.callS X0 hx (y := (⟨"com/example/potager/potager/model/RankSpecialPinLaw", "pick", "(I)Lcom/example/potager/potager/model/Rank;"⟩ : MethodName)) hown (mvT hZ (wd_1 hw)) (mvT hZ (wd_2 hw)) (mvT hZ (wd_3 hw)) (mvT hZ (wd_4 hw)) (by decide) (backOf (W := 0) (rm1 l Z a0 hw [] (7 : Int32) w0 w1 w2 w3 w4 w5 w6 w7 w8 w9 w10 w11 w12 h0 n0 Z0 S_ONE S_TWO S_THREE S_FOUR S_FIVE S_SIX S_SEVEN S_EIGHT S_NINE S_TEN S_DOUBLE S_MINUS S_ZERO) hZ (wd_4 hw) (wd_3 hw) (by decide) (by decide)) (g := (mkF m 9 #[.val (.int p1), .val (.int (7 : Int32)), .unset, .unset] [(.int (7 : Int32))])) rfl (by rw [hml]; rfl) (argsL := [(.int (7 : Int32))]) (rest := []) (lenOf pd__I_Lcom_example_potager_potager_model_Rank_ rfl) rfl (by show 2 * 0 + _ ≤ _; exact Nat.le_of_eq rfl) (hb hby at_9) (fun _ _ => ⟨rfl, e0, (by decide : 0 + 0 ≤ _), (by decide : 0 + 0 ≤ _)⟩)
    dsimp only [Pt.U, Pt.locs, Pt.cells, Pt.slots] at X69 l69 y69 z69 st69 hQ69
    subst l69 y69 z69
    obtain ⟨rfl, N69q, e69⟩ := hQ69
    have N69 := Fr.app N0 N69q
    obtain ⟨_, _, ⟨T70, L70, k70, n70⟩, -, X70, ⟨Lc70, hQ70, l70, y70, z70⟩, st70⟩ := Jvm.LawKit.callS X69 hx (y := (⟨"com/example/potager/potager/model/RankSpecialPinLaw", "isSpecialIndex", "(I)Z"⟩ : MethodName)) hown (mvT hZ (wd_8 hw)) (mvT hZ (wd_9 hw)) (mvT hZ (wd_3 hw)) (mvT hZ (wd_10 hw)) (by decide) (backOf (W := 0) (rm2 l Z a0 hw [] (7 : Int32) h0 n0 Z0) hZ (wd_10 hw) (wd_3 hw) (by decide) (by decide)) (g := (mkF m 14 #[.val (.int p1), .val (.int (7 : Int32)), .val (.ref w7), .unset] [(.int (7 : Int32))])) rfl (by rw [hml]; rfl) (argsL := [(.int (7 : Int32))]) (rest := []) (lenOf pd__I_Z rfl) rfl (by show 2 * 0 + _ ≤ _; exact Nat.le_of_eq rfl) (hb hby at_14) (fun _ _ => ⟨rfl, e69, (by decide : 0 + 0 ≤ _), (by decide : 0 + 0 ≤ _)⟩)
    dsimp only [Pt.U, Pt.locs, Pt.cells, Pt.slots] at X70 l70 y70 z70 st70 hQ70
    subst l70 y70 z70
    obtain ⟨rfl, N70q, e70⟩ := hQ70
    have N70 := Fr.app N69 N70q
    obtain ⟨cq71, kq71, q71a, q71b, q71c⟩ := isOf hZ e70 (E_w7)
    obtain ⟨_, _, ⟨T71, L71, k71, n71⟩, -, X71, ⟨Lc71, hQ71, l71, y71, z71⟩, st71⟩ := X70.virtualBack hx (y := (⟨"com/example/potager/potager/model/Rank", "special", "()Z"⟩ : MethodName)) (z := (⟨"com/example/potager/potager/model/Rank", "special", "()Z"⟩ : MethodName)) hown (mvT hZ (wd_11 hw)) (mvT hZ (wd_12 hw)) (notFace_of_selects (args := #[]) (mvT hZ (wd_14 hw))) (mvT hZ (wd_14 hw)) (mvT hZ (wd_13 hw)) (by decide) (backOf (W := 0) (rm3 l Z a0 hw [] w7 (8 : Int32) h0 n0 Z0 F_value_w7) hZ (wd_15 hw) (wd_6 hw) (by decide) (by decide)) q71a q71c (g := (mkF m 19 #[.val (.int p1), .val (.int (7 : Int32)), .val (.ref w7), .val (.int (0 : Int32))] [(.ref w7)])) rfl (by rw [hml]; rfl) (Steps.refl _) (argsL := []) (rest := []) (lenOf pd___Z rfl) rfl (by show 2 * 0 + _ ≤ _; exact Nat.le_of_eq rfl) (hb hby at_19) (fun _ _ => ⟨rfl, e70, (by decide : 0 + 0 ≤ _), (by decide : 0 + 0 ≤ _)⟩)
    dsimp only [Pt.U, Pt.locs, Pt.cells, Pt.slots] at X71 l71 y71 z71 st71 hQ71
    subst l71 y71 z71
    obtain ⟨rfl, N71q, e71⟩ := hQ71
    have N71 := Fr.app N70 N71q
    obtain ⟨fs, hr, hrun, hended, hW, hsame⟩ := X71.leave (v := some (.int (1 : Int32))) (fun h => by rw [Bd.returns] at h; cases h)
    refine ⟨_, _, pre47 _ ?_, hrun, hended, _, _, rfl, ?_, ⟨_, rfl⟩, hW, hsame.mono (by decide) (by decide)⟩
    · show Steps p.tables e below (s₁.setTop (mkF m 8 #[.val (.int p1), .val (.int (7 : Int32)), .unset, .unset] [])) _
      refine XS.iloadN X0.here hx rfl (hb hby at_8) rfl ?_
      refine st69 _ ?_
      show Steps p.tables e below (T69.setTop (mkF m 12 #[.val (.int p1), .val (.int (7 : Int32)), .unset, .unset] [(.ref w7)])) _
      refine XS.astoreN X69.here hx rfl (hb hby at_12) rfl rfl (l' := #[.val (.int p1), .val (.int (7 : Int32)), .val (.ref w7), .unset]) rfl ?_
      refine XS.iloadN X69.here hx rfl (hb hby at_13) rfl ?_
      refine st70 _ ?_
      show Steps p.tables e below (T70.setTop (mkF m 17 #[.val (.int p1), .val (.int (7 : Int32)), .val (.ref w7), .unset] [(.int (0 : Int32))])) _
      refine XS.istoreN X70.here hx rfl (hb hby at_17) rfl (l' := #[.val (.int p1), .val (.int (7 : Int32)), .val (.ref w7), .val (.int (0 : Int32))]) rfl ?_
      refine XS.aloadN X70.here hx rfl (hb hby at_18) rfl rfl ?_
      refine st71.trans ?_
      show Steps p.tables e below (T71.setTop (mkF m 22 #[.val (.int p1), .val (.int (7 : Int32)), .val (.ref w7), .val (.int (0 : Int32))] [(.int (0 : Int32))])) _
      refine XS.iloadN X71.here hx rfl (hb hby at_22) rfl ?_
      refine XS.icmpNo X71.here hx rfl (hb hby at_23) rfl (teq (rfl : (0 : Int32) = (0 : Int32))).2 ?_
      refine XS.iconst X71.here hx rfl (hb hby at_26) ?_
      refine XS.goto X71.here hx rfl (pc0 := 27) (pc' := 31) rfl (hb hby at_27) (by decide) (by decide) ?_
      show Steps p.tables e below (T71.setTop (mkF m 31 #[.val (.int p1), .val (.int (7 : Int32)), .val (.ref w7), .val (.int (0 : Int32))] [(.int (1 : Int32))])) _
      exact retN X71 hx (t := .boolean) Bd.returns (by simp) (hb hby at_31) hr
    · show Q_rm0 Z p1 w0 w1 w2 w3 w4 w5 w6 w7 w8 w9 w10 w11 w12 h0 n0 _ T71.heap _
      rw [e71]
      exact ⟨rfl, N71, trivial⟩
  · obtain ⟨_, _, ⟨T72, L72, k72, n72⟩, -, X72, ⟨Lc72, hQ72, l72, y72, z72⟩, st72⟩ := Jvm.LawKit.callS X0 hx (y := (⟨"com/example/potager/potager/model/RankSpecialPinLaw", "pick", "(I)Lcom/example/potager/potager/model/Rank;"⟩ : MethodName)) hown (mvT hZ (wd_1 hw)) (mvT hZ (wd_2 hw)) (mvT hZ (wd_3 hw)) (mvT hZ (wd_4 hw)) (by decide) (backOf (W := 0) (rm1 l Z a0 hw [] (8 : Int32) w0 w1 w2 w3 w4 w5 w6 w7 w8 w9 w10 w11 w12 h0 n0 Z0 S_ONE S_TWO S_THREE S_FOUR S_FIVE S_SIX S_SEVEN S_EIGHT S_NINE S_TEN S_DOUBLE S_MINUS S_ZERO) hZ (wd_4 hw) (wd_3 hw) (by decide) (by decide)) (g := (mkF m 9 #[.val (.int p1), .val (.int (8 : Int32)), .unset, .unset] [(.int (8 : Int32))])) rfl (by rw [hml]; rfl) (argsL := [(.int (8 : Int32))]) (rest := []) (lenOf pd__I_Lcom_example_potager_potager_model_Rank_ rfl) rfl (by show 2 * 0 + _ ≤ _; exact Nat.le_of_eq rfl) (hb hby at_9) (fun _ _ => ⟨rfl, e0, (by decide : 0 + 0 ≤ _), (by decide : 0 + 0 ≤ _)⟩)
    dsimp only [Pt.U, Pt.locs, Pt.cells, Pt.slots] at X72 l72 y72 z72 st72 hQ72
    subst l72 y72 z72
    obtain ⟨rfl, N72q, e72⟩ := hQ72
    have N72 := Fr.app N0 N72q
    obtain ⟨_, _, ⟨T73, L73, k73, n73⟩, -, X73, ⟨Lc73, hQ73, l73, y73, z73⟩, st73⟩ := Jvm.LawKit.callS X72 hx (y := (⟨"com/example/potager/potager/model/RankSpecialPinLaw", "isSpecialIndex", "(I)Z"⟩ : MethodName)) hown (mvT hZ (wd_8 hw)) (mvT hZ (wd_9 hw)) (mvT hZ (wd_3 hw)) (mvT hZ (wd_10 hw)) (by decide) (backOf (W := 0) (rm2 l Z a0 hw [] (8 : Int32) h0 n0 Z0) hZ (wd_10 hw) (wd_3 hw) (by decide) (by decide)) (g := (mkF m 14 #[.val (.int p1), .val (.int (8 : Int32)), .val (.ref w8), .unset] [(.int (8 : Int32))])) rfl (by rw [hml]; rfl) (argsL := [(.int (8 : Int32))]) (rest := []) (lenOf pd__I_Z rfl) rfl (by show 2 * 0 + _ ≤ _; exact Nat.le_of_eq rfl) (hb hby at_14) (fun _ _ => ⟨rfl, e72, (by decide : 0 + 0 ≤ _), (by decide : 0 + 0 ≤ _)⟩)
    dsimp only [Pt.U, Pt.locs, Pt.cells, Pt.slots] at X73 l73 y73 z73 st73 hQ73
    subst l73 y73 z73
    obtain ⟨rfl, N73q, e73⟩ := hQ73
    have N73 := Fr.app N72 N73q
    obtain ⟨cq74, kq74, q74a, q74b, q74c⟩ := isOf hZ e73 (E_w8)
    obtain ⟨_, _, ⟨T74, L74, k74, n74⟩, -, X74, ⟨Lc74, hQ74, l74, y74, z74⟩, st74⟩ := X73.virtualBack hx (y := (⟨"com/example/potager/potager/model/Rank", "special", "()Z"⟩ : MethodName)) (z := (⟨"com/example/potager/potager/model/Rank", "special", "()Z"⟩ : MethodName)) hown (mvT hZ (wd_11 hw)) (mvT hZ (wd_12 hw)) (notFace_of_selects (args := #[]) (mvT hZ (wd_14 hw))) (mvT hZ (wd_14 hw)) (mvT hZ (wd_13 hw)) (by decide) (backOf (W := 0) (rm3 l Z a0 hw [] w8 (9 : Int32) h0 n0 Z0 F_value_w8) hZ (wd_15 hw) (wd_6 hw) (by decide) (by decide)) q74a q74c (g := (mkF m 19 #[.val (.int p1), .val (.int (8 : Int32)), .val (.ref w8), .val (.int (0 : Int32))] [(.ref w8)])) rfl (by rw [hml]; rfl) (Steps.refl _) (argsL := []) (rest := []) (lenOf pd___Z rfl) rfl (by show 2 * 0 + _ ≤ _; exact Nat.le_of_eq rfl) (hb hby at_19) (fun _ _ => ⟨rfl, e73, (by decide : 0 + 0 ≤ _), (by decide : 0 + 0 ≤ _)⟩)
    dsimp only [Pt.U, Pt.locs, Pt.cells, Pt.slots] at X74 l74 y74 z74 st74 hQ74
    subst l74 y74 z74
    obtain ⟨rfl, N74q, e74⟩ := hQ74
    have N74 := Fr.app N73 N74q
    obtain ⟨fs, hr, hrun, hended, hW, hsame⟩ := X74.leave (v := some (.int (1 : Int32))) (fun h => by rw [Bd.returns] at h; cases h)
    refine ⟨_, _, pre47 _ ?_, hrun, hended, _, _, rfl, ?_, ⟨_, rfl⟩, hW, hsame.mono (by decide) (by decide)⟩
    · show Steps p.tables e below (s₁.setTop (mkF m 8 #[.val (.int p1), .val (.int (8 : Int32)), .unset, .unset] [])) _
      refine XS.iloadN X0.here hx rfl (hb hby at_8) rfl ?_
      refine st72 _ ?_
      show Steps p.tables e below (T72.setTop (mkF m 12 #[.val (.int p1), .val (.int (8 : Int32)), .unset, .unset] [(.ref w8)])) _
      refine XS.astoreN X72.here hx rfl (hb hby at_12) rfl rfl (l' := #[.val (.int p1), .val (.int (8 : Int32)), .val (.ref w8), .unset]) rfl ?_
      refine XS.iloadN X72.here hx rfl (hb hby at_13) rfl ?_
      refine st73 _ ?_
      show Steps p.tables e below (T73.setTop (mkF m 17 #[.val (.int p1), .val (.int (8 : Int32)), .val (.ref w8), .unset] [(.int (0 : Int32))])) _
      refine XS.istoreN X73.here hx rfl (hb hby at_17) rfl (l' := #[.val (.int p1), .val (.int (8 : Int32)), .val (.ref w8), .val (.int (0 : Int32))]) rfl ?_
      refine XS.aloadN X73.here hx rfl (hb hby at_18) rfl rfl ?_
      refine st74.trans ?_
      show Steps p.tables e below (T74.setTop (mkF m 22 #[.val (.int p1), .val (.int (8 : Int32)), .val (.ref w8), .val (.int (0 : Int32))] [(.int (0 : Int32))])) _
      refine XS.iloadN X74.here hx rfl (hb hby at_22) rfl ?_
      refine XS.icmpNo X74.here hx rfl (hb hby at_23) rfl (teq (rfl : (0 : Int32) = (0 : Int32))).2 ?_
      refine XS.iconst X74.here hx rfl (hb hby at_26) ?_
      refine XS.goto X74.here hx rfl (pc0 := 27) (pc' := 31) rfl (hb hby at_27) (by decide) (by decide) ?_
      show Steps p.tables e below (T74.setTop (mkF m 31 #[.val (.int p1), .val (.int (8 : Int32)), .val (.ref w8), .val (.int (0 : Int32))] [(.int (1 : Int32))])) _
      exact retN X74 hx (t := .boolean) Bd.returns (by simp) (hb hby at_31) hr
    · show Q_rm0 Z p1 w0 w1 w2 w3 w4 w5 w6 w7 w8 w9 w10 w11 w12 h0 n0 _ T74.heap _
      rw [e74]
      exact ⟨rfl, N74, trivial⟩
  · obtain ⟨_, _, ⟨T75, L75, k75, n75⟩, -, X75, ⟨Lc75, hQ75, l75, y75, z75⟩, st75⟩ := Jvm.LawKit.callS X0 hx (y := (⟨"com/example/potager/potager/model/RankSpecialPinLaw", "pick", "(I)Lcom/example/potager/potager/model/Rank;"⟩ : MethodName)) hown (mvT hZ (wd_1 hw)) (mvT hZ (wd_2 hw)) (mvT hZ (wd_3 hw)) (mvT hZ (wd_4 hw)) (by decide) (backOf (W := 0) (rm1 l Z a0 hw [] (9 : Int32) w0 w1 w2 w3 w4 w5 w6 w7 w8 w9 w10 w11 w12 h0 n0 Z0 S_ONE S_TWO S_THREE S_FOUR S_FIVE S_SIX S_SEVEN S_EIGHT S_NINE S_TEN S_DOUBLE S_MINUS S_ZERO) hZ (wd_4 hw) (wd_3 hw) (by decide) (by decide)) (g := (mkF m 9 #[.val (.int p1), .val (.int (9 : Int32)), .unset, .unset] [(.int (9 : Int32))])) rfl (by rw [hml]; rfl) (argsL := [(.int (9 : Int32))]) (rest := []) (lenOf pd__I_Lcom_example_potager_potager_model_Rank_ rfl) rfl (by show 2 * 0 + _ ≤ _; exact Nat.le_of_eq rfl) (hb hby at_9) (fun _ _ => ⟨rfl, e0, (by decide : 0 + 0 ≤ _), (by decide : 0 + 0 ≤ _)⟩)
    dsimp only [Pt.U, Pt.locs, Pt.cells, Pt.slots] at X75 l75 y75 z75 st75 hQ75
    subst l75 y75 z75
    obtain ⟨rfl, N75q, e75⟩ := hQ75
    have N75 := Fr.app N0 N75q
    obtain ⟨_, _, ⟨T76, L76, k76, n76⟩, -, X76, ⟨Lc76, hQ76, l76, y76, z76⟩, st76⟩ := Jvm.LawKit.callS X75 hx (y := (⟨"com/example/potager/potager/model/RankSpecialPinLaw", "isSpecialIndex", "(I)Z"⟩ : MethodName)) hown (mvT hZ (wd_8 hw)) (mvT hZ (wd_9 hw)) (mvT hZ (wd_3 hw)) (mvT hZ (wd_10 hw)) (by decide) (backOf (W := 0) (rm2 l Z a0 hw [] (9 : Int32) h0 n0 Z0) hZ (wd_10 hw) (wd_3 hw) (by decide) (by decide)) (g := (mkF m 14 #[.val (.int p1), .val (.int (9 : Int32)), .val (.ref w9), .unset] [(.int (9 : Int32))])) rfl (by rw [hml]; rfl) (argsL := [(.int (9 : Int32))]) (rest := []) (lenOf pd__I_Z rfl) rfl (by show 2 * 0 + _ ≤ _; exact Nat.le_of_eq rfl) (hb hby at_14) (fun _ _ => ⟨rfl, e75, (by decide : 0 + 0 ≤ _), (by decide : 0 + 0 ≤ _)⟩)
    dsimp only [Pt.U, Pt.locs, Pt.cells, Pt.slots] at X76 l76 y76 z76 st76 hQ76
    subst l76 y76 z76
    obtain ⟨rfl, N76q, e76⟩ := hQ76
    have N76 := Fr.app N75 N76q
    obtain ⟨cq77, kq77, q77a, q77b, q77c⟩ := isOf hZ e76 (E_w9)
    obtain ⟨_, _, ⟨T77, L77, k77, n77⟩, -, X77, ⟨Lc77, hQ77, l77, y77, z77⟩, st77⟩ := X76.virtualBack hx (y := (⟨"com/example/potager/potager/model/Rank", "special", "()Z"⟩ : MethodName)) (z := (⟨"com/example/potager/potager/model/Rank", "special", "()Z"⟩ : MethodName)) hown (mvT hZ (wd_11 hw)) (mvT hZ (wd_12 hw)) (notFace_of_selects (args := #[]) (mvT hZ (wd_14 hw))) (mvT hZ (wd_14 hw)) (mvT hZ (wd_13 hw)) (by decide) (backOf (W := 0) (rm3 l Z a0 hw [] w9 (10 : Int32) h0 n0 Z0 F_value_w9) hZ (wd_15 hw) (wd_6 hw) (by decide) (by decide)) q77a q77c (g := (mkF m 19 #[.val (.int p1), .val (.int (9 : Int32)), .val (.ref w9), .val (.int (0 : Int32))] [(.ref w9)])) rfl (by rw [hml]; rfl) (Steps.refl _) (argsL := []) (rest := []) (lenOf pd___Z rfl) rfl (by show 2 * 0 + _ ≤ _; exact Nat.le_of_eq rfl) (hb hby at_19) (fun _ _ => ⟨rfl, e76, (by decide : 0 + 0 ≤ _), (by decide : 0 + 0 ≤ _)⟩)
    dsimp only [Pt.U, Pt.locs, Pt.cells, Pt.slots] at X77 l77 y77 z77 st77 hQ77
    subst l77 y77 z77
    obtain ⟨rfl, N77q, e77⟩ := hQ77
    have N77 := Fr.app N76 N77q
    obtain ⟨fs, hr, hrun, hended, hW, hsame⟩ := X77.leave (v := some (.int (1 : Int32))) (fun h => by rw [Bd.returns] at h; cases h)
    refine ⟨_, _, pre47 _ ?_, hrun, hended, _, _, rfl, ?_, ⟨_, rfl⟩, hW, hsame.mono (by decide) (by decide)⟩
    · show Steps p.tables e below (s₁.setTop (mkF m 8 #[.val (.int p1), .val (.int (9 : Int32)), .unset, .unset] [])) _
      refine XS.iloadN X0.here hx rfl (hb hby at_8) rfl ?_
      refine st75 _ ?_
      show Steps p.tables e below (T75.setTop (mkF m 12 #[.val (.int p1), .val (.int (9 : Int32)), .unset, .unset] [(.ref w9)])) _
      refine XS.astoreN X75.here hx rfl (hb hby at_12) rfl rfl (l' := #[.val (.int p1), .val (.int (9 : Int32)), .val (.ref w9), .unset]) rfl ?_
      refine XS.iloadN X75.here hx rfl (hb hby at_13) rfl ?_
      refine st76 _ ?_
      show Steps p.tables e below (T76.setTop (mkF m 17 #[.val (.int p1), .val (.int (9 : Int32)), .val (.ref w9), .unset] [(.int (0 : Int32))])) _
      refine XS.istoreN X76.here hx rfl (hb hby at_17) rfl (l' := #[.val (.int p1), .val (.int (9 : Int32)), .val (.ref w9), .val (.int (0 : Int32))]) rfl ?_
      refine XS.aloadN X76.here hx rfl (hb hby at_18) rfl rfl ?_
      refine st77.trans ?_
      show Steps p.tables e below (T77.setTop (mkF m 22 #[.val (.int p1), .val (.int (9 : Int32)), .val (.ref w9), .val (.int (0 : Int32))] [(.int (0 : Int32))])) _
      refine XS.iloadN X77.here hx rfl (hb hby at_22) rfl ?_
      refine XS.icmpNo X77.here hx rfl (hb hby at_23) rfl (teq (rfl : (0 : Int32) = (0 : Int32))).2 ?_
      refine XS.iconst X77.here hx rfl (hb hby at_26) ?_
      refine XS.goto X77.here hx rfl (pc0 := 27) (pc' := 31) rfl (hb hby at_27) (by decide) (by decide) ?_
      show Steps p.tables e below (T77.setTop (mkF m 31 #[.val (.int p1), .val (.int (9 : Int32)), .val (.ref w9), .val (.int (0 : Int32))] [(.int (1 : Int32))])) _
      exact retN X77 hx (t := .boolean) Bd.returns (by simp) (hb hby at_31) hr
    · show Q_rm0 Z p1 w0 w1 w2 w3 w4 w5 w6 w7 w8 w9 w10 w11 w12 h0 n0 _ T77.heap _
      rw [e77]
      exact ⟨rfl, N77, trivial⟩
  · obtain ⟨_, _, ⟨T78, L78, k78, n78⟩, -, X78, ⟨Lc78, hQ78, l78, y78, z78⟩, st78⟩ := Jvm.LawKit.callS X0 hx (y := (⟨"com/example/potager/potager/model/RankSpecialPinLaw", "pick", "(I)Lcom/example/potager/potager/model/Rank;"⟩ : MethodName)) hown (mvT hZ (wd_1 hw)) (mvT hZ (wd_2 hw)) (mvT hZ (wd_3 hw)) (mvT hZ (wd_4 hw)) (by decide) (backOf (W := 0) (rm1 l Z a0 hw [] (10 : Int32) w0 w1 w2 w3 w4 w5 w6 w7 w8 w9 w10 w11 w12 h0 n0 Z0 S_ONE S_TWO S_THREE S_FOUR S_FIVE S_SIX S_SEVEN S_EIGHT S_NINE S_TEN S_DOUBLE S_MINUS S_ZERO) hZ (wd_4 hw) (wd_3 hw) (by decide) (by decide)) (g := (mkF m 9 #[.val (.int p1), .val (.int (10 : Int32)), .unset, .unset] [(.int (10 : Int32))])) rfl (by rw [hml]; rfl) (argsL := [(.int (10 : Int32))]) (rest := []) (lenOf pd__I_Lcom_example_potager_potager_model_Rank_ rfl) rfl (by show 2 * 0 + _ ≤ _; exact Nat.le_of_eq rfl) (hb hby at_9) (fun _ _ => ⟨rfl, e0, (by decide : 0 + 0 ≤ _), (by decide : 0 + 0 ≤ _)⟩)
    dsimp only [Pt.U, Pt.locs, Pt.cells, Pt.slots] at X78 l78 y78 z78 st78 hQ78
    subst l78 y78 z78
    obtain ⟨rfl, N78q, e78⟩ := hQ78
    have N78 := Fr.app N0 N78q
    obtain ⟨_, _, ⟨T79, L79, k79, n79⟩, -, X79, ⟨Lc79, hQ79, l79, y79, z79⟩, st79⟩ := Jvm.LawKit.callS X78 hx (y := (⟨"com/example/potager/potager/model/RankSpecialPinLaw", "isSpecialIndex", "(I)Z"⟩ : MethodName)) hown (mvT hZ (wd_8 hw)) (mvT hZ (wd_9 hw)) (mvT hZ (wd_3 hw)) (mvT hZ (wd_10 hw)) (by decide) (backOf (W := 0) (rm2 l Z a0 hw [] (10 : Int32) h0 n0 Z0) hZ (wd_10 hw) (wd_3 hw) (by decide) (by decide)) (g := (mkF m 14 #[.val (.int p1), .val (.int (10 : Int32)), .val (.ref w10), .unset] [(.int (10 : Int32))])) rfl (by rw [hml]; rfl) (argsL := [(.int (10 : Int32))]) (rest := []) (lenOf pd__I_Z rfl) rfl (by show 2 * 0 + _ ≤ _; exact Nat.le_of_eq rfl) (hb hby at_14) (fun _ _ => ⟨rfl, e78, (by decide : 0 + 0 ≤ _), (by decide : 0 + 0 ≤ _)⟩)
    dsimp only [Pt.U, Pt.locs, Pt.cells, Pt.slots] at X79 l79 y79 z79 st79 hQ79
    subst l79 y79 z79
    obtain ⟨rfl, N79q, e79⟩ := hQ79
    have N79 := Fr.app N78 N79q
    obtain ⟨cq80, kq80, q80a, q80b, q80c⟩ := isOf hZ e79 (E_w10)
    obtain ⟨_, _, ⟨T80, L80, k80, n80⟩, -, X80, ⟨Lc80, hQ80, l80, y80, z80⟩, st80⟩ := X79.virtualBack hx (y := (⟨"com/example/potager/potager/model/Rank", "special", "()Z"⟩ : MethodName)) (z := (⟨"com/example/potager/potager/model/Rank", "special", "()Z"⟩ : MethodName)) hown (mvT hZ (wd_11 hw)) (mvT hZ (wd_12 hw)) (notFace_of_selects (args := #[]) (mvT hZ (wd_14 hw))) (mvT hZ (wd_14 hw)) (mvT hZ (wd_13 hw)) (by decide) (backOf (W := 0) (rm3 l Z a0 hw [] w10 (0 : Int32) h0 n0 Z0 F_value_w10) hZ (wd_15 hw) (wd_6 hw) (by decide) (by decide)) q80a q80c (g := (mkF m 19 #[.val (.int p1), .val (.int (10 : Int32)), .val (.ref w10), .val (.int (1 : Int32))] [(.ref w10)])) rfl (by rw [hml]; rfl) (Steps.refl _) (argsL := []) (rest := []) (lenOf pd___Z rfl) rfl (by show 2 * 0 + _ ≤ _; exact Nat.le_of_eq rfl) (hb hby at_19) (fun _ _ => ⟨rfl, e79, (by decide : 0 + 0 ≤ _), (by decide : 0 + 0 ≤ _)⟩)
    dsimp only [Pt.U, Pt.locs, Pt.cells, Pt.slots] at X80 l80 y80 z80 st80 hQ80
    subst l80 y80 z80
    obtain ⟨rfl, N80q, e80⟩ := hQ80
    have N80 := Fr.app N79 N80q
    obtain ⟨fs, hr, hrun, hended, hW, hsame⟩ := X80.leave (v := some (.int (1 : Int32))) (fun h => by rw [Bd.returns] at h; cases h)
    refine ⟨_, _, pre47 _ ?_, hrun, hended, _, _, rfl, ?_, ⟨_, rfl⟩, hW, hsame.mono (by decide) (by decide)⟩
    · show Steps p.tables e below (s₁.setTop (mkF m 8 #[.val (.int p1), .val (.int (10 : Int32)), .unset, .unset] [])) _
      refine XS.iloadN X0.here hx rfl (hb hby at_8) rfl ?_
      refine st78 _ ?_
      show Steps p.tables e below (T78.setTop (mkF m 12 #[.val (.int p1), .val (.int (10 : Int32)), .unset, .unset] [(.ref w10)])) _
      refine XS.astoreN X78.here hx rfl (hb hby at_12) rfl rfl (l' := #[.val (.int p1), .val (.int (10 : Int32)), .val (.ref w10), .unset]) rfl ?_
      refine XS.iloadN X78.here hx rfl (hb hby at_13) rfl ?_
      refine st79 _ ?_
      show Steps p.tables e below (T79.setTop (mkF m 17 #[.val (.int p1), .val (.int (10 : Int32)), .val (.ref w10), .unset] [(.int (1 : Int32))])) _
      refine XS.istoreN X79.here hx rfl (hb hby at_17) rfl (l' := #[.val (.int p1), .val (.int (10 : Int32)), .val (.ref w10), .val (.int (1 : Int32))]) rfl ?_
      refine XS.aloadN X79.here hx rfl (hb hby at_18) rfl rfl ?_
      refine st80.trans ?_
      show Steps p.tables e below (T80.setTop (mkF m 22 #[.val (.int p1), .val (.int (10 : Int32)), .val (.ref w10), .val (.int (1 : Int32))] [(.int (1 : Int32))])) _
      refine XS.iloadN X80.here hx rfl (hb hby at_22) rfl ?_
      refine XS.icmpNo X80.here hx rfl (hb hby at_23) rfl (teq (rfl : (1 : Int32) = (1 : Int32))).2 ?_
      refine XS.iconst X80.here hx rfl (hb hby at_26) ?_
      refine XS.goto X80.here hx rfl (pc0 := 27) (pc' := 31) rfl (hb hby at_27) (by decide) (by decide) ?_
      show Steps p.tables e below (T80.setTop (mkF m 31 #[.val (.int p1), .val (.int (10 : Int32)), .val (.ref w10), .val (.int (1 : Int32))] [(.int (1 : Int32))])) _
      exact retN X80 hx (t := .boolean) Bd.returns (by simp) (hb hby at_31) hr
    · show Q_rm0 Z p1 w0 w1 w2 w3 w4 w5 w6 w7 w8 w9 w10 w11 w12 h0 n0 _ T80.heap _
      rw [e80]
      exact ⟨rfl, N80, trivial⟩
  · obtain ⟨_, _, ⟨T81, L81, k81, n81⟩, -, X81, ⟨Lc81, hQ81, l81, y81, z81⟩, st81⟩ := Jvm.LawKit.callS X0 hx (y := (⟨"com/example/potager/potager/model/RankSpecialPinLaw", "pick", "(I)Lcom/example/potager/potager/model/Rank;"⟩ : MethodName)) hown (mvT hZ (wd_1 hw)) (mvT hZ (wd_2 hw)) (mvT hZ (wd_3 hw)) (mvT hZ (wd_4 hw)) (by decide) (backOf (W := 0) (rm1 l Z a0 hw [] (11 : Int32) w0 w1 w2 w3 w4 w5 w6 w7 w8 w9 w10 w11 w12 h0 n0 Z0 S_ONE S_TWO S_THREE S_FOUR S_FIVE S_SIX S_SEVEN S_EIGHT S_NINE S_TEN S_DOUBLE S_MINUS S_ZERO) hZ (wd_4 hw) (wd_3 hw) (by decide) (by decide)) (g := (mkF m 9 #[.val (.int p1), .val (.int (11 : Int32)), .unset, .unset] [(.int (11 : Int32))])) rfl (by rw [hml]; rfl) (argsL := [(.int (11 : Int32))]) (rest := []) (lenOf pd__I_Lcom_example_potager_potager_model_Rank_ rfl) rfl (by show 2 * 0 + _ ≤ _; exact Nat.le_of_eq rfl) (hb hby at_9) (fun _ _ => ⟨rfl, e0, (by decide : 0 + 0 ≤ _), (by decide : 0 + 0 ≤ _)⟩)
    dsimp only [Pt.U, Pt.locs, Pt.cells, Pt.slots] at X81 l81 y81 z81 st81 hQ81
    subst l81 y81 z81
    obtain ⟨rfl, N81q, e81⟩ := hQ81
    have N81 := Fr.app N0 N81q
    obtain ⟨_, _, ⟨T82, L82, k82, n82⟩, -, X82, ⟨Lc82, hQ82, l82, y82, z82⟩, st82⟩ := Jvm.LawKit.callS X81 hx (y := (⟨"com/example/potager/potager/model/RankSpecialPinLaw", "isSpecialIndex", "(I)Z"⟩ : MethodName)) hown (mvT hZ (wd_8 hw)) (mvT hZ (wd_9 hw)) (mvT hZ (wd_3 hw)) (mvT hZ (wd_10 hw)) (by decide) (backOf (W := 0) (rm2 l Z a0 hw [] (11 : Int32) h0 n0 Z0) hZ (wd_10 hw) (wd_3 hw) (by decide) (by decide)) (g := (mkF m 14 #[.val (.int p1), .val (.int (11 : Int32)), .val (.ref w11), .unset] [(.int (11 : Int32))])) rfl (by rw [hml]; rfl) (argsL := [(.int (11 : Int32))]) (rest := []) (lenOf pd__I_Z rfl) rfl (by show 2 * 0 + _ ≤ _; exact Nat.le_of_eq rfl) (hb hby at_14) (fun _ _ => ⟨rfl, e81, (by decide : 0 + 0 ≤ _), (by decide : 0 + 0 ≤ _)⟩)
    dsimp only [Pt.U, Pt.locs, Pt.cells, Pt.slots] at X82 l82 y82 z82 st82 hQ82
    subst l82 y82 z82
    obtain ⟨rfl, N82q, e82⟩ := hQ82
    have N82 := Fr.app N81 N82q
    obtain ⟨cq83, kq83, q83a, q83b, q83c⟩ := isOf hZ e82 (E_w11)
    obtain ⟨_, _, ⟨T83, L83, k83, n83⟩, -, X83, ⟨Lc83, hQ83, l83, y83, z83⟩, st83⟩ := X82.virtualBack hx (y := (⟨"com/example/potager/potager/model/Rank", "special", "()Z"⟩ : MethodName)) (z := (⟨"com/example/potager/potager/model/Rank", "special", "()Z"⟩ : MethodName)) hown (mvT hZ (wd_11 hw)) (mvT hZ (wd_12 hw)) (notFace_of_selects (args := #[]) (mvT hZ (wd_14 hw))) (mvT hZ (wd_14 hw)) (mvT hZ (wd_13 hw)) (by decide) (backOf (W := 0) (rm3 l Z a0 hw [] w11 (0 : Int32) h0 n0 Z0 F_value_w11) hZ (wd_15 hw) (wd_6 hw) (by decide) (by decide)) q83a q83c (g := (mkF m 19 #[.val (.int p1), .val (.int (11 : Int32)), .val (.ref w11), .val (.int (1 : Int32))] [(.ref w11)])) rfl (by rw [hml]; rfl) (Steps.refl _) (argsL := []) (rest := []) (lenOf pd___Z rfl) rfl (by show 2 * 0 + _ ≤ _; exact Nat.le_of_eq rfl) (hb hby at_19) (fun _ _ => ⟨rfl, e82, (by decide : 0 + 0 ≤ _), (by decide : 0 + 0 ≤ _)⟩)
    dsimp only [Pt.U, Pt.locs, Pt.cells, Pt.slots] at X83 l83 y83 z83 st83 hQ83
    subst l83 y83 z83
    obtain ⟨rfl, N83q, e83⟩ := hQ83
    have N83 := Fr.app N82 N83q
    obtain ⟨fs, hr, hrun, hended, hW, hsame⟩ := X83.leave (v := some (.int (1 : Int32))) (fun h => by rw [Bd.returns] at h; cases h)
    refine ⟨_, _, pre47 _ ?_, hrun, hended, _, _, rfl, ?_, ⟨_, rfl⟩, hW, hsame.mono (by decide) (by decide)⟩
    · show Steps p.tables e below (s₁.setTop (mkF m 8 #[.val (.int p1), .val (.int (11 : Int32)), .unset, .unset] [])) _
      refine XS.iloadN X0.here hx rfl (hb hby at_8) rfl ?_
      refine st81 _ ?_
      show Steps p.tables e below (T81.setTop (mkF m 12 #[.val (.int p1), .val (.int (11 : Int32)), .unset, .unset] [(.ref w11)])) _
      refine XS.astoreN X81.here hx rfl (hb hby at_12) rfl rfl (l' := #[.val (.int p1), .val (.int (11 : Int32)), .val (.ref w11), .unset]) rfl ?_
      refine XS.iloadN X81.here hx rfl (hb hby at_13) rfl ?_
      refine st82 _ ?_
      show Steps p.tables e below (T82.setTop (mkF m 17 #[.val (.int p1), .val (.int (11 : Int32)), .val (.ref w11), .unset] [(.int (1 : Int32))])) _
      refine XS.istoreN X82.here hx rfl (hb hby at_17) rfl (l' := #[.val (.int p1), .val (.int (11 : Int32)), .val (.ref w11), .val (.int (1 : Int32))]) rfl ?_
      refine XS.aloadN X82.here hx rfl (hb hby at_18) rfl rfl ?_
      refine st83.trans ?_
      show Steps p.tables e below (T83.setTop (mkF m 22 #[.val (.int p1), .val (.int (11 : Int32)), .val (.ref w11), .val (.int (1 : Int32))] [(.int (1 : Int32))])) _
      refine XS.iloadN X83.here hx rfl (hb hby at_22) rfl ?_
      refine XS.icmpNo X83.here hx rfl (hb hby at_23) rfl (teq (rfl : (1 : Int32) = (1 : Int32))).2 ?_
      refine XS.iconst X83.here hx rfl (hb hby at_26) ?_
      refine XS.goto X83.here hx rfl (pc0 := 27) (pc' := 31) rfl (hb hby at_27) (by decide) (by decide) ?_
      show Steps p.tables e below (T83.setTop (mkF m 31 #[.val (.int p1), .val (.int (11 : Int32)), .val (.ref w11), .val (.int (1 : Int32))] [(.int (1 : Int32))])) _
      exact retN X83 hx (t := .boolean) Bd.returns (by simp) (hb hby at_31) hr
    · show Q_rm0 Z p1 w0 w1 w2 w3 w4 w5 w6 w7 w8 w9 w10 w11 w12 h0 n0 _ T83.heap _
      rw [e83]
      exact ⟨rfl, N83, trivial⟩
  · obtain ⟨_, _, ⟨T84, L84, k84, n84⟩, -, X84, ⟨Lc84, hQ84, l84, y84, z84⟩, st84⟩ := Jvm.LawKit.callS X0 hx (y := (⟨"com/example/potager/potager/model/RankSpecialPinLaw", "pick", "(I)Lcom/example/potager/potager/model/Rank;"⟩ : MethodName)) hown (mvT hZ (wd_1 hw)) (mvT hZ (wd_2 hw)) (mvT hZ (wd_3 hw)) (mvT hZ (wd_4 hw)) (by decide) (backOf (W := 0) (rm1 l Z a0 hw [] (12 : Int32) w0 w1 w2 w3 w4 w5 w6 w7 w8 w9 w10 w11 w12 h0 n0 Z0 S_ONE S_TWO S_THREE S_FOUR S_FIVE S_SIX S_SEVEN S_EIGHT S_NINE S_TEN S_DOUBLE S_MINUS S_ZERO) hZ (wd_4 hw) (wd_3 hw) (by decide) (by decide)) (g := (mkF m 9 #[.val (.int p1), .val (.int (12 : Int32)), .unset, .unset] [(.int (12 : Int32))])) rfl (by rw [hml]; rfl) (argsL := [(.int (12 : Int32))]) (rest := []) (lenOf pd__I_Lcom_example_potager_potager_model_Rank_ rfl) rfl (by show 2 * 0 + _ ≤ _; exact Nat.le_of_eq rfl) (hb hby at_9) (fun _ _ => ⟨rfl, e0, (by decide : 0 + 0 ≤ _), (by decide : 0 + 0 ≤ _)⟩)
    dsimp only [Pt.U, Pt.locs, Pt.cells, Pt.slots] at X84 l84 y84 z84 st84 hQ84
    subst l84 y84 z84
    obtain ⟨rfl, N84q, e84⟩ := hQ84
    have N84 := Fr.app N0 N84q
    obtain ⟨_, _, ⟨T85, L85, k85, n85⟩, -, X85, ⟨Lc85, hQ85, l85, y85, z85⟩, st85⟩ := Jvm.LawKit.callS X84 hx (y := (⟨"com/example/potager/potager/model/RankSpecialPinLaw", "isSpecialIndex", "(I)Z"⟩ : MethodName)) hown (mvT hZ (wd_8 hw)) (mvT hZ (wd_9 hw)) (mvT hZ (wd_3 hw)) (mvT hZ (wd_10 hw)) (by decide) (backOf (W := 0) (rm2 l Z a0 hw [] (12 : Int32) h0 n0 Z0) hZ (wd_10 hw) (wd_3 hw) (by decide) (by decide)) (g := (mkF m 14 #[.val (.int p1), .val (.int (12 : Int32)), .val (.ref w12), .unset] [(.int (12 : Int32))])) rfl (by rw [hml]; rfl) (argsL := [(.int (12 : Int32))]) (rest := []) (lenOf pd__I_Z rfl) rfl (by show 2 * 0 + _ ≤ _; exact Nat.le_of_eq rfl) (hb hby at_14) (fun _ _ => ⟨rfl, e84, (by decide : 0 + 0 ≤ _), (by decide : 0 + 0 ≤ _)⟩)
    dsimp only [Pt.U, Pt.locs, Pt.cells, Pt.slots] at X85 l85 y85 z85 st85 hQ85
    subst l85 y85 z85
    obtain ⟨rfl, N85q, e85⟩ := hQ85
    have N85 := Fr.app N84 N85q
    obtain ⟨cq86, kq86, q86a, q86b, q86c⟩ := isOf hZ e85 (E_w12)
    obtain ⟨_, _, ⟨T86, L86, k86, n86⟩, -, X86, ⟨Lc86, hQ86, l86, y86, z86⟩, st86⟩ := X85.virtualBack hx (y := (⟨"com/example/potager/potager/model/Rank", "special", "()Z"⟩ : MethodName)) (z := (⟨"com/example/potager/potager/model/Rank", "special", "()Z"⟩ : MethodName)) hown (mvT hZ (wd_11 hw)) (mvT hZ (wd_12 hw)) (notFace_of_selects (args := #[]) (mvT hZ (wd_14 hw))) (mvT hZ (wd_14 hw)) (mvT hZ (wd_13 hw)) (by decide) (backOf (W := 0) (rm3 l Z a0 hw [] w12 (0 : Int32) h0 n0 Z0 F_value_w12) hZ (wd_15 hw) (wd_6 hw) (by decide) (by decide)) q86a q86c (g := (mkF m 19 #[.val (.int p1), .val (.int (12 : Int32)), .val (.ref w12), .val (.int (1 : Int32))] [(.ref w12)])) rfl (by rw [hml]; rfl) (Steps.refl _) (argsL := []) (rest := []) (lenOf pd___Z rfl) rfl (by show 2 * 0 + _ ≤ _; exact Nat.le_of_eq rfl) (hb hby at_19) (fun _ _ => ⟨rfl, e85, (by decide : 0 + 0 ≤ _), (by decide : 0 + 0 ≤ _)⟩)
    dsimp only [Pt.U, Pt.locs, Pt.cells, Pt.slots] at X86 l86 y86 z86 st86 hQ86
    subst l86 y86 z86
    obtain ⟨rfl, N86q, e86⟩ := hQ86
    have N86 := Fr.app N85 N86q
    obtain ⟨fs, hr, hrun, hended, hW, hsame⟩ := X86.leave (v := some (.int (1 : Int32))) (fun h => by rw [Bd.returns] at h; cases h)
    refine ⟨_, _, pre47 _ ?_, hrun, hended, _, _, rfl, ?_, ⟨_, rfl⟩, hW, hsame.mono (by decide) (by decide)⟩
    · show Steps p.tables e below (s₁.setTop (mkF m 8 #[.val (.int p1), .val (.int (12 : Int32)), .unset, .unset] [])) _
      refine XS.iloadN X0.here hx rfl (hb hby at_8) rfl ?_
      refine st84 _ ?_
      show Steps p.tables e below (T84.setTop (mkF m 12 #[.val (.int p1), .val (.int (12 : Int32)), .unset, .unset] [(.ref w12)])) _
      refine XS.astoreN X84.here hx rfl (hb hby at_12) rfl rfl (l' := #[.val (.int p1), .val (.int (12 : Int32)), .val (.ref w12), .unset]) rfl ?_
      refine XS.iloadN X84.here hx rfl (hb hby at_13) rfl ?_
      refine st85 _ ?_
      show Steps p.tables e below (T85.setTop (mkF m 17 #[.val (.int p1), .val (.int (12 : Int32)), .val (.ref w12), .unset] [(.int (1 : Int32))])) _
      refine XS.istoreN X85.here hx rfl (hb hby at_17) rfl (l' := #[.val (.int p1), .val (.int (12 : Int32)), .val (.ref w12), .val (.int (1 : Int32))]) rfl ?_
      refine XS.aloadN X85.here hx rfl (hb hby at_18) rfl rfl ?_
      refine st86.trans ?_
      show Steps p.tables e below (T86.setTop (mkF m 22 #[.val (.int p1), .val (.int (12 : Int32)), .val (.ref w12), .val (.int (1 : Int32))] [(.int (1 : Int32))])) _
      refine XS.iloadN X86.here hx rfl (hb hby at_22) rfl ?_
      refine XS.icmpNo X86.here hx rfl (hb hby at_23) rfl (teq (rfl : (1 : Int32) = (1 : Int32))).2 ?_
      refine XS.iconst X86.here hx rfl (hb hby at_26) ?_
      refine XS.goto X86.here hx rfl (pc0 := 27) (pc' := 31) rfl (hb hby at_27) (by decide) (by decide) ?_
      show Steps p.tables e below (T86.setTop (mkF m 31 #[.val (.int p1), .val (.int (12 : Int32)), .val (.ref w12), .val (.int (1 : Int32))] [(.int (1 : Int32))])) _
      exact retN X86 hx (t := .boolean) Bd.returns (by simp) (hb hby at_31) hr
    · show Q_rm0 Z p1 w0 w1 w2 w3 w4 w5 w6 w7 w8 w9 w10 w11 w12 h0 n0 _ T86.heap _
      rw [e86]
      exact ⟨rfl, N86, trivial⟩
theorem wd_7 {a0 : Array Value} {Z : State} (hw : ∀ d ∈ tables_1, d.before a0 Z = true) : (Jvm.Cond.laysStatic "com/example/potager/potager/model/Rank" "ONE" "Lcom/example/potager/potager/model/Rank;").before a0 Z = true := hw _ (List.mem_of_getElem? (i := 7) rfl)
theorem wd_33 {a0 : Array Value} {Z : State} (hw : ∀ d ∈ tables_1, d.before a0 Z = true) : (Jvm.Cond.laysStatic "com/example/potager/potager/model/Rank" "TWO" "Lcom/example/potager/potager/model/Rank;").before a0 Z = true := hw _ (List.mem_of_getElem? (i := 33) rfl)
theorem wd_29 {a0 : Array Value} {Z : State} (hw : ∀ d ∈ tables_1, d.before a0 Z = true) : (Jvm.Cond.laysStatic "com/example/potager/potager/model/Rank" "THREE" "Lcom/example/potager/potager/model/Rank;").before a0 Z = true := hw _ (List.mem_of_getElem? (i := 29) rfl)
theorem wd_19 {a0 : Array Value} {Z : State} (hw : ∀ d ∈ tables_1, d.before a0 Z = true) : (Jvm.Cond.laysStatic "com/example/potager/potager/model/Rank" "FOUR" "Lcom/example/potager/potager/model/Rank;").before a0 Z = true := hw _ (List.mem_of_getElem? (i := 19) rfl)
theorem wd_41 {a0 : Array Value} {Z : State} (hw : ∀ d ∈ tables_1, d.before a0 Z = true) : (Jvm.Cond.laysStatic "com/example/potager/potager/model/Rank" "FIVE" "Lcom/example/potager/potager/model/Rank;").before a0 Z = true := hw _ (List.mem_of_getElem? (i := 41) rfl)
theorem wd_23 {a0 : Array Value} {Z : State} (hw : ∀ d ∈ tables_1, d.before a0 Z = true) : (Jvm.Cond.laysStatic "com/example/potager/potager/model/Rank" "SIX" "Lcom/example/potager/potager/model/Rank;").before a0 Z = true := hw _ (List.mem_of_getElem? (i := 23) rfl)
theorem wd_21 {a0 : Array Value} {Z : State} (hw : ∀ d ∈ tables_1, d.before a0 Z = true) : (Jvm.Cond.laysStatic "com/example/potager/potager/model/Rank" "SEVEN" "Lcom/example/potager/potager/model/Rank;").before a0 Z = true := hw _ (List.mem_of_getElem? (i := 21) rfl)
theorem wd_25 {a0 : Array Value} {Z : State} (hw : ∀ d ∈ tables_1, d.before a0 Z = true) : (Jvm.Cond.laysStatic "com/example/potager/potager/model/Rank" "EIGHT" "Lcom/example/potager/potager/model/Rank;").before a0 Z = true := hw _ (List.mem_of_getElem? (i := 25) rfl)
theorem wd_35 {a0 : Array Value} {Z : State} (hw : ∀ d ∈ tables_1, d.before a0 Z = true) : (Jvm.Cond.laysStatic "com/example/potager/potager/model/Rank" "NINE" "Lcom/example/potager/potager/model/Rank;").before a0 Z = true := hw _ (List.mem_of_getElem? (i := 35) rfl)
theorem wd_27 {a0 : Array Value} {Z : State} (hw : ∀ d ∈ tables_1, d.before a0 Z = true) : (Jvm.Cond.laysStatic "com/example/potager/potager/model/Rank" "TEN" "Lcom/example/potager/potager/model/Rank;").before a0 Z = true := hw _ (List.mem_of_getElem? (i := 27) rfl)
theorem wd_37 {a0 : Array Value} {Z : State} (hw : ∀ d ∈ tables_1, d.before a0 Z = true) : (Jvm.Cond.laysStatic "com/example/potager/potager/model/Rank" "DOUBLE" "Lcom/example/potager/potager/model/Rank;").before a0 Z = true := hw _ (List.mem_of_getElem? (i := 37) rfl)
theorem wd_31 {a0 : Array Value} {Z : State} (hw : ∀ d ∈ tables_1, d.before a0 Z = true) : (Jvm.Cond.laysStatic "com/example/potager/potager/model/Rank" "MINUS" "Lcom/example/potager/potager/model/Rank;").before a0 Z = true := hw _ (List.mem_of_getElem? (i := 31) rfl)
theorem wd_39 {a0 : Array Value} {Z : State} (hw : ∀ d ∈ tables_1, d.before a0 Z = true) : (Jvm.Cond.laysStatic "com/example/potager/potager/model/Rank" "ZERO" "Lcom/example/potager/potager/model/Rank;").before a0 Z = true := hw _ (List.mem_of_getElem? (i := 39) rfl)
theorem own_fv {s : State} {args : Array Value} {t : Term} {x : Addr} {C n d : String} {k : Int32} (ht : t.eval args s none [] s = some (.ref x)) (h : (Cond.eq (.field t C n d) (.int k)).value args s none s [] = some true) : Fld s s.heap x C n d (.int k) := by
  have e := Cond.eq_int (Cond.before_iff.mpr h) rfl
  rw [fld_at ht] at e
  exact Fld.start e
set_option maxRecDepth 65536 in
set_option maxHeartbeats 40000000 in
theorem comes_1 {Post : Tables → Env → Array Value → State → Outcome → State → Prop} (hpost : ∀ tb e args s v u, (limb_1_1.after args s (.returned v) u = true ∧ limb_1_2.after args s (.returned v) u = true ∧ True) → FrameEnd s (.returned v) u (Jvm.fieldLocs frame_1_writes args s ++ Jvm.arrayLocs frame_1_arrays args s ++ Jvm.staticLocs frame_1_statics s) 0 0 → Post tb e args s (.returned v) u) :
    ArmFor flags0 classFile x code maxLocals ret World_1 tables_1 room_1 Calls_1 rest_1 Pre_1 Post := by
  intro l hfl _ _ p e ha hc hk s m args below hf hA hF happ hP
  obtain ⟨hcalls, hrest, hpre⟩ := hP
  obtain ⟨-, -, -, hnamed, -, -, -, hat⟩ := (Spec.applies_iff hf).mp happ
  obtain ⟨hg, hn⟩ := and_e (Cond.before_iff.mp (show (Jvm.Cond.and given_1 narrow_1).before args s = true from hpre))
  obtain ⟨g87, g88⟩ := and_e hg
  obtain ⟨w0, rfl⟩ : ∃ w0 : Value, args = #[w0] := by
    have hs : args.size = 1 := by simpa [Cond.value, given_1] using g87
    obtain ⟨L⟩ := args
    match L, hs with
    | [w0], _ => exact ⟨w0, rfl⟩
  have hw := fun d (hd : d ∈ tables_1) => atoms_spec (ws := Jvm.Cond.code x code maxLocals ret :: tables_1) hat d (List.mem_cons_of_mem _ hd)
  have hfit : Fit s := fun {y c} hc i hi => by
    obtain ⟨ha, rfl⟩ := Array.getElem?_eq_some_iff.mp hc
    have q := List.all_eq_true.mp ((Array.all_eq_true_iff_forall_mem.mp hF) _ (Array.getElem_mem ha)) i (List.mem_range.mpr hi)
    simpa [Array.getElem?_eq_getElem hi] using q
  obtain ⟨i0, ei0⟩ := is_v g88
  obtain rfl : w0 = (.int i0) := Option.some.inj ei0
  obtain ⟨nE_ONE, nr0⟩ := and_e hn
  obtain ⟨nV_ONE, ns0⟩ := and_e nr0
  obtain ⟨nE_FOUR, nr1⟩ := and_e ns0
  obtain ⟨nV_FOUR, ns1⟩ := and_e nr1
  obtain ⟨nE_SEVEN, nr2⟩ := and_e ns1
  obtain ⟨nV_SEVEN, ns2⟩ := and_e nr2
  obtain ⟨nE_SIX, nr3⟩ := and_e ns2
  obtain ⟨nV_SIX, ns3⟩ := and_e nr3
  obtain ⟨nE_EIGHT, nr4⟩ := and_e ns3
  obtain ⟨nV_EIGHT, ns4⟩ := and_e nr4
  obtain ⟨nE_TEN, nr5⟩ := and_e ns4
  obtain ⟨nV_TEN, ns5⟩ := and_e nr5
  obtain ⟨nE_THREE, nr6⟩ := and_e ns5
  obtain ⟨nV_THREE, ns6⟩ := and_e nr6
  obtain ⟨nE_MINUS, nr7⟩ := and_e ns6
  obtain ⟨nV_MINUS, ns7⟩ := and_e nr7
  obtain ⟨nE_TWO, nr8⟩ := and_e ns7
  obtain ⟨nV_TWO, ns8⟩ := and_e nr8
  obtain ⟨nE_NINE, nr9⟩ := and_e ns8
  obtain ⟨nV_NINE, ns9⟩ := and_e nr9
  obtain ⟨nE_DOUBLE, nr10⟩ := and_e ns9
  obtain ⟨nV_DOUBLE, ns10⟩ := and_e nr10
  obtain ⟨nE_ZERO, nr11⟩ := and_e ns10
  obtain ⟨nV_ZERO, ns11⟩ := and_e nr11
  obtain ⟨nE_FIVE, nr12⟩ := and_e ns11
  have nV_FIVE := nr12
  obtain ⟨x0, ex0⟩ := exa_v nE_ONE
  have S0 : Sta s s.heap "com/example/potager/potager/model/Rank" "ONE" "Lcom/example/potager/potager/model/Rank;" (.ref x0) := Sta.start ex0 (Or.inr ⟨(wd_6 hw), (wd_7 hw)⟩)
  have E0 : Exa s s.heap x0 "com/example/potager/potager/model/Rank" := Exa.start ex0 nE_ONE
  have F0 : Fld s s.heap x0 "com/example/potager/potager/model/Rank" "value" "I" (.int (1 : Int32)) := own_fv ex0 nV_ONE
  obtain ⟨x1, ex1⟩ := exa_v nE_TWO
  have S1 : Sta s s.heap "com/example/potager/potager/model/Rank" "TWO" "Lcom/example/potager/potager/model/Rank;" (.ref x1) := Sta.start ex1 (Or.inr ⟨(wd_6 hw), (wd_33 hw)⟩)
  have E1 : Exa s s.heap x1 "com/example/potager/potager/model/Rank" := Exa.start ex1 nE_TWO
  have F1 : Fld s s.heap x1 "com/example/potager/potager/model/Rank" "value" "I" (.int (2 : Int32)) := own_fv ex1 nV_TWO
  obtain ⟨x2, ex2⟩ := exa_v nE_THREE
  have S2 : Sta s s.heap "com/example/potager/potager/model/Rank" "THREE" "Lcom/example/potager/potager/model/Rank;" (.ref x2) := Sta.start ex2 (Or.inr ⟨(wd_6 hw), (wd_29 hw)⟩)
  have E2 : Exa s s.heap x2 "com/example/potager/potager/model/Rank" := Exa.start ex2 nE_THREE
  have F2 : Fld s s.heap x2 "com/example/potager/potager/model/Rank" "value" "I" (.int (3 : Int32)) := own_fv ex2 nV_THREE
  obtain ⟨x3, ex3⟩ := exa_v nE_FOUR
  have S3 : Sta s s.heap "com/example/potager/potager/model/Rank" "FOUR" "Lcom/example/potager/potager/model/Rank;" (.ref x3) := Sta.start ex3 (Or.inr ⟨(wd_6 hw), (wd_19 hw)⟩)
  have E3 : Exa s s.heap x3 "com/example/potager/potager/model/Rank" := Exa.start ex3 nE_FOUR
  have F3 : Fld s s.heap x3 "com/example/potager/potager/model/Rank" "value" "I" (.int (4 : Int32)) := own_fv ex3 nV_FOUR
  obtain ⟨x4, ex4⟩ := exa_v nE_FIVE
  have S4 : Sta s s.heap "com/example/potager/potager/model/Rank" "FIVE" "Lcom/example/potager/potager/model/Rank;" (.ref x4) := Sta.start ex4 (Or.inr ⟨(wd_6 hw), (wd_41 hw)⟩)
  have E4 : Exa s s.heap x4 "com/example/potager/potager/model/Rank" := Exa.start ex4 nE_FIVE
  have F4 : Fld s s.heap x4 "com/example/potager/potager/model/Rank" "value" "I" (.int (5 : Int32)) := own_fv ex4 nV_FIVE
  obtain ⟨x5, ex5⟩ := exa_v nE_SIX
  have S5 : Sta s s.heap "com/example/potager/potager/model/Rank" "SIX" "Lcom/example/potager/potager/model/Rank;" (.ref x5) := Sta.start ex5 (Or.inr ⟨(wd_6 hw), (wd_23 hw)⟩)
  have E5 : Exa s s.heap x5 "com/example/potager/potager/model/Rank" := Exa.start ex5 nE_SIX
  have F5 : Fld s s.heap x5 "com/example/potager/potager/model/Rank" "value" "I" (.int (6 : Int32)) := own_fv ex5 nV_SIX
  obtain ⟨x6, ex6⟩ := exa_v nE_SEVEN
  have S6 : Sta s s.heap "com/example/potager/potager/model/Rank" "SEVEN" "Lcom/example/potager/potager/model/Rank;" (.ref x6) := Sta.start ex6 (Or.inr ⟨(wd_6 hw), (wd_21 hw)⟩)
  have E6 : Exa s s.heap x6 "com/example/potager/potager/model/Rank" := Exa.start ex6 nE_SEVEN
  have F6 : Fld s s.heap x6 "com/example/potager/potager/model/Rank" "value" "I" (.int (7 : Int32)) := own_fv ex6 nV_SEVEN
  obtain ⟨x7, ex7⟩ := exa_v nE_EIGHT
  have S7 : Sta s s.heap "com/example/potager/potager/model/Rank" "EIGHT" "Lcom/example/potager/potager/model/Rank;" (.ref x7) := Sta.start ex7 (Or.inr ⟨(wd_6 hw), (wd_25 hw)⟩)
  have E7 : Exa s s.heap x7 "com/example/potager/potager/model/Rank" := Exa.start ex7 nE_EIGHT
  have F7 : Fld s s.heap x7 "com/example/potager/potager/model/Rank" "value" "I" (.int (8 : Int32)) := own_fv ex7 nV_EIGHT
  obtain ⟨x8, ex8⟩ := exa_v nE_NINE
  have S8 : Sta s s.heap "com/example/potager/potager/model/Rank" "NINE" "Lcom/example/potager/potager/model/Rank;" (.ref x8) := Sta.start ex8 (Or.inr ⟨(wd_6 hw), (wd_35 hw)⟩)
  have E8 : Exa s s.heap x8 "com/example/potager/potager/model/Rank" := Exa.start ex8 nE_NINE
  have F8 : Fld s s.heap x8 "com/example/potager/potager/model/Rank" "value" "I" (.int (9 : Int32)) := own_fv ex8 nV_NINE
  obtain ⟨x9, ex9⟩ := exa_v nE_TEN
  have S9 : Sta s s.heap "com/example/potager/potager/model/Rank" "TEN" "Lcom/example/potager/potager/model/Rank;" (.ref x9) := Sta.start ex9 (Or.inr ⟨(wd_6 hw), (wd_27 hw)⟩)
  have E9 : Exa s s.heap x9 "com/example/potager/potager/model/Rank" := Exa.start ex9 nE_TEN
  have F9 : Fld s s.heap x9 "com/example/potager/potager/model/Rank" "value" "I" (.int (10 : Int32)) := own_fv ex9 nV_TEN
  obtain ⟨x10, ex10⟩ := exa_v nE_DOUBLE
  have S10 : Sta s s.heap "com/example/potager/potager/model/Rank" "DOUBLE" "Lcom/example/potager/potager/model/Rank;" (.ref x10) := Sta.start ex10 (Or.inr ⟨(wd_6 hw), (wd_37 hw)⟩)
  have E10 : Exa s s.heap x10 "com/example/potager/potager/model/Rank" := Exa.start ex10 nE_DOUBLE
  have F10 : Fld s s.heap x10 "com/example/potager/potager/model/Rank" "value" "I" (.int (0 : Int32)) := own_fv ex10 nV_DOUBLE
  obtain ⟨x11, ex11⟩ := exa_v nE_MINUS
  have S11 : Sta s s.heap "com/example/potager/potager/model/Rank" "MINUS" "Lcom/example/potager/potager/model/Rank;" (.ref x11) := Sta.start ex11 (Or.inr ⟨(wd_6 hw), (wd_31 hw)⟩)
  have E11 : Exa s s.heap x11 "com/example/potager/potager/model/Rank" := Exa.start ex11 nE_MINUS
  have F11 : Fld s s.heap x11 "com/example/potager/potager/model/Rank" "value" "I" (.int (0 : Int32)) := own_fv ex11 nV_MINUS
  obtain ⟨x12, ex12⟩ := exa_v nE_ZERO
  have S12 : Sta s s.heap "com/example/potager/potager/model/Rank" "ZERO" "Lcom/example/potager/potager/model/Rank;" (.ref x12) := Sta.start ex12 (Or.inr ⟨(wd_6 hw), (wd_39 hw)⟩)
  have E12 : Exa s s.heap x12 "com/example/potager/potager/model/Rank" := Exa.start ex12 nE_ZERO
  have F12 : Fld s s.heap x12 "com/example/potager/potager/model/Rank" "value" "I" (.int (0 : Int32)) := own_fv ex12 nV_ZERO
  obtain ⟨n, o, h1, h2, h3, _, L, rfl, ⟨rfl, N, -⟩, hq⟩ := rm0 l s _ hw tables_1 i0 x0 x1 x2 x3 x4 x5 x6 x7 x8 x9 x10 x11 x12 s.heap s.heap.size (Nat.le_refl _) S0 S1 S2 S3 S4 S5 S6 S7 S8 S9 S10 S11 S12 E0 E1 E2 E3 E4 E5 E6 E7 E8 E9 E10 E11 E12 F0 F1 F2 F3 F4 F5 F6 F7 F8 F9 F10 F11 F12 p e ha hc hk s m _ below hf ((Spec.applies_iff_loose hf).mp happ).1 ⟨rfl, State.Warmed39.refl s, rfl⟩ trivial
  refine ⟨n, _, h1, h2, h3, hpost _ _ _ _ _ _ ⟨Cond.after_iff.mpr rfl, Cond.after_iff.mpr (eq_i res_at (Term.int_eval (1)) rfl), trivial⟩ ⟨hq.1, hq.2.1, (hq.2.2.sift fun y hy => Or.inr (N y hy)).mono (by decide) (by decide)⟩⟩
theorem main_1_1 : Claimed_1_1 := comes_1 fun _ _ _ _ _ _ h hF => ⟨h.1, hF⟩
theorem main_1_2 : Claimed_1_2 := comes_1 fun _ _ _ _ _ _ h hF => ⟨h.2.1, hF⟩
end Jvm.Pilot.@@N@@
namespace Jvm.Pilot.@@N@@
open Jvm Jvm.ClassFile Sem Op Lib Jvm.Free Jvm.Stand Jvm.Pilot.@@N@@.Jvm.D
/-! MADE BY PROGRAM (witnessworld.py) out of the Statement's table words and the real class files: 12 classes; the members and pool entries that the words name. The judged class is class 1, her method 1. -/
namespace start1
open Jvm.ClassFile
def u (s : String) : CpInfo := .utf8 (stringToUtf16 s)
/-- a pool by its gaps: so many unusable entries, then the entry; so many at the end -/
def gap : Nat → List CpInfo → List CpInfo
  | 0, r => r
  | n + 1, r => .unusable :: gap n r
def poolList (es : List (Nat × CpInfo)) (last : Nat) : List CpInfo := es.foldr (fun e r => gap e.1 (e.2 :: r)) (gap last [])
def pool (es : List (Nat × CpInfo)) (last : Nat) : Array CpInfo := ⟨poolList es last⟩
def fileOf (pool : Array CpInfo) (this : Nat) (attrs : Array Attribute := #[]) (ms : Array MethodInfo := #[]) (fl : Nat := 33) (sup : Nat := 0) (ifs : Array Nat := #[]) (fds : Array FieldInfo := #[]) : ClassFile where
  minorVersion := 0
  majorVersion := 65
  constantPool := pool
  accessFlags := fl
  thisClass := this
  superClass := sup
  interfaces := ifs
  fields := fds
  methods := ms
  attributes := attrs
def plain (name : String) (sup : Option ClassId) : Class where
  name := name
  kind := .ordinary
  loader := none
  accessFlags := 33
  super := sup
  interfaces := #[]
  cf := none
  fields := #[]
  methods := #[]
  instanceTypes := #[]
  staticTypes := #[]
  resolved := #[]
  callSites := []
  init := .initialized
  statics := none
  mirror := none

def pool0 : Array CpInfo := pool [(5, u "<init>"), (0, u "()V"), (1, .class_ 10), (1, u "java/lang/Object")] 113

def k0m0 : Method := { name := "<init>", desc := "()V", sig := { parameters := [], returnType := none }, accessFlags := 1, code := none }
/-- java/lang/Object -/
def k0 : Class := { plain "java/lang/Object" none with
  accessFlags := 33
  interfaces := #[]
  cf := some (fileOf pool0 8 #[] #[{ accessFlags := 1, nameIndex := 5, descriptorIndex := 6, attributes := #[] }] 33 0 #[] #[])
  fields := #[]
  methods := #[k0m0]
  instanceTypes := #[]
  staticTypes := #[]
  resolved := Array.replicate 124 none
  statics := none }

def pool1 : Array CpInfo := pool [(2, .class_ 4), (1, u "java/lang/Object"), (0, u "<init>"), (0, u "()V"), (0, .integer 2147483647), (0, .methodref 9 10), (0, .class_ 11), (0, .nameAndType 12 13), (0, u "com/example/potager/potager/model/RankSpecialPinLaw"), (0, u "pick"), (0, u "(I)Lcom/example/potager/potager/model/Rank;"), (0, .methodref 9 15), (0, .nameAndType 16 17), (0, u "isSpecialIndex"), (0, u "(I)Z"), (0, .methodref 19 20), (0, .class_ 21), (0, .nameAndType 22 23), (0, u "com/example/potager/potager/model/Rank"), (0, u "special"), (0, u "()Z"), (0, .fieldref 19 25), (0, .nameAndType 26 27), (0, u "ONE"), (0, u "Lcom/example/potager/potager/model/Rank;"), (0, .fieldref 19 29), (0, .nameAndType 30 27), (0, u "TWO"), (0, .fieldref 19 32), (0, .nameAndType 33 27), (0, u "THREE"), (0, .fieldref 19 35), (0, .nameAndType 36 27), (0, u "FOUR"), (0, .fieldref 19 38), (0, .nameAndType 39 27), (0, u "FIVE"), (0, .fieldref 19 41), (0, .nameAndType 42 27), (0, u "SIX"), (0, .fieldref 19 44), (0, .nameAndType 45 27), (0, u "SEVEN"), (0, .fieldref 19 47), (0, .nameAndType 48 27), (0, u "EIGHT"), (0, .fieldref 19 50), (0, .nameAndType 51 27), (0, u "NINE"), (0, .fieldref 19 53), (0, .nameAndType 54 27), (0, u "TEN"), (0, .fieldref 19 56), (0, .nameAndType 57 27), (0, u "DOUBLE"), (0, .fieldref 19 59), (0, .nameAndType 60 27), (0, u "MINUS"), (0, .fieldref 19 62), (0, .nameAndType 63 27), (0, u "ZERO"), (2, u "law")] 3

def k1m0 : Method := { name := "<init>", desc := "()V", sig := { parameters := [], returnType := none }, accessFlags := 1, code := none }
def k1c1 : Code := { maxStack := 2, maxLocals := 4, code := code, exceptionTable := #[], attributes := #[] }
def k1m1 : Method := { name := "law", desc := "(I)Z", sig := { parameters := [.int], returnType := some .boolean }, accessFlags := 9, code := some k1c1 }
def k1c2 : Code := { maxStack := 2, maxLocals := 1, code := method_3_code, exceptionTable := #[], attributes := #[] }
def k1m2 : Method := { name := "isSpecialIndex", desc := "(I)Z", sig := { parameters := [.int], returnType := some .boolean }, accessFlags := 10, code := some k1c2 }
def k1c3 : Code := { maxStack := 2, maxLocals := 1, code := method_4_code, exceptionTable := #[], attributes := #[] }
def k1m3 : Method := { name := "pick", desc := "(I)Lcom/example/potager/potager/model/Rank;", sig := { parameters := [.int], returnType := some (.object "com/example/potager/potager/model/Rank") }, accessFlags := 10, code := some k1c3 }
/-- com/example/potager/potager/model/RankSpecialPinLaw -/
def k1 : Class := { plain "com/example/potager/potager/model/RankSpecialPinLaw" (some 0) with
  accessFlags := 49
  interfaces := #[]
  cf := some (fileOf pool1 9 #[] #[{ accessFlags := 1, nameIndex := 5, descriptorIndex := 6, attributes := #[] }, { accessFlags := 9, nameIndex := 66, descriptorIndex := 17, attributes := #[] }, { accessFlags := 10, nameIndex := 16, descriptorIndex := 17, attributes := #[] }, { accessFlags := 10, nameIndex := 12, descriptorIndex := 13, attributes := #[] }] 49 2 #[] #[])
  fields := #[]
  methods := #[k1m0, k1m1, k1m2, k1m3]
  instanceTypes := #[]
  staticTypes := #[]
  resolved := Array.replicate 70 none
  statics := none }

def pool2 : Array CpInfo := pool [(1, .class_ 2), (0, u "java/lang/constant/Constable"), (0, .class_ 4), (0, u "java/lang/Object")] 6

/-- java/lang/constant/Constable -/
def k2 : Class := { plain "java/lang/constant/Constable" (some 0) with
  accessFlags := 1537
  interfaces := #[]
  cf := some (fileOf pool2 1 #[] #[] 1537 3 #[] #[])
  fields := #[]
  methods := #[]
  instanceTypes := #[]
  staticTypes := #[]
  resolved := Array.replicate 11 none
  statics := none }

def pool3 : Array CpInfo := pool [(1, .class_ 2), (0, u "java/lang/Comparable"), (0, .class_ 4), (0, u "java/lang/Object")] 7

/-- java/lang/Comparable -/
def k3 : Class := { plain "java/lang/Comparable" (some 0) with
  accessFlags := 1537
  interfaces := #[]
  cf := some (fileOf pool3 1 #[] #[] 1537 3 #[] #[])
  fields := #[]
  methods := #[]
  instanceTypes := #[]
  staticTypes := #[]
  resolved := Array.replicate 12 none
  statics := none }

def pool4 : Array CpInfo := pool [(1, .class_ 2), (0, u "java/io/Serializable"), (0, .class_ 4), (0, u "java/lang/Object")] 2

/-- java/io/Serializable -/
def k4 : Class := { plain "java/io/Serializable" (some 0) with
  accessFlags := 1537
  interfaces := #[]
  cf := some (fileOf pool4 1 #[] #[] 1537 3 #[] #[])
  fields := #[]
  methods := #[]
  instanceTypes := #[]
  staticTypes := #[]
  resolved := Array.replicate 7 none
  statics := none }

def pool5 : Array CpInfo := pool [(2, .class_ 4), (1, u "java/lang/Enum"), (0, u "name"), (0, u "Ljava/lang/String;"), (2, u "ordinal"), (0, u "I"), (1, .class_ 14), (1, u "java/lang/Object"), (4, u "hash"), (86, .class_ 108), (1, u "java/lang/Enum$EnumDesc"), (2, .class_ 112), (0, u "java/lang/constant/Constable"), (0, .class_ 114), (0, u "java/lang/Comparable"), (0, .class_ 116), (0, u "java/io/Serializable")] 87

/-- java/lang/Enum -/
def k5 : Class := { plain "java/lang/Enum" (some 0) with
  accessFlags := 1057
  interfaces := #[2, 3, 4]
  cf := some (fileOf pool5 2 #[.nestMembers #[106]] #[] 1057 12 #[111, 113, 115] #[{ accessFlags := 18, nameIndex := 5, descriptorIndex := 6, attributes := #[] }, { accessFlags := 18, nameIndex := 9, descriptorIndex := 10, attributes := #[] }, { accessFlags := 2, nameIndex := 19, descriptorIndex := 10, attributes := #[] }])
  fields := #[{ name := "name", type := (.object "java/lang/String"), accessFlags := 18, slot := 0, constantValue := 0 }, { name := "ordinal", type := .int, accessFlags := 18, slot := 1, constantValue := 0 }, { name := "hash", type := .int, accessFlags := 2, slot := 2, constantValue := 0 }]
  methods := #[]
  instanceTypes := #[(.object "java/lang/String"), .int, .int]
  staticTypes := #[]
  resolved := Array.replicate 204 none
  statics := none }

def pool6 : Array CpInfo := pool [(1, .class_ 2), (0, u "com/example/potager/potager/model/Rank"), (2, u "ONE"), (0, u "Lcom/example/potager/potager/model/Rank;"), (2, u "TWO"), (2, u "THREE"), (2, u "FOUR"), (2, u "FIVE"), (2, u "SIX"), (2, u "SEVEN"), (2, u "EIGHT"), (2, u "NINE"), (2, u "TEN"), (2, u "DOUBLE"), (2, u "MINUS"), (2, u "ZERO"), (2, u "$VALUES"), (0, u "[Lcom/example/potager/potager/model/Rank;"), (6, .class_ 55), (1, u "java/lang/Enum"), (16, u "code"), (0, u "Ljava/lang/String;"), (2, u "copies"), (0, u "I"), (0, .fieldref 1 79), (0, .nameAndType 80 77), (0, u "value"), (38, u "special"), (0, u "()Z")] 6

def k6c0 : Code := { maxStack := 1, maxLocals := 1, code := prog_11_method_9_code, exceptionTable := #[], attributes := #[] }
def k6m0 : Method := { name := "special", desc := "()Z", sig := { parameters := [], returnType := some .boolean }, accessFlags := 1, code := some k6c0 }
/-- com/example/potager/potager/model/Rank -/
def k6 : Class := { plain "com/example/potager/potager/model/Rank" (some 5) with
  accessFlags := 16433
  interfaces := #[]
  cf := some (fileOf pool6 1 #[] #[{ accessFlags := 1, nameIndex := 119, descriptorIndex := 120, attributes := #[] }] 16433 53 #[] #[{ accessFlags := 16409, nameIndex := 5, descriptorIndex := 6, attributes := #[] }, { accessFlags := 16409, nameIndex := 9, descriptorIndex := 6, attributes := #[] }, { accessFlags := 16409, nameIndex := 12, descriptorIndex := 6, attributes := #[] }, { accessFlags := 16409, nameIndex := 15, descriptorIndex := 6, attributes := #[] }, { accessFlags := 16409, nameIndex := 18, descriptorIndex := 6, attributes := #[] }, { accessFlags := 16409, nameIndex := 21, descriptorIndex := 6, attributes := #[] }, { accessFlags := 16409, nameIndex := 24, descriptorIndex := 6, attributes := #[] }, { accessFlags := 16409, nameIndex := 27, descriptorIndex := 6, attributes := #[] }, { accessFlags := 16409, nameIndex := 30, descriptorIndex := 6, attributes := #[] }, { accessFlags := 16409, nameIndex := 33, descriptorIndex := 6, attributes := #[] }, { accessFlags := 16409, nameIndex := 36, descriptorIndex := 6, attributes := #[] }, { accessFlags := 16409, nameIndex := 39, descriptorIndex := 6, attributes := #[] }, { accessFlags := 16409, nameIndex := 42, descriptorIndex := 6, attributes := #[] }, { accessFlags := 18, nameIndex := 72, descriptorIndex := 73, attributes := #[] }, { accessFlags := 18, nameIndex := 76, descriptorIndex := 77, attributes := #[] }, { accessFlags := 18, nameIndex := 80, descriptorIndex := 77, attributes := #[] }, { accessFlags := 4122, nameIndex := 45, descriptorIndex := 46, attributes := #[] }])
  fields := #[{ name := "ONE", type := (.object "com/example/potager/potager/model/Rank"), accessFlags := 16409, slot := 0, constantValue := 0 }, { name := "TWO", type := (.object "com/example/potager/potager/model/Rank"), accessFlags := 16409, slot := 1, constantValue := 0 }, { name := "THREE", type := (.object "com/example/potager/potager/model/Rank"), accessFlags := 16409, slot := 2, constantValue := 0 }, { name := "FOUR", type := (.object "com/example/potager/potager/model/Rank"), accessFlags := 16409, slot := 3, constantValue := 0 }, { name := "FIVE", type := (.object "com/example/potager/potager/model/Rank"), accessFlags := 16409, slot := 4, constantValue := 0 }, { name := "SIX", type := (.object "com/example/potager/potager/model/Rank"), accessFlags := 16409, slot := 5, constantValue := 0 }, { name := "SEVEN", type := (.object "com/example/potager/potager/model/Rank"), accessFlags := 16409, slot := 6, constantValue := 0 }, { name := "EIGHT", type := (.object "com/example/potager/potager/model/Rank"), accessFlags := 16409, slot := 7, constantValue := 0 }, { name := "NINE", type := (.object "com/example/potager/potager/model/Rank"), accessFlags := 16409, slot := 8, constantValue := 0 }, { name := "TEN", type := (.object "com/example/potager/potager/model/Rank"), accessFlags := 16409, slot := 9, constantValue := 0 }, { name := "DOUBLE", type := (.object "com/example/potager/potager/model/Rank"), accessFlags := 16409, slot := 10, constantValue := 0 }, { name := "MINUS", type := (.object "com/example/potager/potager/model/Rank"), accessFlags := 16409, slot := 11, constantValue := 0 }, { name := "ZERO", type := (.object "com/example/potager/potager/model/Rank"), accessFlags := 16409, slot := 12, constantValue := 0 }, { name := "code", type := (.object "java/lang/String"), accessFlags := 18, slot := 3, constantValue := 0 }, { name := "copies", type := .int, accessFlags := 18, slot := 4, constantValue := 0 }, { name := "value", type := .int, accessFlags := 18, slot := 5, constantValue := 0 }, { name := "$VALUES", type := (.array (.object "com/example/potager/potager/model/Rank")), accessFlags := 4122, slot := 13, constantValue := 0 }]
  methods := #[k6m0]
  instanceTypes := #[(.object "java/lang/String"), .int, .int, (.object "java/lang/String"), .int, .int]
  staticTypes := #[(.object "com/example/potager/potager/model/Rank"), (.object "com/example/potager/potager/model/Rank"), (.object "com/example/potager/potager/model/Rank"), (.object "com/example/potager/potager/model/Rank"), (.object "com/example/potager/potager/model/Rank"), (.object "com/example/potager/potager/model/Rank"), (.object "com/example/potager/potager/model/Rank"), (.object "com/example/potager/potager/model/Rank"), (.object "com/example/potager/potager/model/Rank"), (.object "com/example/potager/potager/model/Rank"), (.object "com/example/potager/potager/model/Rank"), (.object "com/example/potager/potager/model/Rank"), (.object "com/example/potager/potager/model/Rank"), (.array (.object "com/example/potager/potager/model/Rank"))]
  resolved := Array.replicate 127 none
  statics := some 0 }

def pool7 : Array CpInfo := pool [(1, u "java/lang/Cloneable"), (0, .class_ 1), (0, u "java/lang/Object"), (0, .class_ 3)] 3

/-- java/lang/Cloneable -/
def k7 : Class := { plain "java/lang/Cloneable" (some 0) with
  accessFlags := 1537
  interfaces := #[]
  cf := some (fileOf pool7 2 #[] #[] 1537 4 #[] #[])
  fields := #[]
  methods := #[]
  instanceTypes := #[]
  staticTypes := #[]
  resolved := Array.replicate 8 none
  statics := none }

/-- the primitive byte -/
def k8 : Class := { plain "byte" none with kind := .primitive 'B', accessFlags := 0x411 }
/-- [B -/
def k9 : Class := { plain "[B" (some 0) with kind := .array 8 .byte, interfaces := #[7, 4], accessFlags := 1041 }

/-- the primitive int -/
def k10 : Class := { plain "int" none with kind := .primitive 'I', accessFlags := 0x411 }
/-- [I -/
def k11 : Class := { plain "[I" (some 0) with kind := .array 10 .int, interfaces := #[7, 4], accessFlags := 1041 }

def heap : Heap := #[{ cls := 6, slots := #[.ref 1, .ref 2, .ref 3, .ref 4, .ref 5, .ref 6, .ref 7, .ref 8, .ref 9, .ref 10, .ref 11, .ref 12, .ref 13, .null], vm := .statics 6 },
  { cls := 6, slots := #[.null, .int 0, .int 0, .null, .int 0, .int 1], vm := .none },
  { cls := 6, slots := #[.null, .int 1, .int 0, .null, .int 0, .int 2], vm := .none },
  { cls := 6, slots := #[.null, .int 2, .int 0, .null, .int 0, .int 3], vm := .none },
  { cls := 6, slots := #[.null, .int 3, .int 0, .null, .int 0, .int 4], vm := .none },
  { cls := 6, slots := #[.null, .int 4, .int 0, .null, .int 0, .int 5], vm := .none },
  { cls := 6, slots := #[.null, .int 5, .int 0, .null, .int 0, .int 6], vm := .none },
  { cls := 6, slots := #[.null, .int 6, .int 0, .null, .int 0, .int 7], vm := .none },
  { cls := 6, slots := #[.null, .int 7, .int 0, .null, .int 0, .int 8], vm := .none },
  { cls := 6, slots := #[.null, .int 8, .int 0, .null, .int 0, .int 9], vm := .none },
  { cls := 6, slots := #[.null, .int 9, .int 0, .null, .int 0, .int 10], vm := .none },
  { cls := 6, slots := #[.null, .int 10, .int 0, .null, .int 0, .int 0], vm := .none },
  { cls := 6, slots := #[.null, .int 11, .int 0, .null, .int 0, .int 0], vm := .none },
  { cls := 6, slots := #[.null, .int 12, .int 0, .null, .int 0, .int 0], vm := .none }]
def classes : Array Class := #[k0, k1, k2, k3, k4, k5, k6, k7, k8, k9, k10, k11]
def interned : List (Array UInt16 × Addr) := []
def slotsUsed : Nat := 92
def theMethod : MethodId := ⟨1, 1⟩
def args0 : Array Value := #[.int 5]
def aboutOver (below : List Frame) : State where
  vm := { classes := classes, interned := interned.toArray }
  heap := heap
  slotsUsed := slotsUsed
  threads := #[{ frames := .invoking theMethod args0 :: below }]
def below0 : List Frame := [.native { method := ⟨0, 0⟩, args := #[] }]
def about1 : State := aboutOver below0
def p0 : Program := .bare "" "" ""
def e0 : Env := launch0.env 0 0 0
theorem w_frames : about1.frames = Frame.invoking theMethod args0 :: below0 := rfl
set_option maxRecDepth 65536 in
theorem w_args : argsFit about1.vm theMethod args0 = true := by decide +kernel
set_option maxRecDepth 65536 in
theorem w_heap : heapFits about1 = true := by decide +kernel
set_option maxRecDepth 65536 in
theorem w_runnable : about1.curStatus? = some .runnable := by decide +kernel
set_option maxRecDepth 65536 in
theorem w_alone : about1.alone = true := by decide +kernel
set_option maxRecDepth 65536 in
theorem w_named : about1.methodNamed? x = some theMethod := by decide +kernel
set_option maxRecDepth 65536 in
theorem w_hears : about1.hears theMethod below0 = true := by decide +kernel
set_option maxRecDepth 65536 in
theorem w_ripe : about1.ripe theMethod args0 below0 = true := by decide +kernel
theorem w_running : about1.status = .running := rfl
set_option maxRecDepth 65536 in
theorem w_room : about1.hasRoom e0.platform room_1 = true :=
  launch0.hasRoom_least _ room_1 (by decide +kernel) (by decide +kernel) (by decide +kernel) (by decide +kernel) (by decide +kernel) (by decide +kernel)
theorem allAtoms_all (ts : List Jvm.Cond) (a : Array Jvm.Value) (st : Jvm.State) : (allAtoms ts).before a st = ts.all (fun c => c.before a st) := by
  induction ts with
  | nil => rfl
  | cons c t ih =>
    show (Jvm.Cond.and c (allAtoms t)).before a st = _
    rw [Jvm.Cond.before_and, ih, List.all_cons]
def words1 : List Jvm.Cond := Jvm.Cond.code x code maxLocals ret :: tables_1
/-- a 'code' word, met by the world's own term for the bytes: nothing is compared byte by byte -/
theorem code_word {y : MethodName} {bytes : ByteArray} {mx : Nat} {rt : Option FieldType} {a : Array Value} {s : State} {m : MethodId} {meth : Method} {c : Code} (h1 : s.methodNamed? y = some m) (h2 : s.vm.method? m = some meth) (h3 : meth.code = some c) (h4 : c.code = bytes)
    (h5 : (c.maxLocals == mx && c.exceptionTable.isEmpty && decide (c.maxStack ≤ mostOperands) && decide (meth.sig.returnType = rt) && !meth.locks && decide (parseMethodDescriptor y.desc = some meth.sig)) = true) : (Jvm.Cond.code y bytes mx rt).before a s = true := by
  simp only [Bool.and_eq_true, beq_iff_eq, Bool.not_eq_true', decide_eq_true_eq] at h5
  obtain ⟨⟨⟨⟨⟨g1, g2⟩, g3⟩, g4⟩, g5⟩, g6⟩ := h5
  simp [Cond.before, Cond.holds, Cond.value, h1, h2, h3, h4, g1, g2, g3, g4, g5, g6]
def isCode : Jvm.Cond → Bool
  | .code _ _ _ _ => true
  | _ => false
theorem all_split {L : List Jvm.Cond} {P : Jvm.Cond → Bool} (h1 : L.all (fun c => isCode c || P c) = true) (h2 : ∀ c ∈ L.filter isCode, P c = true) : L.all P = true := by
  refine List.all_eq_true.mpr fun c hc => ?_
  have h := List.all_eq_true.mp h1 c hc
  rcases Bool.eq_false_or_eq_true (isCode c) with hi | hi
  · exact h2 c (List.mem_filter.mpr ⟨hc, hi⟩)
  · simpa [hi] using h
set_option maxRecDepth 65536 in
theorem w_c0 : (Jvm.Cond.code x code maxLocals ret).before args0 about1 = true := code_word (m := ⟨1, 1⟩) (meth := k1m1) (c := k1c1) (by decide +kernel) rfl rfl rfl (by decide +kernel)
set_option maxRecDepth 65536 in
theorem w_c1 : (Jvm.Cond.code ({ cls := "com/example/potager/potager/model/RankSpecialPinLaw", name := "pick", desc := "(I)Lcom/example/potager/potager/model/Rank;" } : Jvm.MethodName) method_4_code (1 : Nat) (Option.some (Jvm.ClassFile.FieldType.object "com/example/potager/potager/model/Rank"))).before args0 about1 = true := code_word (m := ⟨1, 3⟩) (meth := k1m3) (c := k1c3) (by decide +kernel) rfl rfl rfl (by decide +kernel)
set_option maxRecDepth 65536 in
theorem w_c2 : (Jvm.Cond.code ({ cls := "com/example/potager/potager/model/RankSpecialPinLaw", name := "isSpecialIndex", desc := "(I)Z" } : Jvm.MethodName) method_3_code (1 : Nat) (Option.some Jvm.ClassFile.FieldType.boolean)).before args0 about1 = true := code_word (m := ⟨1, 2⟩) (meth := k1m2) (c := k1c2) (by decide +kernel) rfl rfl rfl (by decide +kernel)
set_option maxRecDepth 65536 in
theorem w_c3 : (Jvm.Cond.code ({ cls := "com/example/potager/potager/model/Rank", name := "special", desc := "()Z" } : Jvm.MethodName) prog_11_method_9_code (1 : Nat) (Option.some Jvm.ClassFile.FieldType.boolean)).before args0 about1 = true := code_word (m := ⟨6, 0⟩) (meth := k6m0) (c := k6c0) (by decide +kernel) rfl rfl rfl (by decide +kernel)
def codes1 : List Jvm.Cond := [Jvm.Cond.code x code maxLocals ret, Jvm.Cond.code ({ cls := "com/example/potager/potager/model/RankSpecialPinLaw", name := "pick", desc := "(I)Lcom/example/potager/potager/model/Rank;" } : Jvm.MethodName) method_4_code (1 : Nat) (Option.some (Jvm.ClassFile.FieldType.object "com/example/potager/potager/model/Rank")), Jvm.Cond.code ({ cls := "com/example/potager/potager/model/RankSpecialPinLaw", name := "isSpecialIndex", desc := "(I)Z" } : Jvm.MethodName) method_3_code (1 : Nat) (Option.some Jvm.ClassFile.FieldType.boolean), Jvm.Cond.code ({ cls := "com/example/potager/potager/model/Rank", name := "special", desc := "()Z" } : Jvm.MethodName) prog_11_method_9_code (1 : Nat) (Option.some Jvm.ClassFile.FieldType.boolean)]
set_option maxRecDepth 65536 in
theorem codes_eq : words1.filter isCode = codes1 := rfl
theorem w_codes : ∀ c ∈ words1.filter isCode, c.before args0 about1 = true := by
  rw [codes_eq]
  intro c hc
  simp only [codes1, List.mem_cons, List.not_mem_nil, or_false] at hc
  rcases hc with rfl | rfl | rfl | rfl
  · exact w_c0
  · exact w_c1
  · exact w_c2
  · exact w_c3
set_option maxRecDepth 65536 in
theorem w_t1 : (words1.take 24).all (fun c => isCode c || c.before args0 about1) = true := by decide +kernel
set_option maxRecDepth 65536 in
theorem w_t2 : (words1.drop 24).all (fun c => isCode c || c.before args0 about1) = true := by decide +kernel
theorem w_tables : (allAtoms (Jvm.Cond.code x code maxLocals ret :: tables_1)).before args0 about1 = true := by
  rw [allAtoms_all]
  show words1.all (fun c => c.before args0 about1) = true
  refine all_split ?_ w_codes
  rw [← List.take_append_drop 24 words1, List.all_append, w_t1, w_t2]
  rfl
set_option maxRecDepth 65536 in
theorem w_case : (Jvm.Cond.and given_1 narrow_1).before args0 about1 = true := by decide +kernel
theorem w_applies : (headSpec (Jvm.Cond.code x code maxLocals ret :: tables_1) room_1).applies x e0.platform about1 = true :=
  (Spec.applies_iff w_frames).mpr ⟨w_running, w_runnable, w_alone, w_named, w_hears, w_ripe, w_room, w_tables⟩
theorem atStart : AtStart classFile x code maxLocals ret World_1 tables_1 room_1 Calls_1 rest_1 Pre_1 launch0 p0 e0 about1 theMethod args0 below0 :=
  ⟨lists_1, trivial, launch0.admits_env _ _ _, launch0.least_env, fairChoices_fair.cas, fairChoices_fair.clock, w_frames, w_args, w_heap, w_applies, trivial, trivial, w_case⟩
end start1
theorem witness_1 : WitnessClaimed_1 := ⟨start1.p0, start1.e0, start1.about1, start1.theMethod, start1.args0, start1.below0, start1.atStart⟩
end Jvm.Pilot.@@N@@
