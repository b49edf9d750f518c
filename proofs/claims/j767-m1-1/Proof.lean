import JvmDerived
import JvmDerived.Pilot.@@N@@Statement
import JvmDerived.Pilot.@@N@@Code
set_option linter.unusedVariables false
set_option linter.unusedSimpArgs false
namespace Jvm.Pilot.@@N@@
open Jvm Jvm.ClassFile Sem Op Lib Jvm.Free Jvm.Stand Jvm.LawKit Jvm.RoadKit Bundle Jvm.Pilot.@@N@@.Jvm.D
/-- what a walk owes from a state on: the run comes to a state of which G speaks -/
def own_Go (p : Program) (e : Env) (below : List Frame) (A : State) (G : State → Prop) : Prop := ∃ B, (∀ t, Steps p.tables e below B t → Steps p.tables e below A t) ∧ G B
theorem own_via {p : Program} {e : Env} {below : List Frame} {A B : State} {G : State → Prop} (h : ∀ t, Steps p.tables e below B t → Steps p.tables e below A t) (k : own_Go p e below B G) : own_Go p e below A G := by
  obtain ⟨C, h1, h2⟩ := k
  exact ⟨C, fun t q => h t (h1 t q), h2⟩
theorem own_done {p : Program} {e : Env} {below : List Frame} {A : State} {G : State → Prop} (g : G A) : own_Go p e below A G := ⟨A, fun _ q => q, g⟩
theorem own_bind {p : Program} {e : Env} {below : List Frame} {A : State} {G G' : State → Prop} (h : own_Go p e below A G) (k : ∀ B, G B → own_Go p e below B G') : own_Go p e below A G' := by
  obtain ⟨B, h1, h2⟩ := h
  exact own_via h1 (k B h2)
/-- the method ends here -/
def own_End (p : Program) (e : Env) (below : List Frame) (s : State) (Q : Option Value → Heap → List Loc → Prop) (C S : Nat) (B : State) : Prop :=
  ∃ s₂ o, Steps p.tables e below B s₂ ∧ s₂.status = .running ∧ Ended s₂ below o ∧ ∃ v L, o = .returned v ∧ Q v s₂.heap L ∧ FrameEnd s o s₂ L C S
theorem own_body {p : Program} {e : Env} {below : List Frame} {s A A' : State} {Q : Option Value → Heap → List Loc → Prop} {C S : Nat} (q : ∀ t, Steps p.tables e below A t → Steps p.tables e below A' t) (h : own_Go p e below A (own_End p e below s Q C S)) :
    ∃ s₂ o, Steps p.tables e below A' s₂ ∧ s₂.status = .running ∧ Ended s₂ below o ∧ ∃ v L, o = .returned v ∧ Q v s₂.heap L ∧ FrameEnd s o s₂ L C S := by
  obtain ⟨B, h1, s₂, o, h2, h3⟩ := h
  exact ⟨s₂, o, q _ (h1 _ h2), h3⟩
section Leaf
variable {p : Program} {l : Launch} {e : Env} {R : Room} {s : State} {m : MethodId} {args : Array Value} {below : List Frame} {meth : Method} {c : Code} {T : State} {locs : List Loc} {cells slots : Nat}
theorem own_leaf (X : Stand p l e R s m args below meth c T locs cells slots) (hx : p.tables.exec = Jvm.exec) (hlk : meth.locks = false) {pc : Nat} {Ls : Array Slot} {w : Value} {t : FieldType} {i : Instr} {rest : List Value} (hret : meth.sig.returnType = some t) (hn : narrow t w = w)
    (hi : (i = .ireturn ∧ (t = .int ∨ t = .boolean ∨ t = .byte ∨ t = .char ∨ t = .short) ∧ ∃ z, w = .int z) ∨ (i = .lreturn ∧ t = .long ∧ ∃ z, w = .long z) ∨ (i = .dreturn ∧ t = .double ∧ ∃ z, w = .double z) ∨ (i = .freturn ∧ t = .float ∧ ∃ z, w = .float z) ∨ (i = .areturn ∧ t.isReference = true ∧ w.isRef = true))
    (hd : decode c.code pc = .ok (i, 1)) {Q : Option Value → Heap → List Loc → Prop} {C S : Nat} (hC : cells ≤ C) (hS : slots ≤ S) (hq : Q (some w) T.heap locs) : own_Go p e below (T.setTop (mkF m pc Ls (w :: rest))) (own_End p e below s Q C S) := by
  obtain ⟨fs, hr, hrun, hended, hW, hsame⟩ := X.leave (v := some w) (fun h => by rw [hret] at h; cases h) hlk
  exact own_done ⟨_, _, retOut X hx hret hn hi hd hr, hrun, hended, _, _, rfl, hq, ⟨_, rfl⟩, hW, hsame.mono hC hS⟩
theorem own_leafV (X : Stand p l e R s m args below meth c T locs cells slots) (hx : p.tables.exec = Jvm.exec) (hlk : meth.locks = false) {pc : Nat} {Ls : Array Slot} (hret : meth.sig.returnType = none)
    (hd : decode c.code pc = .ok (.return_, 1)) {Q : Option Value → Heap → List Loc → Prop} {C S : Nat} (hC : cells ≤ C) (hS : slots ≤ S) (hq : Q none T.heap locs) : own_Go p e below (T.setTop (mkF m pc Ls [])) (own_End p e below s Q C S) := by
  obtain ⟨fs, hr, hrun, hended, hW, hsame⟩ := X.leave (v := none) (fun _ => rfl) hlk
  exact own_done ⟨_, _, X.returnOut hx hret hd hr, hrun, hended, _, _, rfl, hq, ⟨_, rfl⟩, hW, hsame.mono hC hS⟩
theorem own_getFR {Z : State} {a0 : Array Value} {h : Heap} (X : Stand p l e R s m args below meth c T locs cells slots) (hx : p.tables.exec = Jvm.exec) (hZ : Z.Warmed39 s.vm) {own R0 O n d : String} {index : Nat} (hown : s.vm.findClass own = some m.cls) (w : (Cond.fieldRef own index R0 n d).before a0 Z = true) (via : Via Z R0 O n d)
    (eT : T.heap = h) {a : Addr} {v : Value} (F : Fld Z h a O n d v) {g : JFrame} (hg : g.method = m) {rest : List Value} (hs : g.stack = .ref a :: rest) (hd : decode c.code g.pc = .ok (.getfield index, 3)) : ∃ T', Stand p l e R s m args below meth c T' locs cells slots ∧ T'.heap = h ∧ ∀ target, Steps p.tables e below (T'.setTop { g with pc := g.pc + 3, stack := v :: rest }) target → Steps p.tables e below (T.setTop g) target := by
  obtain ⟨cell, cf, k, i, f, h1, h2, h3, h4, -, -, h7⟩ := F
  have hW : Z.Warmed39 T.vm := wtrans hZ X.warmed
  have w1 := Cond.fieldRef_warmed39 hW w
  obtain ⟨c', k', i', f', hi, hr⟩ := Cond.fieldRef_spec (cur := m.cls) (show (Z.setVm T.vm).vm.findClass own = some m.cls by show T.vm.findClass own = _; rw [X.warmed.alike.findClass]; exact hown) w1
  obtain ⟨k'', hi', -⟩ := State.fieldFound?_setVm (s := Z) hW.alike (via _ h2)
  cases hi.symm.trans hi'
  refine ⟨T, X, eT, fun target hrest => ?_⟩
  subst hg
  jvm_step X.here [hx, hd, getfield.wp_ready (e := e) (s := T) (f := g) X.here.top hr h3 hs (by rw [eT]; exact h1) h4 h7]
  exact hrest
def own_EndW (p : Program) (e : Env) (below : List Frame) (s : State) (Q : Option Value → Heap → List Loc → Prop) (C S : Nat) (B : State) : Prop :=
  ∃ s₂ o, Steps p.tables e below B s₂ ∧ s₂.status = .running ∧ Ended s₂ below o ∧ ∃ v L, o = .returned v ∧ Q v s₂.heap L ∧ ReturnedEndW s o s₂ L C S
theorem own_bodyW {A A' : State} {Q : Option Value → Heap → List Loc → Prop} {C S : Nat} (q : ∀ t, Steps p.tables e below A t → Steps p.tables e below A' t) (h : own_Go p e below A (own_EndW p e below s Q C S)) :
    ∃ s₂ o, Steps p.tables e below A' s₂ ∧ s₂.status = .running ∧ Ended s₂ below o ∧ ∃ v L, o = .returned v ∧ Q v s₂.heap L ∧ ReturnedEndW s o s₂ L C S := by
  obtain ⟨B, h1, s₂, o, h2, h3⟩ := h
  exact ⟨s₂, o, q _ (h1 _ h2), h3⟩
theorem own_leafW {vm₁ : Vm} (X : Stand p l e R (s.setVm vm₁) m args below meth c T locs cells slots) (hx : p.tables.exec = Jvm.exec) (hlk : meth.locks = false) {n : Nat} (hS : s.Since vm₁ n) (hk : n ≤ T.heap.size) {pc : Nat} {Ls : Array Slot} {w : Value} {t : FieldType} {i : Instr} {rest : List Value} (hret : meth.sig.returnType = some t) (hn : narrow t w = w)
    (hi : (i = .ireturn ∧ (t = .int ∨ t = .boolean ∨ t = .byte ∨ t = .char ∨ t = .short) ∧ ∃ z, w = .int z) ∨ (i = .lreturn ∧ t = .long ∧ ∃ z, w = .long z) ∨ (i = .dreturn ∧ t = .double ∧ ∃ z, w = .double z) ∨ (i = .freturn ∧ t = .float ∧ ∃ z, w = .float z) ∨ (i = .areturn ∧ t.isReference = true ∧ w.isRef = true))
    (hd : decode c.code pc = .ok (i, 1)) {Q : Option Value → Heap → List Loc → Prop} {C S : Nat} (hC : cells ≤ C) (hS' : slots ≤ S) (hq : Q (some w) T.heap locs) : own_Go p e below (T.setTop (mkF m pc Ls (w :: rest))) (own_EndW p e below s Q C S) := by
  obtain ⟨fs, hr, hrun, hended, h1, h2, h3, hsame⟩ := X.leaveW hS hk (v := some w) (fun h => by rw [hret] at h; cases h) hlk
  exact own_done ⟨_, _, retOut X hx hret hn hi hd hr, hrun, hended, _, _, rfl, hq, h1, h2, h3, hsame.mono hC hS'⟩
theorem own_leafVW {vm₁ : Vm} (X : Stand p l e R (s.setVm vm₁) m args below meth c T locs cells slots) (hx : p.tables.exec = Jvm.exec) (hlk : meth.locks = false) {n : Nat} (hS : s.Since vm₁ n) (hk : n ≤ T.heap.size) {pc : Nat} {Ls : Array Slot} (hret : meth.sig.returnType = none)
    (hd : decode c.code pc = .ok (.return_, 1)) {Q : Option Value → Heap → List Loc → Prop} {C S : Nat} (hC : cells ≤ C) (hS' : slots ≤ S) (hq : Q none T.heap locs) : own_Go p e below (T.setTop (mkF m pc Ls [])) (own_EndW p e below s Q C S) := by
  obtain ⟨fs, hr, hrun, hended, h1, h2, h3, hsame⟩ := X.leaveW hS hk (v := none) (fun _ => rfl) hlk
  exact own_done ⟨_, _, X.returnOut hx hret hd hr, hrun, hended, _, _, rfl, hq, h1, h2, h3, hsame.mono hC hS'⟩
def own_bit (P : Prop) [Decidable P] : Int32 := if P then 1 else 0
theorem own_bit01 (P : Prop) [Decidable P] : own_bit P = 0 ∨ own_bit P = 1 := by unfold own_bit; split <;> simp
theorem own_bitT {P : Prop} [Decidable P] (h : P) : own_bit P = 1 := if_pos h
theorem own_bitF {P : Prop} [Decidable P] (h : ¬ P) : own_bit P = 0 := if_neg h
theorem own_bit0 {P : Prop} [Decidable P] : own_bit P = 0 ↔ ¬ P := by unfold own_bit; split <;> simp_all
theorem own_bit1 {P : Prop} [Decidable P] : own_bit P = 1 ↔ P := by unfold own_bit; split <;> simp_all
theorem own_bits {P P' : Prop} [Decidable P] [Decidable P'] (h : P ↔ P') : own_bit P = own_bit P' := by unfold own_bit; simp [h]
theorem own_lt (x y : Int32) : x < y ↔ x.toInt < y.toInt := Int32.lt_iff_toInt_lt
theorem own_eq (x y : Int32) : x = y ↔ x.toInt = y.toInt := Int32.toInt_inj.symm
theorem own_ltL (x y : Int64) : x < y ↔ x.toInt < y.toInt := Int64.lt_iff_toInt_lt
theorem own_eqL (x y : Int64) : x = y ↔ x.toInt = y.toInt := Int64.toInt_inj.symm
theorem own_mask (x : Int32) : 0 ≤ (x &&& (2147483647 : Int32)).toInt := by
  have h : (x &&& (2147483647 : Int32)).toBitVec.msb = false := by
    show (x.toBitVec &&& 2147483647#32).msb = false
    have e : (2147483647#32).msb = false := by decide
    rw [BitVec.msb_and, e]; simp
  have := BitVec.toInt_eq_msb_cond (x &&& (2147483647 : Int32)).toBitVec
  rw [h] at this
  show 0 ≤ (x &&& (2147483647 : Int32)).toBitVec.toInt
  rw [this]
  simp only [Bool.false_eq_true, if_false]
  exact Int.natCast_nonneg _
theorem own_modm (x m : Int32) (hm : 0 < m.toInt) : 0 ≤ ((x &&& (2147483647 : Int32)) % m).toInt ∧ ((x &&& (2147483647 : Int32)) % m).toInt < m.toInt := by
  have h := own_mask x
  rw [Int32.toInt_mod, Int.tmod_eq_emod_of_nonneg h]
  exact ⟨Int.emod_nonneg _ (by omega), Int.emod_lt_of_pos _ hm⟩
theorem own_fb {x : Int32} (h : x = 0 ∨ x = 1) : fits .boolean (.int x) = true := by rcases h with rfl | rfl <;> decide
theorem own_eqI {t : Term} {k : Int32} {args : Array Value} {s : State} (h : (Cond.eq t (Term.int k)).value args s none s [] = some true) : t.eval args s none [] s = some (.int k) := by
  simp only [Cond.value] at h
  have hn : (Term.int k).eval args s none [] s = some (.int k) := rfl
  rw [hn] at h
  cases ht : t.eval args s none [] s with
  | none => simp [ht] at h
  | some v => cases v <;> simp [ht] at h ⊢ <;> first | exact h | (exact h.elim) | simp_all
theorem own_eqJ {t : Term} {k : Int64} {args : Array Value} {s : State} (h : (Cond.eq t (Term.long k)).value args s none s [] = some true) : t.eval args s none [] s = some (.long k) := by
  simp only [Cond.value] at h
  have hn : (Term.long k).eval args s none [] s = some (.long k) := rfl
  rw [hn] at h
  cases ht : t.eval args s none [] s with
  | none => simp [ht] at h
  | some v => cases v <;> simp [ht] at h ⊢ <;> first | exact h | (exact h.elim) | simp_all
theorem own_b1 {x : Int32} (h : x = 0 ∨ x = 1) : narrow .boolean (.int x) = .int x := by rcases h with rfl | rfl <;> rfl
end Leaf

def own_Enum (Z : State) (h : Heap) (n : String) (f l : Int32) : Prop := ∃ w : Addr, Sta Z h "com/example/gyre/gyre/EulerSequence" n "Lcom/example/gyre/gyre/EulerSequence;" (.ref w) ∧ Exa Z h w "com/example/gyre/gyre/EulerSequence" ∧ Fld Z h w "com/example/gyre/gyre/EulerSequence" "first" "I" (.int f) ∧ Fld Z h w "com/example/gyre/gyre/EulerSequence" "last" "I" (.int l)
def own_All (Z : State) (h : Heap) : Prop := own_Enum Z h "XYZ" 0 2 ∧ own_Enum Z h "XZY" 0 1 ∧ own_Enum Z h "YXZ" 1 2 ∧ own_Enum Z h "YZX" 1 0 ∧ own_Enum Z h "ZXY" 2 1 ∧ own_Enum Z h "ZYX" 2 0 ∧ own_Enum Z h "XYX" 0 0 ∧ own_Enum Z h "XZX" 0 0 ∧ own_Enum Z h "YXY" 1 1 ∧ own_Enum Z h "YZY" 1 1 ∧ own_Enum Z h "ZXZ" 2 2 ∧ own_Enum Z h "ZYZ" 2 2
theorem own_mod (x : Int32) : 0 ≤ ((x &&& (2147483647 : Int32)) % (12 : Int32)).toInt ∧ ((x &&& (2147483647 : Int32)) % (12 : Int32)).toInt < 12 := own_modm x 12 (by decide)
theorem own_ttF {a b : Int32} {p : Int} (h1 : a ≠ b) (h2 : p < 6) : a = b ↔ 6 ≤ p := ⟨fun h => absurd h h1, fun h => absurd h (by omega)⟩
theorem own_ttT {a b : Int32} {p : Int} (h1 : a = b) (h2 : 6 ≤ p) : a = b ↔ 6 ≤ p := ⟨fun _ => h2, fun _ => h1⟩
theorem own_pn0 : plainName "com/example/gyre/gyre/EulerSequenceIsProperEulerPinLaw" = true := by first | (simp [plainName, overriddenIn]; done) | decide +kernel
theorem own_d1_0 : decode method_2_code 0 = .ok (.iload_n 0, 1) := by decide +kernel
theorem own_d1_1 : decode method_2_code 1 = .ok (.ifCond .ne 7, 3) := by decide +kernel
theorem own_d1_4 : decode method_2_code 4 = .ok (.getstatic 7, 3) := by decide +kernel
theorem own_d1_7 : decode method_2_code 7 = .ok (.areturn, 1) := by decide +kernel
theorem own_d1_8 : decode method_2_code 8 = .ok (.iload_n 0, 1) := by decide +kernel
theorem own_d1_9 : decode method_2_code 9 = .ok (.iconst 1, 1) := by decide +kernel
theorem own_d1_10 : decode method_2_code 10 = .ok (.if_icmp .ne 7, 3) := by decide +kernel
theorem own_d1_13 : decode method_2_code 13 = .ok (.getstatic 13, 3) := by decide +kernel
theorem own_d1_16 : decode method_2_code 16 = .ok (.areturn, 1) := by decide +kernel
theorem own_d1_17 : decode method_2_code 17 = .ok (.iload_n 0, 1) := by decide +kernel
theorem own_d1_18 : decode method_2_code 18 = .ok (.iconst 2, 1) := by decide +kernel
theorem own_d1_19 : decode method_2_code 19 = .ok (.if_icmp .ne 7, 3) := by decide +kernel
theorem own_d1_22 : decode method_2_code 22 = .ok (.getstatic 16, 3) := by decide +kernel
theorem own_d1_25 : decode method_2_code 25 = .ok (.areturn, 1) := by decide +kernel
theorem own_d1_26 : decode method_2_code 26 = .ok (.iload_n 0, 1) := by decide +kernel
theorem own_d1_27 : decode method_2_code 27 = .ok (.iconst 3, 1) := by decide +kernel
theorem own_d1_28 : decode method_2_code 28 = .ok (.if_icmp .ne 7, 3) := by decide +kernel
theorem own_d1_31 : decode method_2_code 31 = .ok (.getstatic 19, 3) := by decide +kernel
theorem own_d1_34 : decode method_2_code 34 = .ok (.areturn, 1) := by decide +kernel
theorem own_d1_35 : decode method_2_code 35 = .ok (.iload_n 0, 1) := by decide +kernel
theorem own_d1_36 : decode method_2_code 36 = .ok (.iconst 4, 1) := by decide +kernel
theorem own_d1_37 : decode method_2_code 37 = .ok (.if_icmp .ne 7, 3) := by decide +kernel
theorem own_d1_40 : decode method_2_code 40 = .ok (.getstatic 22, 3) := by decide +kernel
theorem own_d1_43 : decode method_2_code 43 = .ok (.areturn, 1) := by decide +kernel
theorem own_d1_44 : decode method_2_code 44 = .ok (.iload_n 0, 1) := by decide +kernel
theorem own_d1_45 : decode method_2_code 45 = .ok (.iconst 5, 1) := by decide +kernel
theorem own_d1_46 : decode method_2_code 46 = .ok (.if_icmp .ne 7, 3) := by decide +kernel
theorem own_d1_49 : decode method_2_code 49 = .ok (.getstatic 25, 3) := by decide +kernel
theorem own_d1_52 : decode method_2_code 52 = .ok (.areturn, 1) := by decide +kernel
theorem own_d1_53 : decode method_2_code 53 = .ok (.iload_n 0, 1) := by decide +kernel
theorem own_d1_54 : decode method_2_code 54 = .ok (.bipush 6, 2) := by decide +kernel
theorem own_d1_56 : decode method_2_code 56 = .ok (.if_icmp .ne 7, 3) := by decide +kernel
theorem own_d1_59 : decode method_2_code 59 = .ok (.getstatic 28, 3) := by decide +kernel
theorem own_d1_62 : decode method_2_code 62 = .ok (.areturn, 1) := by decide +kernel
theorem own_d1_63 : decode method_2_code 63 = .ok (.iload_n 0, 1) := by decide +kernel
theorem own_d1_64 : decode method_2_code 64 = .ok (.bipush 7, 2) := by decide +kernel
theorem own_d1_66 : decode method_2_code 66 = .ok (.if_icmp .ne 7, 3) := by decide +kernel
theorem own_d1_69 : decode method_2_code 69 = .ok (.getstatic 31, 3) := by decide +kernel
theorem own_d1_72 : decode method_2_code 72 = .ok (.areturn, 1) := by decide +kernel
theorem own_d1_73 : decode method_2_code 73 = .ok (.iload_n 0, 1) := by decide +kernel
theorem own_d1_74 : decode method_2_code 74 = .ok (.bipush 8, 2) := by decide +kernel
theorem own_d1_76 : decode method_2_code 76 = .ok (.if_icmp .ne 7, 3) := by decide +kernel
theorem own_d1_79 : decode method_2_code 79 = .ok (.getstatic 34, 3) := by decide +kernel
theorem own_d1_82 : decode method_2_code 82 = .ok (.areturn, 1) := by decide +kernel
theorem own_d1_83 : decode method_2_code 83 = .ok (.iload_n 0, 1) := by decide +kernel
theorem own_d1_84 : decode method_2_code 84 = .ok (.bipush 9, 2) := by decide +kernel
theorem own_d1_86 : decode method_2_code 86 = .ok (.if_icmp .ne 7, 3) := by decide +kernel
theorem own_d1_89 : decode method_2_code 89 = .ok (.getstatic 37, 3) := by decide +kernel
theorem own_d1_92 : decode method_2_code 92 = .ok (.areturn, 1) := by decide +kernel
theorem own_d1_93 : decode method_2_code 93 = .ok (.iload_n 0, 1) := by decide +kernel
theorem own_d1_94 : decode method_2_code 94 = .ok (.bipush 10, 2) := by decide +kernel
theorem own_d1_96 : decode method_2_code 96 = .ok (.if_icmp .ne 7, 3) := by decide +kernel
theorem own_d1_99 : decode method_2_code 99 = .ok (.getstatic 40, 3) := by decide +kernel
theorem own_d1_102 : decode method_2_code 102 = .ok (.areturn, 1) := by decide +kernel
theorem own_d1_103 : decode method_2_code 103 = .ok (.getstatic 43, 3) := by decide +kernel
theorem own_d1_106 : decode method_2_code 106 = .ok (.areturn, 1) := by decide +kernel
theorem own_ef1 (m : MethodId) (x0 : Int32) : entryFrame m #[(.int x0)] 1 = mkF m 0 #[.val (.int x0)] [] := by first | (simp [entryFrame, mkF, argsToLocals, Value.category]; done) | rfl
def Q1 (Z : State) (p1 : Int32) (h0 : Heap) (n0 : Nat) (v : Option Value) (h : Heap) (L : List Loc) : Prop := ∃ (w : Addr) (fa : Int32) (la : Int32), v = some (.ref w) ∧ Fr n0 L ∧ h = h0 ∧ (fa = la ↔ 6 ≤ p1.toInt) ∧ (Exa Z h0 w "com/example/gyre/gyre/EulerSequence") ∧ (Fld Z h0 w "com/example/gyre/gyre/EulerSequence" "first" "I" (.int fa)) ∧ (Fld Z h0 w "com/example/gyre/gyre/EulerSequence" "last" "I" (.int la))
set_option maxRecDepth 65536 in
set_option maxHeartbeats 40000000 in
theorem rm1 (l : Launch) (Z : State) (a0 : Array Value) (hw : ∀ d ∈ tables_1, d.before a0 Z = true) (ws : List Jvm.Cond) (p1 : Int32) (h0 : Heap) (n0 : Nat) (Z0 : n0 ≤ h0.size) (hall : own_All Z h0) (hp : 0 ≤ p1.toInt ∧ p1.toInt < 12) :
    MetFree l (⟨"com/example/gyre/gyre/EulerSequenceIsProperEulerPinLaw", "pick", "(I)Lcom/example/gyre/gyre/EulerSequence;"⟩ : MethodName) (head1 (Jvm.Cond.code (⟨"com/example/gyre/gyre/EulerSequenceIsProperEulerPinLaw", "pick", "(I)Lcom/example/gyre/gyre/EulerSequence;"⟩ : MethodName) method_2_code 1 (some (.object "com/example/gyre/gyre/EulerSequence")) :: ws) ({ frames := 0, cells := 0, slots := 0, locals := 0 } : Room)) (fun a U => a = #[(.int p1)] ∧ Z.Warmed39 U.vm ∧ U.heap = h0) (fun _ _ _ _ _ => True) (fun _ U o U' => ∃ v L, o = .returned v ∧ Q1 Z p1 h0 n0 v U'.heap L ∧ FrameEnd U o U' L ({ frames := 0, cells := 0, slots := 0, locals := 0 } : Room).cells ({ frames := 0, cells := 0, slots := 0, locals := 0 } : Room).slots) := by
  refine MetFree.of_bodySF (plainFor_of_name own_pn0) hisR ?_
  intro p e s m args below meth c s₁ Bd hml0 hP hK
  obtain ⟨rfl, hZ, hh⟩ := hP
  have hx := Bd.exec
  have hby := Bd.bytes
  have hlk : meth.locks = false := Bd.notSynchronized
  have hml : c.maxLocals = 1 := hml0
  have hown : s.vm.findClass "com/example/gyre/gyre/EulerSequenceIsProperEulerPinLaw" = some m.cls := findClass_of_methodNamed Bd.named
  have hnm := (name_of_methodNamed Bd.named Bd.method).1
  have X0 : Stand p l e ({ frames := 0, cells := 0, slots := 0, locals := 0 } : Room) s m #[(.int p1)] below meth c s₁ [] 0 0 := Stand.of_body Bd
  have e0 : s₁.heap = h0 := by rw [← hh, Bd.state]; rfl
  have N0 := Fr.nil n0
  refine own_body (A := s₁.setTop (mkF m 0 #[.val (.int p1)] [])) (Q := Q1 Z p1 h0 n0) (fun t k => castTop (own_ef1 m p1) k) ?_
  obtain ⟨⟨w_XYZ, S_XYZ, E_XYZ, F_XYZ, L_XYZ⟩, ⟨w_XZY, S_XZY, E_XZY, F_XZY, L_XZY⟩, ⟨w_YXZ, S_YXZ, E_YXZ, F_YXZ, L_YXZ⟩, ⟨w_YZX, S_YZX, E_YZX, F_YZX, L_YZX⟩, ⟨w_ZXY, S_ZXY, E_ZXY, F_ZXY, L_ZXY⟩, ⟨w_ZYX, S_ZYX, E_ZYX, F_ZYX, L_ZYX⟩, ⟨w_XYX, S_XYX, E_XYX, F_XYX, L_XYX⟩, ⟨w_XZX, S_XZX, E_XZX, F_XZX, L_XZX⟩, ⟨w_YXY, S_YXY, E_YXY, F_YXY, L_YXY⟩, ⟨w_YZY, S_YZY, E_YZY, F_YZY, L_YZY⟩, ⟨w_ZXZ, S_ZXZ, E_ZXZ, F_ZXZ, L_ZXZ⟩, ⟨w_ZYZ, S_ZYZ, E_ZYZ, F_ZYZ, L_ZYZ⟩⟩ := hall
  refine own_via (B := s₁.setTop (mkF m 1 #[.val (.int p1)] [(.int p1)])) (fun t k => XS.iloadN X0.here hx rfl (hb hby own_d1_0) rfl k) ?_
  by_cases hc1 : p1 = (0 : Int32)
  · refine own_via (B := s₁.setTop (mkF m 4 #[.val (.int p1)] [])) (fun t k => XS.ifNo X0.here hx rfl (hb hby own_d1_1) rfl ((if0 _ _).trans (teq hc1).2) k) ?_
    obtain ⟨T1, X1, e1, st1⟩ := getS2 X0 hx hZ hown (host := "") (Or.inl (hw _ (List.mem_of_getElem? (i := 5) rfl))) Via.refl e0 S_XYZ (g := (mkF m 4 #[.val (.int p1)] [])) rfl (hb hby own_d1_4)
    refine own_via (B := T1.setTop (mkF m 7 #[.val (.int p1)] [(.ref w_XYZ)])) (fun t k => st1 t k) ?_
    refine own_leaf X1 hx hlk (t := (.object "com/example/gyre/gyre/EulerSequence")) Bd.returns rfl (Or.inr (Or.inr (Or.inr (Or.inr ⟨rfl, rfl, rfl⟩)))) (hb hby own_d1_7) (by decide) (by decide) ?_
    show Q1 Z p1 h0 n0 _ T1.heap _
    rw [e1]
    refine ⟨w_XYZ, (0 : Int32), (2 : Int32), ?_, N0, rfl, ?_, E_XYZ, F_XYZ, L_XYZ⟩
    · rfl
    · have e0 : ∀ k : Int32, (k = k) := fun _ => rfl
      simp only [own_eq] at hc1
      exact own_ttF (by decide) (by simp at *; omega)
  · refine own_via (B := s₁.setTop (mkF m 8 #[.val (.int p1)] [])) (fun t k => XS.ifYes X0.here hx rfl (pc0 := 1) (pc' := 8) rfl (hb hby own_d1_1) rfl ((if0 _ _).trans (feq hc1).2) (by decide) (by decide) k) ?_
    refine own_via (B := s₁.setTop (mkF m 9 #[.val (.int p1)] [(.int p1)])) (fun t k => XS.iloadN X0.here hx rfl (hb hby own_d1_8) rfl k) ?_
    refine own_via (B := s₁.setTop (mkF m 10 #[.val (.int p1)] [(.int (1 : Int32)), (.int p1)])) (fun t k => XS.iconst X0.here hx rfl (hb hby own_d1_9) k) ?_
    by_cases hc10 : p1 = (1 : Int32)
    · refine own_via (B := s₁.setTop (mkF m 13 #[.val (.int p1)] [])) (fun t k => XS.icmpNo X0.here hx rfl (hb hby own_d1_10) rfl (teq hc10).2 k) ?_
      obtain ⟨T2, X2, e2, st2⟩ := getS2 X0 hx hZ hown (host := "") (Or.inl (hw _ (List.mem_of_getElem? (i := 29) rfl))) Via.refl e0 S_XZY (g := (mkF m 13 #[.val (.int p1)] [])) rfl (hb hby own_d1_13)
      refine own_via (B := T2.setTop (mkF m 16 #[.val (.int p1)] [(.ref w_XZY)])) (fun t k => st2 t k) ?_
      refine own_leaf X2 hx hlk (t := (.object "com/example/gyre/gyre/EulerSequence")) Bd.returns rfl (Or.inr (Or.inr (Or.inr (Or.inr ⟨rfl, rfl, rfl⟩)))) (hb hby own_d1_16) (by decide) (by decide) ?_
      show Q1 Z p1 h0 n0 _ T2.heap _
      rw [e2]
      refine ⟨w_XZY, (0 : Int32), (1 : Int32), ?_, N0, rfl, ?_, E_XZY, F_XZY, L_XZY⟩
      · rfl
      · have e0 : ∀ k : Int32, (k = k) := fun _ => rfl
        simp only [own_eq] at hc1 hc10
        exact own_ttF (by decide) (by simp at *; omega)
    · refine own_via (B := s₁.setTop (mkF m 17 #[.val (.int p1)] [])) (fun t k => XS.icmpYes X0.here hx rfl (pc0 := 10) (pc' := 17) rfl (hb hby own_d1_10) rfl (feq hc10).2 (by decide) (by decide) k) ?_
      refine own_via (B := s₁.setTop (mkF m 18 #[.val (.int p1)] [(.int p1)])) (fun t k => XS.iloadN X0.here hx rfl (hb hby own_d1_17) rfl k) ?_
      refine own_via (B := s₁.setTop (mkF m 19 #[.val (.int p1)] [(.int (2 : Int32)), (.int p1)])) (fun t k => XS.iconst X0.here hx rfl (hb hby own_d1_18) k) ?_
      by_cases hc19 : p1 = (2 : Int32)
      · refine own_via (B := s₁.setTop (mkF m 22 #[.val (.int p1)] [])) (fun t k => XS.icmpNo X0.here hx rfl (hb hby own_d1_19) rfl (teq hc19).2 k) ?_
        obtain ⟨T3, X3, e3, st3⟩ := getS2 X0 hx hZ hown (host := "") (Or.inl (hw _ (List.mem_of_getElem? (i := 19) rfl))) Via.refl e0 S_YXZ (g := (mkF m 22 #[.val (.int p1)] [])) rfl (hb hby own_d1_22)
        refine own_via (B := T3.setTop (mkF m 25 #[.val (.int p1)] [(.ref w_YXZ)])) (fun t k => st3 t k) ?_
        refine own_leaf X3 hx hlk (t := (.object "com/example/gyre/gyre/EulerSequence")) Bd.returns rfl (Or.inr (Or.inr (Or.inr (Or.inr ⟨rfl, rfl, rfl⟩)))) (hb hby own_d1_25) (by decide) (by decide) ?_
        show Q1 Z p1 h0 n0 _ T3.heap _
        rw [e3]
        refine ⟨w_YXZ, (1 : Int32), (2 : Int32), ?_, N0, rfl, ?_, E_YXZ, F_YXZ, L_YXZ⟩
        · rfl
        · have e0 : ∀ k : Int32, (k = k) := fun _ => rfl
          simp only [own_eq] at hc1 hc10 hc19
          exact own_ttF (by decide) (by simp at *; omega)
      · refine own_via (B := s₁.setTop (mkF m 26 #[.val (.int p1)] [])) (fun t k => XS.icmpYes X0.here hx rfl (pc0 := 19) (pc' := 26) rfl (hb hby own_d1_19) rfl (feq hc19).2 (by decide) (by decide) k) ?_
        refine own_via (B := s₁.setTop (mkF m 27 #[.val (.int p1)] [(.int p1)])) (fun t k => XS.iloadN X0.here hx rfl (hb hby own_d1_26) rfl k) ?_
        refine own_via (B := s₁.setTop (mkF m 28 #[.val (.int p1)] [(.int (3 : Int32)), (.int p1)])) (fun t k => XS.iconst X0.here hx rfl (hb hby own_d1_27) k) ?_
        by_cases hc28 : p1 = (3 : Int32)
        · refine own_via (B := s₁.setTop (mkF m 31 #[.val (.int p1)] [])) (fun t k => XS.icmpNo X0.here hx rfl (hb hby own_d1_28) rfl (teq hc28).2 k) ?_
          obtain ⟨T4, X4, e4, st4⟩ := getS2 X0 hx hZ hown (host := "") (Or.inl (hw _ (List.mem_of_getElem? (i := 17) rfl))) Via.refl e0 S_YZX (g := (mkF m 31 #[.val (.int p1)] [])) rfl (hb hby own_d1_31)
          refine own_via (B := T4.setTop (mkF m 34 #[.val (.int p1)] [(.ref w_YZX)])) (fun t k => st4 t k) ?_
          refine own_leaf X4 hx hlk (t := (.object "com/example/gyre/gyre/EulerSequence")) Bd.returns rfl (Or.inr (Or.inr (Or.inr (Or.inr ⟨rfl, rfl, rfl⟩)))) (hb hby own_d1_34) (by decide) (by decide) ?_
          show Q1 Z p1 h0 n0 _ T4.heap _
          rw [e4]
          refine ⟨w_YZX, (1 : Int32), (0 : Int32), ?_, N0, rfl, ?_, E_YZX, F_YZX, L_YZX⟩
          · rfl
          · have e0 : ∀ k : Int32, (k = k) := fun _ => rfl
            simp only [own_eq] at hc1 hc10 hc19 hc28
            exact own_ttF (by decide) (by simp at *; omega)
        · refine own_via (B := s₁.setTop (mkF m 35 #[.val (.int p1)] [])) (fun t k => XS.icmpYes X0.here hx rfl (pc0 := 28) (pc' := 35) rfl (hb hby own_d1_28) rfl (feq hc28).2 (by decide) (by decide) k) ?_
          refine own_via (B := s₁.setTop (mkF m 36 #[.val (.int p1)] [(.int p1)])) (fun t k => XS.iloadN X0.here hx rfl (hb hby own_d1_35) rfl k) ?_
          refine own_via (B := s₁.setTop (mkF m 37 #[.val (.int p1)] [(.int (4 : Int32)), (.int p1)])) (fun t k => XS.iconst X0.here hx rfl (hb hby own_d1_36) k) ?_
          by_cases hc37 : p1 = (4 : Int32)
          · refine own_via (B := s₁.setTop (mkF m 40 #[.val (.int p1)] [])) (fun t k => XS.icmpNo X0.here hx rfl (hb hby own_d1_37) rfl (teq hc37).2 k) ?_
            obtain ⟨T5, X5, e5, st5⟩ := getS2 X0 hx hZ hown (host := "") (Or.inl (hw _ (List.mem_of_getElem? (i := 25) rfl))) Via.refl e0 S_ZXY (g := (mkF m 40 #[.val (.int p1)] [])) rfl (hb hby own_d1_40)
            refine own_via (B := T5.setTop (mkF m 43 #[.val (.int p1)] [(.ref w_ZXY)])) (fun t k => st5 t k) ?_
            refine own_leaf X5 hx hlk (t := (.object "com/example/gyre/gyre/EulerSequence")) Bd.returns rfl (Or.inr (Or.inr (Or.inr (Or.inr ⟨rfl, rfl, rfl⟩)))) (hb hby own_d1_43) (by decide) (by decide) ?_
            show Q1 Z p1 h0 n0 _ T5.heap _
            rw [e5]
            refine ⟨w_ZXY, (2 : Int32), (1 : Int32), ?_, N0, rfl, ?_, E_ZXY, F_ZXY, L_ZXY⟩
            · rfl
            · have e0 : ∀ k : Int32, (k = k) := fun _ => rfl
              simp only [own_eq] at hc1 hc10 hc19 hc28 hc37
              exact own_ttF (by decide) (by simp at *; omega)
          · refine own_via (B := s₁.setTop (mkF m 44 #[.val (.int p1)] [])) (fun t k => XS.icmpYes X0.here hx rfl (pc0 := 37) (pc' := 44) rfl (hb hby own_d1_37) rfl (feq hc37).2 (by decide) (by decide) k) ?_
            refine own_via (B := s₁.setTop (mkF m 45 #[.val (.int p1)] [(.int p1)])) (fun t k => XS.iloadN X0.here hx rfl (hb hby own_d1_44) rfl k) ?_
            refine own_via (B := s₁.setTop (mkF m 46 #[.val (.int p1)] [(.int (5 : Int32)), (.int p1)])) (fun t k => XS.iconst X0.here hx rfl (hb hby own_d1_45) k) ?_
            by_cases hc46 : p1 = (5 : Int32)
            · refine own_via (B := s₁.setTop (mkF m 49 #[.val (.int p1)] [])) (fun t k => XS.icmpNo X0.here hx rfl (hb hby own_d1_46) rfl (teq hc46).2 k) ?_
              obtain ⟨T6, X6, e6, st6⟩ := getS2 X0 hx hZ hown (host := "") (Or.inl (hw _ (List.mem_of_getElem? (i := 37) rfl))) Via.refl e0 S_ZYX (g := (mkF m 49 #[.val (.int p1)] [])) rfl (hb hby own_d1_49)
              refine own_via (B := T6.setTop (mkF m 52 #[.val (.int p1)] [(.ref w_ZYX)])) (fun t k => st6 t k) ?_
              refine own_leaf X6 hx hlk (t := (.object "com/example/gyre/gyre/EulerSequence")) Bd.returns rfl (Or.inr (Or.inr (Or.inr (Or.inr ⟨rfl, rfl, rfl⟩)))) (hb hby own_d1_52) (by decide) (by decide) ?_
              show Q1 Z p1 h0 n0 _ T6.heap _
              rw [e6]
              refine ⟨w_ZYX, (2 : Int32), (0 : Int32), ?_, N0, rfl, ?_, E_ZYX, F_ZYX, L_ZYX⟩
              · rfl
              · have e0 : ∀ k : Int32, (k = k) := fun _ => rfl
                simp only [own_eq] at hc1 hc10 hc19 hc28 hc37 hc46
                exact own_ttF (by decide) (by simp at *; omega)
            · refine own_via (B := s₁.setTop (mkF m 53 #[.val (.int p1)] [])) (fun t k => XS.icmpYes X0.here hx rfl (pc0 := 46) (pc' := 53) rfl (hb hby own_d1_46) rfl (feq hc46).2 (by decide) (by decide) k) ?_
              refine own_via (B := s₁.setTop (mkF m 54 #[.val (.int p1)] [(.int p1)])) (fun t k => XS.iloadN X0.here hx rfl (hb hby own_d1_53) rfl k) ?_
              refine own_via (B := s₁.setTop (mkF m 56 #[.val (.int p1)] [(.int (6 : Int32)), (.int p1)])) (fun t k => XS.bipush X0.here hx rfl (hb hby own_d1_54) k) ?_
              by_cases hc56 : p1 = (6 : Int32)
              · refine own_via (B := s₁.setTop (mkF m 59 #[.val (.int p1)] [])) (fun t k => XS.icmpNo X0.here hx rfl (hb hby own_d1_56) rfl (teq hc56).2 k) ?_
                obtain ⟨T7, X7, e7, st7⟩ := getS2 X0 hx hZ hown (host := "") (Or.inl (hw _ (List.mem_of_getElem? (i := 35) rfl))) Via.refl e0 S_XYX (g := (mkF m 59 #[.val (.int p1)] [])) rfl (hb hby own_d1_59)
                refine own_via (B := T7.setTop (mkF m 62 #[.val (.int p1)] [(.ref w_XYX)])) (fun t k => st7 t k) ?_
                refine own_leaf X7 hx hlk (t := (.object "com/example/gyre/gyre/EulerSequence")) Bd.returns rfl (Or.inr (Or.inr (Or.inr (Or.inr ⟨rfl, rfl, rfl⟩)))) (hb hby own_d1_62) (by decide) (by decide) ?_
                show Q1 Z p1 h0 n0 _ T7.heap _
                rw [e7]
                refine ⟨w_XYX, (0 : Int32), (0 : Int32), ?_, N0, rfl, ?_, E_XYX, F_XYX, L_XYX⟩
                · rfl
                · have e0 : ∀ k : Int32, (k = k) := fun _ => rfl
                  simp only [own_eq] at hc1 hc10 hc19 hc28 hc37 hc46 hc56
                  exact own_ttT (by decide) (by simp at *; omega)
              · refine own_via (B := s₁.setTop (mkF m 63 #[.val (.int p1)] [])) (fun t k => XS.icmpYes X0.here hx rfl (pc0 := 56) (pc' := 63) rfl (hb hby own_d1_56) rfl (feq hc56).2 (by decide) (by decide) k) ?_
                refine own_via (B := s₁.setTop (mkF m 64 #[.val (.int p1)] [(.int p1)])) (fun t k => XS.iloadN X0.here hx rfl (hb hby own_d1_63) rfl k) ?_
                refine own_via (B := s₁.setTop (mkF m 66 #[.val (.int p1)] [(.int (7 : Int32)), (.int p1)])) (fun t k => XS.bipush X0.here hx rfl (hb hby own_d1_64) k) ?_
                by_cases hc66 : p1 = (7 : Int32)
                · refine own_via (B := s₁.setTop (mkF m 69 #[.val (.int p1)] [])) (fun t k => XS.icmpNo X0.here hx rfl (hb hby own_d1_66) rfl (teq hc66).2 k) ?_
                  obtain ⟨T8, X8, e8, st8⟩ := getS2 X0 hx hZ hown (host := "") (Or.inl (hw _ (List.mem_of_getElem? (i := 21) rfl))) Via.refl e0 S_XZX (g := (mkF m 69 #[.val (.int p1)] [])) rfl (hb hby own_d1_69)
                  refine own_via (B := T8.setTop (mkF m 72 #[.val (.int p1)] [(.ref w_XZX)])) (fun t k => st8 t k) ?_
                  refine own_leaf X8 hx hlk (t := (.object "com/example/gyre/gyre/EulerSequence")) Bd.returns rfl (Or.inr (Or.inr (Or.inr (Or.inr ⟨rfl, rfl, rfl⟩)))) (hb hby own_d1_72) (by decide) (by decide) ?_
                  show Q1 Z p1 h0 n0 _ T8.heap _
                  rw [e8]
                  refine ⟨w_XZX, (0 : Int32), (0 : Int32), ?_, N0, rfl, ?_, E_XZX, F_XZX, L_XZX⟩
                  · rfl
                  · have e0 : ∀ k : Int32, (k = k) := fun _ => rfl
                    simp only [own_eq] at hc1 hc10 hc19 hc28 hc37 hc46 hc56 hc66
                    exact own_ttT (by decide) (by simp at *; omega)
                · refine own_via (B := s₁.setTop (mkF m 73 #[.val (.int p1)] [])) (fun t k => XS.icmpYes X0.here hx rfl (pc0 := 66) (pc' := 73) rfl (hb hby own_d1_66) rfl (feq hc66).2 (by decide) (by decide) k) ?_
                  refine own_via (B := s₁.setTop (mkF m 74 #[.val (.int p1)] [(.int p1)])) (fun t k => XS.iloadN X0.here hx rfl (hb hby own_d1_73) rfl k) ?_
                  refine own_via (B := s₁.setTop (mkF m 76 #[.val (.int p1)] [(.int (8 : Int32)), (.int p1)])) (fun t k => XS.bipush X0.here hx rfl (hb hby own_d1_74) k) ?_
                  by_cases hc76 : p1 = (8 : Int32)
                  · refine own_via (B := s₁.setTop (mkF m 79 #[.val (.int p1)] [])) (fun t k => XS.icmpNo X0.here hx rfl (hb hby own_d1_76) rfl (teq hc76).2 k) ?_
                    obtain ⟨T9, X9, e9, st9⟩ := getS2 X0 hx hZ hown (host := "") (Or.inl (hw _ (List.mem_of_getElem? (i := 27) rfl))) Via.refl e0 S_YXY (g := (mkF m 79 #[.val (.int p1)] [])) rfl (hb hby own_d1_79)
                    refine own_via (B := T9.setTop (mkF m 82 #[.val (.int p1)] [(.ref w_YXY)])) (fun t k => st9 t k) ?_
                    refine own_leaf X9 hx hlk (t := (.object "com/example/gyre/gyre/EulerSequence")) Bd.returns rfl (Or.inr (Or.inr (Or.inr (Or.inr ⟨rfl, rfl, rfl⟩)))) (hb hby own_d1_82) (by decide) (by decide) ?_
                    show Q1 Z p1 h0 n0 _ T9.heap _
                    rw [e9]
                    refine ⟨w_YXY, (1 : Int32), (1 : Int32), ?_, N0, rfl, ?_, E_YXY, F_YXY, L_YXY⟩
                    · rfl
                    · have e0 : ∀ k : Int32, (k = k) := fun _ => rfl
                      simp only [own_eq] at hc1 hc10 hc19 hc28 hc37 hc46 hc56 hc66 hc76
                      exact own_ttT (by decide) (by simp at *; omega)
                  · refine own_via (B := s₁.setTop (mkF m 83 #[.val (.int p1)] [])) (fun t k => XS.icmpYes X0.here hx rfl (pc0 := 76) (pc' := 83) rfl (hb hby own_d1_76) rfl (feq hc76).2 (by decide) (by decide) k) ?_
                    refine own_via (B := s₁.setTop (mkF m 84 #[.val (.int p1)] [(.int p1)])) (fun t k => XS.iloadN X0.here hx rfl (hb hby own_d1_83) rfl k) ?_
                    refine own_via (B := s₁.setTop (mkF m 86 #[.val (.int p1)] [(.int (9 : Int32)), (.int p1)])) (fun t k => XS.bipush X0.here hx rfl (hb hby own_d1_84) k) ?_
                    by_cases hc86 : p1 = (9 : Int32)
                    · refine own_via (B := s₁.setTop (mkF m 89 #[.val (.int p1)] [])) (fun t k => XS.icmpNo X0.here hx rfl (hb hby own_d1_86) rfl (teq hc86).2 k) ?_
                      obtain ⟨T10, X10, e10, st10⟩ := getS2 X0 hx hZ hown (host := "") (Or.inl (hw _ (List.mem_of_getElem? (i := 33) rfl))) Via.refl e0 S_YZY (g := (mkF m 89 #[.val (.int p1)] [])) rfl (hb hby own_d1_89)
                      refine own_via (B := T10.setTop (mkF m 92 #[.val (.int p1)] [(.ref w_YZY)])) (fun t k => st10 t k) ?_
                      refine own_leaf X10 hx hlk (t := (.object "com/example/gyre/gyre/EulerSequence")) Bd.returns rfl (Or.inr (Or.inr (Or.inr (Or.inr ⟨rfl, rfl, rfl⟩)))) (hb hby own_d1_92) (by decide) (by decide) ?_
                      show Q1 Z p1 h0 n0 _ T10.heap _
                      rw [e10]
                      refine ⟨w_YZY, (1 : Int32), (1 : Int32), ?_, N0, rfl, ?_, E_YZY, F_YZY, L_YZY⟩
                      · rfl
                      · have e0 : ∀ k : Int32, (k = k) := fun _ => rfl
                        simp only [own_eq] at hc1 hc10 hc19 hc28 hc37 hc46 hc56 hc66 hc76 hc86
                        exact own_ttT (by decide) (by simp at *; omega)
                    · refine own_via (B := s₁.setTop (mkF m 93 #[.val (.int p1)] [])) (fun t k => XS.icmpYes X0.here hx rfl (pc0 := 86) (pc' := 93) rfl (hb hby own_d1_86) rfl (feq hc86).2 (by decide) (by decide) k) ?_
                      refine own_via (B := s₁.setTop (mkF m 94 #[.val (.int p1)] [(.int p1)])) (fun t k => XS.iloadN X0.here hx rfl (hb hby own_d1_93) rfl k) ?_
                      refine own_via (B := s₁.setTop (mkF m 96 #[.val (.int p1)] [(.int (10 : Int32)), (.int p1)])) (fun t k => XS.bipush X0.here hx rfl (hb hby own_d1_94) k) ?_
                      by_cases hc96 : p1 = (10 : Int32)
                      · refine own_via (B := s₁.setTop (mkF m 99 #[.val (.int p1)] [])) (fun t k => XS.icmpNo X0.here hx rfl (hb hby own_d1_96) rfl (teq hc96).2 k) ?_
                        obtain ⟨T11, X11, e11, st11⟩ := getS2 X0 hx hZ hown (host := "") (Or.inl (hw _ (List.mem_of_getElem? (i := 31) rfl))) Via.refl e0 S_ZXZ (g := (mkF m 99 #[.val (.int p1)] [])) rfl (hb hby own_d1_99)
                        refine own_via (B := T11.setTop (mkF m 102 #[.val (.int p1)] [(.ref w_ZXZ)])) (fun t k => st11 t k) ?_
                        refine own_leaf X11 hx hlk (t := (.object "com/example/gyre/gyre/EulerSequence")) Bd.returns rfl (Or.inr (Or.inr (Or.inr (Or.inr ⟨rfl, rfl, rfl⟩)))) (hb hby own_d1_102) (by decide) (by decide) ?_
                        show Q1 Z p1 h0 n0 _ T11.heap _
                        rw [e11]
                        refine ⟨w_ZXZ, (2 : Int32), (2 : Int32), ?_, N0, rfl, ?_, E_ZXZ, F_ZXZ, L_ZXZ⟩
                        · rfl
                        · have e0 : ∀ k : Int32, (k = k) := fun _ => rfl
                          simp only [own_eq] at hc1 hc10 hc19 hc28 hc37 hc46 hc56 hc66 hc76 hc86 hc96
                          exact own_ttT (by decide) (by simp at *; omega)
                      · refine own_via (B := s₁.setTop (mkF m 103 #[.val (.int p1)] [])) (fun t k => XS.icmpYes X0.here hx rfl (pc0 := 96) (pc' := 103) rfl (hb hby own_d1_96) rfl (feq hc96).2 (by decide) (by decide) k) ?_
                        obtain ⟨T12, X12, e12, st12⟩ := getS2 X0 hx hZ hown (host := "") (Or.inl (hw _ (List.mem_of_getElem? (i := 23) rfl))) Via.refl e0 S_ZYZ (g := (mkF m 103 #[.val (.int p1)] [])) rfl (hb hby own_d1_103)
                        refine own_via (B := T12.setTop (mkF m 106 #[.val (.int p1)] [(.ref w_ZYZ)])) (fun t k => st12 t k) ?_
                        refine own_leaf X12 hx hlk (t := (.object "com/example/gyre/gyre/EulerSequence")) Bd.returns rfl (Or.inr (Or.inr (Or.inr (Or.inr ⟨rfl, rfl, rfl⟩)))) (hb hby own_d1_106) (by decide) (by decide) ?_
                        show Q1 Z p1 h0 n0 _ T12.heap _
                        rw [e12]
                        refine ⟨w_ZYZ, (2 : Int32), (2 : Int32), ?_, N0, rfl, ?_, E_ZYZ, F_ZYZ, L_ZYZ⟩
                        · rfl
                        · have e0 : ∀ k : Int32, (k = k) := fun _ => rfl
                          simp only [own_eq] at hc1 hc10 hc19 hc28 hc37 hc46 hc56 hc66 hc76 hc86 hc96
                          exact own_ttT (by decide) (by simp at *; omega)
theorem own_pn1 : plainName "com/example/gyre/gyre/EulerSequence" = true := by first | (simp [plainName, overriddenIn]; done) | decide +kernel
theorem own_d2_0 : decode prog_3_method_4_code 0 = .ok (.aload_n 0, 1) := by decide +kernel
theorem own_d2_1 : decode prog_3_method_4_code 1 = .ok (.getfield 59, 3) := by decide +kernel
theorem own_d2_4 : decode prog_3_method_4_code 4 = .ok (.aload_n 0, 1) := by decide +kernel
theorem own_d2_5 : decode prog_3_method_4_code 5 = .ok (.getfield 66, 3) := by decide +kernel
theorem own_d2_8 : decode prog_3_method_4_code 8 = .ok (.if_icmp .ne 7, 3) := by decide +kernel
theorem own_d2_11 : decode prog_3_method_4_code 11 = .ok (.iconst 1, 1) := by decide +kernel
theorem own_d2_12 : decode prog_3_method_4_code 12 = .ok (.goto 4, 3) := by decide +kernel
theorem own_d2_15 : decode prog_3_method_4_code 15 = .ok (.iconst 0, 1) := by decide +kernel
theorem own_d2_16 : decode prog_3_method_4_code 16 = .ok (.ireturn, 1) := by decide +kernel
theorem own_ef2 (m : MethodId) (x0 : Addr) : entryFrame m #[(.ref x0)] 1 = mkF m 0 #[.val (.ref x0)] [] := by first | (simp [entryFrame, mkF, argsToLocals, Value.category]; done) | rfl
def Q2 (Z : State) (a2 : Addr) (f2 : Int32) (l2 : Int32) (h0 : Heap) (n0 : Nat) (v : Option Value) (h : Heap) (L : List Loc) : Prop := v = some (.int (own_bit (f2 = l2))) ∧ Fr n0 L ∧ h = h0
set_option maxRecDepth 65536 in
set_option maxHeartbeats 40000000 in
theorem rm2 (l : Launch) (Z : State) (a0 : Array Value) (hw : ∀ d ∈ tables_1, d.before a0 Z = true) (ws : List Jvm.Cond) (a2 : Addr) (f2 : Int32) (l2 : Int32) (h0 : Heap) (n0 : Nat) (Z0 : n0 ≤ h0.size) (F2 : Fld Z h0 a2 "com/example/gyre/gyre/EulerSequence" "first" "I" (.int f2)) (L2 : Fld Z h0 a2 "com/example/gyre/gyre/EulerSequence" "last" "I" (.int l2)) :
    MetFree l (⟨"com/example/gyre/gyre/EulerSequence", "isProperEuler", "()Z"⟩ : MethodName) (head1 (Jvm.Cond.code (⟨"com/example/gyre/gyre/EulerSequence", "isProperEuler", "()Z"⟩ : MethodName) prog_3_method_4_code 1 (some .boolean) :: ws) ({ frames := 0, cells := 0, slots := 0, locals := 0 } : Room)) (fun a U => a = #[(.ref a2)] ∧ Z.Warmed39 U.vm ∧ U.heap = h0) (fun _ _ _ _ _ => True) (fun _ U o U' => ∃ v L, o = .returned v ∧ Q2 Z a2 f2 l2 h0 n0 v U'.heap L ∧ FrameEnd U o U' L ({ frames := 0, cells := 0, slots := 0, locals := 0 } : Room).cells ({ frames := 0, cells := 0, slots := 0, locals := 0 } : Room).slots) := by
  refine MetFree.of_bodySF (plainFor_of_name own_pn1) hisR ?_
  intro p e s m args below meth c s₁ Bd hml0 hP hK
  obtain ⟨rfl, hZ, hh⟩ := hP
  have hx := Bd.exec
  have hby := Bd.bytes
  have hlk : meth.locks = false := Bd.notSynchronized
  have hml : c.maxLocals = 1 := hml0
  have hown : s.vm.findClass "com/example/gyre/gyre/EulerSequence" = some m.cls := findClass_of_methodNamed Bd.named
  have hnm := (name_of_methodNamed Bd.named Bd.method).1
  have X0 : Stand p l e ({ frames := 0, cells := 0, slots := 0, locals := 0 } : Room) s m #[(.ref a2)] below meth c s₁ [] 0 0 := Stand.of_body Bd
  have e0 : s₁.heap = h0 := by rw [← hh, Bd.state]; rfl
  have N0 := Fr.nil n0
  refine own_body (A := s₁.setTop (mkF m 0 #[.val (.ref a2)] [])) (Q := Q2 Z a2 f2 l2 h0 n0) (fun t k => castTop (own_ef2 m a2) k) ?_
  refine own_via (B := s₁.setTop (mkF m 1 #[.val (.ref a2)] [(.ref a2)])) (fun t k => XS.aloadN X0.here hx rfl (hb hby own_d2_0) rfl rfl k) ?_
  obtain ⟨T1, X1, e1, st1⟩ := getF X0 hx hZ hown (host := "") (Or.inl (hw _ (List.mem_of_getElem? (i := 13) rfl))) Via.refl e0 F2 (g := (mkF m 1 #[.val (.ref a2)] [(.ref a2)])) rfl rfl (hb hby own_d2_1)
  refine own_via (B := T1.setTop (mkF m 4 #[.val (.ref a2)] [(.int f2)])) (fun t k => st1 t k) ?_
  refine own_via (B := T1.setTop (mkF m 5 #[.val (.ref a2)] [(.ref a2), (.int f2)])) (fun t k => XS.aloadN X1.here hx rfl (hb hby own_d2_4) rfl rfl k) ?_
  obtain ⟨T2, X2, e2, st2⟩ := getF X1 hx hZ hown (host := "") (Or.inl (hw _ (List.mem_of_getElem? (i := 15) rfl))) Via.refl e1 L2 (g := (mkF m 5 #[.val (.ref a2)] [(.ref a2), (.int f2)])) rfl rfl (hb hby own_d2_5)
  refine own_via (B := T2.setTop (mkF m 8 #[.val (.ref a2)] [(.int l2), (.int f2)])) (fun t k => st2 t k) ?_
  refine own_bind (G := fun B => ∃ (T' : State) (L' : List Loc) (v8s0 : Int32), Fr n0 L' ∧ (((f2 = l2) ∧ v8s0 = (1 : Int32)) ∨ ((¬ (f2 = l2)) ∧ v8s0 = (0 : Int32))) ∧ B = T'.setTop (mkF m 16 #[.val (.ref a2)] [(.int v8s0)]) ∧ Stand p l e ({ frames := 0, cells := 0, slots := 0, locals := 0 } : Room) s m #[(.ref a2)] below meth c T' L' 0 0 ∧ T'.heap = h0) ?_ ?_
  · by_cases hc8 : f2 = l2
    · refine own_via (B := T2.setTop (mkF m 11 #[.val (.ref a2)] [])) (fun t k => XS.icmpNo X2.here hx rfl (hb hby own_d2_8) rfl (teq hc8).2 k) ?_
      refine own_via (B := T2.setTop (mkF m 12 #[.val (.ref a2)] [(.int (1 : Int32))])) (fun t k => XS.iconst X2.here hx rfl (hb hby own_d2_11) k) ?_
      refine own_via (B := T2.setTop (mkF m 16 #[.val (.ref a2)] [(.int (1 : Int32))])) (fun t k => XS.goto X2.here hx rfl (pc0 := 12) (pc' := 16) rfl (hb hby own_d2_12) (by decide) (by decide) k) ?_
      exact own_done ⟨_, _, _, N0, (Or.inl ⟨hc8, rfl⟩), rfl, X2, e2⟩
    · refine own_via (B := T2.setTop (mkF m 15 #[.val (.ref a2)] [])) (fun t k => XS.icmpYes X2.here hx rfl (pc0 := 8) (pc' := 15) rfl (hb hby own_d2_8) rfl (feq hc8).2 (by decide) (by decide) k) ?_
      refine own_via (B := T2.setTop (mkF m 16 #[.val (.ref a2)] [(.int (0 : Int32))])) (fun t k => XS.iconst X2.here hx rfl (hb hby own_d2_15) k) ?_
      exact own_done ⟨_, _, _, N0, (Or.inr ⟨hc8, rfl⟩), rfl, X2, e2⟩
  · rintro B ⟨T3, L3, v8s0, N3, hv8, rfl, X3, e3⟩
    refine own_leaf X3 hx hlk (t := .boolean) Bd.returns (own_b1 (by rcases hv8 with ⟨_, rfl⟩ | ⟨_, rfl⟩ <;> decide)) (Or.inl ⟨rfl, by simp, _, rfl⟩) (hb hby own_d2_16) (by decide) (by decide) ?_
    show Q2 Z a2 f2 l2 h0 n0 _ T3.heap _
    rw [e3]
    refine ⟨?_, N3, rfl⟩
    rcases hv8 with ⟨h, rfl⟩ | ⟨h, rfl⟩
    · rw [own_bitT h]
    · rw [own_bitF h]
theorem own_pd0 : parseMethodDescriptor "(I)Lcom/example/gyre/gyre/EulerSequence;" = some ⟨[.int], some (.object "com/example/gyre/gyre/EulerSequence")⟩ := by decide +kernel
theorem own_pd1 : parseMethodDescriptor "()Z" = some ⟨[], some .boolean⟩ := by decide +kernel
theorem own_ef0 (m : MethodId) (x0 : Int32) : entryFrame m #[(.int x0)] maxLocals = mkF m 0 #[.val (.int x0), .unset, .unset, .unset] [] := by first | (simp [entryFrame, mkF, argsToLocals, Value.category, maxLocals]; done) | rfl
def Q0 (Z : State) (i0 : Int32) (h0 : Heap) (n0 : Nat) (v : Option Value) (h : Heap) (L : List Loc) : Prop := v = some (.int 1) ∧ Fr n0 L
set_option maxRecDepth 65536 in
set_option maxHeartbeats 40000000 in
theorem rm0 (l : Launch) (Z : State) (a0 : Array Value) (hw : ∀ d ∈ tables_1, d.before a0 Z = true) (ws : List Jvm.Cond) (i0 : Int32) (h0 : Heap) (n0 : Nat) (Z0 : n0 ≤ h0.size) (hall : own_All Z h0) :
    MetFree l x (head1 (Jvm.Cond.code x code maxLocals ret :: ws) room_1) (fun a U => a = #[(.int i0)] ∧ Z.Warmed39 U.vm ∧ U.heap = h0) (fun _ _ _ _ _ => True) (fun _ U o U' => ∃ v L, o = .returned v ∧ Q0 Z i0 h0 n0 v U'.heap L ∧ FrameEnd U o U' L room_1.cells room_1.slots) := by
  refine MetFree.of_bodySF (plainFor_of_name own_pn0) hisR ?_
  intro p e s m args below meth c s₁ Bd hml0 hP hK
  obtain ⟨rfl, hZ, hh⟩ := hP
  have hx := Bd.exec
  have hby := Bd.bytes
  have hlk : meth.locks = false := Bd.notSynchronized
  have hml : c.maxLocals = 4 := hml0
  have hown : s.vm.findClass "com/example/gyre/gyre/EulerSequenceIsProperEulerPinLaw" = some m.cls := findClass_of_methodNamed Bd.named
  have hnm := (name_of_methodNamed Bd.named Bd.method).1
  have X0 : Stand p l e room_1 s m #[(.int i0)] below meth c s₁ [] 0 0 := Stand.of_body Bd
  have e0 : s₁.heap = h0 := by rw [← hh, Bd.state]; rfl
  have N0 := Fr.nil n0
  refine own_body (A := s₁.setTop (mkF m 0 #[.val (.int i0), .unset, .unset, .unset] [])) (Q := Q0 Z i0 h0 n0) (fun t k => castTop (own_ef0 m i0) k) ?_
  refine own_via (B := s₁.setTop (mkF m 1 #[.val (.int i0), .unset, .unset, .unset] [(.int i0)])) (fun t k => XS.iloadN X0.here hx rfl (hb hby at_0) rfl k) ?_
  refine own_via (B := s₁.setTop (mkF m 3 #[.val (.int i0), .unset, .unset, .unset] [(.int (2147483647 : Int32)), (.int i0)])) (fun t k => X0.ldcInt hx hown (mvT hZ (hw _ (List.mem_of_getElem? (i := 0) rfl))) (g := (mkF m 1 #[.val (.int i0), .unset, .unset, .unset] [(.int i0)])) rfl (hb hby at_1) _ k) ?_
  refine own_via (B := s₁.setTop (mkF m 4 #[.val (.int i0), .unset, .unset, .unset] [(.int (i0 &&& (2147483647 : Int32)))])) (fun t k => XS.iand X0.here hx rfl (hb hby at_3) rfl k) ?_
  refine own_via (B := s₁.setTop (mkF m 6 #[.val (.int i0), .unset, .unset, .unset] [(.int (12 : Int32)), (.int (i0 &&& (2147483647 : Int32)))])) (fun t k => XS.bipush X0.here hx rfl (hb hby at_4) k) ?_
  refine own_via (B := s₁.setTop (mkF m 7 #[.val (.int i0), .unset, .unset, .unset] [(.int ((i0 &&& (2147483647 : Int32)) % (12 : Int32)))])) (fun t k => iremM X0 hx rfl (hb hby at_6) rfl (by decide) k) ?_
  refine own_via (B := s₁.setTop (mkF m 8 #[.val (.int i0), .val (.int ((i0 &&& (2147483647 : Int32)) % (12 : Int32))), .unset, .unset] [])) (fun t k => XS.istoreN X0.here hx rfl (hb hby at_7) rfl (l' := #[.val (.int i0), .val (.int ((i0 &&& (2147483647 : Int32)) % (12 : Int32))), .unset, .unset]) rfl k) ?_
  generalize hs7 : ((i0 &&& (2147483647 : Int32)) % (12 : Int32)) = s7
  refine own_via (B := s₁.setTop (mkF m 9 #[.val (.int i0), .val (.int s7), .unset, .unset] [(.int s7)])) (fun t k => XS.iloadN X0.here hx rfl (hb hby at_8) rfl k) ?_
  obtain ⟨_, _, ⟨T1, L1, k1, n1⟩, -, X1, ⟨Lc1, hQ1, l1, y1, z1⟩, st1⟩ := Jvm.LawKit.callS X0 hx (y := (⟨"com/example/gyre/gyre/EulerSequenceIsProperEulerPinLaw", "pick", "(I)Lcom/example/gyre/gyre/EulerSequence;"⟩ : MethodName)) hown (mvT hZ (hw _ (List.mem_of_getElem? (i := 1) rfl))) (mvT hZ (hw _ (List.mem_of_getElem? (i := 2) rfl))) (mvT hZ (hw _ (List.mem_of_getElem? (i := 3) rfl))) (mvT hZ (hw _ (List.mem_of_getElem? (i := 4) rfl))) (by decide) (backOf (W := 0) (rm1 l Z a0 hw [] s7 h0 n0 Z0 hall (by have hm := own_mod i0; rw [hs7] at hm; exact hm)) hZ (hw _ (List.mem_of_getElem? (i := 4) rfl)) (hw _ (List.mem_of_getElem? (i := 3) rfl)) (by decide) (by decide)) (g := (mkF m 9 #[.val (.int i0), .val (.int s7), .unset, .unset] [(.int s7)])) rfl (by rw [hml]; rfl) (argsL := [(.int s7)]) (rest := []) (lenOf own_pd0 rfl) rfl (by show 2 * 0 + _ ≤ _; exact Nat.le_of_eq rfl) (hb hby at_9) (fun _ _ => ⟨rfl, e0, (by decide : 0 + 0 ≤ _), (by decide : 0 + 0 ≤ _)⟩)
  dsimp only [Pt.U, Pt.locs, Pt.cells, Pt.slots] at X1 l1 y1 z1 st1 hQ1
  subst l1 y1 z1
  obtain ⟨w_1, fa_1, la_1, rfl, Nq1, eq1, hk_1, f1_0, f1_1, f1_2⟩ := hQ1
  have N1 := Fr.app N0 Nq1
  refine own_via (B := T1.setTop (mkF m 12 #[.val (.int i0), .val (.int s7), .unset, .unset] [(.ref w_1)])) (fun t k => st1 t k) ?_
  refine own_via (B := T1.setTop (mkF m 13 #[.val (.int i0), .val (.int s7), .val (.ref w_1), .unset] [])) (fun t k => XS.astoreN X1.here hx rfl (hb hby at_12) rfl rfl (l' := #[.val (.int i0), .val (.int s7), .val (.ref w_1), .unset]) rfl k) ?_
  refine own_via (B := T1.setTop (mkF m 14 #[.val (.int i0), .val (.int s7), .val (.ref w_1), .unset] [(.int s7)])) (fun t k => XS.iloadN X1.here hx rfl (hb hby at_13) rfl k) ?_
  refine own_via (B := T1.setTop (mkF m 16 #[.val (.int i0), .val (.int s7), .val (.ref w_1), .unset] [(.int (6 : Int32)), (.int s7)])) (fun t k => XS.bipush X1.here hx rfl (hb hby at_14) k) ?_
  refine own_bind (G := fun B => ∃ (T' : State) (L' : List Loc) (v16s0 : Int32), Fr n0 L' ∧ (((s7 < (6 : Int32)) ∧ v16s0 = (0 : Int32)) ∨ ((¬ (s7 < (6 : Int32))) ∧ v16s0 = (1 : Int32))) ∧ B = T'.setTop (mkF m 24 #[.val (.int i0), .val (.int s7), .val (.ref w_1), .unset] [(.int v16s0)]) ∧ Stand p l e room_1 s m #[(.int i0)] below meth c T' L' (0 + 0) (0 + 0) ∧ T'.heap = h0) ?_ ?_
  · by_cases hc16 : s7 < (6 : Int32)
    · refine own_via (B := T1.setTop (mkF m 23 #[.val (.int i0), .val (.int s7), .val (.ref w_1), .unset] [])) (fun t k => XS.icmpYes X1.here hx rfl (pc0 := 16) (pc' := 23) rfl (hb hby at_16) rfl (tlt hc16).1 (by decide) (by decide) k) ?_
      refine own_via (B := T1.setTop (mkF m 24 #[.val (.int i0), .val (.int s7), .val (.ref w_1), .unset] [(.int (0 : Int32))])) (fun t k => XS.iconst X1.here hx rfl (hb hby at_23) k) ?_
      exact own_done ⟨_, _, _, N1, (Or.inl ⟨hc16, rfl⟩), rfl, X1, eq1⟩
    · refine own_via (B := T1.setTop (mkF m 19 #[.val (.int i0), .val (.int s7), .val (.ref w_1), .unset] [])) (fun t k => XS.icmpNo X1.here hx rfl (hb hby at_16) rfl (flt hc16).1 k) ?_
      refine own_via (B := T1.setTop (mkF m 20 #[.val (.int i0), .val (.int s7), .val (.ref w_1), .unset] [(.int (1 : Int32))])) (fun t k => XS.iconst X1.here hx rfl (hb hby at_19) k) ?_
      refine own_via (B := T1.setTop (mkF m 24 #[.val (.int i0), .val (.int s7), .val (.ref w_1), .unset] [(.int (1 : Int32))])) (fun t k => XS.goto X1.here hx rfl (pc0 := 20) (pc' := 24) rfl (hb hby at_20) (by decide) (by decide) k) ?_
      exact own_done ⟨_, _, _, N1, (Or.inr ⟨hc16, rfl⟩), rfl, X1, eq1⟩
  · rintro B ⟨T2, L2, v16s0, N2, hv16, rfl, X2, e2⟩
    refine own_via (B := T2.setTop (mkF m 25 #[.val (.int i0), .val (.int s7), .val (.ref w_1), .val (.int v16s0)] [])) (fun t k => XS.istoreN X2.here hx rfl (hb hby at_24) rfl (l' := #[.val (.int i0), .val (.int s7), .val (.ref w_1), .val (.int v16s0)]) rfl k) ?_
    refine own_via (B := T2.setTop (mkF m 26 #[.val (.int i0), .val (.int s7), .val (.ref w_1), .val (.int v16s0)] [(.ref w_1)])) (fun t k => XS.aloadN X2.here hx rfl (hb hby at_25) rfl rfl k) ?_
    obtain ⟨cq3, kq3, q3a, q3b, q3c⟩ := isOf hZ e2 f1_0
    obtain ⟨_, _, ⟨T3, L3, k3, n3⟩, -, X3, ⟨Lc3, hQ3, l3, y3, z3⟩, st3⟩ := X2.virtualBack hx (y := (⟨"com/example/gyre/gyre/EulerSequence", "isProperEuler", "()Z"⟩ : MethodName)) (z := (⟨"com/example/gyre/gyre/EulerSequence", "isProperEuler", "()Z"⟩ : MethodName)) hown (mvT hZ (hw _ (List.mem_of_getElem? (i := 8) rfl))) (mvT hZ (hw _ (List.mem_of_getElem? (i := 9) rfl))) (notFace_of_selects (args := #[]) (mvT hZ (hw _ (List.mem_of_getElem? (i := 11) rfl)))) (mvT hZ (hw _ (List.mem_of_getElem? (i := 11) rfl))) (mvT hZ (hw _ (List.mem_of_getElem? (i := 10) rfl))) (by decide) (backOf (W := 0) (rm2 l Z a0 hw [] w_1 fa_1 la_1 h0 n0 Z0 f1_1 f1_2) hZ (hw _ (List.mem_of_getElem? (i := 12) rfl)) (hw _ (List.mem_of_getElem? (i := 6) rfl)) (by decide) (by decide)) q3a q3c (g := (mkF m 26 #[.val (.int i0), .val (.int s7), .val (.ref w_1), .val (.int v16s0)] [(.ref w_1)])) rfl (by rw [hml]; rfl) (Steps.refl _) (argsL := []) (rest := []) (lenOf own_pd1 rfl) rfl (by show 2 * 0 + _ ≤ _; exact Nat.le_of_eq rfl) (hb hby at_26) (fun _ _ => ⟨rfl, e2, (by decide : (0 + 0) + 0 ≤ _), (by decide : (0 + 0) + 0 ≤ _)⟩)
    dsimp only [Pt.U, Pt.locs, Pt.cells, Pt.slots] at X3 l3 y3 z3 st3 hQ3
    subst l3 y3 z3
    obtain ⟨rfl, Nq3, eq3⟩ := hQ3
    have N3 := Fr.app N2 Nq3
    refine own_via (B := T3.setTop (mkF m 29 #[.val (.int i0), .val (.int s7), .val (.ref w_1), .val (.int v16s0)] [(.int (own_bit (fa_1 = la_1)))])) (fun t k => st3.trans k) ?_
    refine own_via (B := T3.setTop (mkF m 30 #[.val (.int i0), .val (.int s7), .val (.ref w_1), .val (.int v16s0)] [(.int v16s0), (.int (own_bit (fa_1 = la_1)))])) (fun t k => XS.iloadN X3.here hx rfl (hb hby at_29) rfl k) ?_
    refine own_bind (G := fun B => ∃ (T' : State) (L' : List Loc) (v30s0 : Int32), Fr n0 L' ∧ ((((own_bit (fa_1 = la_1)) = v16s0) ∧ v30s0 = (1 : Int32)) ∨ ((¬ ((own_bit (fa_1 = la_1)) = v16s0)) ∧ v30s0 = (0 : Int32))) ∧ B = T'.setTop (mkF m 38 #[.val (.int i0), .val (.int s7), .val (.ref w_1), .val (.int v16s0)] [(.int v30s0)]) ∧ Stand p l e room_1 s m #[(.int i0)] below meth c T' L' ((0 + 0) + 0) ((0 + 0) + 0) ∧ T'.heap = h0) ?_ ?_
    · by_cases hc30 : (own_bit (fa_1 = la_1)) = v16s0
      · refine own_via (B := T3.setTop (mkF m 33 #[.val (.int i0), .val (.int s7), .val (.ref w_1), .val (.int v16s0)] [])) (fun t k => XS.icmpNo X3.here hx rfl (hb hby at_30) rfl (teq hc30).2 k) ?_
        refine own_via (B := T3.setTop (mkF m 34 #[.val (.int i0), .val (.int s7), .val (.ref w_1), .val (.int v16s0)] [(.int (1 : Int32))])) (fun t k => XS.iconst X3.here hx rfl (hb hby at_33) k) ?_
        refine own_via (B := T3.setTop (mkF m 38 #[.val (.int i0), .val (.int s7), .val (.ref w_1), .val (.int v16s0)] [(.int (1 : Int32))])) (fun t k => XS.goto X3.here hx rfl (pc0 := 34) (pc' := 38) rfl (hb hby at_34) (by decide) (by decide) k) ?_
        exact own_done ⟨_, _, _, N3, (Or.inl ⟨hc30, rfl⟩), rfl, X3, eq3⟩
      · refine own_via (B := T3.setTop (mkF m 37 #[.val (.int i0), .val (.int s7), .val (.ref w_1), .val (.int v16s0)] [])) (fun t k => XS.icmpYes X3.here hx rfl (pc0 := 30) (pc' := 37) rfl (hb hby at_30) rfl (feq hc30).2 (by decide) (by decide) k) ?_
        refine own_via (B := T3.setTop (mkF m 38 #[.val (.int i0), .val (.int s7), .val (.ref w_1), .val (.int v16s0)] [(.int (0 : Int32))])) (fun t k => XS.iconst X3.here hx rfl (hb hby at_37) k) ?_
        exact own_done ⟨_, _, _, N3, (Or.inr ⟨hc30, rfl⟩), rfl, X3, eq3⟩
    · rintro B ⟨T4, L4, v30s0, N4, hv30, rfl, X4, e4⟩
      refine own_leaf X4 hx hlk (t := .boolean) Bd.returns (own_b1 (by rcases hv30 with ⟨_, rfl⟩ | ⟨_, rfl⟩ <;> decide)) (Or.inl ⟨rfl, by simp, _, rfl⟩) (hb hby at_38) (by decide) (by decide) ?_
      show Q0 Z i0 h0 n0 _ T4.heap _
      rw [e4]
      refine ⟨?_, N4⟩
      have hm := own_mod i0
      rw [hs7] at hm
      rw [own_lt] at hv16
      have e6 : (6 : Int32).toInt = 6 := by decide
      rw [e6] at hv16
      rcases hv30 with ⟨h, rfl⟩ | ⟨h, rfl⟩
      · rfl
      · exfalso; apply h
        rcases hv16 with ⟨q, rfl⟩ | ⟨q, rfl⟩
        · exact own_bitF (fun z => absurd (hk_1.mp z) (by omega))
        · exact own_bitT (hk_1.mpr (by omega))
set_option maxRecDepth 65536 in
set_option maxHeartbeats 40000000 in
theorem comes_1 {Post : Tables → Env → Array Value → State → Outcome → State → Prop} (hpost : ∀ tb e args s v u, (limb_1_1.after args s (.returned v) u = true ∧ limb_1_2.after args s (.returned v) u = true ∧ True) → FrameEnd s (.returned v) u (Jvm.fieldLocs frame_1_writes args s ++ Jvm.arrayLocs frame_1_arrays args s ++ Jvm.staticLocs frame_1_statics s) 0 0 → Post tb e args s (.returned v) u) :
    ArmFor flags0 classFile x code maxLocals ret World_1 tables_1 room_1 Calls_1 rest_1 Pre_1 Post := by
  intro l hfl _ _ p e ha hc hk s m args below hf hA hF happ hP
  obtain ⟨hcalls, hrest, hpre⟩ := hP
  obtain ⟨-, -, -, hnamed, -, -, -, hat⟩ := (Spec.applies_iff hf).mp happ
  obtain ⟨hg, hn⟩ := and_e (Cond.before_iff.mp (show (Jvm.Cond.and given_1 narrow_1).before args s = true from hpre))
  obtain ⟨g1, g2⟩ := and_e hg
  obtain ⟨g3, g4⟩ := and_e hn
  obtain ⟨g5, g6⟩ := and_e g4
  obtain ⟨g7, g8⟩ := and_e g6
  obtain ⟨g9, g10⟩ := and_e g8
  obtain ⟨g11, g12⟩ := and_e g10
  obtain ⟨g13, g14⟩ := and_e g12
  obtain ⟨g15, g16⟩ := and_e g14
  obtain ⟨g17, g18⟩ := and_e g16
  obtain ⟨g19, g20⟩ := and_e g18
  obtain ⟨g21, g22⟩ := and_e g20
  obtain ⟨g23, g24⟩ := and_e g22
  obtain ⟨g25, g26⟩ := and_e g24
  obtain ⟨g27, g28⟩ := and_e g26
  obtain ⟨g29, g30⟩ := and_e g28
  obtain ⟨g31, g32⟩ := and_e g30
  obtain ⟨g33, g34⟩ := and_e g32
  obtain ⟨g35, g36⟩ := and_e g34
  obtain ⟨g37, g38⟩ := and_e g36
  obtain ⟨g39, g40⟩ := and_e g38
  obtain ⟨g41, g42⟩ := and_e g40
  obtain ⟨g43, g44⟩ := and_e g42
  obtain ⟨g45, g46⟩ := and_e g44
  obtain ⟨g47, g48⟩ := and_e g46
  obtain ⟨g49, g50⟩ := and_e g48
  obtain ⟨g51, g52⟩ := and_e g50
  obtain ⟨g53, g54⟩ := and_e g52
  obtain ⟨g55, g56⟩ := and_e g54
  obtain ⟨g57, g58⟩ := and_e g56
  obtain ⟨g59, g60⟩ := and_e g58
  obtain ⟨g61, g62⟩ := and_e g60
  obtain ⟨g63, g64⟩ := and_e g62
  obtain ⟨g65, g66⟩ := and_e g64
  obtain ⟨g67, g68⟩ := and_e g66
  obtain ⟨g69, g70⟩ := and_e g68
  obtain ⟨g71, g72⟩ := and_e g70
  obtain ⟨w0, rfl⟩ : ∃ w0 : Value, args = #[w0] := by
    have hs : args.size = 1 := by simpa [Cond.value, given_1] using g1
    obtain ⟨L⟩ := args
    match L, hs with
    | [w0], _ => exact ⟨w0, rfl⟩
  have hw := fun d (hd : d ∈ tables_1) => atoms_spec (ws := Jvm.Cond.code x code maxLocals ret :: tables_1) hat d (List.mem_cons_of_mem _ hd)
  have hfit : Fit s := fun {y c} hc i hi => by
    obtain ⟨ha, rfl⟩ := Array.getElem?_eq_some_iff.mp hc
    have q := List.all_eq_true.mp ((Array.all_eq_true_iff_forall_mem.mp hF) _ (Array.getElem_mem ha)) i (List.mem_range.mpr hi)
    simpa [Array.getElem?_eq_getElem hi] using q
  obtain ⟨i0, ei0⟩ := is_v g2
  obtain rfl : w0 = (.int i0) := Option.some.inj ei0
  obtain ⟨w_XYZ, _, _, _, ev_XYZ, -⟩ := Cond.exactly_spec (Cond.before_iff.mpr g3)
  have S_XYZ : Sta s s.heap "com/example/gyre/gyre/EulerSequence" "XYZ" "Lcom/example/gyre/gyre/EulerSequence;" (.ref w_XYZ) := Sta.start ev_XYZ (Or.inr ⟨(hw _ (List.mem_of_getElem? (i := 6) rfl)), (hw _ (List.mem_of_getElem? (i := 7) rfl))⟩)
  have E_XYZ : Exa s s.heap w_XYZ "com/example/gyre/gyre/EulerSequence" := Exa.start ev_XYZ g3
  obtain ⟨w_YZX, _, _, _, ev_YZX, -⟩ := Cond.exactly_spec (Cond.before_iff.mpr g9)
  have S_YZX : Sta s s.heap "com/example/gyre/gyre/EulerSequence" "YZX" "Lcom/example/gyre/gyre/EulerSequence;" (.ref w_YZX) := Sta.start ev_YZX (Or.inr ⟨(hw _ (List.mem_of_getElem? (i := 6) rfl)), (hw _ (List.mem_of_getElem? (i := 18) rfl))⟩)
  have E_YZX : Exa s s.heap w_YZX "com/example/gyre/gyre/EulerSequence" := Exa.start ev_YZX g9
  obtain ⟨w_YXZ, _, _, _, ev_YXZ, -⟩ := Cond.exactly_spec (Cond.before_iff.mpr g15)
  have S_YXZ : Sta s s.heap "com/example/gyre/gyre/EulerSequence" "YXZ" "Lcom/example/gyre/gyre/EulerSequence;" (.ref w_YXZ) := Sta.start ev_YXZ (Or.inr ⟨(hw _ (List.mem_of_getElem? (i := 6) rfl)), (hw _ (List.mem_of_getElem? (i := 20) rfl))⟩)
  have E_YXZ : Exa s s.heap w_YXZ "com/example/gyre/gyre/EulerSequence" := Exa.start ev_YXZ g15
  obtain ⟨w_XZX, _, _, _, ev_XZX, -⟩ := Cond.exactly_spec (Cond.before_iff.mpr g21)
  have S_XZX : Sta s s.heap "com/example/gyre/gyre/EulerSequence" "XZX" "Lcom/example/gyre/gyre/EulerSequence;" (.ref w_XZX) := Sta.start ev_XZX (Or.inr ⟨(hw _ (List.mem_of_getElem? (i := 6) rfl)), (hw _ (List.mem_of_getElem? (i := 22) rfl))⟩)
  have E_XZX : Exa s s.heap w_XZX "com/example/gyre/gyre/EulerSequence" := Exa.start ev_XZX g21
  obtain ⟨w_ZYZ, _, _, _, ev_ZYZ, -⟩ := Cond.exactly_spec (Cond.before_iff.mpr g27)
  have S_ZYZ : Sta s s.heap "com/example/gyre/gyre/EulerSequence" "ZYZ" "Lcom/example/gyre/gyre/EulerSequence;" (.ref w_ZYZ) := Sta.start ev_ZYZ (Or.inr ⟨(hw _ (List.mem_of_getElem? (i := 6) rfl)), (hw _ (List.mem_of_getElem? (i := 24) rfl))⟩)
  have E_ZYZ : Exa s s.heap w_ZYZ "com/example/gyre/gyre/EulerSequence" := Exa.start ev_ZYZ g27
  obtain ⟨w_ZXY, _, _, _, ev_ZXY, -⟩ := Cond.exactly_spec (Cond.before_iff.mpr g33)
  have S_ZXY : Sta s s.heap "com/example/gyre/gyre/EulerSequence" "ZXY" "Lcom/example/gyre/gyre/EulerSequence;" (.ref w_ZXY) := Sta.start ev_ZXY (Or.inr ⟨(hw _ (List.mem_of_getElem? (i := 6) rfl)), (hw _ (List.mem_of_getElem? (i := 26) rfl))⟩)
  have E_ZXY : Exa s s.heap w_ZXY "com/example/gyre/gyre/EulerSequence" := Exa.start ev_ZXY g33
  obtain ⟨w_YXY, _, _, _, ev_YXY, -⟩ := Cond.exactly_spec (Cond.before_iff.mpr g39)
  have S_YXY : Sta s s.heap "com/example/gyre/gyre/EulerSequence" "YXY" "Lcom/example/gyre/gyre/EulerSequence;" (.ref w_YXY) := Sta.start ev_YXY (Or.inr ⟨(hw _ (List.mem_of_getElem? (i := 6) rfl)), (hw _ (List.mem_of_getElem? (i := 28) rfl))⟩)
  have E_YXY : Exa s s.heap w_YXY "com/example/gyre/gyre/EulerSequence" := Exa.start ev_YXY g39
  obtain ⟨w_XZY, _, _, _, ev_XZY, -⟩ := Cond.exactly_spec (Cond.before_iff.mpr g45)
  have S_XZY : Sta s s.heap "com/example/gyre/gyre/EulerSequence" "XZY" "Lcom/example/gyre/gyre/EulerSequence;" (.ref w_XZY) := Sta.start ev_XZY (Or.inr ⟨(hw _ (List.mem_of_getElem? (i := 6) rfl)), (hw _ (List.mem_of_getElem? (i := 30) rfl))⟩)
  have E_XZY : Exa s s.heap w_XZY "com/example/gyre/gyre/EulerSequence" := Exa.start ev_XZY g45
  obtain ⟨w_ZXZ, _, _, _, ev_ZXZ, -⟩ := Cond.exactly_spec (Cond.before_iff.mpr g51)
  have S_ZXZ : Sta s s.heap "com/example/gyre/gyre/EulerSequence" "ZXZ" "Lcom/example/gyre/gyre/EulerSequence;" (.ref w_ZXZ) := Sta.start ev_ZXZ (Or.inr ⟨(hw _ (List.mem_of_getElem? (i := 6) rfl)), (hw _ (List.mem_of_getElem? (i := 32) rfl))⟩)
  have E_ZXZ : Exa s s.heap w_ZXZ "com/example/gyre/gyre/EulerSequence" := Exa.start ev_ZXZ g51
  obtain ⟨w_YZY, _, _, _, ev_YZY, -⟩ := Cond.exactly_spec (Cond.before_iff.mpr g57)
  have S_YZY : Sta s s.heap "com/example/gyre/gyre/EulerSequence" "YZY" "Lcom/example/gyre/gyre/EulerSequence;" (.ref w_YZY) := Sta.start ev_YZY (Or.inr ⟨(hw _ (List.mem_of_getElem? (i := 6) rfl)), (hw _ (List.mem_of_getElem? (i := 34) rfl))⟩)
  have E_YZY : Exa s s.heap w_YZY "com/example/gyre/gyre/EulerSequence" := Exa.start ev_YZY g57
  obtain ⟨w_XYX, _, _, _, ev_XYX, -⟩ := Cond.exactly_spec (Cond.before_iff.mpr g63)
  have S_XYX : Sta s s.heap "com/example/gyre/gyre/EulerSequence" "XYX" "Lcom/example/gyre/gyre/EulerSequence;" (.ref w_XYX) := Sta.start ev_XYX (Or.inr ⟨(hw _ (List.mem_of_getElem? (i := 6) rfl)), (hw _ (List.mem_of_getElem? (i := 36) rfl))⟩)
  have E_XYX : Exa s s.heap w_XYX "com/example/gyre/gyre/EulerSequence" := Exa.start ev_XYX g63
  obtain ⟨w_ZYX, _, _, _, ev_ZYX, -⟩ := Cond.exactly_spec (Cond.before_iff.mpr g69)
  have S_ZYX : Sta s s.heap "com/example/gyre/gyre/EulerSequence" "ZYX" "Lcom/example/gyre/gyre/EulerSequence;" (.ref w_ZYX) := Sta.start ev_ZYX (Or.inr ⟨(hw _ (List.mem_of_getElem? (i := 6) rfl)), (hw _ (List.mem_of_getElem? (i := 38) rfl))⟩)
  have E_ZYX : Exa s s.heap w_ZYX "com/example/gyre/gyre/EulerSequence" := Exa.start ev_ZYX g69
  have F_XYZ_first : Fld s s.heap w_XYZ "com/example/gyre/gyre/EulerSequence" "first" "I" (.int 0) := Fld.start ((fld_at ev_XYZ).symm.trans (own_eqI g5))
  have F_XYZ_last : Fld s s.heap w_XYZ "com/example/gyre/gyre/EulerSequence" "last" "I" (.int 2) := Fld.start ((fld_at ev_XYZ).symm.trans (own_eqI g7))
  have F_YZX_first : Fld s s.heap w_YZX "com/example/gyre/gyre/EulerSequence" "first" "I" (.int 1) := Fld.start ((fld_at ev_YZX).symm.trans (own_eqI g11))
  have F_YZX_last : Fld s s.heap w_YZX "com/example/gyre/gyre/EulerSequence" "last" "I" (.int 0) := Fld.start ((fld_at ev_YZX).symm.trans (own_eqI g13))
  have F_YXZ_first : Fld s s.heap w_YXZ "com/example/gyre/gyre/EulerSequence" "first" "I" (.int 1) := Fld.start ((fld_at ev_YXZ).symm.trans (own_eqI g17))
  have F_YXZ_last : Fld s s.heap w_YXZ "com/example/gyre/gyre/EulerSequence" "last" "I" (.int 2) := Fld.start ((fld_at ev_YXZ).symm.trans (own_eqI g19))
  have F_XZX_first : Fld s s.heap w_XZX "com/example/gyre/gyre/EulerSequence" "first" "I" (.int 0) := Fld.start ((fld_at ev_XZX).symm.trans (own_eqI g23))
  have F_XZX_last : Fld s s.heap w_XZX "com/example/gyre/gyre/EulerSequence" "last" "I" (.int 0) := Fld.start ((fld_at ev_XZX).symm.trans (own_eqI g25))
  have F_ZYZ_first : Fld s s.heap w_ZYZ "com/example/gyre/gyre/EulerSequence" "first" "I" (.int 2) := Fld.start ((fld_at ev_ZYZ).symm.trans (own_eqI g29))
  have F_ZYZ_last : Fld s s.heap w_ZYZ "com/example/gyre/gyre/EulerSequence" "last" "I" (.int 2) := Fld.start ((fld_at ev_ZYZ).symm.trans (own_eqI g31))
  have F_ZXY_first : Fld s s.heap w_ZXY "com/example/gyre/gyre/EulerSequence" "first" "I" (.int 2) := Fld.start ((fld_at ev_ZXY).symm.trans (own_eqI g35))
  have F_ZXY_last : Fld s s.heap w_ZXY "com/example/gyre/gyre/EulerSequence" "last" "I" (.int 1) := Fld.start ((fld_at ev_ZXY).symm.trans (own_eqI g37))
  have F_YXY_first : Fld s s.heap w_YXY "com/example/gyre/gyre/EulerSequence" "first" "I" (.int 1) := Fld.start ((fld_at ev_YXY).symm.trans (own_eqI g41))
  have F_YXY_last : Fld s s.heap w_YXY "com/example/gyre/gyre/EulerSequence" "last" "I" (.int 1) := Fld.start ((fld_at ev_YXY).symm.trans (own_eqI g43))
  have F_XZY_first : Fld s s.heap w_XZY "com/example/gyre/gyre/EulerSequence" "first" "I" (.int 0) := Fld.start ((fld_at ev_XZY).symm.trans (own_eqI g47))
  have F_XZY_last : Fld s s.heap w_XZY "com/example/gyre/gyre/EulerSequence" "last" "I" (.int 1) := Fld.start ((fld_at ev_XZY).symm.trans (own_eqI g49))
  have F_ZXZ_first : Fld s s.heap w_ZXZ "com/example/gyre/gyre/EulerSequence" "first" "I" (.int 2) := Fld.start ((fld_at ev_ZXZ).symm.trans (own_eqI g53))
  have F_ZXZ_last : Fld s s.heap w_ZXZ "com/example/gyre/gyre/EulerSequence" "last" "I" (.int 2) := Fld.start ((fld_at ev_ZXZ).symm.trans (own_eqI g55))
  have F_YZY_first : Fld s s.heap w_YZY "com/example/gyre/gyre/EulerSequence" "first" "I" (.int 1) := Fld.start ((fld_at ev_YZY).symm.trans (own_eqI g59))
  have F_YZY_last : Fld s s.heap w_YZY "com/example/gyre/gyre/EulerSequence" "last" "I" (.int 1) := Fld.start ((fld_at ev_YZY).symm.trans (own_eqI g61))
  have F_XYX_first : Fld s s.heap w_XYX "com/example/gyre/gyre/EulerSequence" "first" "I" (.int 0) := Fld.start ((fld_at ev_XYX).symm.trans (own_eqI g65))
  have F_XYX_last : Fld s s.heap w_XYX "com/example/gyre/gyre/EulerSequence" "last" "I" (.int 0) := Fld.start ((fld_at ev_XYX).symm.trans (own_eqI g67))
  have F_ZYX_first : Fld s s.heap w_ZYX "com/example/gyre/gyre/EulerSequence" "first" "I" (.int 2) := Fld.start ((fld_at ev_ZYX).symm.trans (own_eqI g71))
  have F_ZYX_last : Fld s s.heap w_ZYX "com/example/gyre/gyre/EulerSequence" "last" "I" (.int 0) := Fld.start ((fld_at ev_ZYX).symm.trans (own_eqI g72))
  obtain ⟨n, o, h1, h2, h3, _, L, rfl, ⟨rfl, N⟩, hq⟩ := rm0 l s _ hw tables_1 i0 s.heap s.heap.size (Nat.le_refl _) ⟨⟨w_XYZ, S_XYZ, E_XYZ, F_XYZ_first, F_XYZ_last⟩, ⟨w_XZY, S_XZY, E_XZY, F_XZY_first, F_XZY_last⟩, ⟨w_YXZ, S_YXZ, E_YXZ, F_YXZ_first, F_YXZ_last⟩, ⟨w_YZX, S_YZX, E_YZX, F_YZX_first, F_YZX_last⟩, ⟨w_ZXY, S_ZXY, E_ZXY, F_ZXY_first, F_ZXY_last⟩, ⟨w_ZYX, S_ZYX, E_ZYX, F_ZYX_first, F_ZYX_last⟩, ⟨w_XYX, S_XYX, E_XYX, F_XYX_first, F_XYX_last⟩, ⟨w_XZX, S_XZX, E_XZX, F_XZX_first, F_XZX_last⟩, ⟨w_YXY, S_YXY, E_YXY, F_YXY_first, F_YXY_last⟩, ⟨w_YZY, S_YZY, E_YZY, F_YZY_first, F_YZY_last⟩, ⟨w_ZXZ, S_ZXZ, E_ZXZ, F_ZXZ_first, F_ZXZ_last⟩, ⟨w_ZYZ, S_ZYZ, E_ZYZ, F_ZYZ_first, F_ZYZ_last⟩⟩ p e ha hc hk s m _ below hf ((Spec.applies_iff_loose hf).mp happ).1 ⟨rfl, State.Warmed39.refl s, rfl⟩ trivial
  refine ⟨n, _, h1, h2, h3, hpost _ _ _ _ _ _ ⟨Cond.after_iff.mpr rfl, Cond.after_iff.mpr (eq_i res_at (Term.int_eval (1)) rfl), trivial⟩ ⟨hq.1, hq.2.1, (hq.2.2.sift fun y hy => Or.inr (N y hy)).mono (by decide) (by decide)⟩⟩
theorem main_1_1 : Claimed_1_1 := comes_1 fun _ _ _ _ _ _ h hF => ⟨h.1, hF⟩
theorem main_1_2 : Claimed_1_2 := comes_1 fun _ _ _ _ _ _ h hF => ⟨h.2.1, hF⟩
end Jvm.Pilot.@@N@@
namespace Jvm.Pilot.@@N@@
open Jvm Jvm.ClassFile Sem Op Lib Jvm.Free Jvm.Stand Jvm.Pilot.@@N@@.Jvm.D
/-! MADE BY PROGRAM (witnessworld.py) out of the Statement's table words and the real class files: 12 classes; the members and pool entries that the words name. The judged class is class 1, her method 2. -/
namespace start1
open Jvm.ClassFile
def u (s : String) : CpInfo := .utf8 (stringToUtf16 s)
/-- a pool by its gaps: so many unusable entries, then the entry; so many at the end -/
def gap : Nat → List CpInfo → List CpInfo
  | 0, r => r
  | n + 1, r => .unusable :: gap n r
def poolList (es : List (Nat × CpInfo)) (last : Nat) : List CpInfo := es.foldr (fun e r => gap e.1 (e.2 :: r)) (gap last [])
def pool (es : List (Nat × CpInfo)) (last : Nat) : Array CpInfo := ⟨poolList es last⟩
def fileOf (pool : Array CpInfo) (this : Nat) (attrs : Array Attribute := #[]) (ms : Array MethodInfo := #[]) (fl : Nat := 33) (sup : Nat := 0) (ifs : Array Nat := #[]) (fds : Array FieldInfo := #[]) : ClassFile where
  minorVersion := 0
  majorVersion := 65
  constantPool := pool
  accessFlags := fl
  thisClass := this
  superClass := sup
  interfaces := ifs
  fields := fds
  methods := ms
  attributes := attrs
def plain (name : String) (sup : Option ClassId) : Class where
  name := name
  kind := .ordinary
  loader := none
  accessFlags := 33
  super := sup
  interfaces := #[]
  cf := none
  fields := #[]
  methods := #[]
  instanceTypes := #[]
  staticTypes := #[]
  resolved := #[]
  callSites := []
  init := .initialized
  statics := none
  mirror := none

def pool0 : Array CpInfo := pool [(5, u "<init>"), (0, u "()V"), (1, .class_ 10), (1, u "java/lang/Object")] 113

def k0m0 : Method := { name := "<init>", desc := "()V", sig := { parameters := [], returnType := none }, accessFlags := 1, code := none }
/-- java/lang/Object -/
def k0 : Class := { plain "java/lang/Object" none with
  accessFlags := 33
  interfaces := #[]
  cf := some (fileOf pool0 8 #[] #[{ accessFlags := 1, nameIndex := 5, descriptorIndex := 6, attributes := #[] }] 33 0 #[] #[])
  fields := #[]
  methods := #[k0m0]
  instanceTypes := #[]
  staticTypes := #[]
  resolved := Array.replicate 124 none
  statics := none }

def pool1 : Array CpInfo := pool [(2, .class_ 4), (1, u "java/lang/Object"), (0, u "<init>"), (0, u "()V"), (0, .fieldref 8 9), (0, .class_ 10), (0, .nameAndType 11 12), (0, u "com/example/gyre/gyre/EulerSequence"), (0, u "XYZ"), (0, u "Lcom/example/gyre/gyre/EulerSequence;"), (0, .fieldref 8 14), (0, .nameAndType 15 12), (0, u "XZY"), (0, .fieldref 8 17), (0, .nameAndType 18 12), (0, u "YXZ"), (0, .fieldref 8 20), (0, .nameAndType 21 12), (0, u "YZX"), (0, .fieldref 8 23), (0, .nameAndType 24 12), (0, u "ZXY"), (0, .fieldref 8 26), (0, .nameAndType 27 12), (0, u "ZYX"), (0, .fieldref 8 29), (0, .nameAndType 30 12), (0, u "XYX"), (0, .fieldref 8 32), (0, .nameAndType 33 12), (0, u "XZX"), (0, .fieldref 8 35), (0, .nameAndType 36 12), (0, u "YXY"), (0, .fieldref 8 38), (0, .nameAndType 39 12), (0, u "YZY"), (0, .fieldref 8 41), (0, .nameAndType 42 12), (0, u "ZXZ"), (0, .fieldref 8 44), (0, .nameAndType 45 12), (0, u "ZYZ"), (0, .integer 2147483647), (0, .methodref 48 49), (0, .class_ 50), (0, .nameAndType 51 52), (0, u "com/example/gyre/gyre/EulerSequenceIsProperEulerPinLaw"), (0, u "pick"), (0, u "(I)Lcom/example/gyre/gyre/EulerSequence;"), (0, .methodref 8 54), (0, .nameAndType 55 56), (0, u "isProperEuler"), (0, u "()Z"), (3, u "law"), (0, u "(I)Z")] 2

def k1m0 : Method := { name := "<init>", desc := "()V", sig := { parameters := [], returnType := none }, accessFlags := 2, code := none }
def k1c1 : Code := { maxStack := 2, maxLocals := 1, code := method_2_code, exceptionTable := #[], attributes := #[] }
def k1m1 : Method := { name := "pick", desc := "(I)Lcom/example/gyre/gyre/EulerSequence;", sig := { parameters := [.int], returnType := some (.object "com/example/gyre/gyre/EulerSequence") }, accessFlags := 10, code := some k1c1 }
def k1c2 : Code := { maxStack := 2, maxLocals := 4, code := code, exceptionTable := #[], attributes := #[] }
def k1m2 : Method := { name := "law", desc := "(I)Z", sig := { parameters := [.int], returnType := some .boolean }, accessFlags := 9, code := some k1c2 }
/-- com/example/gyre/gyre/EulerSequenceIsProperEulerPinLaw -/
def k1 : Class := { plain "com/example/gyre/gyre/EulerSequenceIsProperEulerPinLaw" (some 0) with
  accessFlags := 49
  interfaces := #[]
  cf := some (fileOf pool1 48 #[] #[{ accessFlags := 2, nameIndex := 5, descriptorIndex := 6, attributes := #[] }, { accessFlags := 10, nameIndex := 51, descriptorIndex := 52, attributes := #[] }, { accessFlags := 9, nameIndex := 60, descriptorIndex := 61, attributes := #[] }] 49 2 #[] #[])
  fields := #[]
  methods := #[k1m0, k1m1, k1m2]
  instanceTypes := #[]
  staticTypes := #[]
  resolved := Array.replicate 64 none
  statics := none }

def pool2 : Array CpInfo := pool [(1, .class_ 2), (0, u "java/lang/constant/Constable"), (0, .class_ 4), (0, u "java/lang/Object")] 6

/-- java/lang/constant/Constable -/
def k2 : Class := { plain "java/lang/constant/Constable" (some 0) with
  accessFlags := 1537
  interfaces := #[]
  cf := some (fileOf pool2 1 #[] #[] 1537 3 #[] #[])
  fields := #[]
  methods := #[]
  instanceTypes := #[]
  staticTypes := #[]
  resolved := Array.replicate 11 none
  statics := none }

def pool3 : Array CpInfo := pool [(1, .class_ 2), (0, u "java/lang/Comparable"), (0, .class_ 4), (0, u "java/lang/Object")] 7

/-- java/lang/Comparable -/
def k3 : Class := { plain "java/lang/Comparable" (some 0) with
  accessFlags := 1537
  interfaces := #[]
  cf := some (fileOf pool3 1 #[] #[] 1537 3 #[] #[])
  fields := #[]
  methods := #[]
  instanceTypes := #[]
  staticTypes := #[]
  resolved := Array.replicate 12 none
  statics := none }

def pool4 : Array CpInfo := pool [(1, .class_ 2), (0, u "java/io/Serializable"), (0, .class_ 4), (0, u "java/lang/Object")] 2

/-- java/io/Serializable -/
def k4 : Class := { plain "java/io/Serializable" (some 0) with
  accessFlags := 1537
  interfaces := #[]
  cf := some (fileOf pool4 1 #[] #[] 1537 3 #[] #[])
  fields := #[]
  methods := #[]
  instanceTypes := #[]
  staticTypes := #[]
  resolved := Array.replicate 7 none
  statics := none }

def pool5 : Array CpInfo := pool [(2, .class_ 4), (1, u "java/lang/Enum"), (0, u "name"), (0, u "Ljava/lang/String;"), (2, u "ordinal"), (0, u "I"), (1, .class_ 14), (1, u "java/lang/Object"), (4, u "hash"), (86, .class_ 108), (1, u "java/lang/Enum$EnumDesc"), (2, .class_ 112), (0, u "java/lang/constant/Constable"), (0, .class_ 114), (0, u "java/lang/Comparable"), (0, .class_ 116), (0, u "java/io/Serializable")] 87

/-- java/lang/Enum -/
def k5 : Class := { plain "java/lang/Enum" (some 0) with
  accessFlags := 1057
  interfaces := #[2, 3, 4]
  cf := some (fileOf pool5 2 #[.nestMembers #[106]] #[] 1057 12 #[111, 113, 115] #[{ accessFlags := 18, nameIndex := 5, descriptorIndex := 6, attributes := #[] }, { accessFlags := 18, nameIndex := 9, descriptorIndex := 10, attributes := #[] }, { accessFlags := 2, nameIndex := 19, descriptorIndex := 10, attributes := #[] }])
  fields := #[{ name := "name", type := (.object "java/lang/String"), accessFlags := 18, slot := 0, constantValue := 0 }, { name := "ordinal", type := .int, accessFlags := 18, slot := 1, constantValue := 0 }, { name := "hash", type := .int, accessFlags := 2, slot := 2, constantValue := 0 }]
  methods := #[]
  instanceTypes := #[(.object "java/lang/String"), .int, .int]
  staticTypes := #[]
  resolved := Array.replicate 204 none
  statics := none }

def pool6 : Array CpInfo := pool [(1, .class_ 2), (0, u "com/example/gyre/gyre/EulerSequence"), (2, u "XYZ"), (0, u "Lcom/example/gyre/gyre/EulerSequence;"), (2, u "XZY"), (2, u "YXZ"), (2, u "YZX"), (2, u "ZXY"), (2, u "ZYX"), (2, u "XYX"), (2, u "XZX"), (2, u "YXY"), (2, u "YZY"), (2, u "ZXZ"), (2, u "ZYZ"), (2, u "$VALUES"), (0, u "[Lcom/example/gyre/gyre/EulerSequence;"), (6, .class_ 52), (1, u "java/lang/Enum"), (6, .fieldref 1 60), (0, .nameAndType 61 62), (0, u "first"), (0, u "I"), (2, u "middle"), (0, .fieldref 1 67), (0, .nameAndType 68 62), (0, u "last"), (26, u "isProperEuler"), (0, u "()Z")] 6

def k6c0 : Code := { maxStack := 2, maxLocals := 1, code := prog_3_method_4_code, exceptionTable := #[], attributes := #[] }
def k6m0 : Method := { name := "isProperEuler", desc := "()Z", sig := { parameters := [], returnType := some .boolean }, accessFlags := 1, code := some k6c0 }
/-- com/example/gyre/gyre/EulerSequence -/
def k6 : Class := { plain "com/example/gyre/gyre/EulerSequence" (some 5) with
  accessFlags := 16433
  interfaces := #[]
  cf := some (fileOf pool6 1 #[] #[{ accessFlags := 1, nameIndex := 95, descriptorIndex := 96, attributes := #[] }] 16433 50 #[] #[{ accessFlags := 16409, nameIndex := 5, descriptorIndex := 6, attributes := #[] }, { accessFlags := 16409, nameIndex := 9, descriptorIndex := 6, attributes := #[] }, { accessFlags := 16409, nameIndex := 12, descriptorIndex := 6, attributes := #[] }, { accessFlags := 16409, nameIndex := 15, descriptorIndex := 6, attributes := #[] }, { accessFlags := 16409, nameIndex := 18, descriptorIndex := 6, attributes := #[] }, { accessFlags := 16409, nameIndex := 21, descriptorIndex := 6, attributes := #[] }, { accessFlags := 16409, nameIndex := 24, descriptorIndex := 6, attributes := #[] }, { accessFlags := 16409, nameIndex := 27, descriptorIndex := 6, attributes := #[] }, { accessFlags := 16409, nameIndex := 30, descriptorIndex := 6, attributes := #[] }, { accessFlags := 16409, nameIndex := 33, descriptorIndex := 6, attributes := #[] }, { accessFlags := 16409, nameIndex := 36, descriptorIndex := 6, attributes := #[] }, { accessFlags := 16409, nameIndex := 39, descriptorIndex := 6, attributes := #[] }, { accessFlags := 16, nameIndex := 61, descriptorIndex := 62, attributes := #[] }, { accessFlags := 16, nameIndex := 65, descriptorIndex := 62, attributes := #[] }, { accessFlags := 16, nameIndex := 68, descriptorIndex := 62, attributes := #[] }, { accessFlags := 4122, nameIndex := 42, descriptorIndex := 43, attributes := #[] }])
  fields := #[{ name := "XYZ", type := (.object "com/example/gyre/gyre/EulerSequence"), accessFlags := 16409, slot := 0, constantValue := 0 }, { name := "XZY", type := (.object "com/example/gyre/gyre/EulerSequence"), accessFlags := 16409, slot := 1, constantValue := 0 }, { name := "YXZ", type := (.object "com/example/gyre/gyre/EulerSequence"), accessFlags := 16409, slot := 2, constantValue := 0 }, { name := "YZX", type := (.object "com/example/gyre/gyre/EulerSequence"), accessFlags := 16409, slot := 3, constantValue := 0 }, { name := "ZXY", type := (.object "com/example/gyre/gyre/EulerSequence"), accessFlags := 16409, slot := 4, constantValue := 0 }, { name := "ZYX", type := (.object "com/example/gyre/gyre/EulerSequence"), accessFlags := 16409, slot := 5, constantValue := 0 }, { name := "XYX", type := (.object "com/example/gyre/gyre/EulerSequence"), accessFlags := 16409, slot := 6, constantValue := 0 }, { name := "XZX", type := (.object "com/example/gyre/gyre/EulerSequence"), accessFlags := 16409, slot := 7, constantValue := 0 }, { name := "YXY", type := (.object "com/example/gyre/gyre/EulerSequence"), accessFlags := 16409, slot := 8, constantValue := 0 }, { name := "YZY", type := (.object "com/example/gyre/gyre/EulerSequence"), accessFlags := 16409, slot := 9, constantValue := 0 }, { name := "ZXZ", type := (.object "com/example/gyre/gyre/EulerSequence"), accessFlags := 16409, slot := 10, constantValue := 0 }, { name := "ZYZ", type := (.object "com/example/gyre/gyre/EulerSequence"), accessFlags := 16409, slot := 11, constantValue := 0 }, { name := "first", type := .int, accessFlags := 16, slot := 3, constantValue := 0 }, { name := "middle", type := .int, accessFlags := 16, slot := 4, constantValue := 0 }, { name := "last", type := .int, accessFlags := 16, slot := 5, constantValue := 0 }, { name := "$VALUES", type := (.array (.object "com/example/gyre/gyre/EulerSequence")), accessFlags := 4122, slot := 12, constantValue := 0 }]
  methods := #[k6m0]
  instanceTypes := #[(.object "java/lang/String"), .int, .int, .int, .int, .int]
  staticTypes := #[(.object "com/example/gyre/gyre/EulerSequence"), (.object "com/example/gyre/gyre/EulerSequence"), (.object "com/example/gyre/gyre/EulerSequence"), (.object "com/example/gyre/gyre/EulerSequence"), (.object "com/example/gyre/gyre/EulerSequence"), (.object "com/example/gyre/gyre/EulerSequence"), (.object "com/example/gyre/gyre/EulerSequence"), (.object "com/example/gyre/gyre/EulerSequence"), (.object "com/example/gyre/gyre/EulerSequence"), (.object "com/example/gyre/gyre/EulerSequence"), (.object "com/example/gyre/gyre/EulerSequence"), (.object "com/example/gyre/gyre/EulerSequence"), (.array (.object "com/example/gyre/gyre/EulerSequence"))]
  resolved := Array.replicate 103 none
  statics := some 0 }

def pool7 : Array CpInfo := pool [(1, u "java/lang/Cloneable"), (0, .class_ 1), (0, u "java/lang/Object"), (0, .class_ 3)] 3

/-- java/lang/Cloneable -/
def k7 : Class := { plain "java/lang/Cloneable" (some 0) with
  accessFlags := 1537
  interfaces := #[]
  cf := some (fileOf pool7 2 #[] #[] 1537 4 #[] #[])
  fields := #[]
  methods := #[]
  instanceTypes := #[]
  staticTypes := #[]
  resolved := Array.replicate 8 none
  statics := none }

/-- the primitive byte -/
def k8 : Class := { plain "byte" none with kind := .primitive 'B', accessFlags := 0x411 }
/-- [B -/
def k9 : Class := { plain "[B" (some 0) with kind := .array 8 .byte, interfaces := #[7, 4], accessFlags := 1041 }

/-- the primitive int -/
def k10 : Class := { plain "int" none with kind := .primitive 'I', accessFlags := 0x411 }
/-- [I -/
def k11 : Class := { plain "[I" (some 0) with kind := .array 10 .int, interfaces := #[7, 4], accessFlags := 1041 }

def heap : Heap := #[{ cls := 6, slots := #[.ref 1, .ref 2, .ref 3, .ref 4, .ref 5, .ref 6, .ref 7, .ref 8, .ref 9, .ref 10, .ref 11, .ref 12, .null], vm := .statics 6 },
  { cls := 6, slots := #[.null, .int 0, .int 0, .int 0, .int 1, .int 2], vm := .none },
  { cls := 6, slots := #[.null, .int 0, .int 0, .int 0, .int 2, .int 1], vm := .none },
  { cls := 6, slots := #[.null, .int 0, .int 0, .int 1, .int 0, .int 2], vm := .none },
  { cls := 6, slots := #[.null, .int 0, .int 0, .int 1, .int 2, .int 0], vm := .none },
  { cls := 6, slots := #[.null, .int 0, .int 0, .int 2, .int 0, .int 1], vm := .none },
  { cls := 6, slots := #[.null, .int 0, .int 0, .int 2, .int 1, .int 0], vm := .none },
  { cls := 6, slots := #[.null, .int 0, .int 0, .int 0, .int 1, .int 0], vm := .none },
  { cls := 6, slots := #[.null, .int 0, .int 0, .int 0, .int 2, .int 0], vm := .none },
  { cls := 6, slots := #[.null, .int 0, .int 0, .int 1, .int 0, .int 1], vm := .none },
  { cls := 6, slots := #[.null, .int 0, .int 0, .int 1, .int 2, .int 1], vm := .none },
  { cls := 6, slots := #[.null, .int 0, .int 0, .int 2, .int 0, .int 2], vm := .none },
  { cls := 6, slots := #[.null, .int 0, .int 0, .int 2, .int 1, .int 2], vm := .none }]
def classes : Array Class := #[k0, k1, k2, k3, k4, k5, k6, k7, k8, k9, k10, k11]
def interned : List (Array UInt16 × Addr) := []
def slotsUsed : Nat := 85
def theMethod : MethodId := ⟨1, 2⟩
def args0 : Array Value := #[.int 5]
def aboutOver (below : List Frame) : State where
  vm := { classes := classes, interned := interned.toArray }
  heap := heap
  slotsUsed := slotsUsed
  threads := #[{ frames := .invoking theMethod args0 :: below }]
def below0 : List Frame := [.native { method := ⟨0, 0⟩, args := #[] }]
def about1 : State := aboutOver below0
def p0 : Program := .bare "" "" ""
def e0 : Env := launch0.env 0 0 0
theorem w_frames : about1.frames = Frame.invoking theMethod args0 :: below0 := rfl
set_option maxRecDepth 65536 in
theorem w_args : argsFit about1.vm theMethod args0 = true := by decide +kernel
set_option maxRecDepth 65536 in
theorem w_heap : heapFits about1 = true := by decide +kernel
set_option maxRecDepth 65536 in
theorem w_runnable : about1.curStatus? = some .runnable := by decide +kernel
set_option maxRecDepth 65536 in
theorem w_alone : about1.alone = true := by decide +kernel
set_option maxRecDepth 65536 in
theorem w_named : about1.methodNamed? x = some theMethod := by decide +kernel
set_option maxRecDepth 65536 in
theorem w_hears : about1.hears theMethod below0 = true := by decide +kernel
set_option maxRecDepth 65536 in
theorem w_ripe : about1.ripe theMethod args0 below0 = true := by decide +kernel
theorem w_running : about1.status = .running := rfl
set_option maxRecDepth 65536 in
theorem w_room : about1.hasRoom e0.platform room_1 = true :=
  launch0.hasRoom_least _ room_1 (by decide +kernel) (by decide +kernel) (by decide +kernel) (by decide +kernel) (by decide +kernel) (by decide +kernel)
theorem allAtoms_all (ts : List Jvm.Cond) (a : Array Jvm.Value) (st : Jvm.State) : (allAtoms ts).before a st = ts.all (fun c => c.before a st) := by
  induction ts with
  | nil => rfl
  | cons c t ih =>
    show (Jvm.Cond.and c (allAtoms t)).before a st = _
    rw [Jvm.Cond.before_and, ih, List.all_cons]
def words1 : List Jvm.Cond := Jvm.Cond.code x code maxLocals ret :: tables_1
/-- a 'code' word, met by the world's own term for the bytes: nothing is compared byte by byte -/
theorem code_word {y : MethodName} {bytes : ByteArray} {mx : Nat} {rt : Option FieldType} {a : Array Value} {s : State} {m : MethodId} {meth : Method} {c : Code} (h1 : s.methodNamed? y = some m) (h2 : s.vm.method? m = some meth) (h3 : meth.code = some c) (h4 : c.code = bytes)
    (h5 : (c.maxLocals == mx && c.exceptionTable.isEmpty && decide (c.maxStack ≤ mostOperands) && decide (meth.sig.returnType = rt) && !meth.locks && decide (parseMethodDescriptor y.desc = some meth.sig)) = true) : (Jvm.Cond.code y bytes mx rt).before a s = true := by
  simp only [Bool.and_eq_true, beq_iff_eq, Bool.not_eq_true', decide_eq_true_eq] at h5
  obtain ⟨⟨⟨⟨⟨g1, g2⟩, g3⟩, g4⟩, g5⟩, g6⟩ := h5
  simp [Cond.before, Cond.holds, Cond.value, h1, h2, h3, h4, g1, g2, g3, g4, g5, g6]
def isCode : Jvm.Cond → Bool
  | .code _ _ _ _ => true
  | _ => false
theorem all_split {L : List Jvm.Cond} {P : Jvm.Cond → Bool} (h1 : L.all (fun c => isCode c || P c) = true) (h2 : ∀ c ∈ L.filter isCode, P c = true) : L.all P = true := by
  refine List.all_eq_true.mpr fun c hc => ?_
  have h := List.all_eq_true.mp h1 c hc
  rcases Bool.eq_false_or_eq_true (isCode c) with hi | hi
  · exact h2 c (List.mem_filter.mpr ⟨hc, hi⟩)
  · simpa [hi] using h
set_option maxRecDepth 65536 in
theorem w_c0 : (Jvm.Cond.code x code maxLocals ret).before args0 about1 = true := code_word (m := ⟨1, 2⟩) (meth := k1m2) (c := k1c2) (by decide +kernel) rfl rfl rfl (by decide +kernel)
set_option maxRecDepth 65536 in
theorem w_c1 : (Jvm.Cond.code ({ cls := "com/example/gyre/gyre/EulerSequenceIsProperEulerPinLaw", name := "pick", desc := "(I)Lcom/example/gyre/gyre/EulerSequence;" } : Jvm.MethodName) method_2_code (1 : Nat) (Option.some (Jvm.ClassFile.FieldType.object "com/example/gyre/gyre/EulerSequence"))).before args0 about1 = true := code_word (m := ⟨1, 1⟩) (meth := k1m1) (c := k1c1) (by decide +kernel) rfl rfl rfl (by decide +kernel)
set_option maxRecDepth 65536 in
theorem w_c2 : (Jvm.Cond.code ({ cls := "com/example/gyre/gyre/EulerSequence", name := "isProperEuler", desc := "()Z" } : Jvm.MethodName) prog_3_method_4_code (1 : Nat) (Option.some Jvm.ClassFile.FieldType.boolean)).before args0 about1 = true := code_word (m := ⟨6, 0⟩) (meth := k6m0) (c := k6c0) (by decide +kernel) rfl rfl rfl (by decide +kernel)
def codes1 : List Jvm.Cond := [Jvm.Cond.code x code maxLocals ret, Jvm.Cond.code ({ cls := "com/example/gyre/gyre/EulerSequenceIsProperEulerPinLaw", name := "pick", desc := "(I)Lcom/example/gyre/gyre/EulerSequence;" } : Jvm.MethodName) method_2_code (1 : Nat) (Option.some (Jvm.ClassFile.FieldType.object "com/example/gyre/gyre/EulerSequence")), Jvm.Cond.code ({ cls := "com/example/gyre/gyre/EulerSequence", name := "isProperEuler", desc := "()Z" } : Jvm.MethodName) prog_3_method_4_code (1 : Nat) (Option.some Jvm.ClassFile.FieldType.boolean)]
set_option maxRecDepth 65536 in
theorem codes_eq : words1.filter isCode = codes1 := rfl
theorem w_codes : ∀ c ∈ words1.filter isCode, c.before args0 about1 = true := by
  rw [codes_eq]
  intro c hc
  simp only [codes1, List.mem_cons, List.not_mem_nil, or_false] at hc
  rcases hc with rfl | rfl | rfl
  · exact w_c0
  · exact w_c1
  · exact w_c2
set_option maxRecDepth 65536 in
theorem w_t1 : (words1.take 24).all (fun c => isCode c || c.before args0 about1) = true := by decide +kernel
set_option maxRecDepth 65536 in
theorem w_t2 : (words1.drop 24).all (fun c => isCode c || c.before args0 about1) = true := by decide +kernel
theorem w_tables : (allAtoms (Jvm.Cond.code x code maxLocals ret :: tables_1)).before args0 about1 = true := by
  rw [allAtoms_all]
  show words1.all (fun c => c.before args0 about1) = true
  refine all_split ?_ w_codes
  rw [← List.take_append_drop 24 words1, List.all_append, w_t1, w_t2]
  rfl
set_option maxRecDepth 65536 in
theorem w_case : (Jvm.Cond.and given_1 narrow_1).before args0 about1 = true := by decide +kernel
theorem w_applies : (headSpec (Jvm.Cond.code x code maxLocals ret :: tables_1) room_1).applies x e0.platform about1 = true :=
  (Spec.applies_iff w_frames).mpr ⟨w_running, w_runnable, w_alone, w_named, w_hears, w_ripe, w_room, w_tables⟩
theorem atStart : AtStart classFile x code maxLocals ret World_1 tables_1 room_1 Calls_1 rest_1 Pre_1 launch0 p0 e0 about1 theMethod args0 below0 :=
  ⟨lists_1, trivial, launch0.admits_env _ _ _, launch0.least_env, fairChoices_fair.cas, fairChoices_fair.clock, w_frames, w_args, w_heap, w_applies, trivial, trivial, w_case⟩
end start1
theorem witness_1 : WitnessClaimed_1 := ⟨start1.p0, start1.e0, start1.about1, start1.theMethod, start1.args0, start1.below0, start1.atStart⟩
end Jvm.Pilot.@@N@@
