import JvmDerived
import JvmDerived.Pilot.@@N@@Statement
import JvmDerived.Pilot.@@N@@Code
set_option linter.unusedVariables false
set_option linter.unusedSimpArgs false
namespace Jvm.Pilot.@@N@@
open Jvm Jvm.ClassFile Sem Op Lib Jvm.Free Jvm.Stand Jvm.LawKit Jvm.RoadKit Bundle Jvm.Pilot.@@N@@.Jvm.D
/-- what a walk owes from a state on: the run comes to a state of which G speaks -/
def own_Go (p : Program) (e : Env) (below : List Frame) (A : State) (G : State → Prop) : Prop := ∃ B, (∀ t, Steps p.tables e below B t → Steps p.tables e below A t) ∧ G B
theorem own_via {p : Program} {e : Env} {below : List Frame} {A B : State} {G : State → Prop} (h : ∀ t, Steps p.tables e below B t → Steps p.tables e below A t) (k : own_Go p e below B G) : own_Go p e below A G := by
  obtain ⟨C, h1, h2⟩ := k
  exact ⟨C, fun t q => h t (h1 t q), h2⟩
theorem own_done {p : Program} {e : Env} {below : List Frame} {A : State} {G : State → Prop} (g : G A) : own_Go p e below A G := ⟨A, fun _ q => q, g⟩
theorem own_bind {p : Program} {e : Env} {below : List Frame} {A : State} {G G' : State → Prop} (h : own_Go p e below A G) (k : ∀ B, G B → own_Go p e below B G') : own_Go p e below A G' := by
  obtain ⟨B, h1, h2⟩ := h
  exact own_via h1 (k B h2)
/-- the method ends here -/
def own_End (p : Program) (e : Env) (below : List Frame) (s : State) (Q : Option Value → Heap → List Loc → Prop) (C S : Nat) (B : State) : Prop :=
  ∃ s₂ o, Steps p.tables e below B s₂ ∧ s₂.status = .running ∧ Ended s₂ below o ∧ ∃ v L, o = .returned v ∧ Q v s₂.heap L ∧ FrameEnd s o s₂ L C S
theorem own_body {p : Program} {e : Env} {below : List Frame} {s A A' : State} {Q : Option Value → Heap → List Loc → Prop} {C S : Nat} (q : ∀ t, Steps p.tables e below A t → Steps p.tables e below A' t) (h : own_Go p e below A (own_End p e below s Q C S)) :
    ∃ s₂ o, Steps p.tables e below A' s₂ ∧ s₂.status = .running ∧ Ended s₂ below o ∧ ∃ v L, o = .returned v ∧ Q v s₂.heap L ∧ FrameEnd s o s₂ L C S := by
  obtain ⟨B, h1, s₂, o, h2, h3⟩ := h
  exact ⟨s₂, o, q _ (h1 _ h2), h3⟩
section Leaf
variable {p : Program} {l : Launch} {e : Env} {R : Room} {s : State} {m : MethodId} {args : Array Value} {below : List Frame} {meth : Method} {c : Code} {T : State} {locs : List Loc} {cells slots : Nat}
theorem own_leaf (X : Stand p l e R s m args below meth c T locs cells slots) (hx : p.tables.exec = Jvm.exec) (hlk : meth.locks = false) {pc : Nat} {Ls : Array Slot} {w : Value} {t : FieldType} {i : Instr} {rest : List Value} (hret : meth.sig.returnType = some t) (hn : narrow t w = w)
    (hi : (i = .ireturn ∧ (t = .int ∨ t = .boolean ∨ t = .byte ∨ t = .char ∨ t = .short) ∧ ∃ z, w = .int z) ∨ (i = .lreturn ∧ t = .long ∧ ∃ z, w = .long z) ∨ (i = .dreturn ∧ t = .double ∧ ∃ z, w = .double z) ∨ (i = .freturn ∧ t = .float ∧ ∃ z, w = .float z) ∨ (i = .areturn ∧ t.isReference = true ∧ w.isRef = true))
    (hd : decode c.code pc = .ok (i, 1)) {Q : Option Value → Heap → List Loc → Prop} {C S : Nat} (hC : cells ≤ C) (hS : slots ≤ S) (hq : Q (some w) T.heap locs) : own_Go p e below (T.setTop (mkF m pc Ls (w :: rest))) (own_End p e below s Q C S) := by
  obtain ⟨fs, hr, hrun, hended, hW, hsame⟩ := X.leave (v := some w) (fun h => by rw [hret] at h; cases h) hlk
  exact own_done ⟨_, _, retOut X hx hret hn hi hd hr, hrun, hended, _, _, rfl, hq, ⟨_, rfl⟩, hW, hsame.mono hC hS⟩
theorem own_leafV (X : Stand p l e R s m args below meth c T locs cells slots) (hx : p.tables.exec = Jvm.exec) (hlk : meth.locks = false) {pc : Nat} {Ls : Array Slot} (hret : meth.sig.returnType = none)
    (hd : decode c.code pc = .ok (.return_, 1)) {Q : Option Value → Heap → List Loc → Prop} {C S : Nat} (hC : cells ≤ C) (hS : slots ≤ S) (hq : Q none T.heap locs) : own_Go p e below (T.setTop (mkF m pc Ls [])) (own_End p e below s Q C S) := by
  obtain ⟨fs, hr, hrun, hended, hW, hsame⟩ := X.leave (v := none) (fun _ => rfl) hlk
  exact own_done ⟨_, _, X.returnOut hx hret hd hr, hrun, hended, _, _, rfl, hq, ⟨_, rfl⟩, hW, hsame.mono hC hS⟩
theorem own_getFR {Z : State} {a0 : Array Value} {h : Heap} (X : Stand p l e R s m args below meth c T locs cells slots) (hx : p.tables.exec = Jvm.exec) (hZ : Z.Warmed39 s.vm) {own R0 O n d : String} {index : Nat} (hown : s.vm.findClass own = some m.cls) (w : (Cond.fieldRef own index R0 n d).before a0 Z = true) (via : Via Z R0 O n d)
    (eT : T.heap = h) {a : Addr} {v : Value} (F : Fld Z h a O n d v) {g : JFrame} (hg : g.method = m) {rest : List Value} (hs : g.stack = .ref a :: rest) (hd : decode c.code g.pc = .ok (.getfield index, 3)) : ∃ T', Stand p l e R s m args below meth c T' locs cells slots ∧ T'.heap = h ∧ ∀ target, Steps p.tables e below (T'.setTop { g with pc := g.pc + 3, stack := v :: rest }) target → Steps p.tables e below (T.setTop g) target := by
  obtain ⟨cell, cf, k, i, f, h1, h2, h3, h4, -, -, h7⟩ := F
  have hW : Z.Warmed39 T.vm := wtrans hZ X.warmed
  have w1 := Cond.fieldRef_warmed39 hW w
  obtain ⟨c', k', i', f', hi, hr⟩ := Cond.fieldRef_spec (cur := m.cls) (show (Z.setVm T.vm).vm.findClass own = some m.cls by show T.vm.findClass own = _; rw [X.warmed.alike.findClass]; exact hown) w1
  obtain ⟨k'', hi', -⟩ := State.fieldFound?_setVm (s := Z) hW.alike (via _ h2)
  cases hi.symm.trans hi'
  refine ⟨T, X, eT, fun target hrest => ?_⟩
  subst hg
  jvm_step X.here [hx, hd, getfield.wp_ready (e := e) (s := T) (f := g) X.here.top hr h3 hs (by rw [eT]; exact h1) h4 h7]
  exact hrest
def own_EndW (p : Program) (e : Env) (below : List Frame) (s : State) (Q : Option Value → Heap → List Loc → Prop) (C S : Nat) (B : State) : Prop :=
  ∃ s₂ o, Steps p.tables e below B s₂ ∧ s₂.status = .running ∧ Ended s₂ below o ∧ ∃ v L, o = .returned v ∧ Q v s₂.heap L ∧ ReturnedEndW s o s₂ L C S
theorem own_bodyW {A A' : State} {Q : Option Value → Heap → List Loc → Prop} {C S : Nat} (q : ∀ t, Steps p.tables e below A t → Steps p.tables e below A' t) (h : own_Go p e below A (own_EndW p e below s Q C S)) :
    ∃ s₂ o, Steps p.tables e below A' s₂ ∧ s₂.status = .running ∧ Ended s₂ below o ∧ ∃ v L, o = .returned v ∧ Q v s₂.heap L ∧ ReturnedEndW s o s₂ L C S := by
  obtain ⟨B, h1, s₂, o, h2, h3⟩ := h
  exact ⟨s₂, o, q _ (h1 _ h2), h3⟩
theorem own_leafW {vm₁ : Vm} (X : Stand p l e R (s.setVm vm₁) m args below meth c T locs cells slots) (hx : p.tables.exec = Jvm.exec) (hlk : meth.locks = false) {n : Nat} (hS : s.Since vm₁ n) (hk : n ≤ T.heap.size) {pc : Nat} {Ls : Array Slot} {w : Value} {t : FieldType} {i : Instr} {rest : List Value} (hret : meth.sig.returnType = some t) (hn : narrow t w = w)
    (hi : (i = .ireturn ∧ (t = .int ∨ t = .boolean ∨ t = .byte ∨ t = .char ∨ t = .short) ∧ ∃ z, w = .int z) ∨ (i = .lreturn ∧ t = .long ∧ ∃ z, w = .long z) ∨ (i = .dreturn ∧ t = .double ∧ ∃ z, w = .double z) ∨ (i = .freturn ∧ t = .float ∧ ∃ z, w = .float z) ∨ (i = .areturn ∧ t.isReference = true ∧ w.isRef = true))
    (hd : decode c.code pc = .ok (i, 1)) {Q : Option Value → Heap → List Loc → Prop} {C S : Nat} (hC : cells ≤ C) (hS' : slots ≤ S) (hq : Q (some w) T.heap locs) : own_Go p e below (T.setTop (mkF m pc Ls (w :: rest))) (own_EndW p e below s Q C S) := by
  obtain ⟨fs, hr, hrun, hended, h1, h2, h3, hsame⟩ := X.leaveW hS hk (v := some w) (fun h => by rw [hret] at h; cases h) hlk
  exact own_done ⟨_, _, retOut X hx hret hn hi hd hr, hrun, hended, _, _, rfl, hq, h1, h2, h3, hsame.mono hC hS'⟩
theorem own_leafVW {vm₁ : Vm} (X : Stand p l e R (s.setVm vm₁) m args below meth c T locs cells slots) (hx : p.tables.exec = Jvm.exec) (hlk : meth.locks = false) {n : Nat} (hS : s.Since vm₁ n) (hk : n ≤ T.heap.size) {pc : Nat} {Ls : Array Slot} (hret : meth.sig.returnType = none)
    (hd : decode c.code pc = .ok (.return_, 1)) {Q : Option Value → Heap → List Loc → Prop} {C S : Nat} (hC : cells ≤ C) (hS' : slots ≤ S) (hq : Q none T.heap locs) : own_Go p e below (T.setTop (mkF m pc Ls [])) (own_EndW p e below s Q C S) := by
  obtain ⟨fs, hr, hrun, hended, h1, h2, h3, hsame⟩ := X.leaveW hS hk (v := none) (fun _ => rfl) hlk
  exact own_done ⟨_, _, X.returnOut hx hret hd hr, hrun, hended, _, _, rfl, hq, h1, h2, h3, hsame.mono hC hS'⟩
def own_bit (P : Prop) [Decidable P] : Int32 := if P then 1 else 0
theorem own_bit01 (P : Prop) [Decidable P] : own_bit P = 0 ∨ own_bit P = 1 := by unfold own_bit; split <;> simp
theorem own_bitT {P : Prop} [Decidable P] (h : P) : own_bit P = 1 := if_pos h
theorem own_bitF {P : Prop} [Decidable P] (h : ¬ P) : own_bit P = 0 := if_neg h
theorem own_bit0 {P : Prop} [Decidable P] : own_bit P = 0 ↔ ¬ P := by unfold own_bit; split <;> simp_all
theorem own_bit1 {P : Prop} [Decidable P] : own_bit P = 1 ↔ P := by unfold own_bit; split <;> simp_all
theorem own_bits {P P' : Prop} [Decidable P] [Decidable P'] (h : P ↔ P') : own_bit P = own_bit P' := by unfold own_bit; simp [h]
theorem own_lt (x y : Int32) : x < y ↔ x.toInt < y.toInt := Int32.lt_iff_toInt_lt
theorem own_eq (x y : Int32) : x = y ↔ x.toInt = y.toInt := Int32.toInt_inj.symm
theorem own_ltL (x y : Int64) : x < y ↔ x.toInt < y.toInt := Int64.lt_iff_toInt_lt
theorem own_eqL (x y : Int64) : x = y ↔ x.toInt = y.toInt := Int64.toInt_inj.symm
theorem own_mask (x : Int32) : 0 ≤ (x &&& (2147483647 : Int32)).toInt := by
  have h : (x &&& (2147483647 : Int32)).toBitVec.msb = false := by
    show (x.toBitVec &&& 2147483647#32).msb = false
    have e : (2147483647#32).msb = false := by decide
    rw [BitVec.msb_and, e]; simp
  have := BitVec.toInt_eq_msb_cond (x &&& (2147483647 : Int32)).toBitVec
  rw [h] at this
  show 0 ≤ (x &&& (2147483647 : Int32)).toBitVec.toInt
  rw [this]
  simp only [Bool.false_eq_true, if_false]
  exact Int.natCast_nonneg _
theorem own_modm (x m : Int32) (hm : 0 < m.toInt) : 0 ≤ ((x &&& (2147483647 : Int32)) % m).toInt ∧ ((x &&& (2147483647 : Int32)) % m).toInt < m.toInt := by
  have h := own_mask x
  rw [Int32.toInt_mod, Int.tmod_eq_emod_of_nonneg h]
  exact ⟨Int.emod_nonneg _ (by omega), Int.emod_lt_of_pos _ hm⟩
theorem own_fb {x : Int32} (h : x = 0 ∨ x = 1) : fits .boolean (.int x) = true := by rcases h with rfl | rfl <;> decide
theorem own_eqI {t : Term} {k : Int32} {args : Array Value} {s : State} (h : (Cond.eq t (Term.int k)).value args s none s [] = some true) : t.eval args s none [] s = some (.int k) := by
  simp only [Cond.value] at h
  have hn : (Term.int k).eval args s none [] s = some (.int k) := rfl
  rw [hn] at h
  cases ht : t.eval args s none [] s with
  | none => simp [ht] at h
  | some v => cases v <;> simp [ht] at h ⊢ <;> first | exact h | (exact h.elim) | simp_all
theorem own_eqJ {t : Term} {k : Int64} {args : Array Value} {s : State} (h : (Cond.eq t (Term.long k)).value args s none s [] = some true) : t.eval args s none [] s = some (.long k) := by
  simp only [Cond.value] at h
  have hn : (Term.long k).eval args s none [] s = some (.long k) := rfl
  rw [hn] at h
  cases ht : t.eval args s none [] s with
  | none => simp [ht] at h
  | some v => cases v <;> simp [ht] at h ⊢ <;> first | exact h | (exact h.elim) | simp_all
theorem own_b1 {x : Int32} (h : x = 0 ∨ x = 1) : narrow .boolean (.int x) = .int x := by rcases h with rfl | rfl <;> rfl
end Leaf

def own_pick (p : Int32) (w0 w1 w2 w3 w4 w5 : Addr) : Addr := if p = 0 then w0 else if p = 1 then w1 else if p = 2 then w2 else if p = 3 then w3 else if p = 4 then w4 else w5
def own_E (Z : State) (h : Heap) (w : Addr) (n : String) (k : Int32) : Prop := Sta Z h "portcullis/model/ItemKind" n "Lportcullis/model/ItemKind;" (.ref w) ∧ Exa Z h w "portcullis/model/ItemKind" ∧ Fld Z h w "java/lang/Enum" "ordinal" "I" (.int k)
def own_All (Z : State) (h : Heap) (w0 w1 w2 w3 w4 w5 : Addr) : Prop := own_E Z h w0 "PORTAL" 0 ∧ own_E Z h w1 "PAGE" 1 ∧ own_E Z h w2 "CONTAINER" 2 ∧ own_E Z h w3 "WIDGET" 3 ∧ own_E Z h w4 "LINK" 4 ∧ own_E Z h w5 "TEMPLATE" 5
def own_may (c p : Int) : Prop := (c = 1 ∧ (p = 0 ∨ p = 1)) ∨ (c = 2 ∧ (p = 1 ∨ p = 2)) ∨ (c = 3 ∧ (p = 2 ∨ p = 1)) ∨ (c = 4 ∧ (p = 0 ∨ p = 4))
instance (c p : Int) : Decidable (own_may c p) := by unfold own_may; infer_instance
theorem own_six {p : Int32} (h : 0 ≤ p.toInt ∧ p.toInt < 6) : p = 0 ∨ p = 1 ∨ p = 2 ∨ p = 3 ∨ p = 4 ∨ p = 5 := by
  simp only [own_eq]
  have e0 : (0 : Int32).toInt = 0 := by decide
  have e1 : (1 : Int32).toInt = 1 := by decide
  have e2 : (2 : Int32).toInt = 2 := by decide
  have e3 : (3 : Int32).toInt = 3 := by decide
  have e4 : (4 : Int32).toInt = 4 := by decide
  have e5 : (5 : Int32).toInt = 5 := by decide
  omega
theorem own_ne {Z : State} {h : Heap} {a b : Addr} {n m : String} {i j : Int32} (F : own_E Z h a n i) (G : own_E Z h b m j) (q : i ≠ j) : a ≠ b := Fld.ne F.2.2 G.2.2 (fun e => q (by injection e))
theorem own_pk {Z : State} {h : Heap} {w0 w1 w2 w3 w4 w5 : Addr} (A : own_All Z h w0 w1 w2 w3 w4 w5) {p : Int32} (hp : 0 ≤ p.toInt ∧ p.toInt < 6) :
    (own_pick p w0 w1 w2 w3 w4 w5 = w0 ↔ p.toInt = 0) ∧ (own_pick p w0 w1 w2 w3 w4 w5 = w1 ↔ p.toInt = 1) ∧ (own_pick p w0 w1 w2 w3 w4 w5 = w2 ↔ p.toInt = 2) ∧ (own_pick p w0 w1 w2 w3 w4 w5 = w4 ↔ p.toInt = 4) := by
  obtain ⟨A0, A1, A2, A3, A4, A5⟩ := A
  have n01 := own_ne A0 A1 (by decide); have n02 := own_ne A0 A2 (by decide); have n03 := own_ne A0 A3 (by decide); have n04 := own_ne A0 A4 (by decide); have n05 := own_ne A0 A5 (by decide)
  have n12 := own_ne A1 A2 (by decide); have n13 := own_ne A1 A3 (by decide); have n14 := own_ne A1 A4 (by decide); have n15 := own_ne A1 A5 (by decide)
  have n23 := own_ne A2 A3 (by decide); have n24 := own_ne A2 A4 (by decide); have n25 := own_ne A2 A5 (by decide)
  have n34 := own_ne A3 A4 (by decide); have n45 := own_ne A4 A5 (by decide)
  have e0 : (0 : Int32).toInt = 0 := by decide
  have e1 : (1 : Int32).toInt = 1 := by decide
  have e2 : (2 : Int32).toInt = 2 := by decide
  have e3 : (3 : Int32).toInt = 3 := by decide
  have e4 : (4 : Int32).toInt = 4 := by decide
  have e5 : (5 : Int32).toInt = 5 := by decide
  rcases own_six hp with rfl | rfl | rfl | rfl | rfl | rfl
  · simp [own_pick, e0, n01, n02, n04]
  · simp [own_pick, e1, n01.symm, n12, n14]
  · simp [own_pick, e2, n02.symm, n12.symm, n24]
  · simp [own_pick, e3, n03.symm, n13.symm, n23.symm, n34]
  · simp [own_pick, e4, n04.symm, n14.symm, n24.symm]
  · simp [own_pick, e5, n05.symm, n15.symm, n25.symm, n45.symm]
theorem own_at {Z : State} {h : Heap} {w0 w1 w2 w3 w4 w5 : Addr} (A : own_All Z h w0 w1 w2 w3 w4 w5) {p : Int32} (hp : 0 ≤ p.toInt ∧ p.toInt < 6) : Exa Z h (own_pick p w0 w1 w2 w3 w4 w5) "portcullis/model/ItemKind" ∧ Fld Z h (own_pick p w0 w1 w2 w3 w4 w5) "java/lang/Enum" "ordinal" "I" (.int p) := by
  obtain ⟨A0, A1, A2, A3, A4, A5⟩ := A
  rcases own_six hp with rfl | rfl | rfl | rfl | rfl | rfl
  · exact A0.2
  · exact A1.2
  · exact A2.2
  · exact A3.2
  · exact A4.2
  · exact A5.2
theorem own_dead {P : Prop} {p : Int32} (hp : 0 ≤ p.toInt ∧ p.toInt < 6) (h0 : ¬ p = 0) (h1 : ¬ p = 1) (h2 : ¬ p = 2) (h3 : ¬ p = 3) (h4 : ¬ p = 4) (h5 : ¬ p = 5) : P := by
  rcases own_six hp with h | h | h | h | h | h
  · exact absurd h h0
  · exact absurd h h1
  · exact absurd h h2
  · exact absurd h h3
  · exact absurd h h4
  · exact absurd h h5
theorem own_mod (x : Int32) : 0 ≤ ((x &&& (2147483647 : Int32)) % (6 : Int32)).toInt ∧ ((x &&& (2147483647 : Int32)) % (6 : Int32)).toInt < 6 := own_modm x 6 (by decide)
theorem own_is1 {o : Int32} {k : Int32} (h : o = k) : o.toInt = k.toInt := by rw [h]
theorem own_pn0 : plainName "portcullis/model/ItemKindMayStandUnderPinLaw" = true := by first | (simp [plainName, overriddenIn]; done) | decide +kernel
theorem own_d1_0 : decode method_2_code 0 = .ok (.iload_n 0, 1) := by decide +kernel
theorem own_d1_1 : decode method_2_code 1 = .ok (.ifCond .ne 7, 3) := by decide +kernel
theorem own_d1_4 : decode method_2_code 4 = .ok (.getstatic 7, 3) := by decide +kernel
theorem own_d1_7 : decode method_2_code 7 = .ok (.areturn, 1) := by decide +kernel
theorem own_d1_8 : decode method_2_code 8 = .ok (.iload_n 0, 1) := by decide +kernel
theorem own_d1_9 : decode method_2_code 9 = .ok (.iconst 1, 1) := by decide +kernel
theorem own_d1_10 : decode method_2_code 10 = .ok (.if_icmp .ne 7, 3) := by decide +kernel
theorem own_d1_13 : decode method_2_code 13 = .ok (.getstatic 13, 3) := by decide +kernel
theorem own_d1_16 : decode method_2_code 16 = .ok (.areturn, 1) := by decide +kernel
theorem own_d1_17 : decode method_2_code 17 = .ok (.iload_n 0, 1) := by decide +kernel
theorem own_d1_18 : decode method_2_code 18 = .ok (.iconst 2, 1) := by decide +kernel
theorem own_d1_19 : decode method_2_code 19 = .ok (.if_icmp .ne 7, 3) := by decide +kernel
theorem own_d1_22 : decode method_2_code 22 = .ok (.getstatic 16, 3) := by decide +kernel
theorem own_d1_25 : decode method_2_code 25 = .ok (.areturn, 1) := by decide +kernel
theorem own_d1_26 : decode method_2_code 26 = .ok (.iload_n 0, 1) := by decide +kernel
theorem own_d1_27 : decode method_2_code 27 = .ok (.iconst 3, 1) := by decide +kernel
theorem own_d1_28 : decode method_2_code 28 = .ok (.if_icmp .ne 7, 3) := by decide +kernel
theorem own_d1_31 : decode method_2_code 31 = .ok (.getstatic 19, 3) := by decide +kernel
theorem own_d1_34 : decode method_2_code 34 = .ok (.areturn, 1) := by decide +kernel
theorem own_d1_35 : decode method_2_code 35 = .ok (.iload_n 0, 1) := by decide +kernel
theorem own_d1_36 : decode method_2_code 36 = .ok (.iconst 4, 1) := by decide +kernel
theorem own_d1_37 : decode method_2_code 37 = .ok (.if_icmp .ne 7, 3) := by decide +kernel
theorem own_d1_40 : decode method_2_code 40 = .ok (.getstatic 22, 3) := by decide +kernel
theorem own_d1_43 : decode method_2_code 43 = .ok (.areturn, 1) := by decide +kernel
theorem own_d1_44 : decode method_2_code 44 = .ok (.getstatic 25, 3) := by decide +kernel
theorem own_d1_47 : decode method_2_code 47 = .ok (.areturn, 1) := by decide +kernel
theorem own_ef1 (m : MethodId) (x0 : Int32) : entryFrame m #[(.int x0)] 1 = mkF m 0 #[.val (.int x0)] [] := by first | (simp [entryFrame, mkF, argsToLocals, Value.category]; done) | rfl
def Q1 (Z : State) (p1 : Int32) (w0 : Addr) (w1 : Addr) (w2 : Addr) (w3 : Addr) (w4 : Addr) (w5 : Addr) (h0 : Heap) (n0 : Nat) (v : Option Value) (h : Heap) (L : List Loc) : Prop := v = some (.ref (own_pick p1 w0 w1 w2 w3 w4 w5)) ∧ Fr n0 L ∧ h = h0 ∧ (Exa Z h0 (own_pick p1 w0 w1 w2 w3 w4 w5) "portcullis/model/ItemKind") ∧ (Fld Z h0 (own_pick p1 w0 w1 w2 w3 w4 w5) "java/lang/Enum" "ordinal" "I" (.int p1))
set_option maxRecDepth 65536 in
set_option maxHeartbeats 40000000 in
theorem rm1 (l : Launch) (Z : State) (a0 : Array Value) (hw : ∀ d ∈ tables_1, d.before a0 Z = true) (ws : List Jvm.Cond) (p1 : Int32) (w0 : Addr) (w1 : Addr) (w2 : Addr) (w3 : Addr) (w4 : Addr) (w5 : Addr) (h0 : Heap) (n0 : Nat) (Z0 : n0 ≤ h0.size) (hall : own_All Z h0 w0 w1 w2 w3 w4 w5) (hp : 0 ≤ p1.toInt ∧ p1.toInt < 6) :
    MetFree l (⟨"portcullis/model/ItemKindMayStandUnderPinLaw", "kind", "(I)Lportcullis/model/ItemKind;"⟩ : MethodName) (head1 (Jvm.Cond.code (⟨"portcullis/model/ItemKindMayStandUnderPinLaw", "kind", "(I)Lportcullis/model/ItemKind;"⟩ : MethodName) method_2_code 1 (some (.object "portcullis/model/ItemKind")) :: ws) ({ frames := 0, cells := 0, slots := 0, locals := 0 } : Room)) (fun a U => a = #[(.int p1)] ∧ Z.Warmed39 U.vm ∧ U.heap = h0) (fun _ _ _ _ _ => True) (fun _ U o U' => ∃ v L, o = .returned v ∧ Q1 Z p1 w0 w1 w2 w3 w4 w5 h0 n0 v U'.heap L ∧ FrameEnd U o U' L ({ frames := 0, cells := 0, slots := 0, locals := 0 } : Room).cells ({ frames := 0, cells := 0, slots := 0, locals := 0 } : Room).slots) := by
  refine MetFree.of_bodySF (plainFor_of_name own_pn0) hisR ?_
  intro p e s m args below meth c s₁ Bd hml0 hP hK
  obtain ⟨rfl, hZ, hh⟩ := hP
  have hx := Bd.exec
  have hby := Bd.bytes
  have hlk : meth.locks = false := Bd.notSynchronized
  have hml : c.maxLocals = 1 := hml0
  have hown : s.vm.findClass "portcullis/model/ItemKindMayStandUnderPinLaw" = some m.cls := findClass_of_methodNamed Bd.named
  have hnm := (name_of_methodNamed Bd.named Bd.method).1
  have X0 : Stand p l e ({ frames := 0, cells := 0, slots := 0, locals := 0 } : Room) s m #[(.int p1)] below meth c s₁ [] 0 0 := Stand.of_body Bd
  have e0 : s₁.heap = h0 := by rw [← hh, Bd.state]; rfl
  have N0 := Fr.nil n0
  refine own_body (A := s₁.setTop (mkF m 0 #[.val (.int p1)] [])) (Q := Q1 Z p1 w0 w1 w2 w3 w4 w5 h0 n0) (fun t k => castTop (own_ef1 m p1) k) ?_
  have hall' := hall
  obtain ⟨A0, A1, A2, A3, A4, A5⟩ := hall'
  refine own_via (B := s₁.setTop (mkF m 1 #[.val (.int p1)] [(.int p1)])) (fun t k => XS.iloadN X0.here hx rfl (hb hby own_d1_0) rfl k) ?_
  by_cases hc1 : p1 = (0 : Int32)
  · refine own_via (B := s₁.setTop (mkF m 4 #[.val (.int p1)] [])) (fun t k => XS.ifNo X0.here hx rfl (hb hby own_d1_1) rfl ((if0 _ _).trans (teq hc1).2) k) ?_
    obtain ⟨T1, X1, e1, st1⟩ := getS2 X0 hx hZ hown (host := "") (Or.inl (hw _ (List.mem_of_getElem? (i := 13) rfl))) Via.refl e0 A0.1 (g := (mkF m 4 #[.val (.int p1)] [])) rfl (hb hby own_d1_4)
    refine own_via (B := T1.setTop (mkF m 7 #[.val (.int p1)] [(.ref w0)])) (fun t k => st1 t k) ?_
    refine own_leaf X1 hx hlk (t := (.object "portcullis/model/ItemKind")) Bd.returns rfl (Or.inr (Or.inr (Or.inr (Or.inr ⟨rfl, rfl, rfl⟩)))) (hb hby own_d1_7) (by decide) (by decide) ?_
    show Q1 Z p1 w0 w1 w2 w3 w4 w5 h0 n0 _ T1.heap _
    rw [e1]
    refine ⟨?_, N0, rfl, (own_at hall hp).1, (own_at hall hp).2⟩
    simp [own_pick, hc1]
  · refine own_via (B := s₁.setTop (mkF m 8 #[.val (.int p1)] [])) (fun t k => XS.ifYes X0.here hx rfl (pc0 := 1) (pc' := 8) rfl (hb hby own_d1_1) rfl ((if0 _ _).trans (feq hc1).2) (by decide) (by decide) k) ?_
    refine own_via (B := s₁.setTop (mkF m 9 #[.val (.int p1)] [(.int p1)])) (fun t k => XS.iloadN X0.here hx rfl (hb hby own_d1_8) rfl k) ?_
    refine own_via (B := s₁.setTop (mkF m 10 #[.val (.int p1)] [(.int (1 : Int32)), (.int p1)])) (fun t k => XS.iconst X0.here hx rfl (hb hby own_d1_9) k) ?_
    by_cases hc10 : p1 = (1 : Int32)
    · refine own_via (B := s₁.setTop (mkF m 13 #[.val (.int p1)] [])) (fun t k => XS.icmpNo X0.here hx rfl (hb hby own_d1_10) rfl (teq hc10).2 k) ?_
      obtain ⟨T2, X2, e2, st2⟩ := getS2 X0 hx hZ hown (host := "") (Or.inl (hw _ (List.mem_of_getElem? (i := 34) rfl))) Via.refl e0 A1.1 (g := (mkF m 13 #[.val (.int p1)] [])) rfl (hb hby own_d1_13)
      refine own_via (B := T2.setTop (mkF m 16 #[.val (.int p1)] [(.ref w1)])) (fun t k => st2 t k) ?_
      refine own_leaf X2 hx hlk (t := (.object "portcullis/model/ItemKind")) Bd.returns rfl (Or.inr (Or.inr (Or.inr (Or.inr ⟨rfl, rfl, rfl⟩)))) (hb hby own_d1_16) (by decide) (by decide) ?_
      show Q1 Z p1 w0 w1 w2 w3 w4 w5 h0 n0 _ T2.heap _
      rw [e2]
      refine ⟨?_, N0, rfl, (own_at hall hp).1, (own_at hall hp).2⟩
      simp [own_pick, hc1, hc10]
    · refine own_via (B := s₁.setTop (mkF m 17 #[.val (.int p1)] [])) (fun t k => XS.icmpYes X0.here hx rfl (pc0 := 10) (pc' := 17) rfl (hb hby own_d1_10) rfl (feq hc10).2 (by decide) (by decide) k) ?_
      refine own_via (B := s₁.setTop (mkF m 18 #[.val (.int p1)] [(.int p1)])) (fun t k => XS.iloadN X0.here hx rfl (hb hby own_d1_17) rfl k) ?_
      refine own_via (B := s₁.setTop (mkF m 19 #[.val (.int p1)] [(.int (2 : Int32)), (.int p1)])) (fun t k => XS.iconst X0.here hx rfl (hb hby own_d1_18) k) ?_
      by_cases hc19 : p1 = (2 : Int32)
      · refine own_via (B := s₁.setTop (mkF m 22 #[.val (.int p1)] [])) (fun t k => XS.icmpNo X0.here hx rfl (hb hby own_d1_19) rfl (teq hc19).2 k) ?_
        obtain ⟨T3, X3, e3, st3⟩ := getS2 X0 hx hZ hown (host := "") (Or.inl (hw _ (List.mem_of_getElem? (i := 32) rfl))) Via.refl e0 A2.1 (g := (mkF m 22 #[.val (.int p1)] [])) rfl (hb hby own_d1_22)
        refine own_via (B := T3.setTop (mkF m 25 #[.val (.int p1)] [(.ref w2)])) (fun t k => st3 t k) ?_
        refine own_leaf X3 hx hlk (t := (.object "portcullis/model/ItemKind")) Bd.returns rfl (Or.inr (Or.inr (Or.inr (Or.inr ⟨rfl, rfl, rfl⟩)))) (hb hby own_d1_25) (by decide) (by decide) ?_
        show Q1 Z p1 w0 w1 w2 w3 w4 w5 h0 n0 _ T3.heap _
        rw [e3]
        refine ⟨?_, N0, rfl, (own_at hall hp).1, (own_at hall hp).2⟩
        simp [own_pick, hc1, hc10, hc19]
      · refine own_via (B := s₁.setTop (mkF m 26 #[.val (.int p1)] [])) (fun t k => XS.icmpYes X0.here hx rfl (pc0 := 19) (pc' := 26) rfl (hb hby own_d1_19) rfl (feq hc19).2 (by decide) (by decide) k) ?_
        refine own_via (B := s₁.setTop (mkF m 27 #[.val (.int p1)] [(.int p1)])) (fun t k => XS.iloadN X0.here hx rfl (hb hby own_d1_26) rfl k) ?_
        refine own_via (B := s₁.setTop (mkF m 28 #[.val (.int p1)] [(.int (3 : Int32)), (.int p1)])) (fun t k => XS.iconst X0.here hx rfl (hb hby own_d1_27) k) ?_
        by_cases hc28 : p1 = (3 : Int32)
        · refine own_via (B := s₁.setTop (mkF m 31 #[.val (.int p1)] [])) (fun t k => XS.icmpNo X0.here hx rfl (hb hby own_d1_28) rfl (teq hc28).2 k) ?_
          obtain ⟨T4, X4, e4, st4⟩ := getS2 X0 hx hZ hown (host := "") (Or.inl (hw _ (List.mem_of_getElem? (i := 16) rfl))) Via.refl e0 A3.1 (g := (mkF m 31 #[.val (.int p1)] [])) rfl (hb hby own_d1_31)
          refine own_via (B := T4.setTop (mkF m 34 #[.val (.int p1)] [(.ref w3)])) (fun t k => st4 t k) ?_
          refine own_leaf X4 hx hlk (t := (.object "portcullis/model/ItemKind")) Bd.returns rfl (Or.inr (Or.inr (Or.inr (Or.inr ⟨rfl, rfl, rfl⟩)))) (hb hby own_d1_34) (by decide) (by decide) ?_
          show Q1 Z p1 w0 w1 w2 w3 w4 w5 h0 n0 _ T4.heap _
          rw [e4]
          refine ⟨?_, N0, rfl, (own_at hall hp).1, (own_at hall hp).2⟩
          simp [own_pick, hc1, hc10, hc19, hc28]
        · refine own_via (B := s₁.setTop (mkF m 35 #[.val (.int p1)] [])) (fun t k => XS.icmpYes X0.here hx rfl (pc0 := 28) (pc' := 35) rfl (hb hby own_d1_28) rfl (feq hc28).2 (by decide) (by decide) k) ?_
          refine own_via (B := s₁.setTop (mkF m 36 #[.val (.int p1)] [(.int p1)])) (fun t k => XS.iloadN X0.here hx rfl (hb hby own_d1_35) rfl k) ?_
          refine own_via (B := s₁.setTop (mkF m 37 #[.val (.int p1)] [(.int (4 : Int32)), (.int p1)])) (fun t k => XS.iconst X0.here hx rfl (hb hby own_d1_36) k) ?_
          by_cases hc37 : p1 = (4 : Int32)
          · refine own_via (B := s₁.setTop (mkF m 40 #[.val (.int p1)] [])) (fun t k => XS.icmpNo X0.here hx rfl (hb hby own_d1_37) rfl (teq hc37).2 k) ?_
            obtain ⟨T5, X5, e5, st5⟩ := getS2 X0 hx hZ hown (host := "") (Or.inl (hw _ (List.mem_of_getElem? (i := 40) rfl))) Via.refl e0 A4.1 (g := (mkF m 40 #[.val (.int p1)] [])) rfl (hb hby own_d1_40)
            refine own_via (B := T5.setTop (mkF m 43 #[.val (.int p1)] [(.ref w4)])) (fun t k => st5 t k) ?_
            refine own_leaf X5 hx hlk (t := (.object "portcullis/model/ItemKind")) Bd.returns rfl (Or.inr (Or.inr (Or.inr (Or.inr ⟨rfl, rfl, rfl⟩)))) (hb hby own_d1_43) (by decide) (by decide) ?_
            show Q1 Z p1 w0 w1 w2 w3 w4 w5 h0 n0 _ T5.heap _
            rw [e5]
            refine ⟨?_, N0, rfl, (own_at hall hp).1, (own_at hall hp).2⟩
            simp [own_pick, hc1, hc10, hc19, hc28, hc37]
          · refine own_via (B := s₁.setTop (mkF m 44 #[.val (.int p1)] [])) (fun t k => XS.icmpYes X0.here hx rfl (pc0 := 37) (pc' := 44) rfl (hb hby own_d1_37) rfl (feq hc37).2 (by decide) (by decide) k) ?_
            obtain ⟨T6, X6, e6, st6⟩ := getS2 X0 hx hZ hown (host := "") (Or.inl (hw _ (List.mem_of_getElem? (i := 37) rfl))) Via.refl e0 A5.1 (g := (mkF m 44 #[.val (.int p1)] [])) rfl (hb hby own_d1_44)
            refine own_via (B := T6.setTop (mkF m 47 #[.val (.int p1)] [(.ref w5)])) (fun t k => st6 t k) ?_
            refine own_leaf X6 hx hlk (t := (.object "portcullis/model/ItemKind")) Bd.returns rfl (Or.inr (Or.inr (Or.inr (Or.inr ⟨rfl, rfl, rfl⟩)))) (hb hby own_d1_47) (by decide) (by decide) ?_
            show Q1 Z p1 w0 w1 w2 w3 w4 w5 h0 n0 _ T6.heap _
            rw [e6]
            refine ⟨?_, N0, rfl, (own_at hall hp).1, (own_at hall hp).2⟩
            simp [own_pick, hc1, hc10, hc19, hc28, hc37]
theorem own_pn1 : plainName "java/lang/Enum" = true := by first | (simp [plainName, overriddenIn]; done) | decide +kernel
theorem own_d2_0 : decode jdk_37_method_2_code 0 = .ok (.aload_n 0, 1) := by decide +kernel
theorem own_d2_1 : decode jdk_37_method_2_code 1 = .ok (.getfield 7, 3) := by decide +kernel
theorem own_d2_4 : decode jdk_37_method_2_code 4 = .ok (.ireturn, 1) := by decide +kernel
theorem own_ef2 (m : MethodId) (x0 : Addr) : entryFrame m #[(.ref x0)] 1 = mkF m 0 #[.val (.ref x0)] [] := by first | (simp [entryFrame, mkF, argsToLocals, Value.category]; done) | rfl
def Q2 (Z : State) (a2 : Addr) (o2 : Int32) (h0 : Heap) (n0 : Nat) (v : Option Value) (h : Heap) (L : List Loc) : Prop := v = some (.int o2) ∧ Fr n0 L ∧ h = h0
set_option maxRecDepth 65536 in
set_option maxHeartbeats 40000000 in
theorem rm2 (l : Launch) (Z : State) (a0 : Array Value) (hw : ∀ d ∈ tables_1, d.before a0 Z = true) (ws : List Jvm.Cond) (a2 : Addr) (o2 : Int32) (h0 : Heap) (n0 : Nat) (Z0 : n0 ≤ h0.size) (F2 : Fld Z h0 a2 "java/lang/Enum" "ordinal" "I" (.int o2)) :
    MetFree l (⟨"java/lang/Enum", "ordinal", "()I"⟩ : MethodName) (head1 (Jvm.Cond.code (⟨"java/lang/Enum", "ordinal", "()I"⟩ : MethodName) jdk_37_method_2_code 1 (some .int) :: ws) ({ frames := 0, cells := 0, slots := 0, locals := 0 } : Room)) (fun a U => a = #[(.ref a2)] ∧ Z.Warmed39 U.vm ∧ U.heap = h0) (fun _ _ _ _ _ => True) (fun _ U o U' => ∃ v L, o = .returned v ∧ Q2 Z a2 o2 h0 n0 v U'.heap L ∧ FrameEnd U o U' L ({ frames := 0, cells := 0, slots := 0, locals := 0 } : Room).cells ({ frames := 0, cells := 0, slots := 0, locals := 0 } : Room).slots) := by
  refine MetFree.of_bodySF (plainFor_of_name own_pn1) hisR ?_
  intro p e s m args below meth c s₁ Bd hml0 hP hK
  obtain ⟨rfl, hZ, hh⟩ := hP
  have hx := Bd.exec
  have hby := Bd.bytes
  have hlk : meth.locks = false := Bd.notSynchronized
  have hml : c.maxLocals = 1 := hml0
  have hown : s.vm.findClass "java/lang/Enum" = some m.cls := findClass_of_methodNamed Bd.named
  have hnm := (name_of_methodNamed Bd.named Bd.method).1
  have X0 : Stand p l e ({ frames := 0, cells := 0, slots := 0, locals := 0 } : Room) s m #[(.ref a2)] below meth c s₁ [] 0 0 := Stand.of_body Bd
  have e0 : s₁.heap = h0 := by rw [← hh, Bd.state]; rfl
  have N0 := Fr.nil n0
  refine own_body (A := s₁.setTop (mkF m 0 #[.val (.ref a2)] [])) (Q := Q2 Z a2 o2 h0 n0) (fun t k => castTop (own_ef2 m a2) k) ?_
  refine own_via (B := s₁.setTop (mkF m 1 #[.val (.ref a2)] [(.ref a2)])) (fun t k => XS.aloadN X0.here hx rfl (hb hby own_d2_0) rfl rfl k) ?_
  obtain ⟨T1, X1, e1, st1⟩ := getF X0 hx hZ hown (host := "") (Or.inl (hw _ (List.mem_of_getElem? (i := 30) rfl))) Via.refl e0 F2 (g := (mkF m 1 #[.val (.ref a2)] [(.ref a2)])) rfl rfl (hb hby own_d2_1)
  refine own_via (B := T1.setTop (mkF m 4 #[.val (.ref a2)] [(.int o2)])) (fun t k => st1 t k) ?_
  refine own_leaf X1 hx hlk (t := .int) Bd.returns rfl (Or.inl ⟨rfl, by simp, _, rfl⟩) (hb hby own_d2_4) (by decide) (by decide) ?_
  show Q2 Z a2 o2 h0 n0 _ T1.heap _
  rw [e1]
  refine ⟨?_, N0, rfl⟩
  rfl
theorem own_pn2 : plainName "portcullis/model/ItemKind" = true := by first | (simp [plainName, overriddenIn]; done) | decide +kernel
theorem own_pd0 : parseMethodDescriptor "()I" = some ⟨[], some .int⟩ := by decide +kernel
theorem own_d3_0 : decode prog_10_method_6_code 0 = .ok (.aload_n 0, 1) := by decide +kernel
theorem own_d3_1 : decode prog_10_method_6_code 1 = .ok (.invokevirtual 65, 3) := by decide +kernel
theorem own_d3_4 : decode prog_10_method_6_code 4 = .ok (.tableswitch 40 0 5 #[50, 54, 76, 98, 120, 50], 40) := by decide +kernel
theorem own_d3_54 : decode prog_10_method_6_code 54 = .ok (.iconst 0, 1) := by decide +kernel
theorem own_d3_55 : decode prog_10_method_6_code 55 = .ok (.goto 88, 3) := by decide +kernel
theorem own_d3_58 : decode prog_10_method_6_code 58 = .ok (.aload_n 1, 1) := by decide +kernel
theorem own_d3_59 : decode prog_10_method_6_code 59 = .ok (.getstatic 3, 3) := by decide +kernel
theorem own_d3_62 : decode prog_10_method_6_code 62 = .ok (.if_acmp .eq 10, 3) := by decide +kernel
theorem own_d3_65 : decode prog_10_method_6_code 65 = .ok (.aload_n 1, 1) := by decide +kernel
theorem own_d3_66 : decode prog_10_method_6_code 66 = .ok (.getstatic 7, 3) := by decide +kernel
theorem own_d3_69 : decode prog_10_method_6_code 69 = .ok (.if_acmp .ne 7, 3) := by decide +kernel
theorem own_d3_72 : decode prog_10_method_6_code 72 = .ok (.iconst 1, 1) := by decide +kernel
theorem own_d3_73 : decode prog_10_method_6_code 73 = .ok (.goto 70, 3) := by decide +kernel
theorem own_d3_76 : decode prog_10_method_6_code 76 = .ok (.iconst 0, 1) := by decide +kernel
theorem own_d3_77 : decode prog_10_method_6_code 77 = .ok (.goto 66, 3) := by decide +kernel
theorem own_d3_80 : decode prog_10_method_6_code 80 = .ok (.aload_n 1, 1) := by decide +kernel
theorem own_d3_81 : decode prog_10_method_6_code 81 = .ok (.getstatic 7, 3) := by decide +kernel
theorem own_d3_84 : decode prog_10_method_6_code 84 = .ok (.if_acmp .eq 10, 3) := by decide +kernel
theorem own_d3_87 : decode prog_10_method_6_code 87 = .ok (.aload_n 1, 1) := by decide +kernel
theorem own_d3_88 : decode prog_10_method_6_code 88 = .ok (.getstatic 10, 3) := by decide +kernel
theorem own_d3_91 : decode prog_10_method_6_code 91 = .ok (.if_acmp .ne 7, 3) := by decide +kernel
theorem own_d3_94 : decode prog_10_method_6_code 94 = .ok (.iconst 1, 1) := by decide +kernel
theorem own_d3_95 : decode prog_10_method_6_code 95 = .ok (.goto 48, 3) := by decide +kernel
theorem own_d3_98 : decode prog_10_method_6_code 98 = .ok (.iconst 0, 1) := by decide +kernel
theorem own_d3_99 : decode prog_10_method_6_code 99 = .ok (.goto 44, 3) := by decide +kernel
theorem own_d3_102 : decode prog_10_method_6_code 102 = .ok (.aload_n 1, 1) := by decide +kernel
theorem own_d3_103 : decode prog_10_method_6_code 103 = .ok (.getstatic 10, 3) := by decide +kernel
theorem own_d3_106 : decode prog_10_method_6_code 106 = .ok (.if_acmp .eq 10, 3) := by decide +kernel
theorem own_d3_109 : decode prog_10_method_6_code 109 = .ok (.aload_n 1, 1) := by decide +kernel
theorem own_d3_110 : decode prog_10_method_6_code 110 = .ok (.getstatic 7, 3) := by decide +kernel
theorem own_d3_113 : decode prog_10_method_6_code 113 = .ok (.if_acmp .ne 7, 3) := by decide +kernel
theorem own_d3_116 : decode prog_10_method_6_code 116 = .ok (.iconst 1, 1) := by decide +kernel
theorem own_d3_117 : decode prog_10_method_6_code 117 = .ok (.goto 26, 3) := by decide +kernel
theorem own_d3_120 : decode prog_10_method_6_code 120 = .ok (.iconst 0, 1) := by decide +kernel
theorem own_d3_121 : decode prog_10_method_6_code 121 = .ok (.goto 22, 3) := by decide +kernel
theorem own_d3_124 : decode prog_10_method_6_code 124 = .ok (.aload_n 1, 1) := by decide +kernel
theorem own_d3_125 : decode prog_10_method_6_code 125 = .ok (.getstatic 3, 3) := by decide +kernel
theorem own_d3_128 : decode prog_10_method_6_code 128 = .ok (.if_acmp .eq 10, 3) := by decide +kernel
theorem own_d3_131 : decode prog_10_method_6_code 131 = .ok (.aload_n 1, 1) := by decide +kernel
theorem own_d3_132 : decode prog_10_method_6_code 132 = .ok (.getstatic 16, 3) := by decide +kernel
theorem own_d3_135 : decode prog_10_method_6_code 135 = .ok (.if_acmp .ne 7, 3) := by decide +kernel
theorem own_d3_138 : decode prog_10_method_6_code 138 = .ok (.iconst 1, 1) := by decide +kernel
theorem own_d3_139 : decode prog_10_method_6_code 139 = .ok (.goto 4, 3) := by decide +kernel
theorem own_d3_142 : decode prog_10_method_6_code 142 = .ok (.iconst 0, 1) := by decide +kernel
theorem own_d3_143 : decode prog_10_method_6_code 143 = .ok (.ireturn, 1) := by decide +kernel
theorem own_ef3 (m : MethodId) (x0 : Addr) (x1 : Addr) : entryFrame m #[(.ref x0), (.ref x1)] 2 = mkF m 0 #[.val (.ref x0), .val (.ref x1)] [] := by first | (simp [entryFrame, mkF, argsToLocals, Value.category]; done) | rfl
def Q3 (Z : State) (a3 : Addr) (b3 : Addr) (o3 : Int32) (p3 : Int32) (w0 : Addr) (w1 : Addr) (w2 : Addr) (w3 : Addr) (w4 : Addr) (w5 : Addr) (h0 : Heap) (n0 : Nat) (v : Option Value) (h : Heap) (L : List Loc) : Prop := v = some (.int (own_bit (own_may o3.toInt p3.toInt))) ∧ Fr n0 L ∧ h = h0
set_option maxRecDepth 65536 in
set_option maxHeartbeats 40000000 in
theorem rm3 (l : Launch) (Z : State) (a0 : Array Value) (hw : ∀ d ∈ tables_1, d.before a0 Z = true) (ws : List Jvm.Cond) (a3 : Addr) (b3 : Addr) (o3 : Int32) (p3 : Int32) (w0 : Addr) (w1 : Addr) (w2 : Addr) (w3 : Addr) (w4 : Addr) (w5 : Addr) (h0 : Heap) (n0 : Nat) (Z0 : n0 ≤ h0.size) (hall : own_All Z h0 w0 w1 w2 w3 w4 w5) (E3 : Exa Z h0 a3 "portcullis/model/ItemKind") (F3 : Fld Z h0 a3 "java/lang/Enum" "ordinal" "I" (.int o3)) (ho : 0 ≤ o3.toInt ∧ o3.toInt < 6) (hp2 : 0 ≤ p3.toInt ∧ p3.toInt < 6) (ha1 : b3 = own_pick p3 w0 w1 w2 w3 w4 w5) :
    MetFree l (⟨"portcullis/model/ItemKind", "mayStandUnder", "(Lportcullis/model/ItemKind;)Z"⟩ : MethodName) (head1 (Jvm.Cond.code (⟨"portcullis/model/ItemKind", "mayStandUnder", "(Lportcullis/model/ItemKind;)Z"⟩ : MethodName) prog_10_method_6_code 2 (some .boolean) :: ws) ({ frames := 1, cells := 0, slots := 0, locals := 12 } : Room)) (fun a U => a = #[(.ref a3), (.ref b3)] ∧ Z.Warmed39 U.vm ∧ U.heap = h0) (fun _ _ _ _ _ => True) (fun _ U o U' => ∃ v L, o = .returned v ∧ Q3 Z a3 b3 o3 p3 w0 w1 w2 w3 w4 w5 h0 n0 v U'.heap L ∧ FrameEnd U o U' L ({ frames := 1, cells := 0, slots := 0, locals := 12 } : Room).cells ({ frames := 1, cells := 0, slots := 0, locals := 12 } : Room).slots) := by
  refine MetFree.of_bodySF (plainFor_of_name own_pn2) hisR ?_
  intro p e s m args below meth c s₁ Bd hml0 hP hK
  obtain ⟨rfl, hZ, hh⟩ := hP
  have hx := Bd.exec
  have hby := Bd.bytes
  have hlk : meth.locks = false := Bd.notSynchronized
  have hml : c.maxLocals = 2 := hml0
  have hown : s.vm.findClass "portcullis/model/ItemKind" = some m.cls := findClass_of_methodNamed Bd.named
  have hnm := (name_of_methodNamed Bd.named Bd.method).1
  have X0 : Stand p l e ({ frames := 1, cells := 0, slots := 0, locals := 12 } : Room) s m #[(.ref a3), (.ref b3)] below meth c s₁ [] 0 0 := Stand.of_body Bd
  have e0 : s₁.heap = h0 := by rw [← hh, Bd.state]; rfl
  have N0 := Fr.nil n0
  refine own_body (A := s₁.setTop (mkF m 0 #[.val (.ref a3), .val (.ref b3)] [])) (Q := Q3 Z a3 b3 o3 p3 w0 w1 w2 w3 w4 w5 h0 n0) (fun t k => castTop (own_ef3 m a3 b3) k) ?_
  have hall' := hall
  obtain ⟨A0, A1, A2, A3, A4, A5⟩ := hall'
  refine own_via (B := s₁.setTop (mkF m 1 #[.val (.ref a3), .val (.ref b3)] [(.ref a3)])) (fun t k => XS.aloadN X0.here hx rfl (hb hby own_d3_0) rfl rfl k) ?_
  obtain ⟨cq1, kq1, q1a, q1b, q1c⟩ := isOf hZ e0 E3
  obtain ⟨_, _, ⟨T1, L1, k1, n1⟩, -, X1, ⟨Lc1, hQ1, l1, y1, z1⟩, st1⟩ := X0.virtualBackUp hx (x := (⟨"portcullis/model/ItemKind", "ordinal", "()I"⟩ : MethodName)) (y := (⟨"java/lang/Enum", "ordinal", "()I"⟩ : MethodName)) (owner := "java/lang/Enum") hown (mvT hZ (hw _ (List.mem_of_getElem? (i := 23) rfl))) (mvT hZ (hw _ (List.mem_of_getElem? (i := 24) rfl))) (mvT hZ (hw _ (List.mem_of_getElem? (i := 25) rfl))) (by decide) (mvT hZ (hw _ (List.mem_of_getElem? (i := 27) rfl))) (mvT hZ (hw _ (List.mem_of_getElem? (i := 26) rfl))) (backOf (W := 0) (rm2 l Z a0 hw [] a3 o3 h0 n0 Z0 F3) hZ (hw _ (List.mem_of_getElem? (i := 29) rfl)) (hw _ (List.mem_of_getElem? (i := 28) rfl)) (by decide) (by decide)) q1a q1c (g := (mkF m 1 #[.val (.ref a3), .val (.ref b3)] [(.ref a3)])) rfl (by rw [hml]; rfl) (Steps.refl _) (argsL := []) (rest := []) (lenOf own_pd0 rfl) rfl (by show 2 * 0 + _ ≤ _; exact Nat.le_of_eq rfl) (hb hby own_d3_1) (fun _ _ => ⟨rfl, e0, (by decide : 0 + 0 ≤ _), (by decide : 0 + 0 ≤ _)⟩)
  dsimp only [Pt.U, Pt.locs, Pt.cells, Pt.slots] at X1 l1 y1 z1 st1 hQ1
  subst l1 y1 z1
  obtain ⟨rfl, Nq1, eq1⟩ := hQ1
  have N1 := Fr.app N0 Nq1
  refine own_via (B := T1.setTop (mkF m 4 #[.val (.ref a3), .val (.ref b3)] [(.int o3)])) (fun t k => st1.trans k) ?_
  refine own_bind (G := fun B => ∃ (T' : State) (L' : List Loc) (v4s0 : Int32), Fr n0 L' ∧ (((o3 = (0 : Int32)) ∧ v4s0 = (0 : Int32)) ∨ ((o3 = (1 : Int32)) ∧ (b3 = w0) ∧ v4s0 = (1 : Int32)) ∨ ((o3 = (1 : Int32)) ∧ (¬ (b3 = w0)) ∧ (b3 = w1) ∧ v4s0 = (1 : Int32)) ∨ ((o3 = (1 : Int32)) ∧ (¬ (b3 = w0)) ∧ (¬ (b3 = w1)) ∧ v4s0 = (0 : Int32)) ∨ ((o3 = (2 : Int32)) ∧ (b3 = w1) ∧ v4s0 = (1 : Int32)) ∨ ((o3 = (2 : Int32)) ∧ (¬ (b3 = w1)) ∧ (b3 = w2) ∧ v4s0 = (1 : Int32)) ∨ ((o3 = (2 : Int32)) ∧ (¬ (b3 = w1)) ∧ (¬ (b3 = w2)) ∧ v4s0 = (0 : Int32)) ∨ ((o3 = (3 : Int32)) ∧ (b3 = w2) ∧ v4s0 = (1 : Int32)) ∨ ((o3 = (3 : Int32)) ∧ (¬ (b3 = w2)) ∧ (b3 = w1) ∧ v4s0 = (1 : Int32)) ∨ ((o3 = (3 : Int32)) ∧ (¬ (b3 = w2)) ∧ (¬ (b3 = w1)) ∧ v4s0 = (0 : Int32)) ∨ ((o3 = (4 : Int32)) ∧ (b3 = w0) ∧ v4s0 = (1 : Int32)) ∨ ((o3 = (4 : Int32)) ∧ (¬ (b3 = w0)) ∧ (b3 = w4) ∧ v4s0 = (1 : Int32)) ∨ ((o3 = (4 : Int32)) ∧ (¬ (b3 = w0)) ∧ (¬ (b3 = w4)) ∧ v4s0 = (0 : Int32)) ∨ ((o3 = (5 : Int32)) ∧ v4s0 = (0 : Int32))) ∧ B = T'.setTop (mkF m 143 #[.val (.ref a3), .val (.ref b3)] [(.int v4s0)]) ∧ Stand p l e ({ frames := 1, cells := 0, slots := 0, locals := 12 } : Room) s m #[(.ref a3), (.ref b3)] below meth c T' L' (0 + 0) (0 + 0) ∧ T'.heap = h0) ?_ ?_
  · by_cases hc4_0 : o3 = (0 : Int32)
    · refine own_via (B := T1.setTop (mkF m 54 #[.val (.ref a3), .val (.ref b3)] [])) (fun t k => XS.tswIn X1.here hx rfl (pc0 := 4) (pc' := 54) (o := 50) rfl (hb hby own_d3_4) rfl (by rw [hc4_0]; decide) (by rw [hc4_0]; decide) (by decide) (by decide) k) ?_
      refine own_via (B := T1.setTop (mkF m 55 #[.val (.ref a3), .val (.ref b3)] [(.int (0 : Int32))])) (fun t k => XS.iconst X1.here hx rfl (hb hby own_d3_54) k) ?_
      refine own_via (B := T1.setTop (mkF m 143 #[.val (.ref a3), .val (.ref b3)] [(.int (0 : Int32))])) (fun t k => XS.goto X1.here hx rfl (pc0 := 55) (pc' := 143) rfl (hb hby own_d3_55) (by decide) (by decide) k) ?_
      exact own_done ⟨_, _, _, N1, (Or.inl ⟨hc4_0, rfl⟩), rfl, X1, eq1⟩
    · by_cases hc4_1 : o3 = (1 : Int32)
      · refine own_via (B := T1.setTop (mkF m 58 #[.val (.ref a3), .val (.ref b3)] [])) (fun t k => XS.tswIn X1.here hx rfl (pc0 := 4) (pc' := 58) (o := 54) rfl (hb hby own_d3_4) rfl (by rw [hc4_1]; decide) (by rw [hc4_1]; decide) (by decide) (by decide) k) ?_
        refine own_via (B := T1.setTop (mkF m 59 #[.val (.ref a3), .val (.ref b3)] [(.ref b3)])) (fun t k => XS.aloadN X1.here hx rfl (hb hby own_d3_58) rfl rfl k) ?_
        obtain ⟨T3, X3, e3, st3⟩ := getS2 X1 hx hZ hown (host := "") (Or.inl (hw _ (List.mem_of_getElem? (i := 42) rfl))) Via.refl eq1 A0.1 (g := (mkF m 59 #[.val (.ref a3), .val (.ref b3)] [(.ref b3)])) rfl (hb hby own_d3_59)
        refine own_via (B := T3.setTop (mkF m 62 #[.val (.ref a3), .val (.ref b3)] [(.ref w0), (.ref b3)])) (fun t k => st3 t k) ?_
        by_cases hc62 : b3 = w0
        · refine own_via (B := T3.setTop (mkF m 72 #[.val (.ref a3), .val (.ref b3)] [])) (fun t k => Jvm.RoadKit.acmp (g := (mkF m 62 #[.val (.ref a3), .val (.ref b3)] [(.ref w0), (.ref b3)])) X3 hx rfl rfl rfl (pc0 := 62) (pc' := 72) (same := true) rfl (hb hby own_d3_62) rfl (decide_eq_true (congrArg Value.ref hc62)) (by decide) (by decide) k) ?_
          refine own_via (B := T3.setTop (mkF m 73 #[.val (.ref a3), .val (.ref b3)] [(.int (1 : Int32))])) (fun t k => XS.iconst X3.here hx rfl (hb hby own_d3_72) k) ?_
          refine own_via (B := T3.setTop (mkF m 143 #[.val (.ref a3), .val (.ref b3)] [(.int (1 : Int32))])) (fun t k => XS.goto X3.here hx rfl (pc0 := 73) (pc' := 143) rfl (hb hby own_d3_73) (by decide) (by decide) k) ?_
          exact own_done ⟨_, _, _, N1, (Or.inr (Or.inl ⟨hc4_1, hc62, rfl⟩)), rfl, X3, e3⟩
        · refine own_via (B := T3.setTop (mkF m 65 #[.val (.ref a3), .val (.ref b3)] [])) (fun t k => Jvm.RoadKit.acmp (g := (mkF m 62 #[.val (.ref a3), .val (.ref b3)] [(.ref w0), (.ref b3)])) X3 hx rfl rfl rfl (pc0 := 62) (pc' := 65) (same := false) rfl (hb hby own_d3_62) rfl (decide_eq_false fun q => hc62 (Value.ref.inj q)) (by decide) (by decide) k) ?_
          refine own_via (B := T3.setTop (mkF m 66 #[.val (.ref a3), .val (.ref b3)] [(.ref b3)])) (fun t k => XS.aloadN X3.here hx rfl (hb hby own_d3_65) rfl rfl k) ?_
          obtain ⟨T4, X4, e4, st4⟩ := getS2 X3 hx hZ hown (host := "") (Or.inl (hw _ (List.mem_of_getElem? (i := 36) rfl))) Via.refl e3 A1.1 (g := (mkF m 66 #[.val (.ref a3), .val (.ref b3)] [(.ref b3)])) rfl (hb hby own_d3_66)
          refine own_via (B := T4.setTop (mkF m 69 #[.val (.ref a3), .val (.ref b3)] [(.ref w1), (.ref b3)])) (fun t k => st4 t k) ?_
          by_cases hc69 : b3 = w1
          · refine own_via (B := T4.setTop (mkF m 72 #[.val (.ref a3), .val (.ref b3)] [])) (fun t k => Jvm.RoadKit.acmp (g := (mkF m 69 #[.val (.ref a3), .val (.ref b3)] [(.ref w1), (.ref b3)])) X4 hx rfl rfl rfl (pc0 := 69) (pc' := 72) (same := true) rfl (hb hby own_d3_69) rfl (decide_eq_true (congrArg Value.ref hc69)) (by decide) (by decide) k) ?_
            refine own_via (B := T4.setTop (mkF m 73 #[.val (.ref a3), .val (.ref b3)] [(.int (1 : Int32))])) (fun t k => XS.iconst X4.here hx rfl (hb hby own_d3_72) k) ?_
            refine own_via (B := T4.setTop (mkF m 143 #[.val (.ref a3), .val (.ref b3)] [(.int (1 : Int32))])) (fun t k => XS.goto X4.here hx rfl (pc0 := 73) (pc' := 143) rfl (hb hby own_d3_73) (by decide) (by decide) k) ?_
            exact own_done ⟨_, _, _, N1, (Or.inr (Or.inr (Or.inl ⟨hc4_1, hc62, hc69, rfl⟩))), rfl, X4, e4⟩
          · refine own_via (B := T4.setTop (mkF m 76 #[.val (.ref a3), .val (.ref b3)] [])) (fun t k => Jvm.RoadKit.acmp (g := (mkF m 69 #[.val (.ref a3), .val (.ref b3)] [(.ref w1), (.ref b3)])) X4 hx rfl rfl rfl (pc0 := 69) (pc' := 76) (same := false) rfl (hb hby own_d3_69) rfl (decide_eq_false fun q => hc69 (Value.ref.inj q)) (by decide) (by decide) k) ?_
            refine own_via (B := T4.setTop (mkF m 77 #[.val (.ref a3), .val (.ref b3)] [(.int (0 : Int32))])) (fun t k => XS.iconst X4.here hx rfl (hb hby own_d3_76) k) ?_
            refine own_via (B := T4.setTop (mkF m 143 #[.val (.ref a3), .val (.ref b3)] [(.int (0 : Int32))])) (fun t k => XS.goto X4.here hx rfl (pc0 := 77) (pc' := 143) rfl (hb hby own_d3_77) (by decide) (by decide) k) ?_
            exact own_done ⟨_, _, _, N1, (Or.inr (Or.inr (Or.inr (Or.inl ⟨hc4_1, hc62, hc69, rfl⟩)))), rfl, X4, e4⟩
      · by_cases hc4_2 : o3 = (2 : Int32)
        · refine own_via (B := T1.setTop (mkF m 80 #[.val (.ref a3), .val (.ref b3)] [])) (fun t k => XS.tswIn X1.here hx rfl (pc0 := 4) (pc' := 80) (o := 76) rfl (hb hby own_d3_4) rfl (by rw [hc4_2]; decide) (by rw [hc4_2]; decide) (by decide) (by decide) k) ?_
          refine own_via (B := T1.setTop (mkF m 81 #[.val (.ref a3), .val (.ref b3)] [(.ref b3)])) (fun t k => XS.aloadN X1.here hx rfl (hb hby own_d3_80) rfl rfl k) ?_
          obtain ⟨T5, X5, e5, st5⟩ := getS2 X1 hx hZ hown (host := "") (Or.inl (hw _ (List.mem_of_getElem? (i := 36) rfl))) Via.refl eq1 A1.1 (g := (mkF m 81 #[.val (.ref a3), .val (.ref b3)] [(.ref b3)])) rfl (hb hby own_d3_81)
          refine own_via (B := T5.setTop (mkF m 84 #[.val (.ref a3), .val (.ref b3)] [(.ref w1), (.ref b3)])) (fun t k => st5 t k) ?_
          by_cases hc84 : b3 = w1
          · refine own_via (B := T5.setTop (mkF m 94 #[.val (.ref a3), .val (.ref b3)] [])) (fun t k => Jvm.RoadKit.acmp (g := (mkF m 84 #[.val (.ref a3), .val (.ref b3)] [(.ref w1), (.ref b3)])) X5 hx rfl rfl rfl (pc0 := 84) (pc' := 94) (same := true) rfl (hb hby own_d3_84) rfl (decide_eq_true (congrArg Value.ref hc84)) (by decide) (by decide) k) ?_
            refine own_via (B := T5.setTop (mkF m 95 #[.val (.ref a3), .val (.ref b3)] [(.int (1 : Int32))])) (fun t k => XS.iconst X5.here hx rfl (hb hby own_d3_94) k) ?_
            refine own_via (B := T5.setTop (mkF m 143 #[.val (.ref a3), .val (.ref b3)] [(.int (1 : Int32))])) (fun t k => XS.goto X5.here hx rfl (pc0 := 95) (pc' := 143) rfl (hb hby own_d3_95) (by decide) (by decide) k) ?_
            exact own_done ⟨_, _, _, N1, (Or.inr (Or.inr (Or.inr (Or.inr (Or.inl ⟨hc4_2, hc84, rfl⟩))))), rfl, X5, e5⟩
          · refine own_via (B := T5.setTop (mkF m 87 #[.val (.ref a3), .val (.ref b3)] [])) (fun t k => Jvm.RoadKit.acmp (g := (mkF m 84 #[.val (.ref a3), .val (.ref b3)] [(.ref w1), (.ref b3)])) X5 hx rfl rfl rfl (pc0 := 84) (pc' := 87) (same := false) rfl (hb hby own_d3_84) rfl (decide_eq_false fun q => hc84 (Value.ref.inj q)) (by decide) (by decide) k) ?_
            refine own_via (B := T5.setTop (mkF m 88 #[.val (.ref a3), .val (.ref b3)] [(.ref b3)])) (fun t k => XS.aloadN X5.here hx rfl (hb hby own_d3_87) rfl rfl k) ?_
            obtain ⟨T6, X6, e6, st6⟩ := getS2 X5 hx hZ hown (host := "") (Or.inl (hw _ (List.mem_of_getElem? (i := 39) rfl))) Via.refl e5 A2.1 (g := (mkF m 88 #[.val (.ref a3), .val (.ref b3)] [(.ref b3)])) rfl (hb hby own_d3_88)
            refine own_via (B := T6.setTop (mkF m 91 #[.val (.ref a3), .val (.ref b3)] [(.ref w2), (.ref b3)])) (fun t k => st6 t k) ?_
            by_cases hc91 : b3 = w2
            · refine own_via (B := T6.setTop (mkF m 94 #[.val (.ref a3), .val (.ref b3)] [])) (fun t k => Jvm.RoadKit.acmp (g := (mkF m 91 #[.val (.ref a3), .val (.ref b3)] [(.ref w2), (.ref b3)])) X6 hx rfl rfl rfl (pc0 := 91) (pc' := 94) (same := true) rfl (hb hby own_d3_91) rfl (decide_eq_true (congrArg Value.ref hc91)) (by decide) (by decide) k) ?_
              refine own_via (B := T6.setTop (mkF m 95 #[.val (.ref a3), .val (.ref b3)] [(.int (1 : Int32))])) (fun t k => XS.iconst X6.here hx rfl (hb hby own_d3_94) k) ?_
              refine own_via (B := T6.setTop (mkF m 143 #[.val (.ref a3), .val (.ref b3)] [(.int (1 : Int32))])) (fun t k => XS.goto X6.here hx rfl (pc0 := 95) (pc' := 143) rfl (hb hby own_d3_95) (by decide) (by decide) k) ?_
              exact own_done ⟨_, _, _, N1, (Or.inr (Or.inr (Or.inr (Or.inr (Or.inr (Or.inl ⟨hc4_2, hc84, hc91, rfl⟩)))))), rfl, X6, e6⟩
            · refine own_via (B := T6.setTop (mkF m 98 #[.val (.ref a3), .val (.ref b3)] [])) (fun t k => Jvm.RoadKit.acmp (g := (mkF m 91 #[.val (.ref a3), .val (.ref b3)] [(.ref w2), (.ref b3)])) X6 hx rfl rfl rfl (pc0 := 91) (pc' := 98) (same := false) rfl (hb hby own_d3_91) rfl (decide_eq_false fun q => hc91 (Value.ref.inj q)) (by decide) (by decide) k) ?_
              refine own_via (B := T6.setTop (mkF m 99 #[.val (.ref a3), .val (.ref b3)] [(.int (0 : Int32))])) (fun t k => XS.iconst X6.here hx rfl (hb hby own_d3_98) k) ?_
              refine own_via (B := T6.setTop (mkF m 143 #[.val (.ref a3), .val (.ref b3)] [(.int (0 : Int32))])) (fun t k => XS.goto X6.here hx rfl (pc0 := 99) (pc' := 143) rfl (hb hby own_d3_99) (by decide) (by decide) k) ?_
              exact own_done ⟨_, _, _, N1, (Or.inr (Or.inr (Or.inr (Or.inr (Or.inr (Or.inr (Or.inl ⟨hc4_2, hc84, hc91, rfl⟩))))))), rfl, X6, e6⟩
        · by_cases hc4_3 : o3 = (3 : Int32)
          · refine own_via (B := T1.setTop (mkF m 102 #[.val (.ref a3), .val (.ref b3)] [])) (fun t k => XS.tswIn X1.here hx rfl (pc0 := 4) (pc' := 102) (o := 98) rfl (hb hby own_d3_4) rfl (by rw [hc4_3]; decide) (by rw [hc4_3]; decide) (by decide) (by decide) k) ?_
            refine own_via (B := T1.setTop (mkF m 103 #[.val (.ref a3), .val (.ref b3)] [(.ref b3)])) (fun t k => XS.aloadN X1.here hx rfl (hb hby own_d3_102) rfl rfl k) ?_
            obtain ⟨T7, X7, e7, st7⟩ := getS2 X1 hx hZ hown (host := "") (Or.inl (hw _ (List.mem_of_getElem? (i := 39) rfl))) Via.refl eq1 A2.1 (g := (mkF m 103 #[.val (.ref a3), .val (.ref b3)] [(.ref b3)])) rfl (hb hby own_d3_103)
            refine own_via (B := T7.setTop (mkF m 106 #[.val (.ref a3), .val (.ref b3)] [(.ref w2), (.ref b3)])) (fun t k => st7 t k) ?_
            by_cases hc106 : b3 = w2
            · refine own_via (B := T7.setTop (mkF m 116 #[.val (.ref a3), .val (.ref b3)] [])) (fun t k => Jvm.RoadKit.acmp (g := (mkF m 106 #[.val (.ref a3), .val (.ref b3)] [(.ref w2), (.ref b3)])) X7 hx rfl rfl rfl (pc0 := 106) (pc' := 116) (same := true) rfl (hb hby own_d3_106) rfl (decide_eq_true (congrArg Value.ref hc106)) (by decide) (by decide) k) ?_
              refine own_via (B := T7.setTop (mkF m 117 #[.val (.ref a3), .val (.ref b3)] [(.int (1 : Int32))])) (fun t k => XS.iconst X7.here hx rfl (hb hby own_d3_116) k) ?_
              refine own_via (B := T7.setTop (mkF m 143 #[.val (.ref a3), .val (.ref b3)] [(.int (1 : Int32))])) (fun t k => XS.goto X7.here hx rfl (pc0 := 117) (pc' := 143) rfl (hb hby own_d3_117) (by decide) (by decide) k) ?_
              exact own_done ⟨_, _, _, N1, (Or.inr (Or.inr (Or.inr (Or.inr (Or.inr (Or.inr (Or.inr (Or.inl ⟨hc4_3, hc106, rfl⟩)))))))), rfl, X7, e7⟩
            · refine own_via (B := T7.setTop (mkF m 109 #[.val (.ref a3), .val (.ref b3)] [])) (fun t k => Jvm.RoadKit.acmp (g := (mkF m 106 #[.val (.ref a3), .val (.ref b3)] [(.ref w2), (.ref b3)])) X7 hx rfl rfl rfl (pc0 := 106) (pc' := 109) (same := false) rfl (hb hby own_d3_106) rfl (decide_eq_false fun q => hc106 (Value.ref.inj q)) (by decide) (by decide) k) ?_
              refine own_via (B := T7.setTop (mkF m 110 #[.val (.ref a3), .val (.ref b3)] [(.ref b3)])) (fun t k => XS.aloadN X7.here hx rfl (hb hby own_d3_109) rfl rfl k) ?_
              obtain ⟨T8, X8, e8, st8⟩ := getS2 X7 hx hZ hown (host := "") (Or.inl (hw _ (List.mem_of_getElem? (i := 36) rfl))) Via.refl e7 A1.1 (g := (mkF m 110 #[.val (.ref a3), .val (.ref b3)] [(.ref b3)])) rfl (hb hby own_d3_110)
              refine own_via (B := T8.setTop (mkF m 113 #[.val (.ref a3), .val (.ref b3)] [(.ref w1), (.ref b3)])) (fun t k => st8 t k) ?_
              by_cases hc113 : b3 = w1
              · refine own_via (B := T8.setTop (mkF m 116 #[.val (.ref a3), .val (.ref b3)] [])) (fun t k => Jvm.RoadKit.acmp (g := (mkF m 113 #[.val (.ref a3), .val (.ref b3)] [(.ref w1), (.ref b3)])) X8 hx rfl rfl rfl (pc0 := 113) (pc' := 116) (same := true) rfl (hb hby own_d3_113) rfl (decide_eq_true (congrArg Value.ref hc113)) (by decide) (by decide) k) ?_
                refine own_via (B := T8.setTop (mkF m 117 #[.val (.ref a3), .val (.ref b3)] [(.int (1 : Int32))])) (fun t k => XS.iconst X8.here hx rfl (hb hby own_d3_116) k) ?_
                refine own_via (B := T8.setTop (mkF m 143 #[.val (.ref a3), .val (.ref b3)] [(.int (1 : Int32))])) (fun t k => XS.goto X8.here hx rfl (pc0 := 117) (pc' := 143) rfl (hb hby own_d3_117) (by decide) (by decide) k) ?_
                exact own_done ⟨_, _, _, N1, (Or.inr (Or.inr (Or.inr (Or.inr (Or.inr (Or.inr (Or.inr (Or.inr (Or.inl ⟨hc4_3, hc106, hc113, rfl⟩))))))))), rfl, X8, e8⟩
              · refine own_via (B := T8.setTop (mkF m 120 #[.val (.ref a3), .val (.ref b3)] [])) (fun t k => Jvm.RoadKit.acmp (g := (mkF m 113 #[.val (.ref a3), .val (.ref b3)] [(.ref w1), (.ref b3)])) X8 hx rfl rfl rfl (pc0 := 113) (pc' := 120) (same := false) rfl (hb hby own_d3_113) rfl (decide_eq_false fun q => hc113 (Value.ref.inj q)) (by decide) (by decide) k) ?_
                refine own_via (B := T8.setTop (mkF m 121 #[.val (.ref a3), .val (.ref b3)] [(.int (0 : Int32))])) (fun t k => XS.iconst X8.here hx rfl (hb hby own_d3_120) k) ?_
                refine own_via (B := T8.setTop (mkF m 143 #[.val (.ref a3), .val (.ref b3)] [(.int (0 : Int32))])) (fun t k => XS.goto X8.here hx rfl (pc0 := 121) (pc' := 143) rfl (hb hby own_d3_121) (by decide) (by decide) k) ?_
                exact own_done ⟨_, _, _, N1, (Or.inr (Or.inr (Or.inr (Or.inr (Or.inr (Or.inr (Or.inr (Or.inr (Or.inr (Or.inl ⟨hc4_3, hc106, hc113, rfl⟩)))))))))), rfl, X8, e8⟩
          · by_cases hc4_4 : o3 = (4 : Int32)
            · refine own_via (B := T1.setTop (mkF m 124 #[.val (.ref a3), .val (.ref b3)] [])) (fun t k => XS.tswIn X1.here hx rfl (pc0 := 4) (pc' := 124) (o := 120) rfl (hb hby own_d3_4) rfl (by rw [hc4_4]; decide) (by rw [hc4_4]; decide) (by decide) (by decide) k) ?_
              refine own_via (B := T1.setTop (mkF m 125 #[.val (.ref a3), .val (.ref b3)] [(.ref b3)])) (fun t k => XS.aloadN X1.here hx rfl (hb hby own_d3_124) rfl rfl k) ?_
              obtain ⟨T9, X9, e9, st9⟩ := getS2 X1 hx hZ hown (host := "") (Or.inl (hw _ (List.mem_of_getElem? (i := 42) rfl))) Via.refl eq1 A0.1 (g := (mkF m 125 #[.val (.ref a3), .val (.ref b3)] [(.ref b3)])) rfl (hb hby own_d3_125)
              refine own_via (B := T9.setTop (mkF m 128 #[.val (.ref a3), .val (.ref b3)] [(.ref w0), (.ref b3)])) (fun t k => st9 t k) ?_
              by_cases hc128 : b3 = w0
              · refine own_via (B := T9.setTop (mkF m 138 #[.val (.ref a3), .val (.ref b3)] [])) (fun t k => Jvm.RoadKit.acmp (g := (mkF m 128 #[.val (.ref a3), .val (.ref b3)] [(.ref w0), (.ref b3)])) X9 hx rfl rfl rfl (pc0 := 128) (pc' := 138) (same := true) rfl (hb hby own_d3_128) rfl (decide_eq_true (congrArg Value.ref hc128)) (by decide) (by decide) k) ?_
                refine own_via (B := T9.setTop (mkF m 139 #[.val (.ref a3), .val (.ref b3)] [(.int (1 : Int32))])) (fun t k => XS.iconst X9.here hx rfl (hb hby own_d3_138) k) ?_
                refine own_via (B := T9.setTop (mkF m 143 #[.val (.ref a3), .val (.ref b3)] [(.int (1 : Int32))])) (fun t k => XS.goto X9.here hx rfl (pc0 := 139) (pc' := 143) rfl (hb hby own_d3_139) (by decide) (by decide) k) ?_
                exact own_done ⟨_, _, _, N1, (Or.inr (Or.inr (Or.inr (Or.inr (Or.inr (Or.inr (Or.inr (Or.inr (Or.inr (Or.inr (Or.inl ⟨hc4_4, hc128, rfl⟩))))))))))), rfl, X9, e9⟩
              · refine own_via (B := T9.setTop (mkF m 131 #[.val (.ref a3), .val (.ref b3)] [])) (fun t k => Jvm.RoadKit.acmp (g := (mkF m 128 #[.val (.ref a3), .val (.ref b3)] [(.ref w0), (.ref b3)])) X9 hx rfl rfl rfl (pc0 := 128) (pc' := 131) (same := false) rfl (hb hby own_d3_128) rfl (decide_eq_false fun q => hc128 (Value.ref.inj q)) (by decide) (by decide) k) ?_
                refine own_via (B := T9.setTop (mkF m 132 #[.val (.ref a3), .val (.ref b3)] [(.ref b3)])) (fun t k => XS.aloadN X9.here hx rfl (hb hby own_d3_131) rfl rfl k) ?_
                obtain ⟨T10, X10, e10, st10⟩ := getS2 X9 hx hZ hown (host := "") (Or.inl (hw _ (List.mem_of_getElem? (i := 43) rfl))) Via.refl e9 A4.1 (g := (mkF m 132 #[.val (.ref a3), .val (.ref b3)] [(.ref b3)])) rfl (hb hby own_d3_132)
                refine own_via (B := T10.setTop (mkF m 135 #[.val (.ref a3), .val (.ref b3)] [(.ref w4), (.ref b3)])) (fun t k => st10 t k) ?_
                by_cases hc135 : b3 = w4
                · refine own_via (B := T10.setTop (mkF m 138 #[.val (.ref a3), .val (.ref b3)] [])) (fun t k => Jvm.RoadKit.acmp (g := (mkF m 135 #[.val (.ref a3), .val (.ref b3)] [(.ref w4), (.ref b3)])) X10 hx rfl rfl rfl (pc0 := 135) (pc' := 138) (same := true) rfl (hb hby own_d3_135) rfl (decide_eq_true (congrArg Value.ref hc135)) (by decide) (by decide) k) ?_
                  refine own_via (B := T10.setTop (mkF m 139 #[.val (.ref a3), .val (.ref b3)] [(.int (1 : Int32))])) (fun t k => XS.iconst X10.here hx rfl (hb hby own_d3_138) k) ?_
                  refine own_via (B := T10.setTop (mkF m 143 #[.val (.ref a3), .val (.ref b3)] [(.int (1 : Int32))])) (fun t k => XS.goto X10.here hx rfl (pc0 := 139) (pc' := 143) rfl (hb hby own_d3_139) (by decide) (by decide) k) ?_
                  exact own_done ⟨_, _, _, N1, (Or.inr (Or.inr (Or.inr (Or.inr (Or.inr (Or.inr (Or.inr (Or.inr (Or.inr (Or.inr (Or.inr (Or.inl ⟨hc4_4, hc128, hc135, rfl⟩)))))))))))), rfl, X10, e10⟩
                · refine own_via (B := T10.setTop (mkF m 142 #[.val (.ref a3), .val (.ref b3)] [])) (fun t k => Jvm.RoadKit.acmp (g := (mkF m 135 #[.val (.ref a3), .val (.ref b3)] [(.ref w4), (.ref b3)])) X10 hx rfl rfl rfl (pc0 := 135) (pc' := 142) (same := false) rfl (hb hby own_d3_135) rfl (decide_eq_false fun q => hc135 (Value.ref.inj q)) (by decide) (by decide) k) ?_
                  refine own_via (B := T10.setTop (mkF m 143 #[.val (.ref a3), .val (.ref b3)] [(.int (0 : Int32))])) (fun t k => XS.iconst X10.here hx rfl (hb hby own_d3_142) k) ?_
                  exact own_done ⟨_, _, _, N1, (Or.inr (Or.inr (Or.inr (Or.inr (Or.inr (Or.inr (Or.inr (Or.inr (Or.inr (Or.inr (Or.inr (Or.inr (Or.inl ⟨hc4_4, hc128, hc135, rfl⟩))))))))))))), rfl, X10, e10⟩
            · by_cases hc4_5 : o3 = (5 : Int32)
              · refine own_via (B := T1.setTop (mkF m 54 #[.val (.ref a3), .val (.ref b3)] [])) (fun t k => XS.tswIn X1.here hx rfl (pc0 := 4) (pc' := 54) (o := 50) rfl (hb hby own_d3_4) rfl (by rw [hc4_5]; decide) (by rw [hc4_5]; decide) (by decide) (by decide) k) ?_
                refine own_via (B := T1.setTop (mkF m 55 #[.val (.ref a3), .val (.ref b3)] [(.int (0 : Int32))])) (fun t k => XS.iconst X1.here hx rfl (hb hby own_d3_54) k) ?_
                refine own_via (B := T1.setTop (mkF m 143 #[.val (.ref a3), .val (.ref b3)] [(.int (0 : Int32))])) (fun t k => XS.goto X1.here hx rfl (pc0 := 55) (pc' := 143) rfl (hb hby own_d3_55) (by decide) (by decide) k) ?_
                exact own_done ⟨_, _, _, N1, (Or.inr (Or.inr (Or.inr (Or.inr (Or.inr (Or.inr (Or.inr (Or.inr (Or.inr (Or.inr (Or.inr (Or.inr (Or.inr ⟨hc4_5, rfl⟩))))))))))))), rfl, X1, eq1⟩
              · exact own_dead ho hc4_0 hc4_1 hc4_2 hc4_3 hc4_4 hc4_5
  · rintro B ⟨T2, L2, v4s0, N2, hv4, rfl, X2, e2⟩
    refine own_leaf X2 hx hlk (t := .boolean) Bd.returns (own_b1 (by rcases hv4 with ⟨_, rfl⟩ | ⟨_, _, rfl⟩ | ⟨_, _, _, rfl⟩ | ⟨_, _, _, rfl⟩ | ⟨_, _, rfl⟩ | ⟨_, _, _, rfl⟩ | ⟨_, _, _, rfl⟩ | ⟨_, _, rfl⟩ | ⟨_, _, _, rfl⟩ | ⟨_, _, _, rfl⟩ | ⟨_, _, rfl⟩ | ⟨_, _, _, rfl⟩ | ⟨_, _, _, rfl⟩ | ⟨_, rfl⟩ <;> decide)) (Or.inl ⟨rfl, by simp, _, rfl⟩) (hb hby own_d3_143) (by decide) (by decide) ?_
    show Q3 Z a3 b3 o3 p3 w0 w1 w2 w3 w4 w5 h0 n0 _ T2.heap _
    rw [e2]
    refine ⟨?_, N2, rfl⟩
    obtain ⟨K0, K1, K2, K4⟩ := own_pk hall hp2
    subst ha1
    rcases hv4 with ⟨h0, rfl⟩ | ⟨h0, h1, rfl⟩ | ⟨h0, h1, h2, rfl⟩ | ⟨h0, h1, h2, rfl⟩ | ⟨h0, h1, rfl⟩ | ⟨h0, h1, h2, rfl⟩ | ⟨h0, h1, h2, rfl⟩ | ⟨h0, h1, rfl⟩ | ⟨h0, h1, h2, rfl⟩ | ⟨h0, h1, h2, rfl⟩ | ⟨h0, h1, rfl⟩ | ⟨h0, h1, h2, rfl⟩ | ⟨h0, h1, h2, rfl⟩ | ⟨h0, rfl⟩
    · have k1 := own_is1 h0
      simp only [(by decide : (0 : Int32).toInt = 0), (by decide : (1 : Int32).toInt = 1), (by decide : (2 : Int32).toInt = 2), (by decide : (3 : Int32).toInt = 3), (by decide : (4 : Int32).toInt = 4), (by decide : (5 : Int32).toInt = 5)] at k1
      first | rw [own_bitT (by unfold own_may; omega)] | rw [own_bitF (by unfold own_may; omega)]
    · have k1 := own_is1 h0
      simp only [(by decide : (0 : Int32).toInt = 0), (by decide : (1 : Int32).toInt = 1), (by decide : (2 : Int32).toInt = 2), (by decide : (3 : Int32).toInt = 3), (by decide : (4 : Int32).toInt = 4), (by decide : (5 : Int32).toInt = 5)] at k1
      simp only [K0, K1, K2, K4] at h1
      first | rw [own_bitT (by unfold own_may; omega)] | rw [own_bitF (by unfold own_may; omega)]
    · have k1 := own_is1 h0
      simp only [(by decide : (0 : Int32).toInt = 0), (by decide : (1 : Int32).toInt = 1), (by decide : (2 : Int32).toInt = 2), (by decide : (3 : Int32).toInt = 3), (by decide : (4 : Int32).toInt = 4), (by decide : (5 : Int32).toInt = 5)] at k1
      simp only [K0, K1, K2, K4] at h1 h2
      first | rw [own_bitT (by unfold own_may; omega)] | rw [own_bitF (by unfold own_may; omega)]
    · have k1 := own_is1 h0
      simp only [(by decide : (0 : Int32).toInt = 0), (by decide : (1 : Int32).toInt = 1), (by decide : (2 : Int32).toInt = 2), (by decide : (3 : Int32).toInt = 3), (by decide : (4 : Int32).toInt = 4), (by decide : (5 : Int32).toInt = 5)] at k1
      simp only [K0, K1, K2, K4] at h1 h2
      first | rw [own_bitT (by unfold own_may; omega)] | rw [own_bitF (by unfold own_may; omega)]
    · have k1 := own_is1 h0
      simp only [(by decide : (0 : Int32).toInt = 0), (by decide : (1 : Int32).toInt = 1), (by decide : (2 : Int32).toInt = 2), (by decide : (3 : Int32).toInt = 3), (by decide : (4 : Int32).toInt = 4), (by decide : (5 : Int32).toInt = 5)] at k1
      simp only [K0, K1, K2, K4] at h1
      first | rw [own_bitT (by unfold own_may; omega)] | rw [own_bitF (by unfold own_may; omega)]
    · have k1 := own_is1 h0
      simp only [(by decide : (0 : Int32).toInt = 0), (by decide : (1 : Int32).toInt = 1), (by decide : (2 : Int32).toInt = 2), (by decide : (3 : Int32).toInt = 3), (by decide : (4 : Int32).toInt = 4), (by decide : (5 : Int32).toInt = 5)] at k1
      simp only [K0, K1, K2, K4] at h1 h2
      first | rw [own_bitT (by unfold own_may; omega)] | rw [own_bitF (by unfold own_may; omega)]
    · have k1 := own_is1 h0
      simp only [(by decide : (0 : Int32).toInt = 0), (by decide : (1 : Int32).toInt = 1), (by decide : (2 : Int32).toInt = 2), (by decide : (3 : Int32).toInt = 3), (by decide : (4 : Int32).toInt = 4), (by decide : (5 : Int32).toInt = 5)] at k1
      simp only [K0, K1, K2, K4] at h1 h2
      first | rw [own_bitT (by unfold own_may; omega)] | rw [own_bitF (by unfold own_may; omega)]
    · have k1 := own_is1 h0
      simp only [(by decide : (0 : Int32).toInt = 0), (by decide : (1 : Int32).toInt = 1), (by decide : (2 : Int32).toInt = 2), (by decide : (3 : Int32).toInt = 3), (by decide : (4 : Int32).toInt = 4), (by decide : (5 : Int32).toInt = 5)] at k1
      simp only [K0, K1, K2, K4] at h1
      first | rw [own_bitT (by unfold own_may; omega)] | rw [own_bitF (by unfold own_may; omega)]
    · have k1 := own_is1 h0
      simp only [(by decide : (0 : Int32).toInt = 0), (by decide : (1 : Int32).toInt = 1), (by decide : (2 : Int32).toInt = 2), (by decide : (3 : Int32).toInt = 3), (by decide : (4 : Int32).toInt = 4), (by decide : (5 : Int32).toInt = 5)] at k1
      simp only [K0, K1, K2, K4] at h1 h2
      first | rw [own_bitT (by unfold own_may; omega)] | rw [own_bitF (by unfold own_may; omega)]
    · have k1 := own_is1 h0
      simp only [(by decide : (0 : Int32).toInt = 0), (by decide : (1 : Int32).toInt = 1), (by decide : (2 : Int32).toInt = 2), (by decide : (3 : Int32).toInt = 3), (by decide : (4 : Int32).toInt = 4), (by decide : (5 : Int32).toInt = 5)] at k1
      simp only [K0, K1, K2, K4] at h1 h2
      first | rw [own_bitT (by unfold own_may; omega)] | rw [own_bitF (by unfold own_may; omega)]
    · have k1 := own_is1 h0
      simp only [(by decide : (0 : Int32).toInt = 0), (by decide : (1 : Int32).toInt = 1), (by decide : (2 : Int32).toInt = 2), (by decide : (3 : Int32).toInt = 3), (by decide : (4 : Int32).toInt = 4), (by decide : (5 : Int32).toInt = 5)] at k1
      simp only [K0, K1, K2, K4] at h1
      first | rw [own_bitT (by unfold own_may; omega)] | rw [own_bitF (by unfold own_may; omega)]
    · have k1 := own_is1 h0
      simp only [(by decide : (0 : Int32).toInt = 0), (by decide : (1 : Int32).toInt = 1), (by decide : (2 : Int32).toInt = 2), (by decide : (3 : Int32).toInt = 3), (by decide : (4 : Int32).toInt = 4), (by decide : (5 : Int32).toInt = 5)] at k1
      simp only [K0, K1, K2, K4] at h1 h2
      first | rw [own_bitT (by unfold own_may; omega)] | rw [own_bitF (by unfold own_may; omega)]
    · have k1 := own_is1 h0
      simp only [(by decide : (0 : Int32).toInt = 0), (by decide : (1 : Int32).toInt = 1), (by decide : (2 : Int32).toInt = 2), (by decide : (3 : Int32).toInt = 3), (by decide : (4 : Int32).toInt = 4), (by decide : (5 : Int32).toInt = 5)] at k1
      simp only [K0, K1, K2, K4] at h1 h2
      first | rw [own_bitT (by unfold own_may; omega)] | rw [own_bitF (by unfold own_may; omega)]
    · have k1 := own_is1 h0
      simp only [(by decide : (0 : Int32).toInt = 0), (by decide : (1 : Int32).toInt = 1), (by decide : (2 : Int32).toInt = 2), (by decide : (3 : Int32).toInt = 3), (by decide : (4 : Int32).toInt = 4), (by decide : (5 : Int32).toInt = 5)] at k1
      first | rw [own_bitT (by unfold own_may; omega)] | rw [own_bitF (by unfold own_may; omega)]
theorem own_pd1 : parseMethodDescriptor "(I)Lportcullis/model/ItemKind;" = some ⟨[.int], some (.object "portcullis/model/ItemKind")⟩ := by decide +kernel
theorem own_pd2 : parseMethodDescriptor "(Lportcullis/model/ItemKind;)Z" = some ⟨[(.object "portcullis/model/ItemKind")], some .boolean⟩ := by decide +kernel
theorem own_ef0 (m : MethodId) (x0 : Int32) (x1 : Int32) : entryFrame m #[(.int x0), (.int x1)] maxLocals = mkF m 0 #[.val (.int x0), .val (.int x1), .unset, .unset, .unset, .unset, .unset] [] := by first | (simp [entryFrame, mkF, argsToLocals, Value.category, maxLocals]; done) | rfl
def Q0 (Z : State) (i0 : Int32) (i1 : Int32) (w0 : Addr) (w1 : Addr) (w2 : Addr) (w3 : Addr) (w4 : Addr) (w5 : Addr) (h0 : Heap) (n0 : Nat) (v : Option Value) (h : Heap) (L : List Loc) : Prop := v = some (.int 1) ∧ Fr n0 L
set_option maxRecDepth 65536 in
set_option maxHeartbeats 40000000 in
theorem rm0 (l : Launch) (Z : State) (a0 : Array Value) (hw : ∀ d ∈ tables_1, d.before a0 Z = true) (ws : List Jvm.Cond) (i0 : Int32) (i1 : Int32) (w0 : Addr) (w1 : Addr) (w2 : Addr) (w3 : Addr) (w4 : Addr) (w5 : Addr) (h0 : Heap) (n0 : Nat) (Z0 : n0 ≤ h0.size) (hall : own_All Z h0 w0 w1 w2 w3 w4 w5) :
    MetFree l x (head1 (Jvm.Cond.code x code maxLocals ret :: ws) room_1) (fun a U => a = #[(.int i0), (.int i1)] ∧ Z.Warmed39 U.vm ∧ U.heap = h0) (fun _ _ _ _ _ => True) (fun _ U o U' => ∃ v L, o = .returned v ∧ Q0 Z i0 i1 w0 w1 w2 w3 w4 w5 h0 n0 v U'.heap L ∧ FrameEnd U o U' L room_1.cells room_1.slots) := by
  refine MetFree.of_bodySF (plainFor_of_name own_pn0) hisR ?_
  intro p e s m args below meth c s₁ Bd hml0 hP hK
  obtain ⟨rfl, hZ, hh⟩ := hP
  have hx := Bd.exec
  have hby := Bd.bytes
  have hlk : meth.locks = false := Bd.notSynchronized
  have hml : c.maxLocals = 7 := hml0
  have hown : s.vm.findClass "portcullis/model/ItemKindMayStandUnderPinLaw" = some m.cls := findClass_of_methodNamed Bd.named
  have hnm := (name_of_methodNamed Bd.named Bd.method).1
  have X0 : Stand p l e room_1 s m #[(.int i0), (.int i1)] below meth c s₁ [] 0 0 := Stand.of_body Bd
  have e0 : s₁.heap = h0 := by rw [← hh, Bd.state]; rfl
  have N0 := Fr.nil n0
  refine own_body (A := s₁.setTop (mkF m 0 #[.val (.int i0), .val (.int i1), .unset, .unset, .unset, .unset, .unset] [])) (Q := Q0 Z i0 i1 w0 w1 w2 w3 w4 w5 h0 n0) (fun t k => castTop (own_ef0 m i0 i1) k) ?_
  refine own_via (B := s₁.setTop (mkF m 1 #[.val (.int i0), .val (.int i1), .unset, .unset, .unset, .unset, .unset] [(.int i0)])) (fun t k => XS.iloadN X0.here hx rfl (hb hby at_0) rfl k) ?_
  refine own_via (B := s₁.setTop (mkF m 3 #[.val (.int i0), .val (.int i1), .unset, .unset, .unset, .unset, .unset] [(.int (2147483647 : Int32)), (.int i0)])) (fun t k => X0.ldcInt hx hown (mvT hZ (hw _ (List.mem_of_getElem? (i := 0) rfl))) (g := (mkF m 1 #[.val (.int i0), .val (.int i1), .unset, .unset, .unset, .unset, .unset] [(.int i0)])) rfl (hb hby at_1) _ k) ?_
  refine own_via (B := s₁.setTop (mkF m 4 #[.val (.int i0), .val (.int i1), .unset, .unset, .unset, .unset, .unset] [(.int (i0 &&& (2147483647 : Int32)))])) (fun t k => XS.iand X0.here hx rfl (hb hby at_3) rfl k) ?_
  refine own_via (B := s₁.setTop (mkF m 6 #[.val (.int i0), .val (.int i1), .unset, .unset, .unset, .unset, .unset] [(.int (6 : Int32)), (.int (i0 &&& (2147483647 : Int32)))])) (fun t k => XS.bipush X0.here hx rfl (hb hby at_4) k) ?_
  refine own_via (B := s₁.setTop (mkF m 7 #[.val (.int i0), .val (.int i1), .unset, .unset, .unset, .unset, .unset] [(.int ((i0 &&& (2147483647 : Int32)) % (6 : Int32)))])) (fun t k => iremM X0 hx rfl (hb hby at_6) rfl (by decide) k) ?_
  refine own_via (B := s₁.setTop (mkF m 8 #[.val (.int i0), .val (.int i1), .val (.int ((i0 &&& (2147483647 : Int32)) % (6 : Int32))), .unset, .unset, .unset, .unset] [])) (fun t k => XS.istoreN X0.here hx rfl (hb hby at_7) rfl (l' := #[.val (.int i0), .val (.int i1), .val (.int ((i0 &&& (2147483647 : Int32)) % (6 : Int32))), .unset, .unset, .unset, .unset]) rfl k) ?_
  generalize hs7 : ((i0 &&& (2147483647 : Int32)) % (6 : Int32)) = s7
  refine own_via (B := s₁.setTop (mkF m 9 #[.val (.int i0), .val (.int i1), .val (.int s7), .unset, .unset, .unset, .unset] [(.int i1)])) (fun t k => XS.iloadN X0.here hx rfl (hb hby at_8) rfl k) ?_
  refine own_via (B := s₁.setTop (mkF m 11 #[.val (.int i0), .val (.int i1), .val (.int s7), .unset, .unset, .unset, .unset] [(.int (2147483647 : Int32)), (.int i1)])) (fun t k => X0.ldcInt hx hown (mvT hZ (hw _ (List.mem_of_getElem? (i := 0) rfl))) (g := (mkF m 9 #[.val (.int i0), .val (.int i1), .val (.int s7), .unset, .unset, .unset, .unset] [(.int i1)])) rfl (hb hby at_9) _ k) ?_
  refine own_via (B := s₁.setTop (mkF m 12 #[.val (.int i0), .val (.int i1), .val (.int s7), .unset, .unset, .unset, .unset] [(.int (i1 &&& (2147483647 : Int32)))])) (fun t k => XS.iand X0.here hx rfl (hb hby at_11) rfl k) ?_
  refine own_via (B := s₁.setTop (mkF m 14 #[.val (.int i0), .val (.int i1), .val (.int s7), .unset, .unset, .unset, .unset] [(.int (6 : Int32)), (.int (i1 &&& (2147483647 : Int32)))])) (fun t k => XS.bipush X0.here hx rfl (hb hby at_12) k) ?_
  refine own_via (B := s₁.setTop (mkF m 15 #[.val (.int i0), .val (.int i1), .val (.int s7), .unset, .unset, .unset, .unset] [(.int ((i1 &&& (2147483647 : Int32)) % (6 : Int32)))])) (fun t k => iremM X0 hx rfl (hb hby at_14) rfl (by decide) k) ?_
  refine own_via (B := s₁.setTop (mkF m 16 #[.val (.int i0), .val (.int i1), .val (.int s7), .val (.int ((i1 &&& (2147483647 : Int32)) % (6 : Int32))), .unset, .unset, .unset] [])) (fun t k => XS.istoreN X0.here hx rfl (hb hby at_15) rfl (l' := #[.val (.int i0), .val (.int i1), .val (.int s7), .val (.int ((i1 &&& (2147483647 : Int32)) % (6 : Int32))), .unset, .unset, .unset]) rfl k) ?_
  generalize hs15 : ((i1 &&& (2147483647 : Int32)) % (6 : Int32)) = s15
  refine own_via (B := s₁.setTop (mkF m 17 #[.val (.int i0), .val (.int i1), .val (.int s7), .val (.int s15), .unset, .unset, .unset] [(.long (0 : Int64))])) (fun t k => XS.lconst X0.here hx rfl (hb hby at_16) k) ?_
  refine own_via (B := s₁.setTop (mkF m 19 #[.val (.int i0), .val (.int i1), .val (.int s7), .val (.int s15), .val (.long (0 : Int64)), .second, .unset] [])) (fun t k => XS.lstore X0.here hx rfl (hb hby at_17) rfl (l' := #[.val (.int i0), .val (.int i1), .val (.int s7), .val (.int s15), .val (.long (0 : Int64)), .second, .unset]) rfl k) ?_
  refine own_via (B := s₁.setTop (mkF m 21 #[.val (.int i0), .val (.int i1), .val (.int s7), .val (.int s15), .val (.long (0 : Int64)), .second, .unset] [(.long (0 : Int64))])) (fun t k => XS.lload X0.here hx rfl (hb hby at_19) rfl k) ?_
  refine own_via (B := s₁.setTop (mkF m 24 #[.val (.int i0), .val (.int i1), .val (.int s7), .val (.int s15), .val (.long (0 : Int64)), .second, .unset] [(.long (64 : Int64)), (.long (0 : Int64))])) (fun t k => X0.ldc2Long hx hown (mvT hZ (hw _ (List.mem_of_getElem? (i := 1) rfl))) (g := (mkF m 21 #[.val (.int i0), .val (.int i1), .val (.int s7), .val (.int s15), .val (.long (0 : Int64)), .second, .unset] [(.long (0 : Int64))])) rfl (hb hby at_21) _ k) ?_
  refine own_via (B := s₁.setTop (mkF m 25 #[.val (.int i0), .val (.int i1), .val (.int s7), .val (.int s15), .val (.long (0 : Int64)), .second, .unset] [(.long ((0 : Int64) ||| (64 : Int64)))])) (fun t k => XS.lor X0.here hx rfl (hb hby at_24) rfl k) ?_
  refine own_via (B := s₁.setTop (mkF m 27 #[.val (.int i0), .val (.int i1), .val (.int s7), .val (.int s15), .val (.long ((0 : Int64) ||| (64 : Int64))), .second, .unset] [])) (fun t k => XS.lstore X0.here hx rfl (hb hby at_25) rfl (l' := #[.val (.int i0), .val (.int i1), .val (.int s7), .val (.int s15), .val (.long ((0 : Int64) ||| (64 : Int64))), .second, .unset]) rfl k) ?_
  generalize hs25 : ((0 : Int64) ||| (64 : Int64)) = s25
  refine own_via (B := s₁.setTop (mkF m 29 #[.val (.int i0), .val (.int i1), .val (.int s7), .val (.int s15), .val (.long s25), .second, .unset] [(.long s25)])) (fun t k => XS.lload X0.here hx rfl (hb hby at_27) rfl k) ?_
  refine own_via (B := s₁.setTop (mkF m 32 #[.val (.int i0), .val (.int i1), .val (.int s7), .val (.int s15), .val (.long s25), .second, .unset] [(.long (128 : Int64)), (.long s25)])) (fun t k => X0.ldc2Long hx hown (mvT hZ (hw _ (List.mem_of_getElem? (i := 2) rfl))) (g := (mkF m 29 #[.val (.int i0), .val (.int i1), .val (.int s7), .val (.int s15), .val (.long s25), .second, .unset] [(.long s25)])) rfl (hb hby at_29) _ k) ?_
  refine own_via (B := s₁.setTop (mkF m 33 #[.val (.int i0), .val (.int i1), .val (.int s7), .val (.int s15), .val (.long s25), .second, .unset] [(.long (s25 ||| (128 : Int64)))])) (fun t k => XS.lor X0.here hx rfl (hb hby at_32) rfl k) ?_
  refine own_via (B := s₁.setTop (mkF m 35 #[.val (.int i0), .val (.int i1), .val (.int s7), .val (.int s15), .val (.long (s25 ||| (128 : Int64))), .second, .unset] [])) (fun t k => XS.lstore X0.here hx rfl (hb hby at_33) rfl (l' := #[.val (.int i0), .val (.int i1), .val (.int s7), .val (.int s15), .val (.long (s25 ||| (128 : Int64))), .second, .unset]) rfl k) ?_
  generalize hs33 : (s25 ||| (128 : Int64)) = s33
  refine own_via (B := s₁.setTop (mkF m 37 #[.val (.int i0), .val (.int i1), .val (.int s7), .val (.int s15), .val (.long s33), .second, .unset] [(.long s33)])) (fun t k => XS.lload X0.here hx rfl (hb hby at_35) rfl k) ?_
  refine own_via (B := s₁.setTop (mkF m 40 #[.val (.int i0), .val (.int i1), .val (.int s7), .val (.int s15), .val (.long s33), .second, .unset] [(.long (8192 : Int64)), (.long s33)])) (fun t k => X0.ldc2Long hx hown (mvT hZ (hw _ (List.mem_of_getElem? (i := 3) rfl))) (g := (mkF m 37 #[.val (.int i0), .val (.int i1), .val (.int s7), .val (.int s15), .val (.long s33), .second, .unset] [(.long s33)])) rfl (hb hby at_37) _ k) ?_
  refine own_via (B := s₁.setTop (mkF m 41 #[.val (.int i0), .val (.int i1), .val (.int s7), .val (.int s15), .val (.long s33), .second, .unset] [(.long (s33 ||| (8192 : Int64)))])) (fun t k => XS.lor X0.here hx rfl (hb hby at_40) rfl k) ?_
  refine own_via (B := s₁.setTop (mkF m 43 #[.val (.int i0), .val (.int i1), .val (.int s7), .val (.int s15), .val (.long (s33 ||| (8192 : Int64))), .second, .unset] [])) (fun t k => XS.lstore X0.here hx rfl (hb hby at_41) rfl (l' := #[.val (.int i0), .val (.int i1), .val (.int s7), .val (.int s15), .val (.long (s33 ||| (8192 : Int64))), .second, .unset]) rfl k) ?_
  generalize hs41 : (s33 ||| (8192 : Int64)) = s41
  refine own_via (B := s₁.setTop (mkF m 45 #[.val (.int i0), .val (.int i1), .val (.int s7), .val (.int s15), .val (.long s41), .second, .unset] [(.long s41)])) (fun t k => XS.lload X0.here hx rfl (hb hby at_43) rfl k) ?_
  refine own_via (B := s₁.setTop (mkF m 48 #[.val (.int i0), .val (.int i1), .val (.int s7), .val (.int s15), .val (.long s41), .second, .unset] [(.long (16384 : Int64)), (.long s41)])) (fun t k => X0.ldc2Long hx hown (mvT hZ (hw _ (List.mem_of_getElem? (i := 4) rfl))) (g := (mkF m 45 #[.val (.int i0), .val (.int i1), .val (.int s7), .val (.int s15), .val (.long s41), .second, .unset] [(.long s41)])) rfl (hb hby at_45) _ k) ?_
  refine own_via (B := s₁.setTop (mkF m 49 #[.val (.int i0), .val (.int i1), .val (.int s7), .val (.int s15), .val (.long s41), .second, .unset] [(.long (s41 ||| (16384 : Int64)))])) (fun t k => XS.lor X0.here hx rfl (hb hby at_48) rfl k) ?_
  refine own_via (B := s₁.setTop (mkF m 51 #[.val (.int i0), .val (.int i1), .val (.int s7), .val (.int s15), .val (.long (s41 ||| (16384 : Int64))), .second, .unset] [])) (fun t k => XS.lstore X0.here hx rfl (hb hby at_49) rfl (l' := #[.val (.int i0), .val (.int i1), .val (.int s7), .val (.int s15), .val (.long (s41 ||| (16384 : Int64))), .second, .unset]) rfl k) ?_
  generalize hs49 : (s41 ||| (16384 : Int64)) = s49
  refine own_via (B := s₁.setTop (mkF m 53 #[.val (.int i0), .val (.int i1), .val (.int s7), .val (.int s15), .val (.long s49), .second, .unset] [(.long s49)])) (fun t k => XS.lload X0.here hx rfl (hb hby at_51) rfl k) ?_
  refine own_via (B := s₁.setTop (mkF m 56 #[.val (.int i0), .val (.int i1), .val (.int s7), .val (.int s15), .val (.long s49), .second, .unset] [(.long (1048576 : Int64)), (.long s49)])) (fun t k => X0.ldc2Long hx hown (mvT hZ (hw _ (List.mem_of_getElem? (i := 5) rfl))) (g := (mkF m 53 #[.val (.int i0), .val (.int i1), .val (.int s7), .val (.int s15), .val (.long s49), .second, .unset] [(.long s49)])) rfl (hb hby at_53) _ k) ?_
  refine own_via (B := s₁.setTop (mkF m 57 #[.val (.int i0), .val (.int i1), .val (.int s7), .val (.int s15), .val (.long s49), .second, .unset] [(.long (s49 ||| (1048576 : Int64)))])) (fun t k => XS.lor X0.here hx rfl (hb hby at_56) rfl k) ?_
  refine own_via (B := s₁.setTop (mkF m 59 #[.val (.int i0), .val (.int i1), .val (.int s7), .val (.int s15), .val (.long (s49 ||| (1048576 : Int64))), .second, .unset] [])) (fun t k => XS.lstore X0.here hx rfl (hb hby at_57) rfl (l' := #[.val (.int i0), .val (.int i1), .val (.int s7), .val (.int s15), .val (.long (s49 ||| (1048576 : Int64))), .second, .unset]) rfl k) ?_
  generalize hs57 : (s49 ||| (1048576 : Int64)) = s57
  refine own_via (B := s₁.setTop (mkF m 61 #[.val (.int i0), .val (.int i1), .val (.int s7), .val (.int s15), .val (.long s57), .second, .unset] [(.long s57)])) (fun t k => XS.lload X0.here hx rfl (hb hby at_59) rfl k) ?_
  refine own_via (B := s₁.setTop (mkF m 64 #[.val (.int i0), .val (.int i1), .val (.int s7), .val (.int s15), .val (.long s57), .second, .unset] [(.long (524288 : Int64)), (.long s57)])) (fun t k => X0.ldc2Long hx hown (mvT hZ (hw _ (List.mem_of_getElem? (i := 6) rfl))) (g := (mkF m 61 #[.val (.int i0), .val (.int i1), .val (.int s7), .val (.int s15), .val (.long s57), .second, .unset] [(.long s57)])) rfl (hb hby at_61) _ k) ?_
  refine own_via (B := s₁.setTop (mkF m 65 #[.val (.int i0), .val (.int i1), .val (.int s7), .val (.int s15), .val (.long s57), .second, .unset] [(.long (s57 ||| (524288 : Int64)))])) (fun t k => XS.lor X0.here hx rfl (hb hby at_64) rfl k) ?_
  refine own_via (B := s₁.setTop (mkF m 67 #[.val (.int i0), .val (.int i1), .val (.int s7), .val (.int s15), .val (.long (s57 ||| (524288 : Int64))), .second, .unset] [])) (fun t k => XS.lstore X0.here hx rfl (hb hby at_65) rfl (l' := #[.val (.int i0), .val (.int i1), .val (.int s7), .val (.int s15), .val (.long (s57 ||| (524288 : Int64))), .second, .unset]) rfl k) ?_
  generalize hs65 : (s57 ||| (524288 : Int64)) = s65
  refine own_via (B := s₁.setTop (mkF m 69 #[.val (.int i0), .val (.int i1), .val (.int s7), .val (.int s15), .val (.long s65), .second, .unset] [(.long s65)])) (fun t k => XS.lload X0.here hx rfl (hb hby at_67) rfl k) ?_
  refine own_via (B := s₁.setTop (mkF m 72 #[.val (.int i0), .val (.int i1), .val (.int s7), .val (.int s15), .val (.long s65), .second, .unset] [(.long (16777216 : Int64)), (.long s65)])) (fun t k => X0.ldc2Long hx hown (mvT hZ (hw _ (List.mem_of_getElem? (i := 7) rfl))) (g := (mkF m 69 #[.val (.int i0), .val (.int i1), .val (.int s7), .val (.int s15), .val (.long s65), .second, .unset] [(.long s65)])) rfl (hb hby at_69) _ k) ?_
  refine own_via (B := s₁.setTop (mkF m 73 #[.val (.int i0), .val (.int i1), .val (.int s7), .val (.int s15), .val (.long s65), .second, .unset] [(.long (s65 ||| (16777216 : Int64)))])) (fun t k => XS.lor X0.here hx rfl (hb hby at_72) rfl k) ?_
  refine own_via (B := s₁.setTop (mkF m 75 #[.val (.int i0), .val (.int i1), .val (.int s7), .val (.int s15), .val (.long (s65 ||| (16777216 : Int64))), .second, .unset] [])) (fun t k => XS.lstore X0.here hx rfl (hb hby at_73) rfl (l' := #[.val (.int i0), .val (.int i1), .val (.int s7), .val (.int s15), .val (.long (s65 ||| (16777216 : Int64))), .second, .unset]) rfl k) ?_
  generalize hs73 : (s65 ||| (16777216 : Int64)) = s73
  refine own_via (B := s₁.setTop (mkF m 77 #[.val (.int i0), .val (.int i1), .val (.int s7), .val (.int s15), .val (.long s73), .second, .unset] [(.long s73)])) (fun t k => XS.lload X0.here hx rfl (hb hby at_75) rfl k) ?_
  refine own_via (B := s₁.setTop (mkF m 80 #[.val (.int i0), .val (.int i1), .val (.int s7), .val (.int s15), .val (.long s73), .second, .unset] [(.long (268435456 : Int64)), (.long s73)])) (fun t k => X0.ldc2Long hx hown (mvT hZ (hw _ (List.mem_of_getElem? (i := 8) rfl))) (g := (mkF m 77 #[.val (.int i0), .val (.int i1), .val (.int s7), .val (.int s15), .val (.long s73), .second, .unset] [(.long s73)])) rfl (hb hby at_77) _ k) ?_
  refine own_via (B := s₁.setTop (mkF m 81 #[.val (.int i0), .val (.int i1), .val (.int s7), .val (.int s15), .val (.long s73), .second, .unset] [(.long (s73 ||| (268435456 : Int64)))])) (fun t k => XS.lor X0.here hx rfl (hb hby at_80) rfl k) ?_
  refine own_via (B := s₁.setTop (mkF m 83 #[.val (.int i0), .val (.int i1), .val (.int s7), .val (.int s15), .val (.long (s73 ||| (268435456 : Int64))), .second, .unset] [])) (fun t k => XS.lstore X0.here hx rfl (hb hby at_81) rfl (l' := #[.val (.int i0), .val (.int i1), .val (.int s7), .val (.int s15), .val (.long (s73 ||| (268435456 : Int64))), .second, .unset]) rfl k) ?_
  generalize hs81 : (s73 ||| (268435456 : Int64)) = s81
  refine own_via (B := s₁.setTop (mkF m 85 #[.val (.int i0), .val (.int i1), .val (.int s7), .val (.int s15), .val (.long s81), .second, .unset] [(.long s81)])) (fun t k => XS.lload X0.here hx rfl (hb hby at_83) rfl k) ?_
  refine own_via (B := s₁.setTop (mkF m 86 #[.val (.int i0), .val (.int i1), .val (.int s7), .val (.int s15), .val (.long s81), .second, .unset] [(.int s7), (.long s81)])) (fun t k => XS.iloadN X0.here hx rfl (hb hby at_85) rfl k) ?_
  refine own_via (B := s₁.setTop (mkF m 88 #[.val (.int i0), .val (.int i1), .val (.int s7), .val (.int s15), .val (.long s81), .second, .unset] [(.int (6 : Int32)), (.int s7), (.long s81)])) (fun t k => XS.bipush X0.here hx rfl (hb hby at_86) k) ?_
  refine own_via (B := s₁.setTop (mkF m 89 #[.val (.int i0), .val (.int i1), .val (.int s7), .val (.int s15), .val (.long s81), .second, .unset] [(.int (s7 * (6 : Int32))), (.long s81)])) (fun t k => XS.imul X0.here hx rfl (hb hby at_88) rfl k) ?_
  refine own_via (B := s₁.setTop (mkF m 90 #[.val (.int i0), .val (.int i1), .val (.int s7), .val (.int s15), .val (.long s81), .second, .unset] [(.int s15), (.int (s7 * (6 : Int32))), (.long s81)])) (fun t k => XS.iloadN X0.here hx rfl (hb hby at_89) rfl k) ?_
  refine own_via (B := s₁.setTop (mkF m 91 #[.val (.int i0), .val (.int i1), .val (.int s7), .val (.int s15), .val (.long s81), .second, .unset] [(.int ((s7 * (6 : Int32)) + s15)), (.long s81)])) (fun t k => XS.iadd X0.here hx rfl (hb hby at_90) rfl k) ?_
  refine own_via (B := s₁.setTop (mkF m 92 #[.val (.int i0), .val (.int i1), .val (.int s7), .val (.int s15), .val (.long s81), .second, .unset] [(.long (s81 >>> (((s7 * (6 : Int32)) + s15) &&& 0x3f).toInt64))])) (fun t k => XS.lshr X0.here hx rfl (hb hby at_91) rfl k) ?_
  refine own_via (B := s₁.setTop (mkF m 93 #[.val (.int i0), .val (.int i1), .val (.int s7), .val (.int s15), .val (.long s81), .second, .unset] [(.long (1 : Int64)), (.long (s81 >>> (((s7 * (6 : Int32)) + s15) &&& 0x3f).toInt64))])) (fun t k => XS.lconst X0.here hx rfl (hb hby at_92) k) ?_
  refine own_via (B := s₁.setTop (mkF m 94 #[.val (.int i0), .val (.int i1), .val (.int s7), .val (.int s15), .val (.long s81), .second, .unset] [(.long ((s81 >>> (((s7 * (6 : Int32)) + s15) &&& 0x3f).toInt64) &&& (1 : Int64)))])) (fun t k => XS.land X0.here hx rfl (hb hby at_93) rfl k) ?_
  refine own_via (B := s₁.setTop (mkF m 95 #[.val (.int i0), .val (.int i1), .val (.int s7), .val (.int s15), .val (.long s81), .second, .unset] [(.long (0 : Int64)), (.long ((s81 >>> (((s7 * (6 : Int32)) + s15) &&& 0x3f).toInt64) &&& (1 : Int64)))])) (fun t k => XS.lconst X0.here hx rfl (hb hby at_94) k) ?_
  refine own_via (B := s₁.setTop (mkF m 96 #[.val (.int i0), .val (.int i1), .val (.int s7), .val (.int s15), .val (.long s81), .second, .unset] [(.int (lcmpW ((s81 >>> (((s7 * (6 : Int32)) + s15) &&& 0x3f).toInt64) &&& (1 : Int64)) (0 : Int64)))])) (fun t k => XS.lcmp X0.here hx rfl (hb hby at_95) rfl k) ?_
  refine own_bind (G := fun B => ∃ (T' : State) (L' : List Loc) (v96s0 : Int32), Fr n0 L' ∧ ((((lcmpW ((s81 >>> (((s7 * (6 : Int32)) + s15) &&& 0x3f).toInt64) &&& (1 : Int64)) (0 : Int64)) = (0 : Int32)) ∧ v96s0 = (0 : Int32)) ∨ ((¬ ((lcmpW ((s81 >>> (((s7 * (6 : Int32)) + s15) &&& 0x3f).toInt64) &&& (1 : Int64)) (0 : Int64)) = (0 : Int32))) ∧ v96s0 = (1 : Int32))) ∧ B = T'.setTop (mkF m 104 #[.val (.int i0), .val (.int i1), .val (.int s7), .val (.int s15), .val (.long s81), .second, .unset] [(.int v96s0)]) ∧ Stand p l e room_1 s m #[(.int i0), (.int i1)] below meth c T' L' 0 0 ∧ T'.heap = h0) ?_ ?_
  · by_cases hc96 : (lcmpW ((s81 >>> (((s7 * (6 : Int32)) + s15) &&& 0x3f).toInt64) &&& (1 : Int64)) (0 : Int64)) = (0 : Int32)
    · refine own_via (B := s₁.setTop (mkF m 103 #[.val (.int i0), .val (.int i1), .val (.int s7), .val (.int s15), .val (.long s81), .second, .unset] [])) (fun t k => XS.ifYes X0.here hx rfl (pc0 := 96) (pc' := 103) rfl (hb hby at_96) rfl ((if0 _ _).trans (teq hc96).1) (by decide) (by decide) k) ?_
      refine own_via (B := s₁.setTop (mkF m 104 #[.val (.int i0), .val (.int i1), .val (.int s7), .val (.int s15), .val (.long s81), .second, .unset] [(.int (0 : Int32))])) (fun t k => XS.iconst X0.here hx rfl (hb hby at_103) k) ?_
      exact own_done ⟨_, _, _, N0, (Or.inl ⟨hc96, rfl⟩), rfl, X0, e0⟩
    · refine own_via (B := s₁.setTop (mkF m 99 #[.val (.int i0), .val (.int i1), .val (.int s7), .val (.int s15), .val (.long s81), .second, .unset] [])) (fun t k => XS.ifNo X0.here hx rfl (hb hby at_96) rfl ((if0 _ _).trans (feq hc96).1) k) ?_
      refine own_via (B := s₁.setTop (mkF m 100 #[.val (.int i0), .val (.int i1), .val (.int s7), .val (.int s15), .val (.long s81), .second, .unset] [(.int (1 : Int32))])) (fun t k => XS.iconst X0.here hx rfl (hb hby at_99) k) ?_
      refine own_via (B := s₁.setTop (mkF m 104 #[.val (.int i0), .val (.int i1), .val (.int s7), .val (.int s15), .val (.long s81), .second, .unset] [(.int (1 : Int32))])) (fun t k => XS.goto X0.here hx rfl (pc0 := 100) (pc' := 104) rfl (hb hby at_100) (by decide) (by decide) k) ?_
      exact own_done ⟨_, _, _, N0, (Or.inr ⟨hc96, rfl⟩), rfl, X0, e0⟩
  · rintro B ⟨T1, L1, v96s0, N1, hv96, rfl, X1, e1⟩
    refine own_via (B := T1.setTop (mkF m 106 #[.val (.int i0), .val (.int i1), .val (.int s7), .val (.int s15), .val (.long s81), .second, .val (.int v96s0)] [])) (fun t k => XS.istore X1.here hx rfl (hb hby at_104) rfl (l' := #[.val (.int i0), .val (.int i1), .val (.int s7), .val (.int s15), .val (.long s81), .second, .val (.int v96s0)]) rfl k) ?_
    refine own_via (B := T1.setTop (mkF m 107 #[.val (.int i0), .val (.int i1), .val (.int s7), .val (.int s15), .val (.long s81), .second, .val (.int v96s0)] [(.int s7)])) (fun t k => XS.iloadN X1.here hx rfl (hb hby at_106) rfl k) ?_
    obtain ⟨_, _, ⟨T2, L2, k2, n2⟩, -, X2, ⟨Lc2, hQ2, l2, y2, z2⟩, st2⟩ := Jvm.LawKit.callS X1 hx (y := (⟨"portcullis/model/ItemKindMayStandUnderPinLaw", "kind", "(I)Lportcullis/model/ItemKind;"⟩ : MethodName)) hown (mvT hZ (hw _ (List.mem_of_getElem? (i := 9) rfl))) (mvT hZ (hw _ (List.mem_of_getElem? (i := 10) rfl))) (mvT hZ (hw _ (List.mem_of_getElem? (i := 11) rfl))) (mvT hZ (hw _ (List.mem_of_getElem? (i := 12) rfl))) (by decide) (backOf (W := 0) (rm1 l Z a0 hw [] s7 w0 w1 w2 w3 w4 w5 h0 n0 Z0 hall (by have hm := own_mod i0; rw [hs7] at hm; exact hm)) hZ (hw _ (List.mem_of_getElem? (i := 12) rfl)) (hw _ (List.mem_of_getElem? (i := 11) rfl)) (by decide) (by decide)) (g := (mkF m 107 #[.val (.int i0), .val (.int i1), .val (.int s7), .val (.int s15), .val (.long s81), .second, .val (.int v96s0)] [(.int s7)])) rfl (by rw [hml]; rfl) (argsL := [(.int s7)]) (rest := []) (lenOf own_pd1 rfl) rfl (by show 2 * 0 + _ ≤ _; exact Nat.le_of_eq rfl) (hb hby at_107) (fun _ _ => ⟨rfl, e1, (by decide : 0 + 0 ≤ _), (by decide : 0 + 0 ≤ _)⟩)
    dsimp only [Pt.U, Pt.locs, Pt.cells, Pt.slots] at X2 l2 y2 z2 st2 hQ2
    subst l2 y2 z2
    obtain ⟨rfl, Nq2, eq2, f2_0, f2_1⟩ := hQ2
    have N2 := Fr.app N1 Nq2
    refine own_via (B := T2.setTop (mkF m 110 #[.val (.int i0), .val (.int i1), .val (.int s7), .val (.int s15), .val (.long s81), .second, .val (.int v96s0)] [(.ref (own_pick s7 w0 w1 w2 w3 w4 w5))])) (fun t k => st2 t k) ?_
    refine own_via (B := T2.setTop (mkF m 111 #[.val (.int i0), .val (.int i1), .val (.int s7), .val (.int s15), .val (.long s81), .second, .val (.int v96s0)] [(.int s15), (.ref (own_pick s7 w0 w1 w2 w3 w4 w5))])) (fun t k => XS.iloadN X2.here hx rfl (hb hby at_110) rfl k) ?_
    obtain ⟨_, _, ⟨T3, L3, k3, n3⟩, -, X3, ⟨Lc3, hQ3, l3, y3, z3⟩, st3⟩ := Jvm.LawKit.callS X2 hx (y := (⟨"portcullis/model/ItemKindMayStandUnderPinLaw", "kind", "(I)Lportcullis/model/ItemKind;"⟩ : MethodName)) hown (mvT hZ (hw _ (List.mem_of_getElem? (i := 9) rfl))) (mvT hZ (hw _ (List.mem_of_getElem? (i := 10) rfl))) (mvT hZ (hw _ (List.mem_of_getElem? (i := 11) rfl))) (mvT hZ (hw _ (List.mem_of_getElem? (i := 12) rfl))) (by decide) (backOf (W := 1) (rm1 l Z a0 hw [] s15 w0 w1 w2 w3 w4 w5 h0 n0 Z0 hall (by have hm := own_mod i1; rw [hs15] at hm; exact hm)) hZ (hw _ (List.mem_of_getElem? (i := 12) rfl)) (hw _ (List.mem_of_getElem? (i := 11) rfl)) (by decide) (by decide)) (g := (mkF m 111 #[.val (.int i0), .val (.int i1), .val (.int s7), .val (.int s15), .val (.long s81), .second, .val (.int v96s0)] [(.int s15), (.ref (own_pick s7 w0 w1 w2 w3 w4 w5))])) rfl (by rw [hml]; rfl) (argsL := [(.int s15)]) (rest := [(.ref (own_pick s7 w0 w1 w2 w3 w4 w5))]) (lenOf own_pd1 rfl) rfl (by show 2 * 0 + _ ≤ _; exact Nat.le_of_eq rfl) (hb hby at_111) (fun _ _ => ⟨rfl, eq2, (by decide : (0 + 0) + 0 ≤ _), (by decide : (0 + 0) + 0 ≤ _)⟩)
    dsimp only [Pt.U, Pt.locs, Pt.cells, Pt.slots] at X3 l3 y3 z3 st3 hQ3
    subst l3 y3 z3
    obtain ⟨rfl, Nq3, eq3, f3_0, f3_1⟩ := hQ3
    have N3 := Fr.app N2 Nq3
    refine own_via (B := T3.setTop (mkF m 114 #[.val (.int i0), .val (.int i1), .val (.int s7), .val (.int s15), .val (.long s81), .second, .val (.int v96s0)] [(.ref (own_pick s15 w0 w1 w2 w3 w4 w5)), (.ref (own_pick s7 w0 w1 w2 w3 w4 w5))])) (fun t k => st3 t k) ?_
    obtain ⟨cq4, kq4, q4a, q4b, q4c⟩ := isOf hZ eq3 f2_0
    obtain ⟨_, _, ⟨T4, L4, k4, n4⟩, -, X4, ⟨Lc4, hQ4, l4, y4, z4⟩, st4⟩ := X3.virtualBack hx (y := (⟨"portcullis/model/ItemKind", "mayStandUnder", "(Lportcullis/model/ItemKind;)Z"⟩ : MethodName)) (z := (⟨"portcullis/model/ItemKind", "mayStandUnder", "(Lportcullis/model/ItemKind;)Z"⟩ : MethodName)) hown (mvT hZ (hw _ (List.mem_of_getElem? (i := 18) rfl))) (mvT hZ (hw _ (List.mem_of_getElem? (i := 19) rfl))) (notFace_of_selects (args := #[]) (mvT hZ (hw _ (List.mem_of_getElem? (i := 21) rfl)))) (mvT hZ (hw _ (List.mem_of_getElem? (i := 21) rfl))) (mvT hZ (hw _ (List.mem_of_getElem? (i := 20) rfl))) (by decide) (backOf (W := 0) (rm3 l Z a0 hw [] (own_pick s7 w0 w1 w2 w3 w4 w5) (own_pick s15 w0 w1 w2 w3 w4 w5) s7 s15 w0 w1 w2 w3 w4 w5 h0 n0 Z0 hall f2_0 f2_1 (by have hm := own_mod i0; rw [hs7] at hm; exact hm) (by have hm := own_mod i1; rw [hs15] at hm; exact hm) rfl) hZ (hw _ (List.mem_of_getElem? (i := 22) rfl)) (hw _ (List.mem_of_getElem? (i := 14) rfl)) (by decide) (by decide)) q4a q4c (g := (mkF m 114 #[.val (.int i0), .val (.int i1), .val (.int s7), .val (.int s15), .val (.long s81), .second, .val (.int v96s0)] [(.ref (own_pick s15 w0 w1 w2 w3 w4 w5)), (.ref (own_pick s7 w0 w1 w2 w3 w4 w5))])) rfl (by rw [hml]; rfl) (Steps.refl _) (argsL := [(.ref (own_pick s15 w0 w1 w2 w3 w4 w5))]) (rest := []) (lenOf own_pd2 rfl) rfl (by show 2 * 0 + _ ≤ _; exact Nat.le_of_eq rfl) (hb hby at_114) (fun _ _ => ⟨rfl, eq3, (by decide : ((0 + 0) + 0) + 0 ≤ _), (by decide : ((0 + 0) + 0) + 0 ≤ _)⟩)
    dsimp only [Pt.U, Pt.locs, Pt.cells, Pt.slots] at X4 l4 y4 z4 st4 hQ4
    subst l4 y4 z4
    obtain ⟨rfl, Nq4, eq4⟩ := hQ4
    have N4 := Fr.app N3 Nq4
    refine own_via (B := T4.setTop (mkF m 117 #[.val (.int i0), .val (.int i1), .val (.int s7), .val (.int s15), .val (.long s81), .second, .val (.int v96s0)] [(.int (own_bit (own_may s7.toInt s15.toInt)))])) (fun t k => st4.trans k) ?_
    refine own_via (B := T4.setTop (mkF m 119 #[.val (.int i0), .val (.int i1), .val (.int s7), .val (.int s15), .val (.long s81), .second, .val (.int v96s0)] [(.int v96s0), (.int (own_bit (own_may s7.toInt s15.toInt)))])) (fun t k => XS.iload X4.here hx rfl (hb hby at_117) rfl k) ?_
    refine own_bind (G := fun B => ∃ (T' : State) (L' : List Loc) (v119s0 : Int32), Fr n0 L' ∧ ((((own_bit (own_may s7.toInt s15.toInt)) = v96s0) ∧ v119s0 = (1 : Int32)) ∨ ((¬ ((own_bit (own_may s7.toInt s15.toInt)) = v96s0)) ∧ v119s0 = (0 : Int32))) ∧ B = T'.setTop (mkF m 127 #[.val (.int i0), .val (.int i1), .val (.int s7), .val (.int s15), .val (.long s81), .second, .val (.int v96s0)] [(.int v119s0)]) ∧ Stand p l e room_1 s m #[(.int i0), (.int i1)] below meth c T' L' (((0 + 0) + 0) + 0) (((0 + 0) + 0) + 0) ∧ T'.heap = h0) ?_ ?_
    · by_cases hc119 : (own_bit (own_may s7.toInt s15.toInt)) = v96s0
      · refine own_via (B := T4.setTop (mkF m 122 #[.val (.int i0), .val (.int i1), .val (.int s7), .val (.int s15), .val (.long s81), .second, .val (.int v96s0)] [])) (fun t k => XS.icmpNo X4.here hx rfl (hb hby at_119) rfl (teq hc119).2 k) ?_
        refine own_via (B := T4.setTop (mkF m 123 #[.val (.int i0), .val (.int i1), .val (.int s7), .val (.int s15), .val (.long s81), .second, .val (.int v96s0)] [(.int (1 : Int32))])) (fun t k => XS.iconst X4.here hx rfl (hb hby at_122) k) ?_
        refine own_via (B := T4.setTop (mkF m 127 #[.val (.int i0), .val (.int i1), .val (.int s7), .val (.int s15), .val (.long s81), .second, .val (.int v96s0)] [(.int (1 : Int32))])) (fun t k => XS.goto X4.here hx rfl (pc0 := 123) (pc' := 127) rfl (hb hby at_123) (by decide) (by decide) k) ?_
        exact own_done ⟨_, _, _, N4, (Or.inl ⟨hc119, rfl⟩), rfl, X4, eq4⟩
      · refine own_via (B := T4.setTop (mkF m 126 #[.val (.int i0), .val (.int i1), .val (.int s7), .val (.int s15), .val (.long s81), .second, .val (.int v96s0)] [])) (fun t k => XS.icmpYes X4.here hx rfl (pc0 := 119) (pc' := 126) rfl (hb hby at_119) rfl (feq hc119).2 (by decide) (by decide) k) ?_
        refine own_via (B := T4.setTop (mkF m 127 #[.val (.int i0), .val (.int i1), .val (.int s7), .val (.int s15), .val (.long s81), .second, .val (.int v96s0)] [(.int (0 : Int32))])) (fun t k => XS.iconst X4.here hx rfl (hb hby at_126) k) ?_
        exact own_done ⟨_, _, _, N4, (Or.inr ⟨hc119, rfl⟩), rfl, X4, eq4⟩
    · rintro B ⟨T5, L5, v119s0, N5, hv119, rfl, X5, e5⟩
      refine own_leaf X5 hx hlk (t := .boolean) Bd.returns (own_b1 (by rcases hv119 with ⟨_, rfl⟩ | ⟨_, rfl⟩ <;> decide)) (Or.inl ⟨rfl, by simp, _, rfl⟩) (hb hby at_127) (by decide) (by decide) ?_
      show Q0 Z i0 i1 w0 w1 w2 w3 w4 w5 h0 n0 _ T5.heap _
      rw [e5]
      refine ⟨?_, N5⟩
      have m2 := own_mod i0
      rw [hs7] at m2
      have m3 := own_mod i1
      rw [hs15] at m3
      rcases hv119 with ⟨h, rfl⟩ | ⟨h, rfl⟩
      · rfl
      · exfalso; apply h; clear h
        rcases own_six m2 with rfl | rfl | rfl | rfl | rfl | rfl <;> rcases own_six m3 with rfl | rfl | rfl | rfl | rfl | rfl <;> rcases hv96 with ⟨q, rfl⟩ | ⟨q, rfl⟩ <;> first | decide | (exfalso; revert q; subst_vars; decide)
set_option maxRecDepth 65536 in
set_option maxHeartbeats 40000000 in
theorem comes_1 {Post : Tables → Env → Array Value → State → Outcome → State → Prop} (hpost : ∀ tb e args s v u, (limb_1_1.after args s (.returned v) u = true ∧ limb_1_2.after args s (.returned v) u = true ∧ True) → FrameEnd s (.returned v) u (Jvm.fieldLocs frame_1_writes args s ++ Jvm.arrayLocs frame_1_arrays args s ++ Jvm.staticLocs frame_1_statics s) 0 0 → Post tb e args s (.returned v) u) :
    ArmFor flags0 classFile x code maxLocals ret World_1 tables_1 room_1 Calls_1 rest_1 Pre_1 Post := by
  intro l hfl _ _ p e ha hc hk s m args below hf hA hF happ hP
  obtain ⟨hcalls, hrest, hpre⟩ := hP
  obtain ⟨-, -, -, hnamed, -, -, -, hat⟩ := (Spec.applies_iff hf).mp happ
  obtain ⟨hg, hn⟩ := and_e (Cond.before_iff.mp (show (Jvm.Cond.and given_1 narrow_1).before args s = true from hpre))
  obtain ⟨g1, g2⟩ := and_e hg
  obtain ⟨g3, g4⟩ := and_e g2
  obtain ⟨g5, g6⟩ := and_e hn
  obtain ⟨g7, g8⟩ := and_e g6
  obtain ⟨g9, g10⟩ := and_e g8
  obtain ⟨g11, g12⟩ := and_e g10
  obtain ⟨g13, g14⟩ := and_e g12
  obtain ⟨g15, g16⟩ := and_e g14
  obtain ⟨g17, g18⟩ := and_e g16
  obtain ⟨g19, g20⟩ := and_e g18
  obtain ⟨g21, g22⟩ := and_e g20
  obtain ⟨g23, g24⟩ := and_e g22
  obtain ⟨g25, g26⟩ := and_e g24
  obtain ⟨w0, w1, rfl⟩ : ∃ w0 w1 : Value, args = #[w0, w1] := by
    have hs : args.size = 2 := by simpa [Cond.value, given_1] using g1
    obtain ⟨L⟩ := args
    match L, hs with
    | [w0, w1], _ => exact ⟨w0, w1, rfl⟩
  have hw := fun d (hd : d ∈ tables_1) => atoms_spec (ws := Jvm.Cond.code x code maxLocals ret :: tables_1) hat d (List.mem_cons_of_mem _ hd)
  have hfit : Fit s := fun {y c} hc i hi => by
    obtain ⟨ha, rfl⟩ := Array.getElem?_eq_some_iff.mp hc
    have q := List.all_eq_true.mp ((Array.all_eq_true_iff_forall_mem.mp hF) _ (Array.getElem_mem ha)) i (List.mem_range.mpr hi)
    simpa [Array.getElem?_eq_getElem hi] using q
  obtain ⟨i0, ei0⟩ := is_v g3
  obtain rfl : w0 = (.int i0) := Option.some.inj ei0
  obtain ⟨i1, ei1⟩ := is_v g4
  obtain rfl : w1 = (.int i1) := Option.some.inj ei1
  obtain ⟨w_PORTAL, _, _, _, ev_PORTAL, -⟩ := Cond.exactly_spec (Cond.before_iff.mpr g5)
  have S_PORTAL : Sta s s.heap "portcullis/model/ItemKind" "PORTAL" "Lportcullis/model/ItemKind;" (.ref w_PORTAL) := Sta.start ev_PORTAL (Or.inr ⟨(hw _ (List.mem_of_getElem? (i := 14) rfl)), (hw _ (List.mem_of_getElem? (i := 15) rfl))⟩)
  have E_PORTAL : Exa s s.heap w_PORTAL "portcullis/model/ItemKind" := Exa.start ev_PORTAL g5
  obtain ⟨w_WIDGET, _, _, _, ev_WIDGET, -⟩ := Cond.exactly_spec (Cond.before_iff.mpr g7)
  have S_WIDGET : Sta s s.heap "portcullis/model/ItemKind" "WIDGET" "Lportcullis/model/ItemKind;" (.ref w_WIDGET) := Sta.start ev_WIDGET (Or.inr ⟨(hw _ (List.mem_of_getElem? (i := 14) rfl)), (hw _ (List.mem_of_getElem? (i := 17) rfl))⟩)
  have E_WIDGET : Exa s s.heap w_WIDGET "portcullis/model/ItemKind" := Exa.start ev_WIDGET g7
  obtain ⟨w_CONTAINER, _, _, _, ev_CONTAINER, -⟩ := Cond.exactly_spec (Cond.before_iff.mpr g11)
  have S_CONTAINER : Sta s s.heap "portcullis/model/ItemKind" "CONTAINER" "Lportcullis/model/ItemKind;" (.ref w_CONTAINER) := Sta.start ev_CONTAINER (Or.inr ⟨(hw _ (List.mem_of_getElem? (i := 14) rfl)), (hw _ (List.mem_of_getElem? (i := 33) rfl))⟩)
  have E_CONTAINER : Exa s s.heap w_CONTAINER "portcullis/model/ItemKind" := Exa.start ev_CONTAINER g11
  obtain ⟨w_PAGE, _, _, _, ev_PAGE, -⟩ := Cond.exactly_spec (Cond.before_iff.mpr g13)
  have S_PAGE : Sta s s.heap "portcullis/model/ItemKind" "PAGE" "Lportcullis/model/ItemKind;" (.ref w_PAGE) := Sta.start ev_PAGE (Or.inr ⟨(hw _ (List.mem_of_getElem? (i := 14) rfl)), (hw _ (List.mem_of_getElem? (i := 35) rfl))⟩)
  have E_PAGE : Exa s s.heap w_PAGE "portcullis/model/ItemKind" := Exa.start ev_PAGE g13
  obtain ⟨w_TEMPLATE, _, _, _, ev_TEMPLATE, -⟩ := Cond.exactly_spec (Cond.before_iff.mpr g17)
  have S_TEMPLATE : Sta s s.heap "portcullis/model/ItemKind" "TEMPLATE" "Lportcullis/model/ItemKind;" (.ref w_TEMPLATE) := Sta.start ev_TEMPLATE (Or.inr ⟨(hw _ (List.mem_of_getElem? (i := 14) rfl)), (hw _ (List.mem_of_getElem? (i := 38) rfl))⟩)
  have E_TEMPLATE : Exa s s.heap w_TEMPLATE "portcullis/model/ItemKind" := Exa.start ev_TEMPLATE g17
  obtain ⟨w_LINK, _, _, _, ev_LINK, -⟩ := Cond.exactly_spec (Cond.before_iff.mpr g21)
  have S_LINK : Sta s s.heap "portcullis/model/ItemKind" "LINK" "Lportcullis/model/ItemKind;" (.ref w_LINK) := Sta.start ev_LINK (Or.inr ⟨(hw _ (List.mem_of_getElem? (i := 14) rfl)), (hw _ (List.mem_of_getElem? (i := 41) rfl))⟩)
  have E_LINK : Exa s s.heap w_LINK "portcullis/model/ItemKind" := Exa.start ev_LINK g21
  have F_PORTAL_ordinal : Fld s s.heap w_PORTAL "java/lang/Enum" "ordinal" "I" (.int 0) := Fld.start ((fld_at ev_PORTAL).symm.trans (own_eqI g9))
  have F_CONTAINER_ordinal : Fld s s.heap w_CONTAINER "java/lang/Enum" "ordinal" "I" (.int 2) := Fld.start ((fld_at ev_CONTAINER).symm.trans (own_eqI g15))
  have F_PAGE_ordinal : Fld s s.heap w_PAGE "java/lang/Enum" "ordinal" "I" (.int 1) := Fld.start ((fld_at ev_PAGE).symm.trans (own_eqI g19))
  have F_LINK_ordinal : Fld s s.heap w_LINK "java/lang/Enum" "ordinal" "I" (.int 4) := Fld.start ((fld_at ev_LINK).symm.trans (own_eqI g23))
  have F_TEMPLATE_ordinal : Fld s s.heap w_TEMPLATE "java/lang/Enum" "ordinal" "I" (.int 5) := Fld.start ((fld_at ev_TEMPLATE).symm.trans (own_eqI g25))
  have F_WIDGET_ordinal : Fld s s.heap w_WIDGET "java/lang/Enum" "ordinal" "I" (.int 3) := Fld.start ((fld_at ev_WIDGET).symm.trans (own_eqI g26))
  obtain ⟨n, o, h1, h2, h3, _, L, rfl, ⟨rfl, N⟩, hq⟩ := rm0 l s _ hw tables_1 i0 i1 w_PORTAL w_PAGE w_CONTAINER w_WIDGET w_LINK w_TEMPLATE s.heap s.heap.size (Nat.le_refl _) ⟨⟨S_PORTAL, E_PORTAL, F_PORTAL_ordinal⟩, ⟨S_PAGE, E_PAGE, F_PAGE_ordinal⟩, ⟨S_CONTAINER, E_CONTAINER, F_CONTAINER_ordinal⟩, ⟨S_WIDGET, E_WIDGET, F_WIDGET_ordinal⟩, ⟨S_LINK, E_LINK, F_LINK_ordinal⟩, ⟨S_TEMPLATE, E_TEMPLATE, F_TEMPLATE_ordinal⟩⟩ p e ha hc hk s m _ below hf ((Spec.applies_iff_loose hf).mp happ).1 ⟨rfl, State.Warmed39.refl s, rfl⟩ trivial
  refine ⟨n, _, h1, h2, h3, hpost _ _ _ _ _ _ ⟨Cond.after_iff.mpr rfl, Cond.after_iff.mpr (eq_i res_at (Term.int_eval (1)) rfl), trivial⟩ ⟨hq.1, hq.2.1, (hq.2.2.sift fun y hy => Or.inr (N y hy)).mono (by decide) (by decide)⟩⟩
theorem main_1_1 : Claimed_1_1 := comes_1 fun _ _ _ _ _ _ h hF => ⟨h.1, hF⟩
theorem main_1_2 : Claimed_1_2 := comes_1 fun _ _ _ _ _ _ h hF => ⟨h.2.1, hF⟩
end Jvm.Pilot.@@N@@
namespace Jvm.Pilot.@@N@@
open Jvm Jvm.ClassFile Sem Op Lib Jvm.Free Jvm.Stand Jvm.Pilot.@@N@@.Jvm.D
/-! MADE BY PROGRAM (witnessworld.py) out of the Statement's table words and the real class files: 12 classes; the members and pool entries that the words name. The judged class is class 1, her method 2. -/
namespace start1
open Jvm.ClassFile
def u (s : String) : CpInfo := .utf8 (stringToUtf16 s)
/-- a pool by its gaps: so many unusable entries, then the entry; so many at the end -/
def gap : Nat → List CpInfo → List CpInfo
  | 0, r => r
  | n + 1, r => .unusable :: gap n r
def poolList (es : List (Nat × CpInfo)) (last : Nat) : List CpInfo := es.foldr (fun e r => gap e.1 (e.2 :: r)) (gap last [])
def pool (es : List (Nat × CpInfo)) (last : Nat) : Array CpInfo := ⟨poolList es last⟩
def fileOf (pool : Array CpInfo) (this : Nat) (attrs : Array Attribute := #[]) (ms : Array MethodInfo := #[]) (fl : Nat := 33) (sup : Nat := 0) (ifs : Array Nat := #[]) (fds : Array FieldInfo := #[]) : ClassFile where
  minorVersion := 0
  majorVersion := 65
  constantPool := pool
  accessFlags := fl
  thisClass := this
  superClass := sup
  interfaces := ifs
  fields := fds
  methods := ms
  attributes := attrs
def plain (name : String) (sup : Option ClassId) : Class where
  name := name
  kind := .ordinary
  loader := none
  accessFlags := 33
  super := sup
  interfaces := #[]
  cf := none
  fields := #[]
  methods := #[]
  instanceTypes := #[]
  staticTypes := #[]
  resolved := #[]
  callSites := []
  init := .initialized
  statics := none
  mirror := none

def pool0 : Array CpInfo := pool [(5, u "<init>"), (0, u "()V"), (1, .class_ 10), (1, u "java/lang/Object")] 113

def k0m0 : Method := { name := "<init>", desc := "()V", sig := { parameters := [], returnType := none }, accessFlags := 1, code := none }
/-- java/lang/Object -/
def k0 : Class := { plain "java/lang/Object" none with
  accessFlags := 33
  interfaces := #[]
  cf := some (fileOf pool0 8 #[] #[{ accessFlags := 1, nameIndex := 5, descriptorIndex := 6, attributes := #[] }] 33 0 #[] #[])
  fields := #[]
  methods := #[k0m0]
  instanceTypes := #[]
  staticTypes := #[]
  resolved := Array.replicate 124 none
  statics := none }

def pool1 : Array CpInfo := pool [(2, .class_ 4), (1, u "java/lang/Object"), (0, u "<init>"), (0, u "()V"), (0, .fieldref 8 9), (0, .class_ 10), (0, .nameAndType 11 12), (0, u "portcullis/model/ItemKind"), (0, u "PORTAL"), (0, u "Lportcullis/model/ItemKind;"), (0, .fieldref 8 14), (0, .nameAndType 15 12), (0, u "PAGE"), (0, .fieldref 8 17), (0, .nameAndType 18 12), (0, u "CONTAINER"), (0, .fieldref 8 20), (0, .nameAndType 21 12), (0, u "WIDGET"), (0, .fieldref 8 23), (0, .nameAndType 24 12), (0, u "LINK"), (0, .fieldref 8 26), (0, .nameAndType 27 12), (0, u "TEMPLATE"), (0, .integer 2147483647), (0, .long 64), (1, .long 128), (1, .long 8192), (1, .long 16384), (1, .long 1048576), (1, .long 524288), (1, .long 16777216), (1, .long 268435456), (1, .methodref 46 47), (0, .class_ 48), (0, .nameAndType 49 50), (0, u "portcullis/model/ItemKindMayStandUnderPinLaw"), (0, u "kind"), (0, u "(I)Lportcullis/model/ItemKind;"), (0, .methodref 8 52), (0, .nameAndType 53 54), (0, u "mayStandUnder"), (0, u "(Lportcullis/model/ItemKind;)Z"), (3, u "law"), (0, u "(II)Z")] 2

def k1m0 : Method := { name := "<init>", desc := "()V", sig := { parameters := [], returnType := none }, accessFlags := 2, code := none }
def k1c1 : Code := { maxStack := 2, maxLocals := 1, code := method_2_code, exceptionTable := #[], attributes := #[] }
def k1m1 : Method := { name := "kind", desc := "(I)Lportcullis/model/ItemKind;", sig := { parameters := [.int], returnType := some (.object "portcullis/model/ItemKind") }, accessFlags := 10, code := some k1c1 }
def k1c2 : Code := { maxStack := 4, maxLocals := 7, code := code, exceptionTable := #[], attributes := #[] }
def k1m2 : Method := { name := "law", desc := "(II)Z", sig := { parameters := [.int, .int], returnType := some .boolean }, accessFlags := 9, code := some k1c2 }
/-- portcullis/model/ItemKindMayStandUnderPinLaw -/
def k1 : Class := { plain "portcullis/model/ItemKindMayStandUnderPinLaw" (some 0) with
  accessFlags := 49
  interfaces := #[]
  cf := some (fileOf pool1 46 #[] #[{ accessFlags := 2, nameIndex := 5, descriptorIndex := 6, attributes := #[] }, { accessFlags := 10, nameIndex := 49, descriptorIndex := 50, attributes := #[] }, { accessFlags := 9, nameIndex := 58, descriptorIndex := 59, attributes := #[] }] 49 2 #[] #[])
  fields := #[]
  methods := #[k1m0, k1m1, k1m2]
  instanceTypes := #[]
  staticTypes := #[]
  resolved := Array.replicate 62 none
  statics := none }

def pool2 : Array CpInfo := pool [(1, .class_ 2), (0, u "java/lang/constant/Constable"), (0, .class_ 4), (0, u "java/lang/Object")] 6

/-- java/lang/constant/Constable -/
def k2 : Class := { plain "java/lang/constant/Constable" (some 0) with
  accessFlags := 1537
  interfaces := #[]
  cf := some (fileOf pool2 1 #[] #[] 1537 3 #[] #[])
  fields := #[]
  methods := #[]
  instanceTypes := #[]
  staticTypes := #[]
  resolved := Array.replicate 11 none
  statics := none }

def pool3 : Array CpInfo := pool [(1, .class_ 2), (0, u "java/lang/Comparable"), (0, .class_ 4), (0, u "java/lang/Object")] 7

/-- java/lang/Comparable -/
def k3 : Class := { plain "java/lang/Comparable" (some 0) with
  accessFlags := 1537
  interfaces := #[]
  cf := some (fileOf pool3 1 #[] #[] 1537 3 #[] #[])
  fields := #[]
  methods := #[]
  instanceTypes := #[]
  staticTypes := #[]
  resolved := Array.replicate 12 none
  statics := none }

def pool4 : Array CpInfo := pool [(1, .class_ 2), (0, u "java/io/Serializable"), (0, .class_ 4), (0, u "java/lang/Object")] 2

/-- java/io/Serializable -/
def k4 : Class := { plain "java/io/Serializable" (some 0) with
  accessFlags := 1537
  interfaces := #[]
  cf := some (fileOf pool4 1 #[] #[] 1537 3 #[] #[])
  fields := #[]
  methods := #[]
  instanceTypes := #[]
  staticTypes := #[]
  resolved := Array.replicate 7 none
  statics := none }

def pool5 : Array CpInfo := pool [(2, .class_ 4), (1, u "java/lang/Enum"), (0, u "name"), (0, u "Ljava/lang/String;"), (0, .fieldref 2 8), (0, .nameAndType 9 10), (0, u "ordinal"), (0, u "I"), (1, .class_ 14), (1, u "java/lang/Object"), (4, u "hash"), (86, .class_ 108), (1, u "java/lang/Enum$EnumDesc"), (2, .class_ 112), (0, u "java/lang/constant/Constable"), (0, .class_ 114), (0, u "java/lang/Comparable"), (0, .class_ 116), (0, u "java/io/Serializable"), (9, u "()I")] 77

def k5c0 : Code := { maxStack := 1, maxLocals := 1, code := jdk_37_method_2_code, exceptionTable := #[], attributes := #[] }
def k5m0 : Method := { name := "ordinal", desc := "()I", sig := { parameters := [], returnType := some .int }, accessFlags := 17, code := some k5c0 }
/-- java/lang/Enum -/
def k5 : Class := { plain "java/lang/Enum" (some 0) with
  accessFlags := 1057
  interfaces := #[2, 3, 4]
  cf := some (fileOf pool5 2 #[.nestMembers #[106]] #[{ accessFlags := 17, nameIndex := 9, descriptorIndex := 126, attributes := #[] }] 1057 12 #[111, 113, 115] #[{ accessFlags := 18, nameIndex := 5, descriptorIndex := 6, attributes := #[] }, { accessFlags := 18, nameIndex := 9, descriptorIndex := 10, attributes := #[] }, { accessFlags := 2, nameIndex := 19, descriptorIndex := 10, attributes := #[] }])
  fields := #[{ name := "name", type := (.object "java/lang/String"), accessFlags := 18, slot := 0, constantValue := 0 }, { name := "ordinal", type := .int, accessFlags := 18, slot := 1, constantValue := 0 }, { name := "hash", type := .int, accessFlags := 2, slot := 2, constantValue := 0 }]
  methods := #[k5m0]
  instanceTypes := #[(.object "java/lang/String"), .int, .int]
  staticTypes := #[]
  resolved := Array.replicate 204 none
  statics := none }

def pool6 : Array CpInfo := pool [(1, .class_ 2), (0, u "portcullis/model/ItemKind"), (0, .fieldref 1 4), (0, .nameAndType 5 6), (0, u "PORTAL"), (0, u "Lportcullis/model/ItemKind;"), (0, .fieldref 1 8), (0, .nameAndType 9 6), (0, u "PAGE"), (0, .fieldref 1 11), (0, .nameAndType 12 6), (0, u "CONTAINER"), (2, u "WIDGET"), (0, .fieldref 1 17), (0, .nameAndType 18 6), (0, u "LINK"), (2, u "TEMPLATE"), (2, u "$VALUES"), (0, u "[Lportcullis/model/ItemKind;"), (6, .class_ 34), (1, u "java/lang/Enum"), (30, .methodref 1 66), (0, .nameAndType 67 68), (0, u "ordinal"), (0, u "()I"), (17, u "mayStandUnder"), (0, u "(Lportcullis/model/ItemKind;)Z")] 32

def k6c0 : Code := { maxStack := 4, maxLocals := 2, code := prog_10_method_6_code, exceptionTable := #[], attributes := #[] }
def k6m0 : Method := { name := "mayStandUnder", desc := "(Lportcullis/model/ItemKind;)Z", sig := { parameters := [(.object "portcullis/model/ItemKind")], returnType := some .boolean }, accessFlags := 1, code := some k6c0 }
/-- portcullis/model/ItemKind -/
def k6 : Class := { plain "portcullis/model/ItemKind" (some 5) with
  accessFlags := 16433
  interfaces := #[]
  cf := some (fileOf pool6 1 #[] #[{ accessFlags := 1, nameIndex := 86, descriptorIndex := 87, attributes := #[] }] 16433 32 #[] #[{ accessFlags := 16409, nameIndex := 5, descriptorIndex := 6, attributes := #[] }, { accessFlags := 16409, nameIndex := 9, descriptorIndex := 6, attributes := #[] }, { accessFlags := 16409, nameIndex := 12, descriptorIndex := 6, attributes := #[] }, { accessFlags := 16409, nameIndex := 15, descriptorIndex := 6, attributes := #[] }, { accessFlags := 16409, nameIndex := 18, descriptorIndex := 6, attributes := #[] }, { accessFlags := 16409, nameIndex := 21, descriptorIndex := 6, attributes := #[] }, { accessFlags := 4122, nameIndex := 24, descriptorIndex := 25, attributes := #[] }])
  fields := #[{ name := "PORTAL", type := (.object "portcullis/model/ItemKind"), accessFlags := 16409, slot := 0, constantValue := 0 }, { name := "PAGE", type := (.object "portcullis/model/ItemKind"), accessFlags := 16409, slot := 1, constantValue := 0 }, { name := "CONTAINER", type := (.object "portcullis/model/ItemKind"), accessFlags := 16409, slot := 2, constantValue := 0 }, { name := "WIDGET", type := (.object "portcullis/model/ItemKind"), accessFlags := 16409, slot := 3, constantValue := 0 }, { name := "LINK", type := (.object "portcullis/model/ItemKind"), accessFlags := 16409, slot := 4, constantValue := 0 }, { name := "TEMPLATE", type := (.object "portcullis/model/ItemKind"), accessFlags := 16409, slot := 5, constantValue := 0 }, { name := "$VALUES", type := (.array (.object "portcullis/model/ItemKind")), accessFlags := 4122, slot := 6, constantValue := 0 }]
  methods := #[k6m0]
  instanceTypes := #[(.object "java/lang/String"), .int, .int]
  staticTypes := #[(.object "portcullis/model/ItemKind"), (.object "portcullis/model/ItemKind"), (.object "portcullis/model/ItemKind"), (.object "portcullis/model/ItemKind"), (.object "portcullis/model/ItemKind"), (.object "portcullis/model/ItemKind"), (.array (.object "portcullis/model/ItemKind"))]
  resolved := Array.replicate 120 none
  statics := some 0 }

def pool7 : Array CpInfo := pool [(1, u "java/lang/Cloneable"), (0, .class_ 1), (0, u "java/lang/Object"), (0, .class_ 3)] 3

/-- java/lang/Cloneable -/
def k7 : Class := { plain "java/lang/Cloneable" (some 0) with
  accessFlags := 1537
  interfaces := #[]
  cf := some (fileOf pool7 2 #[] #[] 1537 4 #[] #[])
  fields := #[]
  methods := #[]
  instanceTypes := #[]
  staticTypes := #[]
  resolved := Array.replicate 8 none
  statics := none }

/-- the primitive byte -/
def k8 : Class := { plain "byte" none with kind := .primitive 'B', accessFlags := 0x411 }
/-- [B -/
def k9 : Class := { plain "[B" (some 0) with kind := .array 8 .byte, interfaces := #[7, 4], accessFlags := 1041 }

/-- the primitive int -/
def k10 : Class := { plain "int" none with kind := .primitive 'I', accessFlags := 0x411 }
/-- [I -/
def k11 : Class := { plain "[I" (some 0) with kind := .array 10 .int, interfaces := #[7, 4], accessFlags := 1041 }

def heap : Heap := #[{ cls := 6, slots := #[.ref 1, .ref 2, .ref 3, .ref 4, .ref 5, .ref 6, .null], vm := .statics 6 },
  { cls := 6, slots := #[.null, .int 0, .int 0], vm := .none },
  { cls := 6, slots := #[.null, .int 1, .int 0], vm := .none },
  { cls := 6, slots := #[.null, .int 2, .int 0], vm := .none },
  { cls := 6, slots := #[.null, .int 3, .int 0], vm := .none },
  { cls := 6, slots := #[.null, .int 4, .int 0], vm := .none },
  { cls := 6, slots := #[.null, .int 5, .int 0], vm := .none }]
def classes : Array Class := #[k0, k1, k2, k3, k4, k5, k6, k7, k8, k9, k10, k11]
def interned : List (Array UInt16 × Addr) := []
def slotsUsed : Nat := 25
def theMethod : MethodId := ⟨1, 2⟩
def args0 : Array Value := #[.int 5, .int 7]
def aboutOver (below : List Frame) : State where
  vm := { classes := classes, interned := interned.toArray }
  heap := heap
  slotsUsed := slotsUsed
  threads := #[{ frames := .invoking theMethod args0 :: below }]
def below0 : List Frame := [.native { method := ⟨0, 0⟩, args := #[] }]
def about1 : State := aboutOver below0
def p0 : Program := .bare "" "" ""
def e0 : Env := launch0.env 0 0 0
theorem w_frames : about1.frames = Frame.invoking theMethod args0 :: below0 := rfl
set_option maxRecDepth 65536 in
theorem w_args : argsFit about1.vm theMethod args0 = true := by decide +kernel
set_option maxRecDepth 65536 in
theorem w_heap : heapFits about1 = true := by decide +kernel
set_option maxRecDepth 65536 in
theorem w_runnable : about1.curStatus? = some .runnable := by decide +kernel
set_option maxRecDepth 65536 in
theorem w_alone : about1.alone = true := by decide +kernel
set_option maxRecDepth 65536 in
theorem w_named : about1.methodNamed? x = some theMethod := by decide +kernel
set_option maxRecDepth 65536 in
theorem w_hears : about1.hears theMethod below0 = true := by decide +kernel
set_option maxRecDepth 65536 in
theorem w_ripe : about1.ripe theMethod args0 below0 = true := by decide +kernel
theorem w_running : about1.status = .running := rfl
set_option maxRecDepth 65536 in
theorem w_room : about1.hasRoom e0.platform room_1 = true :=
  launch0.hasRoom_least _ room_1 (by decide +kernel) (by decide +kernel) (by decide +kernel) (by decide +kernel) (by decide +kernel) (by decide +kernel)
theorem allAtoms_all (ts : List Jvm.Cond) (a : Array Jvm.Value) (st : Jvm.State) : (allAtoms ts).before a st = ts.all (fun c => c.before a st) := by
  induction ts with
  | nil => rfl
  | cons c t ih =>
    show (Jvm.Cond.and c (allAtoms t)).before a st = _
    rw [Jvm.Cond.before_and, ih, List.all_cons]
def words1 : List Jvm.Cond := Jvm.Cond.code x code maxLocals ret :: tables_1
/-- a 'code' word, met by the world's own term for the bytes: nothing is compared byte by byte -/
theorem code_word {y : MethodName} {bytes : ByteArray} {mx : Nat} {rt : Option FieldType} {a : Array Value} {s : State} {m : MethodId} {meth : Method} {c : Code} (h1 : s.methodNamed? y = some m) (h2 : s.vm.method? m = some meth) (h3 : meth.code = some c) (h4 : c.code = bytes)
    (h5 : (c.maxLocals == mx && c.exceptionTable.isEmpty && decide (c.maxStack ≤ mostOperands) && decide (meth.sig.returnType = rt) && !meth.locks && decide (parseMethodDescriptor y.desc = some meth.sig)) = true) : (Jvm.Cond.code y bytes mx rt).before a s = true := by
  simp only [Bool.and_eq_true, beq_iff_eq, Bool.not_eq_true', decide_eq_true_eq] at h5
  obtain ⟨⟨⟨⟨⟨g1, g2⟩, g3⟩, g4⟩, g5⟩, g6⟩ := h5
  simp [Cond.before, Cond.holds, Cond.value, h1, h2, h3, h4, g1, g2, g3, g4, g5, g6]
def isCode : Jvm.Cond → Bool
  | .code _ _ _ _ => true
  | _ => false
theorem all_split {L : List Jvm.Cond} {P : Jvm.Cond → Bool} (h1 : L.all (fun c => isCode c || P c) = true) (h2 : ∀ c ∈ L.filter isCode, P c = true) : L.all P = true := by
  refine List.all_eq_true.mpr fun c hc => ?_
  have h := List.all_eq_true.mp h1 c hc
  rcases Bool.eq_false_or_eq_true (isCode c) with hi | hi
  · exact h2 c (List.mem_filter.mpr ⟨hc, hi⟩)
  · simpa [hi] using h
set_option maxRecDepth 65536 in
theorem w_c0 : (Jvm.Cond.code x code maxLocals ret).before args0 about1 = true := code_word (m := ⟨1, 2⟩) (meth := k1m2) (c := k1c2) (by decide +kernel) rfl rfl rfl (by decide +kernel)
set_option maxRecDepth 65536 in
theorem w_c1 : (Jvm.Cond.code ({ cls := "portcullis/model/ItemKindMayStandUnderPinLaw", name := "kind", desc := "(I)Lportcullis/model/ItemKind;" } : Jvm.MethodName) method_2_code (1 : Nat) (Option.some (Jvm.ClassFile.FieldType.object "portcullis/model/ItemKind"))).before args0 about1 = true := code_word (m := ⟨1, 1⟩) (meth := k1m1) (c := k1c1) (by decide +kernel) rfl rfl rfl (by decide +kernel)
set_option maxRecDepth 65536 in
theorem w_c2 : (Jvm.Cond.code ({ cls := "portcullis/model/ItemKind", name := "mayStandUnder", desc := "(Lportcullis/model/ItemKind;)Z" } : Jvm.MethodName) prog_10_method_6_code (2 : Nat) (Option.some Jvm.ClassFile.FieldType.boolean)).before args0 about1 = true := code_word (m := ⟨6, 0⟩) (meth := k6m0) (c := k6c0) (by decide +kernel) rfl rfl rfl (by decide +kernel)
set_option maxRecDepth 65536 in
theorem w_c3 : (Jvm.Cond.code ({ cls := "java/lang/Enum", name := "ordinal", desc := "()I" } : Jvm.MethodName) jdk_37_method_2_code (1 : Nat) (Option.some Jvm.ClassFile.FieldType.int)).before args0 about1 = true := code_word (m := ⟨5, 0⟩) (meth := k5m0) (c := k5c0) (by decide +kernel) rfl rfl rfl (by decide +kernel)
def codes1 : List Jvm.Cond := [Jvm.Cond.code x code maxLocals ret, Jvm.Cond.code ({ cls := "portcullis/model/ItemKindMayStandUnderPinLaw", name := "kind", desc := "(I)Lportcullis/model/ItemKind;" } : Jvm.MethodName) method_2_code (1 : Nat) (Option.some (Jvm.ClassFile.FieldType.object "portcullis/model/ItemKind")), Jvm.Cond.code ({ cls := "portcullis/model/ItemKind", name := "mayStandUnder", desc := "(Lportcullis/model/ItemKind;)Z" } : Jvm.MethodName) prog_10_method_6_code (2 : Nat) (Option.some Jvm.ClassFile.FieldType.boolean), Jvm.Cond.code ({ cls := "java/lang/Enum", name := "ordinal", desc := "()I" } : Jvm.MethodName) jdk_37_method_2_code (1 : Nat) (Option.some Jvm.ClassFile.FieldType.int)]
set_option maxRecDepth 65536 in
theorem codes_eq : words1.filter isCode = codes1 := rfl
theorem w_codes : ∀ c ∈ words1.filter isCode, c.before args0 about1 = true := by
  rw [codes_eq]
  intro c hc
  simp only [codes1, List.mem_cons, List.not_mem_nil, or_false] at hc
  rcases hc with rfl | rfl | rfl | rfl
  · exact w_c0
  · exact w_c1
  · exact w_c2
  · exact w_c3
set_option maxRecDepth 65536 in
theorem w_t1 : (words1.take 24).all (fun c => isCode c || c.before args0 about1) = true := by decide +kernel
set_option maxRecDepth 65536 in
theorem w_t2 : (words1.drop 24).all (fun c => isCode c || c.before args0 about1) = true := by decide +kernel
theorem w_tables : (allAtoms (Jvm.Cond.code x code maxLocals ret :: tables_1)).before args0 about1 = true := by
  rw [allAtoms_all]
  show words1.all (fun c => c.before args0 about1) = true
  refine all_split ?_ w_codes
  rw [← List.take_append_drop 24 words1, List.all_append, w_t1, w_t2]
  rfl
set_option maxRecDepth 65536 in
theorem w_case : (Jvm.Cond.and given_1 narrow_1).before args0 about1 = true := by decide +kernel
theorem w_applies : (headSpec (Jvm.Cond.code x code maxLocals ret :: tables_1) room_1).applies x e0.platform about1 = true :=
  (Spec.applies_iff w_frames).mpr ⟨w_running, w_runnable, w_alone, w_named, w_hears, w_ripe, w_room, w_tables⟩
theorem atStart : AtStart classFile x code maxLocals ret World_1 tables_1 room_1 Calls_1 rest_1 Pre_1 launch0 p0 e0 about1 theMethod args0 below0 :=
  ⟨lists_1, trivial, launch0.admits_env _ _ _, launch0.least_env, fairChoices_fair.cas, fairChoices_fair.clock, w_frames, w_args, w_heap, w_applies, trivial, trivial, w_case⟩
end start1
theorem witness_1 : WitnessClaimed_1 := ⟨start1.p0, start1.e0, start1.about1, start1.theMethod, start1.args0, start1.below0, start1.atStart⟩
end Jvm.Pilot.@@N@@
