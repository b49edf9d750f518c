import JvmDerived
import JvmDerived.Pilot.@@N@@Statement
import JvmDerived.Pilot.@@N@@Code
set_option linter.unusedVariables false
set_option linter.unusedSimpArgs false
namespace Jvm.Pilot.@@N@@
open Jvm Jvm.ClassFile Sem Op Lib Jvm.Free Jvm.Stand Jvm.LawKit Jvm.RoadKit Bundle Jvm.Pilot.@@N@@.Jvm.D
/-- what a walk owes from a state on: the run comes to a state of which G speaks -/
def own_Go (p : Program) (e : Env) (below : List Frame) (A : State) (G : State → Prop) : Prop := ∃ B, (∀ t, Steps p.tables e below B t → Steps p.tables e below A t) ∧ G B
theorem own_via {p : Program} {e : Env} {below : List Frame} {A B : State} {G : State → Prop} (h : ∀ t, Steps p.tables e below B t → Steps p.tables e below A t) (k : own_Go p e below B G) : own_Go p e below A G := by
  obtain ⟨C, h1, h2⟩ := k
  exact ⟨C, fun t q => h t (h1 t q), h2⟩
theorem own_done {p : Program} {e : Env} {below : List Frame} {A : State} {G : State → Prop} (g : G A) : own_Go p e below A G := ⟨A, fun _ q => q, g⟩
theorem own_bind {p : Program} {e : Env} {below : List Frame} {A : State} {G G' : State → Prop} (h : own_Go p e below A G) (k : ∀ B, G B → own_Go p e below B G') : own_Go p e below A G' := by
  obtain ⟨B, h1, h2⟩ := h
  exact own_via h1 (k B h2)
/-- the method ends here -/
def own_End (p : Program) (e : Env) (below : List Frame) (s : State) (Q : Option Value → Heap → List Loc → Prop) (C S : Nat) (B : State) : Prop :=
  ∃ s₂ o, Steps p.tables e below B s₂ ∧ s₂.status = .running ∧ Ended s₂ below o ∧ ∃ v L, o = .returned v ∧ Q v s₂.heap L ∧ FrameEnd s o s₂ L C S
theorem own_body {p : Program} {e : Env} {below : List Frame} {s A A' : State} {Q : Option Value → Heap → List Loc → Prop} {C S : Nat} (q : ∀ t, Steps p.tables e below A t → Steps p.tables e below A' t) (h : own_Go p e below A (own_End p e below s Q C S)) :
    ∃ s₂ o, Steps p.tables e below A' s₂ ∧ s₂.status = .running ∧ Ended s₂ below o ∧ ∃ v L, o = .returned v ∧ Q v s₂.heap L ∧ FrameEnd s o s₂ L C S := by
  obtain ⟨B, h1, s₂, o, h2, h3⟩ := h
  exact ⟨s₂, o, q _ (h1 _ h2), h3⟩
section Leaf
variable {p : Program} {l : Launch} {e : Env} {R : Room} {s : State} {m : MethodId} {args : Array Value} {below : List Frame} {meth : Method} {c : Code} {T : State} {locs : List Loc} {cells slots : Nat}
theorem own_leaf (X : Stand p l e R s m args below meth c T locs cells slots) (hx : p.tables.exec = Jvm.exec) (hlk : meth.locks = false) {pc : Nat} {Ls : Array Slot} {w : Value} {t : FieldType} {i : Instr} {rest : List Value} (hret : meth.sig.returnType = some t) (hn : narrow t w = w)
    (hi : (i = .ireturn ∧ (t = .int ∨ t = .boolean ∨ t = .byte ∨ t = .char ∨ t = .short) ∧ ∃ z, w = .int z) ∨ (i = .lreturn ∧ t = .long ∧ ∃ z, w = .long z) ∨ (i = .dreturn ∧ t = .double ∧ ∃ z, w = .double z) ∨ (i = .freturn ∧ t = .float ∧ ∃ z, w = .float z) ∨ (i = .areturn ∧ t.isReference = true ∧ w.isRef = true))
    (hd : decode c.code pc = .ok (i, 1)) {Q : Option Value → Heap → List Loc → Prop} {C S : Nat} (hC : cells ≤ C) (hS : slots ≤ S) (hq : Q (some w) T.heap locs) : own_Go p e below (T.setTop (mkF m pc Ls (w :: rest))) (own_End p e below s Q C S) := by
  obtain ⟨fs, hr, hrun, hended, hW, hsame⟩ := X.leave (v := some w) (fun h => by rw [hret] at h; cases h) hlk
  exact own_done ⟨_, _, retOut X hx hret hn hi hd hr, hrun, hended, _, _, rfl, hq, ⟨_, rfl⟩, hW, hsame.mono hC hS⟩
theorem own_leafV (X : Stand p l e R s m args below meth c T locs cells slots) (hx : p.tables.exec = Jvm.exec) (hlk : meth.locks = false) {pc : Nat} {Ls : Array Slot} (hret : meth.sig.returnType = none)
    (hd : decode c.code pc = .ok (.return_, 1)) {Q : Option Value → Heap → List Loc → Prop} {C S : Nat} (hC : cells ≤ C) (hS : slots ≤ S) (hq : Q none T.heap locs) : own_Go p e below (T.setTop (mkF m pc Ls [])) (own_End p e below s Q C S) := by
  obtain ⟨fs, hr, hrun, hended, hW, hsame⟩ := X.leave (v := none) (fun _ => rfl) hlk
  exact own_done ⟨_, _, X.returnOut hx hret hd hr, hrun, hended, _, _, rfl, hq, ⟨_, rfl⟩, hW, hsame.mono hC hS⟩
theorem own_getFR {Z : State} {a0 : Array Value} {h : Heap} (X : Stand p l e R s m args below meth c T locs cells slots) (hx : p.tables.exec = Jvm.exec) (hZ : Z.Warmed39 s.vm) {own R0 O n d : String} {index : Nat} (hown : s.vm.findClass own = some m.cls) (w : (Cond.fieldRef own index R0 n d).before a0 Z = true) (via : Via Z R0 O n d)
    (eT : T.heap = h) {a : Addr} {v : Value} (F : Fld Z h a O n d v) {g : JFrame} (hg : g.method = m) {rest : List Value} (hs : g.stack = .ref a :: rest) (hd : decode c.code g.pc = .ok (.getfield index, 3)) : ∃ T', Stand p l e R s m args below meth c T' locs cells slots ∧ T'.heap = h ∧ ∀ target, Steps p.tables e below (T'.setTop { g with pc := g.pc + 3, stack := v :: rest }) target → Steps p.tables e below (T.setTop g) target := by
  obtain ⟨cell, cf, k, i, f, h1, h2, h3, h4, -, -, h7⟩ := F
  have hW : Z.Warmed39 T.vm := wtrans hZ X.warmed
  have w1 := Cond.fieldRef_warmed39 hW w
  obtain ⟨c', k', i', f', hi, hr⟩ := Cond.fieldRef_spec (cur := m.cls) (show (Z.setVm T.vm).vm.findClass own = some m.cls by show T.vm.findClass own = _; rw [X.warmed.alike.findClass]; exact hown) w1
  obtain ⟨k'', hi', -⟩ := State.fieldFound?_setVm (s := Z) hW.alike (via _ h2)
  cases hi.symm.trans hi'
  refine ⟨T, X, eT, fun target hrest => ?_⟩
  subst hg
  jvm_step X.here [hx, hd, getfield.wp_ready (e := e) (s := T) (f := g) X.here.top hr h3 hs (by rw [eT]; exact h1) h4 h7]
  exact hrest
def own_EndW (p : Program) (e : Env) (below : List Frame) (s : State) (Q : Option Value → Heap → List Loc → Prop) (C S : Nat) (B : State) : Prop :=
  ∃ s₂ o, Steps p.tables e below B s₂ ∧ s₂.status = .running ∧ Ended s₂ below o ∧ ∃ v L, o = .returned v ∧ Q v s₂.heap L ∧ ReturnedEndW s o s₂ L C S
theorem own_bodyW {A A' : State} {Q : Option Value → Heap → List Loc → Prop} {C S : Nat} (q : ∀ t, Steps p.tables e below A t → Steps p.tables e below A' t) (h : own_Go p e below A (own_EndW p e below s Q C S)) :
    ∃ s₂ o, Steps p.tables e below A' s₂ ∧ s₂.status = .running ∧ Ended s₂ below o ∧ ∃ v L, o = .returned v ∧ Q v s₂.heap L ∧ ReturnedEndW s o s₂ L C S := by
  obtain ⟨B, h1, s₂, o, h2, h3⟩ := h
  exact ⟨s₂, o, q _ (h1 _ h2), h3⟩
theorem own_leafW {vm₁ : Vm} (X : Stand p l e R (s.setVm vm₁) m args below meth c T locs cells slots) (hx : p.tables.exec = Jvm.exec) (hlk : meth.locks = false) {n : Nat} (hS : s.Since vm₁ n) (hk : n ≤ T.heap.size) {pc : Nat} {Ls : Array Slot} {w : Value} {t : FieldType} {i : Instr} {rest : List Value} (hret : meth.sig.returnType = some t) (hn : narrow t w = w)
    (hi : (i = .ireturn ∧ (t = .int ∨ t = .boolean ∨ t = .byte ∨ t = .char ∨ t = .short) ∧ ∃ z, w = .int z) ∨ (i = .lreturn ∧ t = .long ∧ ∃ z, w = .long z) ∨ (i = .dreturn ∧ t = .double ∧ ∃ z, w = .double z) ∨ (i = .freturn ∧ t = .float ∧ ∃ z, w = .float z) ∨ (i = .areturn ∧ t.isReference = true ∧ w.isRef = true))
    (hd : decode c.code pc = .ok (i, 1)) {Q : Option Value → Heap → List Loc → Prop} {C S : Nat} (hC : cells ≤ C) (hS' : slots ≤ S) (hq : Q (some w) T.heap locs) : own_Go p e below (T.setTop (mkF m pc Ls (w :: rest))) (own_EndW p e below s Q C S) := by
  obtain ⟨fs, hr, hrun, hended, h1, h2, h3, hsame⟩ := X.leaveW hS hk (v := some w) (fun h => by rw [hret] at h; cases h) hlk
  exact own_done ⟨_, _, retOut X hx hret hn hi hd hr, hrun, hended, _, _, rfl, hq, h1, h2, h3, hsame.mono hC hS'⟩
theorem own_leafVW {vm₁ : Vm} (X : Stand p l e R (s.setVm vm₁) m args below meth c T locs cells slots) (hx : p.tables.exec = Jvm.exec) (hlk : meth.locks = false) {n : Nat} (hS : s.Since vm₁ n) (hk : n ≤ T.heap.size) {pc : Nat} {Ls : Array Slot} (hret : meth.sig.returnType = none)
    (hd : decode c.code pc = .ok (.return_, 1)) {Q : Option Value → Heap → List Loc → Prop} {C S : Nat} (hC : cells ≤ C) (hS' : slots ≤ S) (hq : Q none T.heap locs) : own_Go p e below (T.setTop (mkF m pc Ls [])) (own_EndW p e below s Q C S) := by
  obtain ⟨fs, hr, hrun, hended, h1, h2, h3, hsame⟩ := X.leaveW hS hk (v := none) (fun _ => rfl) hlk
  exact own_done ⟨_, _, X.returnOut hx hret hd hr, hrun, hended, _, _, rfl, hq, h1, h2, h3, hsame.mono hC hS'⟩
def own_bit (P : Prop) [Decidable P] : Int32 := if P then 1 else 0
theorem own_bit01 (P : Prop) [Decidable P] : own_bit P = 0 ∨ own_bit P = 1 := by unfold own_bit; split <;> simp
theorem own_bitT {P : Prop} [Decidable P] (h : P) : own_bit P = 1 := if_pos h
theorem own_bitF {P : Prop} [Decidable P] (h : ¬ P) : own_bit P = 0 := if_neg h
theorem own_bit0 {P : Prop} [Decidable P] : own_bit P = 0 ↔ ¬ P := by unfold own_bit; split <;> simp_all
theorem own_bit1 {P : Prop} [Decidable P] : own_bit P = 1 ↔ P := by unfold own_bit; split <;> simp_all
theorem own_bits {P P' : Prop} [Decidable P] [Decidable P'] (h : P ↔ P') : own_bit P = own_bit P' := by unfold own_bit; simp [h]
theorem own_lt (x y : Int32) : x < y ↔ x.toInt < y.toInt := Int32.lt_iff_toInt_lt
theorem own_eq (x y : Int32) : x = y ↔ x.toInt = y.toInt := Int32.toInt_inj.symm
theorem own_ltL (x y : Int64) : x < y ↔ x.toInt < y.toInt := Int64.lt_iff_toInt_lt
theorem own_eqL (x y : Int64) : x = y ↔ x.toInt = y.toInt := Int64.toInt_inj.symm
theorem own_mask (x : Int32) : 0 ≤ (x &&& (2147483647 : Int32)).toInt := by
  have h : (x &&& (2147483647 : Int32)).toBitVec.msb = false := by
    show (x.toBitVec &&& 2147483647#32).msb = false
    have e : (2147483647#32).msb = false := by decide
    rw [BitVec.msb_and, e]; simp
  have := BitVec.toInt_eq_msb_cond (x &&& (2147483647 : Int32)).toBitVec
  rw [h] at this
  show 0 ≤ (x &&& (2147483647 : Int32)).toBitVec.toInt
  rw [this]
  simp only [Bool.false_eq_true, if_false]
  exact Int.natCast_nonneg _
theorem own_modm (x m : Int32) (hm : 0 < m.toInt) : 0 ≤ ((x &&& (2147483647 : Int32)) % m).toInt ∧ ((x &&& (2147483647 : Int32)) % m).toInt < m.toInt := by
  have h := own_mask x
  rw [Int32.toInt_mod, Int.tmod_eq_emod_of_nonneg h]
  exact ⟨Int.emod_nonneg _ (by omega), Int.emod_lt_of_pos _ hm⟩
theorem own_fb {x : Int32} (h : x = 0 ∨ x = 1) : fits .boolean (.int x) = true := by rcases h with rfl | rfl <;> decide
theorem own_eqI {t : Term} {k : Int32} {args : Array Value} {s : State} (h : (Cond.eq t (Term.int k)).value args s none s [] = some true) : t.eval args s none [] s = some (.int k) := by
  simp only [Cond.value] at h
  have hn : (Term.int k).eval args s none [] s = some (.int k) := rfl
  rw [hn] at h
  cases ht : t.eval args s none [] s with
  | none => simp [ht] at h
  | some v => cases v <;> simp [ht] at h ⊢ <;> first | exact h | (exact h.elim) | simp_all
theorem own_eqJ {t : Term} {k : Int64} {args : Array Value} {s : State} (h : (Cond.eq t (Term.long k)).value args s none s [] = some true) : t.eval args s none [] s = some (.long k) := by
  simp only [Cond.value] at h
  have hn : (Term.long k).eval args s none [] s = some (.long k) := rfl
  rw [hn] at h
  cases ht : t.eval args s none [] s with
  | none => simp [ht] at h
  | some v => cases v <;> simp [ht] at h ⊢ <;> first | exact h | (exact h.elim) | simp_all
theorem own_b1 {x : Int32} (h : x = 0 ∨ x = 1) : narrow .boolean (.int x) = .int x := by rcases h with rfl | rfl <;> rfl
end Leaf

theorem own_share (n : Int32) : Jvm.Free.Fl.NoNaN64 (FP.ddiv FP.dconst1 (FP.i2d n)) := Jvm.Free.Fl.ddiv_out0 (by unfold Jvm.Free.Fl.Fin64; decide +kernel) (by unfold Jvm.Free.Fl.Nz64; decide +kernel) (nn_w (i2d_w n))
theorem own_rep {α : Type} (i : Nat) (a b : α) : (List.replicate i a ++ List.replicate 1 b).set i a = List.replicate (i + 1) a := by
  rw [List.set_append_right _ _ (by simp)]
  simp [List.replicate_succ']
theorem own_full {Z : State} {h : Heap} {a : Addr} {k : ClassId} {z : Int32} {v d : Value} {n : Nat} (hn : n = z.toNatClampNeg) (V : Arv Z h a k .double z (List.replicate n v) d) (hv : fits .double v = true) : Arv Z h a k .double z [] v := by
  obtain ⟨c, A, q1, S, M, H, G⟩ := V
  refine ⟨c, A, q1, S, M, fun i hi => ?_, fun i hi => ?_⟩
  · rw [H i hi, List.getD_eq_getElem?_getD, List.getElem?_replicate, if_pos (by rw [hn, ← S]; exact hi)]; rfl
  · exact hv
theorem own_step {Z : State} {h h1 : Heap} {a : Addr} {k : ClassId} {z : Int32} {v d : Value} {i : Nat} {cl : Cell} (Ar : Arr Z h a cl .double) (q1 : cl.cls = k) (S : cl.slots.size = z.toNatClampNeg) (M : ¬ z < 0) (H : Has cl (List.replicate i v ++ List.replicate 1 d) d) (G : ∀ j, j < cl.slots.size → fits .double ((List.replicate i v ++ List.replicate 1 d).getD j d) = true) (hv : fits .double v = true) (W : Wr h h1 a (Int32.ofNat i).toNatClampNeg v) (hi : i < 2147483648) : Arv Z h1 a k .double z (List.replicate (i + 1) v) d := by
  have q := Arv.set Ar q1 S M H G hv W i (clamp_of rfl hi) (by simp)
  rw [own_rep] at q
  exact q
theorem own_zc (z : Int32) (hz : ¬ z < 0) : z.toNatClampNeg < 2147483648 ∧ z.toInt = (z.toNatClampNeg : Int) := ⟨(back32 hz).2, nat_of hz⟩
theorem own_ge {i : Nat} {z : Int32} (hz : ¬ z < 0) (hi : i + 0 = z.toNatClampNeg) : ¬ (Int32.ofNat i < z) := by
  obtain ⟨h1, h2⟩ := own_zc z hz
  rw [own_lt, Int32.toInt_ofNat_of_lt (by omega)]; omega
theorem own_go {i k : Nat} {z : Int32} (hz : ¬ z < 0) (hi : i + (k + 1) = z.toNatClampNeg) : Int32.ofNat i < z ∧ ¬ Int32.ofNat i < 0 ∧ i < 2147483648 := by
  obtain ⟨h1, h2⟩ := own_zc z hz
  have e0 : (0 : Int32).toInt = 0 := by decide
  refine ⟨?_, ?_, by omega⟩
  · rw [own_lt, Int32.toInt_ofNat_of_lt (by omega)]; omega
  · rw [own_lt, Int32.toInt_ofNat_of_lt (by omega), e0]; omega
theorem own_n (x : Int32) : ¬ ((x &&& (1023 : Int32)) + (1 : Int32)) < 1 ∧ ((x &&& (1023 : Int32)) + (1 : Int32)).toNatClampNeg ≤ 1024 ∧ 0 < ((x &&& (1023 : Int32)) + (1 : Int32)).toInt := by
  have h : (x &&& 1023).toBitVec.toNat < 1024 := by
    simp only [Int32.toBitVec_and, BitVec.toNat_and]
    exact Nat.lt_succ_of_le Nat.and_le_right
  have e : (x &&& 1023) = Int32.ofNat (x &&& 1023).toBitVec.toNat := by
    apply Int32.toBitVec_inj.mp
    show _ = BitVec.ofNat 32 _
    rw [BitVec.ofNat_toNat]; simp
  rw [e]
  generalize (x &&& 1023).toBitVec.toNat = k at h
  have e1 : Int32.ofNat k + 1 = Int32.ofNat (k + 1) := (inc_ofNat k).symm
  have e2 : (Int32.ofNat (k + 1)).toInt = (k + 1 : Nat) := Int32.toInt_ofNat_of_lt (by omega)
  have e3 : (1 : Int32).toInt = 1 := by decide
  rw [e1]
  refine ⟨by rw [own_lt, e2, e3]; omega, by rw [clamp_of rfl (by omega)]; omega, by rw [e2]; omega⟩
theorem own_pos {z : Int32} (h : ¬ z < 1) : ¬ z < 0 ∧ ¬ z = 0 ∧ (0 : Int32) < z ∧ 0 < z.toInt := by
  have e0 : (0 : Int32).toInt = 0 := by decide
  have e1 : (1 : Int32).toInt = 1 := by decide
  rw [own_lt, e1] at h
  refine ⟨by rw [own_lt, e0]; omega, by rw [own_eq, e0]; omega, by rw [own_lt, e0]; omega, by omega⟩
theorem own_last {z : Int32} (h : ¬ z < 1) : ¬ (z - 1) < 0 ∧ (z - 1) < z := by
  have e0 : (0 : Int32).toInt = 0 := by decide
  have e1 : (1 : Int32).toInt = 1 := by decide
  have b := z.toInt_lt
  rw [own_lt, e1] at h
  have e : (z - 1).toInt = z.toInt - 1 := by rw [Int32.toInt_sub, e1]; exact Int.bmod_eq_of_le (by omega) (by omega)
  exact ⟨by rw [own_lt, e, e0]; omega, by rw [own_lt, e]; omega⟩
theorem own_idx (x : Int32) {z : Int32} (h : ¬ z < 1) : ¬ ((x &&& (2147483647 : Int32)) % z) < 0 ∧ ((x &&& (2147483647 : Int32)) % z) < z := by
  have e0 : (0 : Int32).toInt = 0 := by decide
  have q := own_modm x z (own_pos h).2.2.2
  exact ⟨by rw [own_lt, e0]; omega, by rw [own_lt]; exact q.2⟩
theorem own_d3_0 : decode jdk_65_method_113_code 0 = .ok (.iconst 0, 1) := by decide +kernel
theorem own_d3_1 : decode jdk_65_method_113_code 1 = .ok (.istore_n 3, 1) := by decide +kernel
theorem own_d3_2 : decode jdk_65_method_113_code 2 = .ok (.aload_n 0, 1) := by decide +kernel
theorem own_d3_3 : decode jdk_65_method_113_code 3 = .ok (.arraylength, 1) := by decide +kernel
theorem own_d3_4 : decode jdk_65_method_113_code 4 = .ok (.istore 4, 2) := by decide +kernel
theorem own_d3_6 : decode jdk_65_method_113_code 6 = .ok (.iload_n 3, 1) := by decide +kernel
theorem own_d3_7 : decode jdk_65_method_113_code 7 = .ok (.iload 4, 2) := by decide +kernel
theorem own_d3_9 : decode jdk_65_method_113_code 9 = .ok (.if_icmp .ge 13, 3) := by decide +kernel
theorem own_d3_12 : decode jdk_65_method_113_code 12 = .ok (.aload_n 0, 1) := by decide +kernel
theorem own_d3_13 : decode jdk_65_method_113_code 13 = .ok (.iload_n 3, 1) := by decide +kernel
theorem own_d3_14 : decode jdk_65_method_113_code 14 = .ok (.dload_n 1, 1) := by decide +kernel
theorem own_d3_15 : decode jdk_65_method_113_code 15 = .ok (.dastore, 1) := by decide +kernel
theorem own_d3_16 : decode jdk_65_method_113_code 16 = .ok (.iinc 3 1, 3) := by decide +kernel
theorem own_d3_19 : decode jdk_65_method_113_code 19 = .ok (.goto (-13), 3) := by decide +kernel
theorem own_d3_22 : decode jdk_65_method_113_code 22 = .ok (.return_, 1) := by decide +kernel
set_option maxRecDepth 65536 in
set_option maxHeartbeats 40000000 in
theorem own_loop3 {p : Program} {l : Launch} {e : Env} {R : Room} {s : State} {m : MethodId} {args : Array Value} {below : List Frame} {meth : Method} {c : Code} {cells slots : Nat} {Z : State} {n0 : Nat} {a3 : Addr} {v3 : UInt64} {k3 : ClassId} {z3 : Int32} {d3 : Value} (hx : p.tables.exec = Jvm.exec) (hZ : Z.Warmed39 s.vm) (hby : c.code = jdk_65_method_113_code) (g_a3 : n0 ≤ a3) :
    ∀ (k i : Nat) (T : State) (h : Heap) (locs : List Loc), i + k = z3.toNatClampNeg → Stand p l e R s m args below meth c T locs cells slots → T.heap = h → Fr n0 locs → Arv Z h a3 k3 .double z3 (List.replicate i (.double v3)) d3 → own_Go p e below (T.setTop (mkF m 6 #[.val (.ref a3), .val (.double v3), .second, .val (.int (Int32.ofNat i)), .val (.int z3)] [])) (fun B => ∃ (T' : State) (h' : Heap) (L' : List Loc) (i' : Int32), B = T'.setTop (mkF m 22 #[.val (.ref a3), .val (.double v3), .second, .val (.int i'), .val (.int z3)] []) ∧ Stand p l e R s m args below meth c T' L' cells slots ∧ T'.heap = h' ∧ Fr n0 L' ∧ Keep h h' [a3] ∧ Arv Z h' a3 k3 .double z3 [] (.double v3)) := by
  intro k
  induction k with
  | zero =>
    intro i T h locs hi X0 e0 N0 V
    refine own_via (B := T.setTop (mkF m 7 #[.val (.ref a3), .val (.double v3), .second, .val (.int (Int32.ofNat i)), .val (.int z3)] [(.int (Int32.ofNat i))])) (fun t k => XS.iloadN X0.here hx rfl (hb hby own_d3_6) rfl k) ?_
    refine own_via (B := T.setTop (mkF m 9 #[.val (.ref a3), .val (.double v3), .second, .val (.int (Int32.ofNat i)), .val (.int z3)] [(.int z3), (.int (Int32.ofNat i))])) (fun t k => XS.iload X0.here hx rfl (hb hby own_d3_7) rfl k) ?_
    have hc9 : ¬ ((Int32.ofNat i) < z3) := own_ge (by obtain ⟨_, _, _, _, M, _⟩ := V; exact M) hi
    refine own_via (B := T.setTop (mkF m 22 #[.val (.ref a3), .val (.double v3), .second, .val (.int (Int32.ofNat i)), .val (.int z3)] [])) (fun t k => XS.icmpYes X0.here hx rfl (pc0 := 9) (pc' := 22) rfl (hb hby own_d3_9) rfl (flt hc9).2.1 (by decide) (by decide) k) ?_
    exact own_done ⟨_, _, _, _, rfl, X0, e0, N0, Keep.refl _ _, own_full (by omega) V rfl⟩
  | succ k ih =>
    intro i T h locs hi X0 e0 N0 V
    have hg := own_go (by obtain ⟨_, _, _, _, M, _⟩ := V; exact M) hi
    refine own_via (B := T.setTop (mkF m 7 #[.val (.ref a3), .val (.double v3), .second, .val (.int (Int32.ofNat i)), .val (.int z3)] [(.int (Int32.ofNat i))])) (fun t k => XS.iloadN X0.here hx rfl (hb hby own_d3_6) rfl k) ?_
    refine own_via (B := T.setTop (mkF m 9 #[.val (.ref a3), .val (.double v3), .second, .val (.int (Int32.ofNat i)), .val (.int z3)] [(.int z3), (.int (Int32.ofNat i))])) (fun t k => XS.iload X0.here hx rfl (hb hby own_d3_7) rfl k) ?_
    have hc9 : (Int32.ofNat i) < z3 := hg.1
    refine own_via (B := T.setTop (mkF m 12 #[.val (.ref a3), .val (.double v3), .second, .val (.int (Int32.ofNat i)), .val (.int z3)] [])) (fun t k => XS.icmpNo X0.here hx rfl (hb hby own_d3_9) rfl (tlt hc9).2.1 k) ?_
    refine own_via (B := T.setTop (mkF m 13 #[.val (.ref a3), .val (.double v3), .second, .val (.int (Int32.ofNat i)), .val (.int z3)] [(.ref a3)])) (fun t k => XS.aloadN X0.here hx rfl (hb hby own_d3_12) rfl rfl k) ?_
    refine own_via (B := T.setTop (mkF m 14 #[.val (.ref a3), .val (.double v3), .second, .val (.int (Int32.ofNat i)), .val (.int z3)] [(.int (Int32.ofNat i)), (.ref a3)])) (fun t k => XS.iloadN X0.here hx rfl (hb hby own_d3_13) rfl k) ?_
    refine own_via (B := T.setTop (mkF m 15 #[.val (.ref a3), .val (.double v3), .second, .val (.int (Int32.ofNat i)), .val (.int z3)] [(.double v3), (.int (Int32.ofNat i)), (.ref a3)])) (fun t k => XS.dloadN X0.here hx rfl (hb hby own_d3_14) rfl k) ?_
    obtain ⟨cl, Ar, q1, S1, M1, H1, G1⟩ := V.pad (pad_rep _ d3 1)
    obtain ⟨T1, h1, X1, e1, W1, st1⟩ := stD X0 hx hZ e0 Ar (j := (Int32.ofNat i)) (inb_of S1 ⟨hg.2.1, hg.1⟩) (g := (mkF m 15 #[.val (.ref a3), .val (.double v3), .second, .val (.int (Int32.ofNat i)), .val (.int z3)] [(.double v3), (.int (Int32.ofNat i)), (.ref a3)])) rfl rfl (hb hby own_d3_15)
    have V1 := own_step Ar q1 S1 M1 H1 G1 rfl W1 hg.2.2
    have N1 := Fr.snoc X1 N0 g_a3
    refine own_via (B := T1.setTop (mkF m 16 #[.val (.ref a3), .val (.double v3), .second, .val (.int (Int32.ofNat i)), .val (.int z3)] [])) (fun t k => st1 t k) ?_
    refine own_via (B := T1.setTop (mkF m 19 #[.val (.ref a3), .val (.double v3), .second, .val (.int ((Int32.ofNat i) + (1 : Int32))), .val (.int z3)] [])) (fun t k => XS.iinc X1.here hx rfl (hb hby own_d3_16) rfl (l' := #[.val (.ref a3), .val (.double v3), .second, .val (.int ((Int32.ofNat i) + (1 : Int32))), .val (.int z3)]) rfl k) ?_
    refine own_via (B := T1.setTop (mkF m 6 #[.val (.ref a3), .val (.double v3), .second, .val (.int ((Int32.ofNat i) + (1 : Int32))), .val (.int z3)] [])) (fun t k => XS.goto X1.here hx rfl (pc0 := 19) (pc' := 6) rfl (hb hby own_d3_19) (by decide) (by decide) k) ?_
    refine own_bind (by have q := ih (i + 1) _ _ _ (by omega) X1 e1 N1 V1; rw [inc_ofNat] at q; exact q) ?_
    rintro B ⟨T', h', L', i', rfl, X', e', N', K', V'⟩
    exact own_done ⟨T', h', L', i', rfl, X', e', N', (Keep.of_wr W1).trans K' (allS (Or.inl (List.mem_of_getElem? (i := 0) rfl)) all0), V'⟩
theorem own_pn0 : plainName "java/util/Arrays" = true := by first | (simp [plainName, overriddenIn]; done) | decide +kernel
theorem own_ef3 (m : MethodId) (x0 : Addr) (x1 : UInt64) : entryFrame m #[(.ref x0), (.double x1)] 5 = mkF m 0 #[.val (.ref x0), .val (.double x1), .second, .unset, .unset] [] := by first | (simp [entryFrame, mkF, argsToLocals, Value.category]; done) | rfl
def Q3 (Z : State) (a3 : Addr) (v3 : UInt64) (k3 : ClassId) (z3 : Int32) (d3 : Value) (h0 : Heap) (n0 : Nat) (v : Option Value) (h : Heap) (L : List Loc) : Prop := v = none ∧ Fr n0 L ∧ Keep h0 h [a3] ∧ (Arv Z h a3 k3 .double z3 [] (.double v3))
set_option maxRecDepth 65536 in
set_option maxHeartbeats 40000000 in
theorem rm3 (l : Launch) (Z : State) (a0 : Array Value) (hw : ∀ d ∈ tables_1, d.before a0 Z = true) (ws : List Jvm.Cond) (a3 : Addr) (v3 : UInt64) (k3 : ClassId) (z3 : Int32) (d3 : Value) (h0 : Heap) (n0 : Nat) (Z0 : n0 ≤ h0.size) (V3 : Arv Z h0 a3 k3 .double z3 [] d3) (g_a3 : n0 ≤ a3) :
    MetFree l (⟨"java/util/Arrays", "fill", "([DD)V"⟩ : MethodName) (head1 (Jvm.Cond.code (⟨"java/util/Arrays", "fill", "([DD)V"⟩ : MethodName) jdk_65_method_113_code 5 none :: ws) ({ frames := 0, cells := 0, slots := 0, locals := 0 } : Room)) (fun a U => a = #[(.ref a3), (.double v3)] ∧ Z.Warmed39 U.vm ∧ U.heap = h0) (fun _ _ _ _ _ => True) (fun _ U o U' => ∃ v L, o = .returned v ∧ Q3 Z a3 v3 k3 z3 d3 h0 n0 v U'.heap L ∧ FrameEnd U o U' L ({ frames := 0, cells := 0, slots := 0, locals := 0 } : Room).cells ({ frames := 0, cells := 0, slots := 0, locals := 0 } : Room).slots) := by
  refine MetFree.of_bodySF (plainFor_of_name own_pn0) hisR ?_
  intro p e s m args below meth c s₁ Bd hml0 hP hK
  obtain ⟨rfl, hZ, hh⟩ := hP
  have hx := Bd.exec
  have hby := Bd.bytes
  have hlk : meth.locks = false := Bd.notSynchronized
  have hml : c.maxLocals = 5 := hml0
  have hown : s.vm.findClass "java/util/Arrays" = some m.cls := findClass_of_methodNamed Bd.named
  have hnm := (name_of_methodNamed Bd.named Bd.method).1
  have X0 : Stand p l e ({ frames := 0, cells := 0, slots := 0, locals := 0 } : Room) s m #[(.ref a3), (.double v3)] below meth c s₁ [] 0 0 := Stand.of_body Bd
  have e0 : s₁.heap = h0 := by rw [← hh, Bd.state]; rfl
  have N0 := Fr.nil n0
  refine own_body (A := s₁.setTop (mkF m 0 #[.val (.ref a3), .val (.double v3), .second, .unset, .unset] [])) (Q := Q3 Z a3 v3 k3 z3 d3 h0 n0) (fun t k => castTop (own_ef3 m a3 v3) k) ?_
  refine own_via (B := s₁.setTop (mkF m 1 #[.val (.ref a3), .val (.double v3), .second, .unset, .unset] [(.int (0 : Int32))])) (fun t k => XS.iconst X0.here hx rfl (hb hby own_d3_0) k) ?_
  refine own_via (B := s₁.setTop (mkF m 2 #[.val (.ref a3), .val (.double v3), .second, .val (.int (0 : Int32)), .unset] [])) (fun t k => XS.istoreN X0.here hx rfl (hb hby own_d3_1) rfl (l' := #[.val (.ref a3), .val (.double v3), .second, .val (.int (0 : Int32)), .unset]) rfl k) ?_
  refine own_via (B := s₁.setTop (mkF m 3 #[.val (.ref a3), .val (.double v3), .second, .val (.int (0 : Int32)), .unset] [(.ref a3)])) (fun t k => XS.aloadN X0.here hx rfl (hb hby own_d3_2) rfl rfl k) ?_
  obtain ⟨cl1, Ar1, q1, S1, M1, H1, G1⟩ := id V3
  refine own_via (B := s₁.setTop (mkF m 4 #[.val (.ref a3), .val (.double v3), .second, .val (.int (0 : Int32)), .unset] [(.int z3)])) (fun t k => X0.arraylength hx (by rw [e0]; exact Ar1.1) (State.isArrayOf_alike hZ.alike Ar1.2.1) (g := (mkF m 3 #[.val (.ref a3), .val (.double v3), .second, .val (.int (0 : Int32)), .unset] [(.ref a3)])) rfl rfl (hb hby own_d3_3) _ (by rw [len_of S1 M1]; exact k)) ?_
  refine own_via (B := s₁.setTop (mkF m 6 #[.val (.ref a3), .val (.double v3), .second, .val (.int (0 : Int32)), .val (.int z3)] [])) (fun t k => XS.istore X0.here hx rfl (hb hby own_d3_4) rfl (l' := #[.val (.ref a3), .val (.double v3), .second, .val (.int (0 : Int32)), .val (.int z3)]) rfl k) ?_
  refine own_bind (own_loop3 hx hZ hby g_a3 z3.toNatClampNeg 0 _ _ _ (by omega) X0 e0 N0 V3) ?_
  rintro B ⟨T9, h9, L9, i9, rfl, X9, e9, N9, K9, Vf⟩
  refine own_leafV X9 hx hlk Bd.returns (hb hby own_d3_22) (by decide) (by decide) ?_
  show Q3 Z a3 v3 k3 z3 d3 h0 n0 _ T9.heap _
  rw [e9]
  refine ⟨?_, N9, ((Keep.refl h0 [a3]).trans K9 (allS (Or.inl (List.mem_of_getElem? (i := 0) rfl)) all0)), Vf⟩
  rfl
theorem own_pn1 : plainName "com/example/meerkat/meerkat/plan/ProcessorSharing" = true := by first | (simp [plainName, overriddenIn]; done) | decide +kernel
theorem own_pd0 : parseMethodDescriptor "([DD)V" = some ⟨[(.array .double), .double], none⟩ := by decide +kernel
theorem own_d2_0 : decode prog_11_method_6_code 0 = .ok (.iload_n 0, 1) := by decide +kernel
theorem own_d2_1 : decode prog_11_method_6_code 1 = .ok (.iconst 1, 1) := by decide +kernel
theorem own_d2_2 : decode prog_11_method_6_code 2 = .ok (.if_icmp .ge 13, 3) := by decide +kernel
theorem own_d2_15 : decode prog_11_method_6_code 15 = .ok (.iload_n 0, 1) := by decide +kernel
theorem own_d2_16 : decode prog_11_method_6_code 16 = .ok (.newarray .double, 2) := by decide +kernel
theorem own_d2_18 : decode prog_11_method_6_code 18 = .ok (.astore_n 1, 1) := by decide +kernel
theorem own_d2_19 : decode prog_11_method_6_code 19 = .ok (.aload_n 1, 1) := by decide +kernel
theorem own_d2_20 : decode prog_11_method_6_code 20 = .ok (.dconst 1, 1) := by decide +kernel
theorem own_d2_21 : decode prog_11_method_6_code 21 = .ok (.iload_n 0, 1) := by decide +kernel
theorem own_d2_22 : decode prog_11_method_6_code 22 = .ok (.i2d, 1) := by decide +kernel
theorem own_d2_23 : decode prog_11_method_6_code 23 = .ok (.ddiv, 1) := by decide +kernel
theorem own_d2_24 : decode prog_11_method_6_code 24 = .ok (.invokestatic 76, 3) := by decide +kernel
theorem own_d2_27 : decode prog_11_method_6_code 27 = .ok (.aload_n 1, 1) := by decide +kernel
theorem own_d2_28 : decode prog_11_method_6_code 28 = .ok (.areturn, 1) := by decide +kernel
theorem own_ef2 (m : MethodId) (x0 : Int32) : entryFrame m #[(.int x0)] 2 = mkF m 0 #[.val (.int x0), .unset] [] := by first | (simp [entryFrame, mkF, argsToLocals, Value.category]; done) | rfl
def Q2 (Z : State) (p2 : Int32) (h0 : Heap) (n0 : Nat) (v : Option Value) (h : Heap) (L : List Loc) : Prop := ∃ (r : Addr) (kr : ClassId), v = some (.ref r) ∧ Fr n0 L ∧ Keep h0 h [] ∧ (Arv Z h r kr .double p2 [] (.double (FP.ddiv FP.dconst1 (FP.i2d p2))))
set_option maxRecDepth 65536 in
set_option maxHeartbeats 40000000 in
theorem rm2 (l : Launch) (Z : State) (a0 : Array Value) (hw : ∀ d ∈ tables_1, d.before a0 Z = true) (ws : List Jvm.Cond) (p2 : Int32) (h0 : Heap) (n0 : Nat) (Z0 : n0 ≤ h0.size) (hp : ¬ (p2 < (1 : Int32))) (hp2 : p2.toNatClampNeg ≤ 1024) :
    MetFree l (⟨"com/example/meerkat/meerkat/plan/ProcessorSharing", "equalShares", "(I)[D"⟩ : MethodName) (head1 (Jvm.Cond.code (⟨"com/example/meerkat/meerkat/plan/ProcessorSharing", "equalShares", "(I)[D"⟩ : MethodName) prog_11_method_6_code 2 (some (.array .double)) :: ws) ({ frames := 1, cells := 1, slots := 1024, locals := 16 } : Room)) (fun a U => a = #[(.int p2)] ∧ Z.Warmed39 U.vm ∧ U.heap = h0) (fun _ _ _ _ _ => True) (fun _ U o U' => ∃ v L, o = .returned v ∧ Q2 Z p2 h0 n0 v U'.heap L ∧ FrameEnd U o U' L ({ frames := 1, cells := 1, slots := 1024, locals := 16 } : Room).cells ({ frames := 1, cells := 1, slots := 1024, locals := 16 } : Room).slots) := by
  refine MetFree.of_bodySF (plainFor_of_name own_pn1) hisR ?_
  intro p e s m args below meth c s₁ Bd hml0 hP hK
  obtain ⟨rfl, hZ, hh⟩ := hP
  have hx := Bd.exec
  have hby := Bd.bytes
  have hlk : meth.locks = false := Bd.notSynchronized
  have hml : c.maxLocals = 2 := hml0
  have hown : s.vm.findClass "com/example/meerkat/meerkat/plan/ProcessorSharing" = some m.cls := findClass_of_methodNamed Bd.named
  have hnm := (name_of_methodNamed Bd.named Bd.method).1
  have X0 : Stand p l e ({ frames := 1, cells := 1, slots := 1024, locals := 16 } : Room) s m #[(.int p2)] below meth c s₁ [] 0 0 := Stand.of_body Bd
  have e0 : s₁.heap = h0 := by rw [← hh, Bd.state]; rfl
  have N0 := Fr.nil n0
  refine own_body (A := s₁.setTop (mkF m 0 #[.val (.int p2), .unset] [])) (Q := Q2 Z p2 h0 n0) (fun t k => castTop (own_ef2 m p2) k) ?_
  refine own_via (B := s₁.setTop (mkF m 1 #[.val (.int p2), .unset] [(.int p2)])) (fun t k => XS.iloadN X0.here hx rfl (hb hby own_d2_0) rfl k) ?_
  refine own_via (B := s₁.setTop (mkF m 2 #[.val (.int p2), .unset] [(.int (1 : Int32)), (.int p2)])) (fun t k => XS.iconst X0.here hx rfl (hb hby own_d2_1) k) ?_
  have hc2 : ¬ (p2 < (1 : Int32)) := hp
  refine own_via (B := s₁.setTop (mkF m 15 #[.val (.int p2), .unset] [])) (fun t k => XS.icmpYes X0.here hx rfl (pc0 := 2) (pc' := 15) rfl (hb hby own_d2_2) rfl (flt hc2).2.1 (by decide) (by decide) k) ?_
  refine own_via (B := s₁.setTop (mkF m 16 #[.val (.int p2), .unset] [(.int p2)])) (fun t k => XS.iloadN X0.here hx rfl (hb hby own_d2_15) rfl k) ?_
  obtain ⟨T1, h1, kc1, X1, e1, E1, A1, st1⟩ := newP X0 hx hZ (hw _ (List.mem_of_getElem? (i := 4) rfl)) e0 (g := (mkF m 16 #[.val (.int p2), .unset] [(.int p2)])) rfl (hb hby own_d2_16) rfl (own_pos hp).1 (cap := 1024) hp2 (by decide) (by decide) (by decide)
  obtain ⟨bA, g1⟩ : ∃ z, z = h0.size := ⟨_, rfl⟩
  rw [← g1] at A1 st1
  have g_bA : n0 ≤ bA := Nat.le_trans Z0 (Nat.le_of_eq g1.symm)
  have V1 : Arv Z h1 bA kc1 .double p2 [] (.double (0 : UInt64)) := Arv.new A1 (own_pos hp).1
  refine own_via (B := T1.setTop (mkF m 18 #[.val (.int p2), .unset] [(.ref bA)])) (fun t k => st1 t k) ?_
  refine own_via (B := T1.setTop (mkF m 19 #[.val (.int p2), .val (.ref bA)] [])) (fun t k => XS.astoreN X1.here hx rfl (hb hby own_d2_18) rfl rfl (l' := #[.val (.int p2), .val (.ref bA)]) rfl k) ?_
  refine own_via (B := T1.setTop (mkF m 20 #[.val (.int p2), .val (.ref bA)] [(.ref bA)])) (fun t k => XS.aloadN X1.here hx rfl (hb hby own_d2_19) rfl rfl k) ?_
  refine own_via (B := T1.setTop (mkF m 21 #[.val (.int p2), .val (.ref bA)] [(.double FP.dconst1), (.ref bA)])) (fun t k => XS.dconst1 X1.here hx rfl (hb hby own_d2_20) rfl k) ?_
  refine own_via (B := T1.setTop (mkF m 22 #[.val (.int p2), .val (.ref bA)] [(.int p2), (.double FP.dconst1), (.ref bA)])) (fun t k => XS.iloadN X1.here hx rfl (hb hby own_d2_21) rfl k) ?_
  refine own_via (B := T1.setTop (mkF m 23 #[.val (.int p2), .val (.ref bA)] [(.double (FP.i2d p2)), (.double FP.dconst1), (.ref bA)])) (fun t k => XS.i2dS X1.here hx rfl (hb hby own_d2_22) rfl rfl k) ?_
  refine own_via (B := T1.setTop (mkF m 24 #[.val (.int p2), .val (.ref bA)] [(.double (FP.ddiv FP.dconst1 (FP.i2d p2))), (.ref bA)])) (fun t k => XS.ddivS X1.here hx rfl (hb hby own_d2_23) rfl (own_share p2) rfl k) ?_
  obtain ⟨_, _, ⟨T2, L2, k2, n2⟩, -, X2, ⟨Lc2, hQ2, l2, y2, z2⟩, st2⟩ := Jvm.LawKit.callS X1 hx (y := (⟨"java/util/Arrays", "fill", "([DD)V"⟩ : MethodName)) hown (mvT hZ (hw _ (List.mem_of_getElem? (i := 5) rfl))) (mvT hZ (hw _ (List.mem_of_getElem? (i := 6) rfl))) (mvT hZ (hw _ (List.mem_of_getElem? (i := 7) rfl))) (mvT hZ (hw _ (List.mem_of_getElem? (i := 8) rfl))) (by decide) (backOf (W := 0) (rm3 l Z a0 hw [] bA (FP.ddiv FP.dconst1 (FP.i2d p2)) kc1 p2 (.double (0 : UInt64)) h1 n0 (Nat.le_trans Z0 E1.1) V1 g_bA) hZ (hw _ (List.mem_of_getElem? (i := 8) rfl)) (hw _ (List.mem_of_getElem? (i := 7) rfl)) (by decide) (by decide)) (g := (mkF m 24 #[.val (.int p2), .val (.ref bA)] [(.double (FP.ddiv FP.dconst1 (FP.i2d p2))), (.ref bA)])) rfl (by rw [hml]; rfl) (argsL := [(.ref bA), (.double (FP.ddiv FP.dconst1 (FP.i2d p2)))]) (rest := []) (lenOf own_pd0 rfl) rfl (by show 2 * 0 + _ ≤ _; exact Nat.le_of_eq rfl) (hb hby own_d2_24) (fun _ _ => ⟨rfl, e1, (by decide : (0 + 1) + 0 ≤ _), (by decide : (0 + 1024) + 0 ≤ _)⟩)
  dsimp only [Pt.U, Pt.locs, Pt.cells, Pt.slots] at X2 l2 y2 z2 st2 hQ2
  subst l2 y2 z2
  obtain ⟨rfl, Nq2, Kq2, f2_0⟩ := hQ2
  have N2 := Fr.app N0 Nq2
  refine own_via (B := T2.setTop (mkF m 27 #[.val (.int p2), .val (.ref bA)] [])) (fun t k => st2 t k) ?_
  refine own_via (B := T2.setTop (mkF m 28 #[.val (.int p2), .val (.ref bA)] [(.ref bA)])) (fun t k => XS.aloadN X2.here hx rfl (hb hby own_d2_27) rfl rfl k) ?_
  refine own_leaf X2 hx hlk (t := (.array .double)) Bd.returns rfl (Or.inr (Or.inr (Or.inr (Or.inr ⟨rfl, rfl, rfl⟩)))) (hb hby own_d2_28) (by decide) (by decide) ?_
  show Q2 Z p2 h0 n0 _ T2.heap _
  refine ⟨bA, kc1, ?_, N2, (((Keep.refl h0 []).ext E1).trans Kq2 (allS (Or.inr (Nat.le_of_eq g1.symm)) all0)), f2_0⟩
  rfl
theorem own_pn2 : plainName "com/example/meerkat/meerkat/plan/ProcessorSharingEqualSharesPinLaw" = true := by first | (simp [plainName, overriddenIn]; done) | decide +kernel
theorem own_pd1 : parseMethodDescriptor "(I)[D" = some ⟨[.int], some (.array .double)⟩ := by decide +kernel
theorem own_ef0 (m : MethodId) (x0 : Int32) (x1 : Int32) : entryFrame m #[(.int x0), (.int x1)] maxLocals = mkF m 0 #[.val (.int x0), .val (.int x1), .unset, .unset, .unset, .unset, .unset] [] := by first | (simp [entryFrame, mkF, argsToLocals, Value.category, maxLocals]; done) | rfl
def Q0 (Z : State) (i0 : Int32) (i1 : Int32) (h0 : Heap) (n0 : Nat) (v : Option Value) (h : Heap) (L : List Loc) : Prop := v = some (.int 1) ∧ Fr n0 L
set_option maxRecDepth 65536 in
set_option maxHeartbeats 40000000 in
theorem rm0 (l : Launch) (Z : State) (a0 : Array Value) (hw : ∀ d ∈ tables_1, d.before a0 Z = true) (ws : List Jvm.Cond) (i0 : Int32) (i1 : Int32) (h0 : Heap) (n0 : Nat) (Z0 : n0 ≤ h0.size) :
    MetFree l x (head1 (Jvm.Cond.code x code maxLocals ret :: ws) room_1) (fun a U => a = #[(.int i0), (.int i1)] ∧ Z.Warmed39 U.vm ∧ U.heap = h0) (fun _ _ _ _ _ => True) (fun _ U o U' => ∃ v L, o = .returned v ∧ Q0 Z i0 i1 h0 n0 v U'.heap L ∧ FrameEnd U o U' L room_1.cells room_1.slots) := by
  refine MetFree.of_bodySF (plainFor_of_name own_pn2) hisR ?_
  intro p e s m args below meth c s₁ Bd hml0 hP hK
  obtain ⟨rfl, hZ, hh⟩ := hP
  have hx := Bd.exec
  have hby := Bd.bytes
  have hlk : meth.locks = false := Bd.notSynchronized
  have hml : c.maxLocals = 7 := hml0
  have hown : s.vm.findClass "com/example/meerkat/meerkat/plan/ProcessorSharingEqualSharesPinLaw" = some m.cls := findClass_of_methodNamed Bd.named
  have hnm := (name_of_methodNamed Bd.named Bd.method).1
  have X0 : Stand p l e room_1 s m #[(.int i0), (.int i1)] below meth c s₁ [] 0 0 := Stand.of_body Bd
  have e0 : s₁.heap = h0 := by rw [← hh, Bd.state]; rfl
  have N0 := Fr.nil n0
  refine own_body (A := s₁.setTop (mkF m 0 #[.val (.int i0), .val (.int i1), .unset, .unset, .unset, .unset, .unset] [])) (Q := Q0 Z i0 i1 h0 n0) (fun t k => castTop (own_ef0 m i0 i1) k) ?_
  refine own_via (B := s₁.setTop (mkF m 1 #[.val (.int i0), .val (.int i1), .unset, .unset, .unset, .unset, .unset] [(.int i0)])) (fun t k => XS.iloadN X0.here hx rfl (hb hby at_0) rfl k) ?_
  refine own_via (B := s₁.setTop (mkF m 4 #[.val (.int i0), .val (.int i1), .unset, .unset, .unset, .unset, .unset] [(.int (1023 : Int32)), (.int i0)])) (fun t k => XS.sipush X0.here hx rfl (hb hby at_1) k) ?_
  refine own_via (B := s₁.setTop (mkF m 5 #[.val (.int i0), .val (.int i1), .unset, .unset, .unset, .unset, .unset] [(.int (i0 &&& (1023 : Int32)))])) (fun t k => XS.iand X0.here hx rfl (hb hby at_4) rfl k) ?_
  refine own_via (B := s₁.setTop (mkF m 6 #[.val (.int i0), .val (.int i1), .unset, .unset, .unset, .unset, .unset] [(.int (1 : Int32)), (.int (i0 &&& (1023 : Int32)))])) (fun t k => XS.iconst X0.here hx rfl (hb hby at_5) k) ?_
  refine own_via (B := s₁.setTop (mkF m 7 #[.val (.int i0), .val (.int i1), .unset, .unset, .unset, .unset, .unset] [(.int ((i0 &&& (1023 : Int32)) + (1 : Int32)))])) (fun t k => XS.iadd X0.here hx rfl (hb hby at_6) rfl k) ?_
  refine own_via (B := s₁.setTop (mkF m 8 #[.val (.int i0), .val (.int i1), .val (.int ((i0 &&& (1023 : Int32)) + (1 : Int32))), .unset, .unset, .unset, .unset] [])) (fun t k => XS.istoreN X0.here hx rfl (hb hby at_7) rfl (l' := #[.val (.int i0), .val (.int i1), .val (.int ((i0 &&& (1023 : Int32)) + (1 : Int32))), .unset, .unset, .unset, .unset]) rfl k) ?_
  generalize hs7 : ((i0 &&& (1023 : Int32)) + (1 : Int32)) = s7
  refine own_via (B := s₁.setTop (mkF m 9 #[.val (.int i0), .val (.int i1), .val (.int s7), .unset, .unset, .unset, .unset] [(.int s7)])) (fun t k => XS.iloadN X0.here hx rfl (hb hby at_8) rfl k) ?_
  obtain ⟨_, _, ⟨T1, L1, k1, n1⟩, -, X1, ⟨Lc1, hQ1, l1, y1, z1⟩, st1⟩ := Jvm.LawKit.callS X0 hx (y := (⟨"com/example/meerkat/meerkat/plan/ProcessorSharing", "equalShares", "(I)[D"⟩ : MethodName)) hown (mvT hZ (hw _ (List.mem_of_getElem? (i := 0) rfl))) (mvT hZ (hw _ (List.mem_of_getElem? (i := 1) rfl))) (mvT hZ (hw _ (List.mem_of_getElem? (i := 2) rfl))) (mvT hZ (hw _ (List.mem_of_getElem? (i := 3) rfl))) (by decide) (backOf (W := 0) (rm2 l Z a0 hw [] s7 h0 n0 Z0 (by rw [← hs7]; exact (own_n i0).1) (by rw [← hs7]; exact (own_n i0).2.1)) hZ (hw _ (List.mem_of_getElem? (i := 3) rfl)) (hw _ (List.mem_of_getElem? (i := 2) rfl)) (by decide) (by decide)) (g := (mkF m 9 #[.val (.int i0), .val (.int i1), .val (.int s7), .unset, .unset, .unset, .unset] [(.int s7)])) rfl (by rw [hml]; rfl) (argsL := [(.int s7)]) (rest := []) (lenOf own_pd1 rfl) rfl (by show 2 * 0 + _ ≤ _; exact Nat.le_of_eq rfl) (hb hby at_9) (fun _ _ => ⟨rfl, e0, (by decide : 0 + 1 ≤ _), (by decide : 0 + 1024 ≤ _)⟩)
  dsimp only [Pt.U, Pt.locs, Pt.cells, Pt.slots] at X1 l1 y1 z1 st1 hQ1
  subst l1 y1 z1
  obtain ⟨r_1, kr_1, rfl, Nq1, Kq1, f1_0⟩ := hQ1
  have N1 := Fr.app N0 Nq1
  refine own_via (B := T1.setTop (mkF m 12 #[.val (.int i0), .val (.int i1), .val (.int s7), .unset, .unset, .unset, .unset] [(.ref r_1)])) (fun t k => st1 t k) ?_
  refine own_via (B := T1.setTop (mkF m 13 #[.val (.int i0), .val (.int i1), .val (.int s7), .val (.ref r_1), .unset, .unset, .unset] [])) (fun t k => XS.astoreN X1.here hx rfl (hb hby at_12) rfl rfl (l' := #[.val (.int i0), .val (.int i1), .val (.int s7), .val (.ref r_1), .unset, .unset, .unset]) rfl k) ?_
  refine own_via (B := T1.setTop (mkF m 14 #[.val (.int i0), .val (.int i1), .val (.int s7), .val (.ref r_1), .unset, .unset, .unset] [(.ref r_1)])) (fun t k => XS.aloadN X1.here hx rfl (hb hby at_13) rfl rfl k) ?_
  refine own_via (B := T1.setTop (mkF m 17 #[.val (.int i0), .val (.int i1), .val (.int s7), .val (.ref r_1), .unset, .unset, .unset] [])) (fun t k => XS.ifnullNo X1.here hx rfl (hb hby at_14) rfl k) ?_
  refine own_via (B := T1.setTop (mkF m 18 #[.val (.int i0), .val (.int i1), .val (.int s7), .val (.ref r_1), .unset, .unset, .unset] [(.ref r_1)])) (fun t k => XS.aloadN X1.here hx rfl (hb hby at_17) rfl rfl k) ?_
  obtain ⟨cl2, Ar2, q2, S2, M2, H2, G2⟩ := id f1_0
  refine own_via (B := T1.setTop (mkF m 19 #[.val (.int i0), .val (.int i1), .val (.int s7), .val (.ref r_1), .unset, .unset, .unset] [(.int s7)])) (fun t k => X1.arraylength hx (Ar2.1) (State.isArrayOf_alike hZ.alike Ar2.2.1) (g := (mkF m 18 #[.val (.int i0), .val (.int i1), .val (.int s7), .val (.ref r_1), .unset, .unset, .unset] [(.ref r_1)])) rfl rfl (hb hby at_18) _ (by rw [len_of S2 M2]; exact k)) ?_
  refine own_via (B := T1.setTop (mkF m 20 #[.val (.int i0), .val (.int i1), .val (.int s7), .val (.ref r_1), .unset, .unset, .unset] [(.int s7), (.int s7)])) (fun t k => XS.iloadN X1.here hx rfl (hb hby at_19) rfl k) ?_
  have hc20 : s7 = s7 := rfl
  refine own_via (B := T1.setTop (mkF m 25 #[.val (.int i0), .val (.int i1), .val (.int s7), .val (.ref r_1), .unset, .unset, .unset] [])) (fun t k => XS.icmpYes X1.here hx rfl (pc0 := 20) (pc' := 25) rfl (hb hby at_20) rfl (teq hc20).1 (by decide) (by decide) k) ?_
  refine own_via (B := T1.setTop (mkF m 26 #[.val (.int i0), .val (.int i1), .val (.int s7), .val (.ref r_1), .unset, .unset, .unset] [(.double FP.dconst1)])) (fun t k => XS.dconst1 X1.here hx rfl (hb hby at_25) rfl k) ?_
  refine own_via (B := T1.setTop (mkF m 27 #[.val (.int i0), .val (.int i1), .val (.int s7), .val (.ref r_1), .unset, .unset, .unset] [(.int s7), (.double FP.dconst1)])) (fun t k => XS.iloadN X1.here hx rfl (hb hby at_26) rfl k) ?_
  refine own_via (B := T1.setTop (mkF m 28 #[.val (.int i0), .val (.int i1), .val (.int s7), .val (.ref r_1), .unset, .unset, .unset] [(.double (FP.i2d s7)), (.double FP.dconst1)])) (fun t k => XS.i2dS X1.here hx rfl (hb hby at_27) rfl rfl k) ?_
  refine own_via (B := T1.setTop (mkF m 29 #[.val (.int i0), .val (.int i1), .val (.int s7), .val (.ref r_1), .unset, .unset, .unset] [(.double (FP.ddiv FP.dconst1 (FP.i2d s7)))])) (fun t k => XS.ddivS X1.here hx rfl (hb hby at_28) rfl (own_share s7) rfl k) ?_
  refine own_via (B := T1.setTop (mkF m 31 #[.val (.int i0), .val (.int i1), .val (.int s7), .val (.ref r_1), .val (.double (FP.ddiv FP.dconst1 (FP.i2d s7))), .second, .unset] [])) (fun t k => XS.dstore X1.here hx rfl (hb hby at_29) rfl (l' := #[.val (.int i0), .val (.int i1), .val (.int s7), .val (.ref r_1), .val (.double (FP.ddiv FP.dconst1 (FP.i2d s7))), .second, .unset]) rfl k) ?_
  refine own_via (B := T1.setTop (mkF m 32 #[.val (.int i0), .val (.int i1), .val (.int s7), .val (.ref r_1), .val (.double (FP.ddiv FP.dconst1 (FP.i2d s7))), .second, .unset] [(.int i1)])) (fun t k => XS.iloadN X1.here hx rfl (hb hby at_31) rfl k) ?_
  refine own_via (B := T1.setTop (mkF m 34 #[.val (.int i0), .val (.int i1), .val (.int s7), .val (.ref r_1), .val (.double (FP.ddiv FP.dconst1 (FP.i2d s7))), .second, .unset] [(.int (2147483647 : Int32)), (.int i1)])) (fun t k => X1.ldcInt hx hown (mvT hZ (hw _ (List.mem_of_getElem? (i := 9) rfl))) (g := (mkF m 32 #[.val (.int i0), .val (.int i1), .val (.int s7), .val (.ref r_1), .val (.double (FP.ddiv FP.dconst1 (FP.i2d s7))), .second, .unset] [(.int i1)])) rfl (hb hby at_32) _ k) ?_
  refine own_via (B := T1.setTop (mkF m 35 #[.val (.int i0), .val (.int i1), .val (.int s7), .val (.ref r_1), .val (.double (FP.ddiv FP.dconst1 (FP.i2d s7))), .second, .unset] [(.int (i1 &&& (2147483647 : Int32)))])) (fun t k => XS.iand X1.here hx rfl (hb hby at_34) rfl k) ?_
  refine own_via (B := T1.setTop (mkF m 36 #[.val (.int i0), .val (.int i1), .val (.int s7), .val (.ref r_1), .val (.double (FP.ddiv FP.dconst1 (FP.i2d s7))), .second, .unset] [(.int s7), (.int (i1 &&& (2147483647 : Int32)))])) (fun t k => XS.iloadN X1.here hx rfl (hb hby at_35) rfl k) ?_
  refine own_via (B := T1.setTop (mkF m 37 #[.val (.int i0), .val (.int i1), .val (.int s7), .val (.ref r_1), .val (.double (FP.ddiv FP.dconst1 (FP.i2d s7))), .second, .unset] [(.int ((i1 &&& (2147483647 : Int32)) % s7))])) (fun t k => iremM X1 hx rfl (hb hby at_36) rfl (own_pos (by rw [← hs7]; exact (own_n i0).1)).2.1 k) ?_
  refine own_via (B := T1.setTop (mkF m 39 #[.val (.int i0), .val (.int i1), .val (.int s7), .val (.ref r_1), .val (.double (FP.ddiv FP.dconst1 (FP.i2d s7))), .second, .val (.int ((i1 &&& (2147483647 : Int32)) % s7))] [])) (fun t k => XS.istore X1.here hx rfl (hb hby at_37) rfl (l' := #[.val (.int i0), .val (.int i1), .val (.int s7), .val (.ref r_1), .val (.double (FP.ddiv FP.dconst1 (FP.i2d s7))), .second, .val (.int ((i1 &&& (2147483647 : Int32)) % s7))]) rfl k) ?_
  generalize hs37 : ((i1 &&& (2147483647 : Int32)) % s7) = s37
  refine own_via (B := T1.setTop (mkF m 40 #[.val (.int i0), .val (.int i1), .val (.int s7), .val (.ref r_1), .val (.double (FP.ddiv FP.dconst1 (FP.i2d s7))), .second, .val (.int s37)] [(.ref r_1)])) (fun t k => XS.aloadN X1.here hx rfl (hb hby at_39) rfl rfl k) ?_
  refine own_via (B := T1.setTop (mkF m 41 #[.val (.int i0), .val (.int i1), .val (.int s7), .val (.ref r_1), .val (.double (FP.ddiv FP.dconst1 (FP.i2d s7))), .second, .val (.int s37)] [(.int (0 : Int32)), (.ref r_1)])) (fun t k => XS.iconst X1.here hx rfl (hb hby at_40) k) ?_
  obtain ⟨cl3, Ar3, q3, S3, M3, H3, G3⟩ := id f1_0
  have hin3 : ¬ ((0 : Int32) < 0 ∨ cl3.slots.size ≤ ((0 : Int32)).toNatClampNeg) := inb_of S3 ⟨by decide, (own_pos (by rw [← hs7]; exact (own_n i0).1)).2.2.1⟩
  refine own_via (B := T1.setTop (mkF m 42 #[.val (.int i0), .val (.int i1), .val (.int s7), .val (.ref r_1), .val (.double (FP.ddiv FP.dconst1 (FP.i2d s7))), .second, .val (.int s37)] [(.double (FP.ddiv FP.dconst1 (FP.i2d s7)))])) (fun t k => X1.daload hx (j := (0 : Int32)) (v := (.double (FP.ddiv FP.dconst1 (FP.i2d s7)))) (Ar3.1) (State.isArrayOf_alike hZ.alike Ar3.2.1) Ar3.2.2 hin3 (Has.at H3 hin3 rfl) (g := (mkF m 41 #[.val (.int i0), .val (.int i1), .val (.int s7), .val (.ref r_1), .val (.double (FP.ddiv FP.dconst1 (FP.i2d s7))), .second, .val (.int s37)] [(.int (0 : Int32)), (.ref r_1)])) rfl rfl (hb hby at_41) _ k) ?_
  refine own_via (B := T1.setTop (mkF m 44 #[.val (.int i0), .val (.int i1), .val (.int s7), .val (.ref r_1), .val (.double (FP.ddiv FP.dconst1 (FP.i2d s7))), .second, .val (.int s37)] [(.double (FP.ddiv FP.dconst1 (FP.i2d s7))), (.double (FP.ddiv FP.dconst1 (FP.i2d s7)))])) (fun t k => XS.dload X1.here hx rfl (hb hby at_42) rfl k) ?_
  refine own_via (B := T1.setTop (mkF m 45 #[.val (.int i0), .val (.int i1), .val (.int s7), .val (.ref r_1), .val (.double (FP.ddiv FP.dconst1 (FP.i2d s7))), .second, .val (.int s37)] [(.int (cmpValue (FP.dcmp (FP.ddiv FP.dconst1 (FP.i2d s7)) (FP.ddiv FP.dconst1 (FP.i2d s7))) .l))])) (fun t k => XS.dcmpS X1.here hx rfl (hb hby at_44) rfl rfl k) ?_
  have hc45 : (cmpValue (FP.dcmp (FP.ddiv FP.dconst1 (FP.i2d s7)) (FP.ddiv FP.dconst1 (FP.i2d s7))) .l) = (0 : Int32) := dcmpV_self (own_share s7) .l
  refine own_via (B := T1.setTop (mkF m 48 #[.val (.int i0), .val (.int i1), .val (.int s7), .val (.ref r_1), .val (.double (FP.ddiv FP.dconst1 (FP.i2d s7))), .second, .val (.int s37)] [])) (fun t k => XS.ifNo X1.here hx rfl (hb hby at_45) rfl ((if0 _ _).trans (teq hc45).2) k) ?_
  refine own_via (B := T1.setTop (mkF m 49 #[.val (.int i0), .val (.int i1), .val (.int s7), .val (.ref r_1), .val (.double (FP.ddiv FP.dconst1 (FP.i2d s7))), .second, .val (.int s37)] [(.ref r_1)])) (fun t k => XS.aloadN X1.here hx rfl (hb hby at_48) rfl rfl k) ?_
  refine own_via (B := T1.setTop (mkF m 50 #[.val (.int i0), .val (.int i1), .val (.int s7), .val (.ref r_1), .val (.double (FP.ddiv FP.dconst1 (FP.i2d s7))), .second, .val (.int s37)] [(.int s7), (.ref r_1)])) (fun t k => XS.iloadN X1.here hx rfl (hb hby at_49) rfl k) ?_
  refine own_via (B := T1.setTop (mkF m 51 #[.val (.int i0), .val (.int i1), .val (.int s7), .val (.ref r_1), .val (.double (FP.ddiv FP.dconst1 (FP.i2d s7))), .second, .val (.int s37)] [(.int (1 : Int32)), (.int s7), (.ref r_1)])) (fun t k => XS.iconst X1.here hx rfl (hb hby at_50) k) ?_
  refine own_via (B := T1.setTop (mkF m 52 #[.val (.int i0), .val (.int i1), .val (.int s7), .val (.ref r_1), .val (.double (FP.ddiv FP.dconst1 (FP.i2d s7))), .second, .val (.int s37)] [(.int (s7 - (1 : Int32))), (.ref r_1)])) (fun t k => XS.isub X1.here hx rfl (hb hby at_51) rfl k) ?_
  obtain ⟨cl4, Ar4, q4, S4, M4, H4, G4⟩ := id f1_0
  have hin4 : ¬ ((s7 - (1 : Int32)) < 0 ∨ cl4.slots.size ≤ ((s7 - (1 : Int32))).toNatClampNeg) := inb_of S4 (own_last (by rw [← hs7]; exact (own_n i0).1))
  refine own_via (B := T1.setTop (mkF m 53 #[.val (.int i0), .val (.int i1), .val (.int s7), .val (.ref r_1), .val (.double (FP.ddiv FP.dconst1 (FP.i2d s7))), .second, .val (.int s37)] [(.double (FP.ddiv FP.dconst1 (FP.i2d s7)))])) (fun t k => X1.daload hx (j := (s7 - (1 : Int32))) (v := (.double (FP.ddiv FP.dconst1 (FP.i2d s7)))) (Ar4.1) (State.isArrayOf_alike hZ.alike Ar4.2.1) Ar4.2.2 hin4 (Has.at H4 hin4 rfl) (g := (mkF m 52 #[.val (.int i0), .val (.int i1), .val (.int s7), .val (.ref r_1), .val (.double (FP.ddiv FP.dconst1 (FP.i2d s7))), .second, .val (.int s37)] [(.int (s7 - (1 : Int32))), (.ref r_1)])) rfl rfl (hb hby at_52) _ k) ?_
  refine own_via (B := T1.setTop (mkF m 55 #[.val (.int i0), .val (.int i1), .val (.int s7), .val (.ref r_1), .val (.double (FP.ddiv FP.dconst1 (FP.i2d s7))), .second, .val (.int s37)] [(.double (FP.ddiv FP.dconst1 (FP.i2d s7))), (.double (FP.ddiv FP.dconst1 (FP.i2d s7)))])) (fun t k => XS.dload X1.here hx rfl (hb hby at_53) rfl k) ?_
  refine own_via (B := T1.setTop (mkF m 56 #[.val (.int i0), .val (.int i1), .val (.int s7), .val (.ref r_1), .val (.double (FP.ddiv FP.dconst1 (FP.i2d s7))), .second, .val (.int s37)] [(.int (cmpValue (FP.dcmp (FP.ddiv FP.dconst1 (FP.i2d s7)) (FP.ddiv FP.dconst1 (FP.i2d s7))) .l))])) (fun t k => XS.dcmpS X1.here hx rfl (hb hby at_55) rfl rfl k) ?_
  have hc56 : (cmpValue (FP.dcmp (FP.ddiv FP.dconst1 (FP.i2d s7)) (FP.ddiv FP.dconst1 (FP.i2d s7))) .l) = (0 : Int32) := dcmpV_self (own_share s7) .l
  refine own_via (B := T1.setTop (mkF m 59 #[.val (.int i0), .val (.int i1), .val (.int s7), .val (.ref r_1), .val (.double (FP.ddiv FP.dconst1 (FP.i2d s7))), .second, .val (.int s37)] [])) (fun t k => XS.ifNo X1.here hx rfl (hb hby at_56) rfl ((if0 _ _).trans (teq hc56).2) k) ?_
  refine own_via (B := T1.setTop (mkF m 60 #[.val (.int i0), .val (.int i1), .val (.int s7), .val (.ref r_1), .val (.double (FP.ddiv FP.dconst1 (FP.i2d s7))), .second, .val (.int s37)] [(.ref r_1)])) (fun t k => XS.aloadN X1.here hx rfl (hb hby at_59) rfl rfl k) ?_
  refine own_via (B := T1.setTop (mkF m 62 #[.val (.int i0), .val (.int i1), .val (.int s7), .val (.ref r_1), .val (.double (FP.ddiv FP.dconst1 (FP.i2d s7))), .second, .val (.int s37)] [(.int s37), (.ref r_1)])) (fun t k => XS.iload X1.here hx rfl (hb hby at_60) rfl k) ?_
  obtain ⟨cl5, Ar5, q5, S5, M5, H5, G5⟩ := id f1_0
  have hin5 : ¬ (s37 < 0 ∨ cl5.slots.size ≤ (s37).toNatClampNeg) := inb_of S5 (by rw [← hs37]; exact own_idx i1 (by rw [← hs7]; exact (own_n i0).1))
  refine own_via (B := T1.setTop (mkF m 63 #[.val (.int i0), .val (.int i1), .val (.int s7), .val (.ref r_1), .val (.double (FP.ddiv FP.dconst1 (FP.i2d s7))), .second, .val (.int s37)] [(.double (FP.ddiv FP.dconst1 (FP.i2d s7)))])) (fun t k => X1.daload hx (j := s37) (v := (.double (FP.ddiv FP.dconst1 (FP.i2d s7)))) (Ar5.1) (State.isArrayOf_alike hZ.alike Ar5.2.1) Ar5.2.2 hin5 (Has.at H5 hin5 rfl) (g := (mkF m 62 #[.val (.int i0), .val (.int i1), .val (.int s7), .val (.ref r_1), .val (.double (FP.ddiv FP.dconst1 (FP.i2d s7))), .second, .val (.int s37)] [(.int s37), (.ref r_1)])) rfl rfl (hb hby at_62) _ k) ?_
  refine own_via (B := T1.setTop (mkF m 65 #[.val (.int i0), .val (.int i1), .val (.int s7), .val (.ref r_1), .val (.double (FP.ddiv FP.dconst1 (FP.i2d s7))), .second, .val (.int s37)] [(.double (FP.ddiv FP.dconst1 (FP.i2d s7))), (.double (FP.ddiv FP.dconst1 (FP.i2d s7)))])) (fun t k => XS.dload X1.here hx rfl (hb hby at_63) rfl k) ?_
  refine own_via (B := T1.setTop (mkF m 66 #[.val (.int i0), .val (.int i1), .val (.int s7), .val (.ref r_1), .val (.double (FP.ddiv FP.dconst1 (FP.i2d s7))), .second, .val (.int s37)] [(.int (cmpValue (FP.dcmp (FP.ddiv FP.dconst1 (FP.i2d s7)) (FP.ddiv FP.dconst1 (FP.i2d s7))) .l))])) (fun t k => XS.dcmpS X1.here hx rfl (hb hby at_65) rfl rfl k) ?_
  have hc66 : (cmpValue (FP.dcmp (FP.ddiv FP.dconst1 (FP.i2d s7)) (FP.ddiv FP.dconst1 (FP.i2d s7))) .l) = (0 : Int32) := dcmpV_self (own_share s7) .l
  refine own_via (B := T1.setTop (mkF m 69 #[.val (.int i0), .val (.int i1), .val (.int s7), .val (.ref r_1), .val (.double (FP.ddiv FP.dconst1 (FP.i2d s7))), .second, .val (.int s37)] [])) (fun t k => XS.ifNo X1.here hx rfl (hb hby at_66) rfl ((if0 _ _).trans (teq hc66).2) k) ?_
  refine own_via (B := T1.setTop (mkF m 70 #[.val (.int i0), .val (.int i1), .val (.int s7), .val (.ref r_1), .val (.double (FP.ddiv FP.dconst1 (FP.i2d s7))), .second, .val (.int s37)] [(.int (1 : Int32))])) (fun t k => XS.iconst X1.here hx rfl (hb hby at_69) k) ?_
  refine own_via (B := T1.setTop (mkF m 74 #[.val (.int i0), .val (.int i1), .val (.int s7), .val (.ref r_1), .val (.double (FP.ddiv FP.dconst1 (FP.i2d s7))), .second, .val (.int s37)] [(.int (1 : Int32))])) (fun t k => XS.goto X1.here hx rfl (pc0 := 70) (pc' := 74) rfl (hb hby at_70) (by decide) (by decide) k) ?_
  refine own_leaf X1 hx hlk (t := .boolean) Bd.returns (by decide) (Or.inl ⟨rfl, by simp, _, rfl⟩) (hb hby at_74) (by decide) (by decide) ?_
  show Q0 Z i0 i1 h0 n0 _ T1.heap _
  refine ⟨?_, N1⟩
  rfl
set_option maxRecDepth 65536 in
set_option maxHeartbeats 40000000 in
theorem comes_1 {Post : Tables → Env → Array Value → State → Outcome → State → Prop} (hpost : ∀ tb e args s v u, (limb_1_1.after args s (.returned v) u = true ∧ limb_1_2.after args s (.returned v) u = true ∧ True) → FrameEnd s (.returned v) u (Jvm.fieldLocs frame_1_writes args s ++ Jvm.arrayLocs frame_1_arrays args s ++ Jvm.staticLocs frame_1_statics s) 16 2112 → Post tb e args s (.returned v) u) :
    ArmFor flags0 classFile x code maxLocals ret World_1 tables_1 room_1 Calls_1 rest_1 Pre_1 Post := by
  intro l hfl _ _ p e ha hc hk s m args below hf hA hF happ hP
  obtain ⟨hcalls, hrest, hpre⟩ := hP
  obtain ⟨-, -, -, hnamed, -, -, -, hat⟩ := (Spec.applies_iff hf).mp happ
  obtain ⟨hg, hn⟩ := and_e (Cond.before_iff.mp (show (Jvm.Cond.and given_1 narrow_1).before args s = true from hpre))
  obtain ⟨g1, g2⟩ := and_e hg
  obtain ⟨g3, g4⟩ := and_e g2
  obtain ⟨w0, w1, rfl⟩ : ∃ w0 w1 : Value, args = #[w0, w1] := by
    have hs : args.size = 2 := by simpa [Cond.value, given_1] using g1
    obtain ⟨L⟩ := args
    match L, hs with
    | [w0, w1], _ => exact ⟨w0, w1, rfl⟩
  have hw := fun d (hd : d ∈ tables_1) => atoms_spec (ws := Jvm.Cond.code x code maxLocals ret :: tables_1) hat d (List.mem_cons_of_mem _ hd)
  have hfit : Fit s := fun {y c} hc i hi => by
    obtain ⟨ha, rfl⟩ := Array.getElem?_eq_some_iff.mp hc
    have q := List.all_eq_true.mp ((Array.all_eq_true_iff_forall_mem.mp hF) _ (Array.getElem_mem ha)) i (List.mem_range.mpr hi)
    simpa [Array.getElem?_eq_getElem hi] using q
  obtain ⟨i0, ei0⟩ := is_v g3
  obtain rfl : w0 = (.int i0) := Option.some.inj ei0
  obtain ⟨i1, ei1⟩ := is_v g4
  obtain rfl : w1 = (.int i1) := Option.some.inj ei1
  obtain ⟨n, o, h1, h2, h3, _, L, rfl, ⟨rfl, N⟩, hq⟩ := rm0 l s _ hw tables_1 i0 i1 s.heap s.heap.size (Nat.le_refl _)  p e ha hc hk s m _ below hf ((Spec.applies_iff_loose hf).mp happ).1 ⟨rfl, State.Warmed39.refl s, rfl⟩ trivial
  refine ⟨n, _, h1, h2, h3, hpost _ _ _ _ _ _ ⟨Cond.after_iff.mpr rfl, Cond.after_iff.mpr (eq_i res_at (Term.int_eval (1)) rfl), trivial⟩ ⟨hq.1, hq.2.1, (hq.2.2.sift fun y hy => Or.inr (N y hy)).mono (by decide) (by decide)⟩⟩
theorem main_1_1 : Claimed_1_1 := comes_1 fun _ _ _ _ _ _ h hF => ⟨h.1, hF⟩
theorem main_1_2 : Claimed_1_2 := comes_1 fun _ _ _ _ _ _ h hF => ⟨h.2.1, hF⟩
end Jvm.Pilot.@@N@@
namespace Jvm.Pilot.@@N@@
open Jvm Jvm.ClassFile Sem Op Lib Jvm.Free Jvm.Stand Jvm.Pilot.@@N@@.Jvm.D
/-! MADE BY PROGRAM (witnessworld.py) out of the Statement's table words and the real class files: 10 classes; the members and pool entries that the words name. The judged class is class 1, her method 1. -/
namespace start1
open Jvm.ClassFile
def u (s : String) : CpInfo := .utf8 (stringToUtf16 s)
/-- a pool by its gaps: so many unusable entries, then the entry; so many at the end -/
def gap : Nat → List CpInfo → List CpInfo
  | 0, r => r
  | n + 1, r => .unusable :: gap n r
def poolList (es : List (Nat × CpInfo)) (last : Nat) : List CpInfo := es.foldr (fun e r => gap e.1 (e.2 :: r)) (gap last [])
def pool (es : List (Nat × CpInfo)) (last : Nat) : Array CpInfo := ⟨poolList es last⟩
def fileOf (pool : Array CpInfo) (this : Nat) (attrs : Array Attribute := #[]) (ms : Array MethodInfo := #[]) (fl : Nat := 33) (sup : Nat := 0) (ifs : Array Nat := #[]) (fds : Array FieldInfo := #[]) : ClassFile where
  minorVersion := 0
  majorVersion := 65
  constantPool := pool
  accessFlags := fl
  thisClass := this
  superClass := sup
  interfaces := ifs
  fields := fds
  methods := ms
  attributes := attrs
def plain (name : String) (sup : Option ClassId) : Class where
  name := name
  kind := .ordinary
  loader := none
  accessFlags := 33
  super := sup
  interfaces := #[]
  cf := none
  fields := #[]
  methods := #[]
  instanceTypes := #[]
  staticTypes := #[]
  resolved := #[]
  callSites := []
  init := .initialized
  statics := none
  mirror := none

def pool0 : Array CpInfo := pool [(5, u "<init>"), (0, u "()V"), (1, .class_ 10), (1, u "java/lang/Object")] 113

def k0m0 : Method := { name := "<init>", desc := "()V", sig := { parameters := [], returnType := none }, accessFlags := 1, code := none }
/-- java/lang/Object -/
def k0 : Class := { plain "java/lang/Object" none with
  accessFlags := 33
  interfaces := #[]
  cf := some (fileOf pool0 8 #[] #[{ accessFlags := 1, nameIndex := 5, descriptorIndex := 6, attributes := #[] }] 33 0 #[] #[])
  fields := #[]
  methods := #[k0m0]
  instanceTypes := #[]
  staticTypes := #[]
  resolved := Array.replicate 124 none
  statics := none }

def pool1 : Array CpInfo := pool [(2, .class_ 4), (1, u "java/lang/Object"), (0, u "<init>"), (0, u "()V"), (0, .methodref 8 9), (0, .class_ 10), (0, .nameAndType 11 12), (0, u "com/example/meerkat/meerkat/plan/ProcessorSharing"), (0, u "equalShares"), (0, u "(I)[D"), (0, .integer 2147483647), (0, .class_ 15), (0, u "com/example/meerkat/meerkat/plan/ProcessorSharingEqualSharesPinLaw"), (2, u "law"), (0, u "(II)Z")] 5

def k1m0 : Method := { name := "<init>", desc := "()V", sig := { parameters := [], returnType := none }, accessFlags := 1, code := none }
def k1c1 : Code := { maxStack := 4, maxLocals := 7, code := code, exceptionTable := #[], attributes := #[] }
def k1m1 : Method := { name := "law", desc := "(II)Z", sig := { parameters := [.int, .int], returnType := some .boolean }, accessFlags := 9, code := some k1c1 }
/-- com/example/meerkat/meerkat/plan/ProcessorSharingEqualSharesPinLaw -/
def k1 : Class := { plain "com/example/meerkat/meerkat/plan/ProcessorSharingEqualSharesPinLaw" (some 0) with
  accessFlags := 49
  interfaces := #[]
  cf := some (fileOf pool1 14 #[] #[{ accessFlags := 1, nameIndex := 5, descriptorIndex := 6, attributes := #[] }, { accessFlags := 9, nameIndex := 18, descriptorIndex := 19, attributes := #[] }] 49 2 #[] #[])
  fields := #[]
  methods := #[k1m0, k1m1]
  instanceTypes := #[]
  staticTypes := #[]
  resolved := Array.replicate 25 none
  statics := none }

def pool2 : Array CpInfo := pool [(2, .class_ 4), (1, u "java/lang/Object"), (3, .class_ 10), (1, u "com/example/meerkat/meerkat/plan/ProcessorSharing"), (0, u "fastest"), (3, u "D"), (6, u "speeds"), (0, u "[D"), (2, u "ascending"), (8, u "total"), (2, u "rate"), (28, u "([DD)V"), (2, u "equalShares"), (0, u "(I)[D"), (4, .methodref 77 78), (0, .class_ 79), (0, .nameAndType 80 67), (0, u "java/util/Arrays"), (0, u "fill"), (39, u "NO_BACKEND"), (0, u "Ljava/lang/String;")] 42

def k2c0 : Code := { maxStack := 5, maxLocals := 2, code := prog_11_method_6_code, exceptionTable := #[], attributes := #[] }
def k2m0 : Method := { name := "equalShares", desc := "(I)[D", sig := { parameters := [.int], returnType := some (.array .double) }, accessFlags := 9, code := some k2c0 }
/-- com/example/meerkat/meerkat/plan/ProcessorSharing -/
def k2 : Class := { plain "com/example/meerkat/meerkat/plan/ProcessorSharing" (some 0) with
  accessFlags := 33
  interfaces := #[]
  cf := some (fileOf pool2 8 #[] #[{ accessFlags := 9, nameIndex := 70, descriptorIndex := 71, attributes := #[] }] 33 2 #[] #[{ accessFlags := 26, nameIndex := 120, descriptorIndex := 121, attributes := #[] }, { accessFlags := 18, nameIndex := 11, descriptorIndex := 15, attributes := #[] }, { accessFlags := 18, nameIndex := 22, descriptorIndex := 23, attributes := #[] }, { accessFlags := 18, nameIndex := 26, descriptorIndex := 23, attributes := #[] }, { accessFlags := 18, nameIndex := 35, descriptorIndex := 15, attributes := #[] }, { accessFlags := 18, nameIndex := 38, descriptorIndex := 15, attributes := #[] }])
  fields := #[{ name := "NO_BACKEND", type := (.object "java/lang/String"), accessFlags := 26, slot := 0, constantValue := 0 }, { name := "fastest", type := .double, accessFlags := 18, slot := 0, constantValue := 0 }, { name := "speeds", type := (.array .double), accessFlags := 18, slot := 1, constantValue := 0 }, { name := "ascending", type := (.array .double), accessFlags := 18, slot := 2, constantValue := 0 }, { name := "total", type := .double, accessFlags := 18, slot := 3, constantValue := 0 }, { name := "rate", type := .double, accessFlags := 18, slot := 4, constantValue := 0 }]
  methods := #[k2m0]
  instanceTypes := #[.double, (.array .double), (.array .double), .double, .double]
  staticTypes := #[(.object "java/lang/String")]
  resolved := Array.replicate 164 none
  statics := none }

def pool3 : Array CpInfo := pool [(2, .class_ 4), (1, u "java/lang/Object"), (0, u "<init>"), (0, u "()V"), (7, .class_ 16), (1, u "java/util/Arrays"), (57, .class_ 76), (1, u "java/util/Arrays$NaturalOrder"), (36, .class_ 115), (1, u "java/util/Arrays$LegacyMergeSort"), (1, u "Z"), (257, .class_ 376), (0, u "java/util/Arrays$ArrayList"), (68, u "$assertionsDisabled"), (269, u "MIN_ARRAY_SORT_GRAN"), (0, u "I"), (2, u "INSERTIONSORT_THRESHOLD"), (120, u "fill"), (13, u "([DD)V"), (120, .class_ 976), (0, u "java/util/Arrays$ArrayItr")] 52

def k3m0 : Method := { name := "<init>", desc := "()V", sig := { parameters := [], returnType := none }, accessFlags := 2, code := none }
def k3c1 : Code := { maxStack := 4, maxLocals := 5, code := jdk_65_method_113_code, exceptionTable := #[], attributes := #[] }
def k3m1 : Method := { name := "fill", desc := "([DD)V", sig := { parameters := [(.array .double), .double], returnType := none }, accessFlags := 9, code := some k3c1 }
/-- java/util/Arrays -/
def k3 : Class := { plain "java/util/Arrays" (some 0) with
  accessFlags := 49
  interfaces := #[]
  cf := some (fileOf pool3 14 #[.nestMembers #[975, 375, 113, 74]] #[{ accessFlags := 2, nameIndex := 5, descriptorIndex := 6, attributes := #[] }, { accessFlags := 9, nameIndex := 840, descriptorIndex := 854, attributes := #[] }] 49 2 #[] #[{ accessFlags := 26, nameIndex := 715, descriptorIndex := 716, attributes := #[] }, { accessFlags := 26, nameIndex := 719, descriptorIndex := 716, attributes := #[] }, { accessFlags := 4120, nameIndex := 445, descriptorIndex := 117, attributes := #[] }])
  fields := #[{ name := "MIN_ARRAY_SORT_GRAN", type := .int, accessFlags := 26, slot := 0, constantValue := 0 }, { name := "INSERTIONSORT_THRESHOLD", type := .int, accessFlags := 26, slot := 1, constantValue := 0 }, { name := "$assertionsDisabled", type := .boolean, accessFlags := 4120, slot := 2, constantValue := 0 }]
  methods := #[k3m0, k3m1]
  instanceTypes := #[]
  staticTypes := #[.int, .int, .boolean]
  resolved := Array.replicate 1029 none
  statics := none }

def pool4 : Array CpInfo := pool [(1, u "java/lang/Cloneable"), (0, .class_ 1), (0, u "java/lang/Object"), (0, .class_ 3)] 3

/-- java/lang/Cloneable -/
def k4 : Class := { plain "java/lang/Cloneable" (some 0) with
  accessFlags := 1537
  interfaces := #[]
  cf := some (fileOf pool4 2 #[] #[] 1537 4 #[] #[])
  fields := #[]
  methods := #[]
  instanceTypes := #[]
  staticTypes := #[]
  resolved := Array.replicate 8 none
  statics := none }

def pool5 : Array CpInfo := pool [(1, u "java/io/Serializable"), (0, .class_ 1), (0, u "java/lang/Object"), (0, .class_ 3)] 3

/-- java/io/Serializable -/
def k5 : Class := { plain "java/io/Serializable" (some 0) with
  accessFlags := 1537
  interfaces := #[]
  cf := some (fileOf pool5 2 #[] #[] 1537 4 #[] #[])
  fields := #[]
  methods := #[]
  instanceTypes := #[]
  staticTypes := #[]
  resolved := Array.replicate 8 none
  statics := none }

/-- the primitive byte -/
def k6 : Class := { plain "byte" none with kind := .primitive 'B', accessFlags := 0x411 }
/-- [B -/
def k7 : Class := { plain "[B" (some 0) with kind := .array 6 .byte, interfaces := #[4, 5], accessFlags := 1041 }

/-- the primitive int -/
def k8 : Class := { plain "int" none with kind := .primitive 'I', accessFlags := 0x411 }
/-- [I -/
def k9 : Class := { plain "[I" (some 0) with kind := .array 8 .int, interfaces := #[4, 5], accessFlags := 1041 }

def heap : Heap := #[]
def k10 : Class := { plain "double" none with kind := .primitive 'D', accessFlags := 0x411 }
def k11 : Class := { plain "[D" (some 0) with kind := .array 10 .double, interfaces := #[4, 5], accessFlags := 1041 }
def classes : Array Class := #[k0, k1, k2, k3, k4, k5, k6, k7, k8, k9, k10, k11]
def interned : List (Array UInt16 × Addr) := []
def slotsUsed : Nat := 0
def theMethod : MethodId := ⟨1, 1⟩
def args0 : Array Value := #[.int 5, .int 6]
def aboutOver (below : List Frame) : State where
  vm := { classes := classes, interned := interned.toArray }
  heap := heap
  slotsUsed := slotsUsed
  threads := #[{ frames := .invoking theMethod args0 :: below }]
def below0 : List Frame := [.native { method := ⟨0, 0⟩, args := #[] }]
def about1 : State := aboutOver below0
def p0 : Program := .bare "" "" ""
def e0 : Env := launch0.env 0 0 0
theorem w_frames : about1.frames = Frame.invoking theMethod args0 :: below0 := rfl
set_option maxRecDepth 65536 in
theorem w_args : argsFit about1.vm theMethod args0 = true := by decide +kernel
set_option maxRecDepth 65536 in
theorem w_heap : heapFits about1 = true := by decide +kernel
set_option maxRecDepth 65536 in
theorem w_runnable : about1.curStatus? = some .runnable := by decide +kernel
set_option maxRecDepth 65536 in
theorem w_alone : about1.alone = true := by decide +kernel
set_option maxRecDepth 65536 in
theorem w_named : about1.methodNamed? x = some theMethod := by decide +kernel
set_option maxRecDepth 65536 in
theorem w_hears : about1.hears theMethod below0 = true := by decide +kernel
set_option maxRecDepth 65536 in
theorem w_ripe : about1.ripe theMethod args0 below0 = true := by decide +kernel
theorem w_running : about1.status = .running := rfl
set_option maxRecDepth 65536 in
theorem w_room : about1.hasRoom e0.platform room_1 = true :=
  launch0.hasRoom_least _ room_1 (by decide +kernel) (by decide +kernel) (by decide +kernel) (by decide +kernel) (by decide +kernel) (by decide +kernel)
theorem allAtoms_all (ts : List Jvm.Cond) (a : Array Jvm.Value) (st : Jvm.State) : (allAtoms ts).before a st = ts.all (fun c => c.before a st) := by
  induction ts with
  | nil => rfl
  | cons c t ih =>
    show (Jvm.Cond.and c (allAtoms t)).before a st = _
    rw [Jvm.Cond.before_and, ih, List.all_cons]
def words1 : List Jvm.Cond := Jvm.Cond.code x code maxLocals ret :: tables_1
/-- a 'code' word, met by the world's own term for the bytes: nothing is compared byte by byte -/
theorem code_word {y : MethodName} {bytes : ByteArray} {mx : Nat} {rt : Option FieldType} {a : Array Value} {s : State} {m : MethodId} {meth : Method} {c : Code} (h1 : s.methodNamed? y = some m) (h2 : s.vm.method? m = some meth) (h3 : meth.code = some c) (h4 : c.code = bytes)
    (h5 : (c.maxLocals == mx && c.exceptionTable.isEmpty && decide (c.maxStack ≤ mostOperands) && decide (meth.sig.returnType = rt) && !meth.locks && decide (parseMethodDescriptor y.desc = some meth.sig)) = true) : (Jvm.Cond.code y bytes mx rt).before a s = true := by
  simp only [Bool.and_eq_true, beq_iff_eq, Bool.not_eq_true', decide_eq_true_eq] at h5
  obtain ⟨⟨⟨⟨⟨g1, g2⟩, g3⟩, g4⟩, g5⟩, g6⟩ := h5
  simp [Cond.before, Cond.holds, Cond.value, h1, h2, h3, h4, g1, g2, g3, g4, g5, g6]
def isCode : Jvm.Cond → Bool
  | .code _ _ _ _ => true
  | _ => false
theorem all_split {L : List Jvm.Cond} {P : Jvm.Cond → Bool} (h1 : L.all (fun c => isCode c || P c) = true) (h2 : ∀ c ∈ L.filter isCode, P c = true) : L.all P = true := by
  refine List.all_eq_true.mpr fun c hc => ?_
  have h := List.all_eq_true.mp h1 c hc
  rcases Bool.eq_false_or_eq_true (isCode c) with hi | hi
  · exact h2 c (List.mem_filter.mpr ⟨hc, hi⟩)
  · simpa [hi] using h
set_option maxRecDepth 65536 in
theorem w_c0 : (Jvm.Cond.code x code maxLocals ret).before args0 about1 = true := code_word (m := ⟨1, 1⟩) (meth := k1m1) (c := k1c1) (by decide +kernel) rfl rfl rfl (by decide +kernel)
set_option maxRecDepth 65536 in
theorem w_c1 : (Jvm.Cond.code ({ cls := "com/example/meerkat/meerkat/plan/ProcessorSharing", name := "equalShares", desc := "(I)[D" } : Jvm.MethodName) prog_11_method_6_code (2 : Nat) (Option.some (Jvm.ClassFile.FieldType.array Jvm.ClassFile.FieldType.double))).before args0 about1 = true := code_word (m := ⟨2, 0⟩) (meth := k2m0) (c := k2c0) (by decide +kernel) rfl rfl rfl (by decide +kernel)
set_option maxRecDepth 65536 in
theorem w_c2 : (Jvm.Cond.code ({ cls := "java/util/Arrays", name := "fill", desc := "([DD)V" } : Jvm.MethodName) jdk_65_method_113_code (5 : Nat) (Option.none : Option Jvm.ClassFile.FieldType)).before args0 about1 = true := code_word (m := ⟨3, 1⟩) (meth := k3m1) (c := k3c1) (by decide +kernel) rfl rfl rfl (by decide +kernel)
def codes1 : List Jvm.Cond := [Jvm.Cond.code x code maxLocals ret, Jvm.Cond.code ({ cls := "com/example/meerkat/meerkat/plan/ProcessorSharing", name := "equalShares", desc := "(I)[D" } : Jvm.MethodName) prog_11_method_6_code (2 : Nat) (Option.some (Jvm.ClassFile.FieldType.array Jvm.ClassFile.FieldType.double)), Jvm.Cond.code ({ cls := "java/util/Arrays", name := "fill", desc := "([DD)V" } : Jvm.MethodName) jdk_65_method_113_code (5 : Nat) (Option.none : Option Jvm.ClassFile.FieldType)]
set_option maxRecDepth 65536 in
theorem codes_eq : words1.filter isCode = codes1 := rfl
theorem w_codes : ∀ c ∈ words1.filter isCode, c.before args0 about1 = true := by
  rw [codes_eq]
  intro c hc
  simp only [codes1, List.mem_cons, List.not_mem_nil, or_false] at hc
  rcases hc with rfl | rfl | rfl
  · exact w_c0
  · exact w_c1
  · exact w_c2
set_option maxRecDepth 65536 in
theorem w_t1 : words1.all (fun c => isCode c || c.before args0 about1) = true := by decide +kernel
theorem w_tables : (allAtoms (Jvm.Cond.code x code maxLocals ret :: tables_1)).before args0 about1 = true := by
  rw [allAtoms_all]
  show words1.all (fun c => c.before args0 about1) = true
  refine all_split ?_ w_codes
  rw [w_t1]
set_option maxRecDepth 65536 in
theorem w_case : (Jvm.Cond.and given_1 narrow_1).before args0 about1 = true := by decide +kernel
theorem w_applies : (headSpec (Jvm.Cond.code x code maxLocals ret :: tables_1) room_1).applies x e0.platform about1 = true :=
  (Spec.applies_iff w_frames).mpr ⟨w_running, w_runnable, w_alone, w_named, w_hears, w_ripe, w_room, w_tables⟩
theorem atStart : AtStart classFile x code maxLocals ret World_1 tables_1 room_1 Calls_1 rest_1 Pre_1 launch0 p0 e0 about1 theMethod args0 below0 :=
  ⟨lists_1, trivial, launch0.admits_env _ _ _, launch0.least_env, fairChoices_fair.cas, fairChoices_fair.clock, w_frames, w_args, w_heap, w_applies, trivial, trivial, w_case⟩
end start1
theorem witness_1 : WitnessClaimed_1 := ⟨start1.p0, start1.e0, start1.about1, start1.theMethod, start1.args0, start1.below0, start1.atStart⟩
end Jvm.Pilot.@@N@@
