import JvmDerived
import JvmDerived.Pilot.@@N@@Statement
import JvmDerived.Pilot.@@N@@Code
set_option linter.unusedVariables false
set_option linter.unusedSimpArgs false
namespace Jvm.Pilot.@@N@@
open Jvm Jvm.ClassFile Sem Op Lib Jvm.Free Jvm.Stand Jvm.LawKit Jvm.RoadKit Bundle Jvm.Pilot.@@N@@.Jvm.D
theorem own_selP {s : State} {args : Array Value} {y y' : MethodName} {C : String} (he : y'.cls = y.cls) (h' : (Cond.selects C y' y').before args s = true) (hpriv : s.PrivateAt y) (hinst : (Cond.instanceMethod y).before args s = true) (hy : y.cls ≠ "java/lang/invoke/MethodHandle" ∧ y.cls ≠ "java/lang/invoke/VarHandle") : (Cond.selects y.cls y y).before args s = true := by
  obtain ⟨c2, r2, m2, -, -, q3, -, kP, hkP, hkPi⟩ := Cond.selects_spec h'
  exact Jvm.Stand.selects_self_of_private (he ▸ findClass_of_methodNamed q3) hkP hkPi hpriv hinst hy
abbrev oR (f c s l : Nat) : Room := { frames := f, cells := c, slots := s, locals := l }
/-- what a walk owes from a state on: the run comes to a state of which G speaks -/
def own_Go (p : Program) (e : Env) (below : List Frame) (A : State) (G : State → Prop) : Prop := ∃ B, (∀ t, Steps p.tables e below B t → Steps p.tables e below A t) ∧ G B
theorem own_via {p : Program} {e : Env} {below : List Frame} {A B : State} {G : State → Prop} (h : ∀ t, Steps p.tables e below B t → Steps p.tables e below A t) (k : own_Go p e below B G) : own_Go p e below A G := by
  obtain ⟨C, h1, h2⟩ := k
  exact ⟨C, fun t q => h t (h1 t q), h2⟩
abbrev uu : Slot := .unset
theorem ov {p : Program} {e : Env} {below : List Frame} {A B : State} {G : State → Prop} (h : ∀ t, Steps p.tables e below B t → Steps p.tables e below A t) (k : own_Go p e below B G) : own_Go p e below A G := own_via h k
theorem own_done {p : Program} {e : Env} {below : List Frame} {A : State} {G : State → Prop} (g : G A) : own_Go p e below A G := ⟨A, fun _ q => q, g⟩
theorem own_bind {p : Program} {e : Env} {below : List Frame} {A : State} {G G' : State → Prop} (h : own_Go p e below A G) (k : ∀ B, G B → own_Go p e below B G') : own_Go p e below A G' := by
  obtain ⟨B, h1, h2⟩ := h
  exact own_via h1 (k B h2)
/-- the method ends here -/
def own_End (p : Program) (e : Env) (below : List Frame) (s : State) (Q : Option Value → Heap → List Loc → Prop) (C S : Nat) (B : State) : Prop :=
  ∃ s₂ o, Steps p.tables e below B s₂ ∧ s₂.status = .running ∧ Ended s₂ below o ∧ ∃ v L, o = .returned v ∧ Q v s₂.heap L ∧ FrameEnd s o s₂ L C S
theorem own_body {p : Program} {e : Env} {below : List Frame} {s A A' : State} {Q : Option Value → Heap → List Loc → Prop} {C S : Nat} (q : ∀ t, Steps p.tables e below A t → Steps p.tables e below A' t) (h : own_Go p e below A (own_End p e below s Q C S)) :
    ∃ s₂ o, Steps p.tables e below A' s₂ ∧ s₂.status = .running ∧ Ended s₂ below o ∧ ∃ v L, o = .returned v ∧ Q v s₂.heap L ∧ FrameEnd s o s₂ L C S := by
  obtain ⟨B, h1, s₂, o, h2, h3⟩ := h
  exact ⟨s₂, o, q _ (h1 _ h2), h3⟩
theorem oW {Z : State} {a0 : Array Value} (hw : ∀ d ∈ tables_1, d.before a0 Z = true) (i : Nat) {d : Jvm.Cond} (h : tables_1[i]? = some d) : d.before a0 Z = true := hw _ (List.mem_of_getElem? h)
section Short
variable {p : Program} {l : Launch} {e : Env} {R : Room} {s : State} {m : MethodId} {args : Array Value} {below : List Frame} {meth : Method} {c : Code} {T : State} {locs : List Loc} {cells slots : Nat} {G : State → Prop} {pc n : Nat} {Ls : Array Slot} {st : List Value}
theorem oAL (X : Stand p l e R s m args below meth c T locs cells slots) (hx : p.tables.exec = Jvm.exec) {k : Nat} {v : Value} (hd : decode c.code pc = .ok (.aload k, 2)) (hl : Ls[k]? = some (.val v)) (hv : v.isRef = true) (hn : n = pc + 2) (K : own_Go p e below (T.setTop (mkF m n Ls (v :: st))) G) : own_Go p e below (T.setTop (mkF m pc Ls st)) G := by
  subst hn; exact own_via (fun t k => XS.aload X.here hx rfl hd hl hv k) K
theorem oALN (X : Stand p l e R s m args below meth c T locs cells slots) (hx : p.tables.exec = Jvm.exec) {k : Fin 4} {v : Value} (hd : decode c.code pc = .ok (.aload_n k, 1)) (hl : Ls[k.val]? = some (.val v)) (hv : v.isRef = true) (hn : n = pc + 1) (K : own_Go p e below (T.setTop (mkF m n Ls (v :: st))) G) : own_Go p e below (T.setTop (mkF m pc Ls st)) G := by
  subst hn; exact own_via (fun t k => XS.aloadN X.here hx rfl hd hl hv k) K
theorem oIL (X : Stand p l e R s m args below meth c T locs cells slots) (hx : p.tables.exec = Jvm.exec) {k : Nat} {v : Int32} (hd : decode c.code pc = .ok (.iload k, 2)) (hl : Ls[k]? = some (.val (.int v))) (hn : n = pc + 2) (K : own_Go p e below (T.setTop (mkF m n Ls (.int v :: st))) G) : own_Go p e below (T.setTop (mkF m pc Ls st)) G := by
  subst hn; exact own_via (fun t k => XS.iload X.here hx rfl hd hl k) K
theorem oILN (X : Stand p l e R s m args below meth c T locs cells slots) (hx : p.tables.exec = Jvm.exec) {k : Fin 4} {v : Int32} (hd : decode c.code pc = .ok (.iload_n k, 1)) (hl : Ls[k.val]? = some (.val (.int v))) (hn : n = pc + 1) (K : own_Go p e below (T.setTop (mkF m n Ls (.int v :: st))) G) : own_Go p e below (T.setTop (mkF m pc Ls st)) G := by
  subst hn; exact own_via (fun t k => XS.iloadN X.here hx rfl hd hl k) K
theorem oIC (X : Stand p l e R s m args below meth c T locs cells slots) (hx : p.tables.exec = Jvm.exec) {i : Int} (z : Int32) (hd : decode c.code pc = .ok (.iconst i, 1)) (hz : Int32.ofInt i = z) (hn : n = pc + 1) (K : own_Go p e below (T.setTop (mkF m n Ls (.int z :: st))) G) : own_Go p e below (T.setTop (mkF m pc Ls st)) G := by
  subst hn hz; exact own_via (fun t k => XS.iconst X.here hx rfl hd k) K
theorem oBP (X : Stand p l e R s m args below meth c T locs cells slots) (hx : p.tables.exec = Jvm.exec) {i : Int} (z : Int32) (hd : decode c.code pc = .ok (.bipush i, 2)) (hz : (Int8.ofInt i).toInt32 = z) (hn : n = pc + 2) (K : own_Go p e below (T.setTop (mkF m n Ls (.int z :: st))) G) : own_Go p e below (T.setTop (mkF m pc Ls st)) G := by
  subst hn hz; exact own_via (fun t k => XS.bipush X.here hx rfl hd k) K
theorem oSP (X : Stand p l e R s m args below meth c T locs cells slots) (hx : p.tables.exec = Jvm.exec) {i : Int} (z : Int32) (hd : decode c.code pc = .ok (.sipush i, 3)) (hz : (Int16.ofInt i).toInt32 = z) (hn : n = pc + 3) (K : own_Go p e below (T.setTop (mkF m n Ls (.int z :: st))) G) : own_Go p e below (T.setTop (mkF m pc Ls st)) G := by
  subst hn hz; exact own_via (fun t k => XS.sipush X.here hx rfl hd k) K
theorem oNU (X : Stand p l e R s m args below meth c T locs cells slots) (hx : p.tables.exec = Jvm.exec) (hd : decode c.code pc = .ok (.aconst_null, 1)) (hn : n = pc + 1) (K : own_Go p e below (T.setTop (mkF m n Ls (.null :: st))) G) : own_Go p e below (T.setTop (mkF m pc Ls st)) G := by
  subst hn; exact own_via (fun t k => XS.aconstNull X.here hx rfl hd k) K
theorem oDU (X : Stand p l e R s m args below meth c T locs cells slots) (hx : p.tables.exec = Jvm.exec) {x : Value} (hd : decode c.code pc = .ok (.dup, 1)) (hc : x.category = 1) (hn : n = pc + 1) (K : own_Go p e below (T.setTop (mkF m n Ls (x :: x :: st))) G) : own_Go p e below (T.setTop (mkF m pc Ls (x :: st))) G := by
  subst hn; exact own_via (fun t k => XS.dup X.here hx rfl hd rfl hc k) K
theorem oPO (X : Stand p l e R s m args below meth c T locs cells slots) (hx : p.tables.exec = Jvm.exec) {x : Value} (hd : decode c.code pc = .ok (.pop, 1)) (hc : x.category = 1) (hn : n = pc + 1) (K : own_Go p e below (T.setTop (mkF m n Ls st)) G) : own_Go p e below (T.setTop (mkF m pc Ls (x :: st))) G := by
  subst hn; exact own_via (fun t k => XS.pop X.here hx rfl hd rfl hc k) K
theorem oGO (X : Stand p l e R s m args below meth c T locs cells slots) (hx : p.tables.exec = Jvm.exec) {o : Int} (hd : decode c.code pc = .ok (.goto o, 3)) (ho : 0 ≤ (pc : Int) + o) (hn : ((pc : Int) + o).toNat = n) (K : own_Go p e below (T.setTop (mkF m n Ls st)) G) : own_Go p e below (T.setTop (mkF m pc Ls st)) G :=
  own_via (fun t k => XS.goto X.here hx rfl (pc0 := pc) (pc' := n) rfl hd ho hn k) K
end Short
section Leaf
variable {p : Program} {l : Launch} {e : Env} {R : Room} {s : State} {m : MethodId} {args : Array Value} {below : List Frame} {meth : Method} {c : Code} {T : State} {locs : List Loc} {cells slots : Nat}
theorem own_leaf (X : Stand p l e R s m args below meth c T locs cells slots) (hx : p.tables.exec = Jvm.exec) (hlk : meth.locks = false) {pc : Nat} {Ls : Array Slot} {w : Value} {t : FieldType} {i : Instr} {rest : List Value} (hret : meth.sig.returnType = some t) (hn : narrow t w = w)
    (hi : (i = .ireturn ∧ (t = .int ∨ t = .boolean ∨ t = .byte ∨ t = .char ∨ t = .short) ∧ ∃ z, w = .int z) ∨ (i = .lreturn ∧ t = .long ∧ ∃ z, w = .long z) ∨ (i = .dreturn ∧ t = .double ∧ ∃ z, w = .double z) ∨ (i = .freturn ∧ t = .float ∧ ∃ z, w = .float z) ∨ (i = .areturn ∧ t.isReference = true ∧ w.isRef = true))
    (hd : decode c.code pc = .ok (i, 1)) {Q : Option Value → Heap → List Loc → Prop} {C S : Nat} (hC : cells ≤ C) (hS : slots ≤ S) (hq : Q (some w) T.heap locs) : own_Go p e below (T.setTop (mkF m pc Ls (w :: rest))) (own_End p e below s Q C S) := by
  obtain ⟨fs, hr, hrun, hended, hW, hsame⟩ := X.leave (v := some w) (fun h => by rw [hret] at h; cases h) hlk
  exact own_done ⟨_, _, retOut X hx hret hn hi hd hr, hrun, hended, _, _, rfl, hq, ⟨_, rfl⟩, hW, hsame.mono hC hS⟩
theorem own_leafV (X : Stand p l e R s m args below meth c T locs cells slots) (hx : p.tables.exec = Jvm.exec) (hlk : meth.locks = false) {pc : Nat} {Ls : Array Slot} (hret : meth.sig.returnType = none)
    (hd : decode c.code pc = .ok (.return_, 1)) {Q : Option Value → Heap → List Loc → Prop} {C S : Nat} (hC : cells ≤ C) (hS : slots ≤ S) (hq : Q none T.heap locs) : own_Go p e below (T.setTop (mkF m pc Ls [])) (own_End p e below s Q C S) := by
  obtain ⟨fs, hr, hrun, hended, hW, hsame⟩ := X.leave (v := none) (fun _ => rfl) hlk
  exact own_done ⟨_, _, X.returnOut hx hret hd hr, hrun, hended, _, _, rfl, hq, ⟨_, rfl⟩, hW, hsame.mono hC hS⟩
theorem own_getFR {Z : State} {a0 : Array Value} {h : Heap} (X : Stand p l e R s m args below meth c T locs cells slots) (hx : p.tables.exec = Jvm.exec) (hZ : Z.Warmed39 s.vm) {own R0 O n d : String} {index : Nat} (hown : s.vm.findClass own = some m.cls) (w : (Cond.fieldRef own index R0 n d).before a0 Z = true) (via : Via Z R0 O n d)
    (eT : T.heap = h) {a : Addr} {v : Value} (F : Fld Z h a O n d v) {g : JFrame} (hg : g.method = m) {rest : List Value} (hs : g.stack = .ref a :: rest) (hd : decode c.code g.pc = .ok (.getfield index, 3)) : ∃ T', Stand p l e R s m args below meth c T' locs cells slots ∧ T'.heap = h ∧ ∀ target, Steps p.tables e below (T'.setTop { g with pc := g.pc + 3, stack := v :: rest }) target → Steps p.tables e below (T.setTop g) target := by
  obtain ⟨cell, cf, k, i, f, h1, h2, h3, h4, -, -, h7⟩ := F
  have hW : Z.Warmed39 T.vm := wtrans hZ X.warmed
  have w1 := Cond.fieldRef_warmed39 hW w
  obtain ⟨c', k', i', f', hi, hr⟩ := Cond.fieldRef_spec (cur := m.cls) (show (Z.setVm T.vm).vm.findClass own = some m.cls by show T.vm.findClass own = _; rw [X.warmed.alike.findClass]; exact hown) w1
  obtain ⟨k'', hi', -⟩ := State.fieldFound?_setVm (s := Z) hW.alike (via _ h2)
  cases hi.symm.trans hi'
  refine ⟨T, X, eT, fun target hrest => ?_⟩
  subst hg
  jvm_step X.here [hx, hd, getfield.wp_ready (e := e) (s := T) (f := g) X.here.top hr h3 hs (by rw [eT]; exact h1) h4 h7]
  exact hrest
def own_EndW (p : Program) (e : Env) (below : List Frame) (s : State) (Q : Option Value → Heap → List Loc → Prop) (C S : Nat) (B : State) : Prop :=
  ∃ s₂ o, Steps p.tables e below B s₂ ∧ s₂.status = .running ∧ Ended s₂ below o ∧ ∃ v L, o = .returned v ∧ Q v s₂.heap L ∧ ReturnedEndW s o s₂ L C S
theorem own_bodyW {A A' : State} {Q : Option Value → Heap → List Loc → Prop} {C S : Nat} (q : ∀ t, Steps p.tables e below A t → Steps p.tables e below A' t) (h : own_Go p e below A (own_EndW p e below s Q C S)) :
    ∃ s₂ o, Steps p.tables e below A' s₂ ∧ s₂.status = .running ∧ Ended s₂ below o ∧ ∃ v L, o = .returned v ∧ Q v s₂.heap L ∧ ReturnedEndW s o s₂ L C S := by
  obtain ⟨B, h1, s₂, o, h2, h3⟩ := h
  exact ⟨s₂, o, q _ (h1 _ h2), h3⟩
theorem own_leafW {vm₁ : Vm} (X : Stand p l e R (s.setVm vm₁) m args below meth c T locs cells slots) (hx : p.tables.exec = Jvm.exec) (hlk : meth.locks = false) {n : Nat} (hS : s.Since vm₁ n) (hk : n ≤ T.heap.size) {pc : Nat} {Ls : Array Slot} {w : Value} {t : FieldType} {i : Instr} {rest : List Value} (hret : meth.sig.returnType = some t) (hn : narrow t w = w)
    (hi : (i = .ireturn ∧ (t = .int ∨ t = .boolean ∨ t = .byte ∨ t = .char ∨ t = .short) ∧ ∃ z, w = .int z) ∨ (i = .lreturn ∧ t = .long ∧ ∃ z, w = .long z) ∨ (i = .dreturn ∧ t = .double ∧ ∃ z, w = .double z) ∨ (i = .freturn ∧ t = .float ∧ ∃ z, w = .float z) ∨ (i = .areturn ∧ t.isReference = true ∧ w.isRef = true))
    (hd : decode c.code pc = .ok (i, 1)) {Q : Option Value → Heap → List Loc → Prop} {C S : Nat} (hC : cells ≤ C) (hS' : slots ≤ S) (hq : Q (some w) T.heap locs) : own_Go p e below (T.setTop (mkF m pc Ls (w :: rest))) (own_EndW p e below s Q C S) := by
  obtain ⟨fs, hr, hrun, hended, h1, h2, h3, hsame⟩ := X.leaveW hS hk (v := some w) (fun h => by rw [hret] at h; cases h) hlk
  exact own_done ⟨_, _, retOut X hx hret hn hi hd hr, hrun, hended, _, _, rfl, hq, h1, h2, h3, hsame.mono hC hS'⟩
theorem own_leafVW {vm₁ : Vm} (X : Stand p l e R (s.setVm vm₁) m args below meth c T locs cells slots) (hx : p.tables.exec = Jvm.exec) (hlk : meth.locks = false) {n : Nat} (hS : s.Since vm₁ n) (hk : n ≤ T.heap.size) {pc : Nat} {Ls : Array Slot} (hret : meth.sig.returnType = none)
    (hd : decode c.code pc = .ok (.return_, 1)) {Q : Option Value → Heap → List Loc → Prop} {C S : Nat} (hC : cells ≤ C) (hS' : slots ≤ S) (hq : Q none T.heap locs) : own_Go p e below (T.setTop (mkF m pc Ls [])) (own_EndW p e below s Q C S) := by
  obtain ⟨fs, hr, hrun, hended, h1, h2, h3, hsame⟩ := X.leaveW hS hk (v := none) (fun _ => rfl) hlk
  exact own_done ⟨_, _, X.returnOut hx hret hd hr, hrun, hended, _, _, rfl, hq, h1, h2, h3, hsame.mono hC hS'⟩
def own_bit (P : Prop) [Decidable P] : Int32 := if P then 1 else 0
theorem own_bit01 (P : Prop) [Decidable P] : own_bit P = 0 ∨ own_bit P = 1 := by unfold own_bit; split <;> simp
theorem own_bitT {P : Prop} [Decidable P] (h : P) : own_bit P = 1 := if_pos h
theorem own_bitF {P : Prop} [Decidable P] (h : ¬ P) : own_bit P = 0 := if_neg h
theorem own_bit0 {P : Prop} [Decidable P] : own_bit P = 0 ↔ ¬ P := by unfold own_bit; split <;> simp_all
theorem own_bit1 {P : Prop} [Decidable P] : own_bit P = 1 ↔ P := by unfold own_bit; split <;> simp_all
theorem own_bitne {P : Prop} [Decidable P] (h : P) : ¬ own_bit P = 0 := fun q => own_bit0.mp q h
theorem own_bits {P P' : Prop} [Decidable P] [Decidable P'] (h : P ↔ P') : own_bit P = own_bit P' := by unfold own_bit; simp [h]
theorem own_lt (x y : Int32) : x < y ↔ x.toInt < y.toInt := Int32.lt_iff_toInt_lt
theorem own_eq (x y : Int32) : x = y ↔ x.toInt = y.toInt := Int32.toInt_inj.symm
theorem own_ltL (x y : Int64) : x < y ↔ x.toInt < y.toInt := Int64.lt_iff_toInt_lt
theorem own_eqL (x y : Int64) : x = y ↔ x.toInt = y.toInt := Int64.toInt_inj.symm
theorem own_mask (x : Int32) : 0 ≤ (x &&& (2147483647 : Int32)).toInt := by
  have h : (x &&& (2147483647 : Int32)).toBitVec.msb = false := by
    show (x.toBitVec &&& 2147483647#32).msb = false
    have e : (2147483647#32).msb = false := by decide
    rw [BitVec.msb_and, e]; simp
  have := BitVec.toInt_eq_msb_cond (x &&& (2147483647 : Int32)).toBitVec
  rw [h] at this
  show 0 ≤ (x &&& (2147483647 : Int32)).toBitVec.toInt
  rw [this]
  simp only [Bool.false_eq_true, if_false]
  exact Int.natCast_nonneg _
theorem own_modm (x m : Int32) (hm : 0 < m.toInt) : 0 ≤ ((x &&& (2147483647 : Int32)) % m).toInt ∧ ((x &&& (2147483647 : Int32)) % m).toInt < m.toInt := by
  have h := own_mask x
  rw [Int32.toInt_mod, Int.tmod_eq_emod_of_nonneg h]
  exact ⟨Int.emod_nonneg _ (by omega), Int.emod_lt_of_pos _ hm⟩
theorem own_fb {x : Int32} (h : x = 0 ∨ x = 1) : fits .boolean (.int x) = true := by rcases h with rfl | rfl <;> decide
theorem own_eqI {t : Term} {k : Int32} {args : Array Value} {s : State} (h : (Cond.eq t (Term.int k)).value args s none s [] = some true) : t.eval args s none [] s = some (.int k) := by
  simp only [Cond.value] at h
  have hn : (Term.int k).eval args s none [] s = some (.int k) := rfl
  rw [hn] at h
  cases ht : t.eval args s none [] s with
  | none => simp [ht] at h
  | some v => cases v <;> simp [ht] at h ⊢ <;> first | exact h | (exact h.elim) | simp_all
theorem own_eqR {t u : Term} {a : Addr} {args : Array Value} {s : State} (h : (Cond.eq t u).value args s none s [] = some true) (hu : u.eval args s none [] s = some (.ref a)) : t.eval args s none [] s = some (.ref a) := by
  simp only [Cond.value] at h
  rw [hu] at h
  cases ht : t.eval args s none [] s with
  | none => simp [ht] at h
  | some v => cases v <;> simp [ht] at h ⊢ <;> first | exact h | (exact h.elim) | simp_all
theorem own_eqJ {t : Term} {k : Int64} {args : Array Value} {s : State} (h : (Cond.eq t (Term.long k)).value args s none s [] = some true) : t.eval args s none [] s = some (.long k) := by
  simp only [Cond.value] at h
  have hn : (Term.long k).eval args s none [] s = some (.long k) := rfl
  rw [hn] at h
  cases ht : t.eval args s none [] s with
  | none => simp [ht] at h
  | some v => cases v <;> simp [ht] at h ⊢ <;> first | exact h | (exact h.elim) | simp_all
theorem own_b1 {x : Int32} (h : x = 0 ∨ x = 1) : narrow .boolean (.int x) = .int x := by rcases h with rfl | rfl <;> rfl
end Leaf
section Fl
open Jvm.FP.Core
/-- i * 2^σ rounded -/
def own_Rs (σ : Int) (i : Int) : Datum := roundRatio b64 (decide (i < 0)) i.natAbs 1 σ
/-- the double x has the value i * 2^σ -/
def own_V (σ i : Int) (x : UInt64) : Prop := ∃ d r, val64 x = .fin (decide (i < 0)) d r ∧ d * 2 ^ (r - σ).toNat = i.natAbs * 2 ^ (σ - r).toNat
def own_sg (σ : Int) : Prop := -1000 ≤ σ ∧ σ ≤ 900
theorem own_fs (σ i : Int) : FP.Core.fits b64 (own_Rs σ i) := roundRatio_fits good_b64 _ _ (by decide) _
/-- whole numbers rounded to 53 digits -/
def own_ra (A : Nat) : Nat := if A ≤ 2 ^ 53 then A else nearest A (2 ^ (A.log2 - 52)) * 2 ^ (A.log2 - 52)
def own_rnd (i : Int) : Int := signed (decide (i < 0)) (own_ra i.natAbs)
theorem own_log {A : Nat} (h1 : 2 ^ 53 < A) (h2 : A ≤ 2 ^ 63) : 2 ^ A.log2 ≤ A ∧ A < 2 ^ (A.log2 + 1) ∧ 53 ≤ A.log2 ∧ A.log2 ≤ 63 := by
  have a0 : A ≠ 0 := by omega
  have l1 : 2 ^ A.log2 ≤ A := Nat.log2_self_le a0
  have l2 : A < 2 ^ (A.log2 + 1) := Nat.lt_log2_self
  refine ⟨l1, l2, ?_, ?_⟩
  · refine Nat.le_of_not_lt fun h => ?_
    have : 2 ^ (A.log2 + 1) ≤ 2 ^ 53 := Nat.pow_le_pow_right (by decide) h
    omega
  · refine Nat.le_of_not_lt fun h => ?_
    have : 2 ^ 64 ≤ 2 ^ A.log2 := Nat.pow_le_pow_right (by decide) h
    have : (2 : Nat) ^ 63 < 2 ^ 64 := by decide
    omega
theorem own_raB {A : Nat} (h1 : 2 ^ 53 < A) (h2 : A ≤ 2 ^ 63) : ∃ q c : Nat, 1 ≤ q ∧ q ≤ 11 ∧ A.log2 - 52 = q ∧ 2 ^ 52 * 2 ^ q ≤ A ∧ A < 2 ^ 53 * 2 ^ q ∧ c = nearest A (2 ^ q) ∧ own_ra A = c * 2 ^ q ∧ 2 ^ 52 ≤ c ∧ c ≤ 2 ^ 53 ∧ 2 * A ≤ 2 * (c * 2 ^ q) + 2 ^ q ∧ 2 * (c * 2 ^ q) ≤ 2 * A + 2 ^ q := by
  obtain ⟨l1, l2, k1, k2⟩ := own_log h1 h2
  have er : own_ra A = nearest A (2 ^ (A.log2 - 52)) * 2 ^ (A.log2 - 52) := if_neg (by omega)
  generalize A.log2 = k at *
  have e1 : 2 ^ 52 * 2 ^ (k - 52) = 2 ^ k := by rw [← Nat.pow_add]; congr 1; omega
  have e2 : 2 ^ 53 * 2 ^ (k - 52) = 2 ^ (k + 1) := by rw [← Nat.pow_add]; congr 1; omega
  have hB : 0 < 2 ^ (k - 52) := Nat.two_pow_pos _
  obtain ⟨s1, s2, -⟩ := nearest_spec A (2 ^ (k - 52)) hB
  have g1 : 2 ^ 52 ≤ nearest A (2 ^ (k - 52)) := nearest_ge hB (by rw [e1]; exact l1)
  have g2 : nearest A (2 ^ (k - 52)) ≤ 2 ^ 53 := nearest_le hB (by rw [e2]; omega)
  refine ⟨k - 52, nearest A (2 ^ (k - 52)), by omega, by omega, rfl, by rw [e1]; exact l1, by rw [e2]; exact l2, rfl, er, g1, g2, ?_, ?_⟩
  · rw [Nat.add_mul, Nat.one_mul, Nat.mul_assoc] at s1; exact s1
  · rw [Nat.mul_assoc] at s2; exact s2
/-- a whole number of at most 53 digits behind some zeros -/
theorem own_fitn {σ : Int} (hσ : own_sg σ) (s : Bool) {z g : Nat} (h0 : z ≠ 0) (h1 : z ≤ 2 ^ 53) (hg : g ≤ 11) : ∃ d r, roundRatio b64 s (z * 2 ^ g) 1 σ = .fin s d r ∧ d * 2 ^ (r - σ).toNat = (z * 2 ^ g) * 2 ^ (σ - r).toNat := by
  obtain ⟨σ1, σ2⟩ := hσ
  have q1 : b64.qmin = -1074 := by decide
  have q2 : b64.qmax = 971 := by decide
  have t : b64.tails = 2 ^ 52 := rfl
  have key : ∃ (d : Nat) (r : Int), FP.Core.fits b64 (.fin s d r) ∧ d * 2 ^ (r - σ).toNat = (z * 2 ^ g) * 2 ^ (σ - r).toNat := by
    by_cases hz : z = 2 ^ 53
    · refine ⟨2 ^ 52, σ + g + 1, ⟨by decide, by omega, by omega, Or.inr (Nat.le_refl _)⟩, ?_⟩
      rw [show (σ + g + 1 - σ).toNat = g + 1 by omega, show (σ - (σ + g + 1)).toNat = 0 by omega, hz, Nat.pow_zero, Nat.mul_one, ← Nat.pow_add, ← Nat.pow_add]
      congr 1; omega
    · have l1 : 2 ^ z.log2 ≤ z := Nat.log2_self_le h0
      have l2 : z < 2 ^ (z.log2 + 1) := Nat.lt_log2_self
      have l3 : z.log2 < 53 := (Nat.pow_lt_pow_iff_right (by decide : 1 < 2)).mp (Nat.lt_of_le_of_lt l1 (by omega))
      generalize z.log2 = L at l1 l2 l3
      have u1 : 2 ^ 52 = 2 ^ L * 2 ^ (52 - L) := by rw [← Nat.pow_add]; congr 1; omega
      have u2 : 2 ^ (L + 1) * 2 ^ (52 - L) = 2 ^ 53 := by rw [← Nat.pow_add]; congr 1; omega
      refine ⟨z * 2 ^ (52 - L), σ + g + ((L : Int) - 52), ⟨?_, by omega, by omega, Or.inr ?_⟩, ?_⟩
      · show z * 2 ^ (52 - L) < 2 ^ 53
        rw [← u2]; exact Nat.mul_lt_mul_of_pos_right l2 (Nat.two_pow_pos _)
      · show 2 ^ 52 ≤ _
        rw [u1]; exact Nat.mul_le_mul_right _ l1
      · by_cases c : 52 ≤ g + L
        · rw [show (σ + g + ((L : Int) - 52) - σ).toNat = g + L - 52 by omega, show (σ - (σ + g + ((L : Int) - 52))).toNat = 0 by omega, Nat.pow_zero, Nat.mul_one, Nat.mul_assoc, ← Nat.pow_add]
          congr 2; omega
        · rw [show (σ + g + ((L : Int) - 52) - σ).toNat = 0 by omega, show (σ - (σ + g + ((L : Int) - 52))).toNat = 52 - L - g by omega, Nat.pow_zero, Nat.mul_one, Nat.mul_assoc, ← Nat.pow_add]
          congr 2; omega
  obtain ⟨d, r, hf, hv⟩ := key
  refine ⟨d, r, roundRatio_exact good_b64 (by decide) hf ?_, hv⟩
  rw [Nat.mul_one]; exact hv.symm
theorem own_ra1 {z g : Nat} (h1 : z ≤ 2 ^ 53) (hg : g ≤ 10) : own_ra (z * 2 ^ g) = z * 2 ^ g := by
  by_cases h : z * 2 ^ g ≤ 2 ^ 53
  · exact if_pos h
  · have hp : z * 2 ^ g ≤ 2 ^ 53 * 2 ^ g := Nat.mul_le_mul_right _ h1
    have hp2 : (2 : Nat) ^ 53 * 2 ^ g ≤ 2 ^ 63 := by rw [← Nat.pow_add]; exact Nat.pow_le_pow_right (by decide) (by omega)
    obtain ⟨q, c, hq1, hq2, -, b1, b2, hc, er, -, -, -, -⟩ := own_raB (A := z * 2 ^ g) (by omega) (by omega)
    rw [er, hc]
    have hB : 0 < 2 ^ q := Nat.two_pow_pos _
    have dv : ∃ M, z * 2 ^ g = M * 2 ^ q := by
      by_cases hqg : q ≤ g
      · refine ⟨z * 2 ^ (g - q), ?_⟩
        rw [Nat.mul_assoc, ← Nat.pow_add]; congr 2; omega
      · have p1 : 2 ^ g * 2 ≤ 2 ^ q := by rw [← Nat.pow_succ]; exact Nat.pow_le_pow_right (by decide) (by omega)
        have p0 : 0 < 2 ^ g := Nat.two_pow_pos _
        have e1 : 2 ^ g * 2 = 2 ^ q := by
          refine Nat.le_antisymm p1 (Nat.le_of_not_lt fun c2 => ?_)
          omega
        have e2 : z * 2 ^ g = 2 ^ 52 * 2 ^ q := by omega
        exact ⟨2 ^ 52, e2⟩
    obtain ⟨M, hM⟩ := dv
    rw [hM, nearest_exact M hB]
/-- the rounding, whatever the scale -/
theorem own_VR {σ i : Int} (hσ : own_sg σ) (hi : i.natAbs ≤ 2 ^ 63) : own_V σ (own_rnd i) (of64 (own_Rs σ i)) ∧ own_Rs σ (own_rnd i) = own_Rs σ i := by
  have q1 : b64.qmin = -1074 := by decide
  have q2 : b64.qmax = 971 := by decide
  have t : b64.tails = 2 ^ 52 := rfl
  have key : ∃ d r, own_Rs σ i = .fin (decide (i < 0)) d r ∧ d * 2 ^ (r - σ).toNat = own_ra i.natAbs * 2 ^ (σ - r).toNat ∧ (own_ra i.natAbs = 0 → i = 0) := by
    by_cases h0 : i = 0
    · refine ⟨0, b64.qmin, by rw [h0]; rfl, ?_, fun _ => h0⟩
      rw [h0]
      have : own_ra (0 : Int).natAbs = 0 := rfl
      rw [this, Nat.zero_mul, Nat.zero_mul]
    by_cases h : i.natAbs ≤ 2 ^ 53
    · obtain ⟨d, r, e1, e2⟩ := own_fitn hσ (decide (i < 0)) (z := i.natAbs) (g := 0) (by omega) h (by omega)
      rw [Nat.pow_zero, Nat.mul_one] at e1 e2
      have er : own_ra i.natAbs = i.natAbs := if_pos h
      exact ⟨d, r, e1, by rw [er]; exact e2, by rw [er]; omega⟩
    · obtain ⟨l1, l2, k1, k2⟩ := own_log (A := i.natAbs) (by omega) hi
      obtain ⟨q, c, hq1, hq2, hq3, b1, b2, hc, er, c1, c2, -, -⟩ := own_raB (A := i.natAbs) (by omega) hi
      obtain ⟨σ1, σ2⟩ := hσ
      have a0 : i.natAbs ≠ 0 := by omega
      have hq : quantum b64 i.natAbs 1 σ = (q : Int) + σ := by
        refine quantum_eq (by omega) (by decide) (by omega) ?_ (Or.inr ?_)
        · rw [show (q : Int) + σ - σ + ((b64.p : Nat) : Int) = ((q + 53 : Nat) : Int) - ((0 : Nat) : Int) by show (q : Int) + σ - σ + ((53 : Nat) : Int) = _; omega, below_iff, Nat.pow_zero, Nat.mul_one, Nat.one_mul, Nat.pow_add, Nat.mul_comm]
          exact b2
        · rw [show (q : Int) + σ - σ + (((b64.p : Nat) : Int) - 1) = ((q + 52 : Nat) : Int) - ((0 : Nat) : Int) by show (q : Int) + σ - σ + (((53 : Nat) : Int) - 1) = _; omega, below_iff, Nat.pow_zero, Nat.mul_one, Nat.one_mul, Nat.pow_add, Nat.mul_comm]
          exact Nat.not_lt.mpr b1
      have eB : unitsDen 1 σ ((q : Int) + σ) = 2 ^ q := by
        unfold unitsDen
        rw [show ((q : Int) + σ - σ).toNat = q by omega]; simp
      have eA : unitsNum i.natAbs σ ((q : Int) + σ) = i.natAbs := by
        unfold unitsNum
        rw [show (σ - ((q : Int) + σ)).toNat = 0 by omega]; simp
      have em : own_Rs σ i = settle b64 (decide (i < 0)) c ((q : Int) + σ) := by
        unfold own_Rs roundRatio
        rw [if_neg a0, hq]
        unfold roundAt
        rw [eA, eB, ← hc]
      have hz : own_ra i.natAbs = 0 → i = 0 := by
        rw [er]
        intro z
        have p0 : 0 < 2 ^ q := Nat.two_pow_pos _
        have : 0 < c * 2 ^ q := Nat.mul_pos (by omega) p0
        omega
      rw [em, er]
      unfold settle bound
      by_cases hh : c < 2 ^ b64.p
      · rw [if_pos hh, if_pos (by omega)]
        refine ⟨_, _, rfl, ?_, by rw [← er]; exact hz⟩
        rw [show ((q : Int) + σ - σ).toNat = q by omega, show (σ - ((q : Int) + σ)).toNat = 0 by omega]; simp
      · rw [if_neg hh, if_pos (by omega)]
        have e53 : c = 2 ^ 53 := by
          have z : (2 : Nat) ^ b64.p = 2 ^ 53 := rfl
          omega
        refine ⟨_, _, rfl, ?_, by rw [← er]; exact hz⟩
        rw [show ((q : Int) + σ + 1 - σ).toNat = q + 1 by omega, show (σ - ((q : Int) + σ + 1)).toNat = 0 by omega, e53, t, Nat.pow_zero, Nat.mul_one, ← Nat.pow_add, ← Nat.pow_add]
        congr 1; omega
  obtain ⟨d, r, e1, e2, ez⟩ := key
  have na : (own_rnd i).natAbs = own_ra i.natAbs := by
    unfold own_rnd signed
    split <;> omega
  have hs : decide (own_rnd i < 0) = decide (i < 0) := by
    rw [decide_eq_decide]
    have := fun z => ez z
    unfold own_rnd signed
    by_cases g : i < 0
    · simp only [g, decide_true, if_true, iff_true]
      have : own_ra i.natAbs ≠ 0 := fun z => by have := ez z; omega
      omega
    · simp only [g, decide_false, Bool.false_eq_true, if_false, iff_false]
      omega
  have f1 := own_fs σ i
  refine ⟨⟨d, r, by rw [val64_of64 f1, hs]; exact e1, by rw [na]; exact e2⟩, ?_⟩
  rw [e1] at f1 ⊢
  have r1 := round_of_fits good_b64 f1
  rw [← r1]
  unfold own_Rs
  rw [hs, na]
  refine roundRatio_congr (by decide) (by decide) ?_
  rw [Nat.mul_one, Nat.mul_one]; exact e2.symm
end Fl
section Fl2
open Jvm.FP.Core
theorem own_un {σ i : Int} {s : Bool} {c : Nat} {q e : Int} (he : e ≤ q) (w : c * 2 ^ (q - σ).toNat = i.natAbs * 2 ^ (σ - q).toNat) (hs : i ≠ 0 → s = decide (i < 0)) : signed s (inUnits c q e) * ((2 ^ (e - σ).toNat : Nat) : Int) = i * ((2 ^ (σ - e).toNat : Nat) : Int) := by
  have h1 : inUnits c q e * 2 ^ (e - σ).toNat = i.natAbs * 2 ^ (σ - e).toNat := by
    refine Nat.eq_of_mul_eq_mul_right (Nat.two_pow_pos (σ - q).toNat) ?_
    unfold inUnits
    have ex : (q - e).toNat + (e - σ).toNat + (σ - q).toNat = (q - σ).toNat + (σ - e).toNat := by omega
    calc c * 2 ^ (q - e).toNat * 2 ^ (e - σ).toNat * 2 ^ (σ - q).toNat = c * 2 ^ ((q - e).toNat + (e - σ).toNat + (σ - q).toNat) := by simp only [Nat.pow_add, Nat.mul_assoc]
      _ = (c * 2 ^ (q - σ).toNat) * 2 ^ (σ - e).toNat := by rw [ex, Nat.pow_add, Nat.mul_assoc]
      _ = i.natAbs * 2 ^ (σ - e).toNat * 2 ^ (σ - q).toNat := by rw [w]; ac_rfl
  rw [← signed_mul, h1, signed_mul]
  congr 1
  by_cases h : i = 0
  · rw [h]; exact signed_zero s
  · rw [hs h]
    unfold signed
    by_cases g : i < 0 <;> simp [g] <;> omega
theorem own_sum {σ i j : Int} {s t : Bool} {c d : Nat} {q r : Int} (w1 : c * 2 ^ (q - σ).toNat = i.natAbs * 2 ^ (σ - q).toNat) (w2 : d * 2 ^ (r - σ).toNat = j.natAbs * 2 ^ (σ - r).toNat) (hs : i ≠ 0 → s = decide (i < 0)) (ht : j ≠ 0 → t = decide (j < 0)) (hz : i + j = 0 → (s && t) = false) :
    round b64 (exactSum (.fin s c q) (.fin t d r)) = own_Rs σ (i + j) := by
  have u1 := own_un (e := min q r) (by omega) w1 hs
  have u2 := own_un (e := min q r) (by omega) w2 ht
  have hv : sumUnits s c q t d r (min q r) * ((2 ^ (min q r - σ).toNat : Nat) : Int) = (i + j) * ((2 ^ (σ - min q r).toNat : Nat) : Int) := by
    unfold sumUnits
    rw [Int.add_mul, Int.add_mul, u1, u2]
  show roundRatio b64 (sumSign s t (sumUnits s c q t d r (min q r))) (sumUnits s c q t d r (min q r)).natAbs 1 (min q r) = roundRatio b64 (decide (i + j < 0)) (i + j).natAbs 1 σ
  generalize sumUnits s c q t d r (min q r) = v at hv
  have p1 : (0 : Int) < ((2 ^ (min q r - σ).toNat : Nat) : Int) := by have := Nat.two_pow_pos (min q r - σ).toNat; omega
  have p2 : (0 : Int) < ((2 ^ (σ - min q r).toNat : Nat) : Int) := by have := Nat.two_pow_pos (σ - min q r).toNat; omega
  have hs2 : sumSign s t v = decide (i + j < 0) := by
    unfold sumSign
    by_cases h : i + j = 0
    · rw [h, Int.zero_mul] at hv
      have v0 : v = 0 := (Int.mul_eq_zero.mp hv).resolve_right (by omega)
      rw [if_pos v0, hz h, h]; rfl
    · have v0 : v ≠ 0 := fun z => by
        rw [z, Int.zero_mul] at hv
        rcases Int.mul_eq_zero.mp hv.symm with g | g
        · exact h g
        · omega
      rw [if_neg v0, decide_eq_decide]
      constructor
      · intro g
        have := Int.mul_neg_of_neg_of_pos g p1
        rw [hv] at this
        refine Int.lt_of_not_ge fun g2 => ?_
        have := Int.mul_nonneg g2 (Int.le_of_lt p2)
        omega
      · intro g
        have := Int.mul_neg_of_neg_of_pos g p2
        rw [← hv] at this
        refine Int.lt_of_not_ge fun g2 => ?_
        have := Int.mul_nonneg g2 (Int.le_of_lt p1)
        omega
  rw [hs2]
  refine roundRatio_congr (by decide) (by decide) ?_
  rw [Nat.mul_one, Nat.mul_one]
  have := congrArg Int.natAbs hv
  rw [Int.natAbs_mul, Int.natAbs_mul, Int.natAbs_natCast, Int.natAbs_natCast] at this
  exact this
theorem own_Vadd {σ i j : Int} {x y : UInt64} (hx : own_V σ i x) (hy : own_V σ j y) : FP.dadd x y = of64 (own_Rs σ (i + j)) := by
  obtain ⟨c, q, e1, w1⟩ := hx
  obtain ⟨d, r, e2, w2⟩ := hy
  show of64 (round b64 (exactSum (val64 x) (val64 y))) = of64 (own_Rs σ (i + j))
  rw [e1, e2]
  exact congrArg of64 (own_sum w1 w2 (fun _ => rfl) (fun _ => rfl) (fun h => by rw [Bool.and_eq_false_iff]; simp; omega))
theorem own_Vsub {σ i j : Int} {x y : UInt64} (hx : own_V σ i x) (hy : own_V σ j y) : FP.dsub x y = of64 (own_Rs σ (i - j)) := by
  obtain ⟨c, q, e1, w1⟩ := hx
  obtain ⟨d, r, e2, w2⟩ := hy
  show of64 (round b64 (exactSum (val64 x) (negate (val64 y)))) = of64 (own_Rs σ (i - j))
  rw [e1, e2]
  have w3 : d * 2 ^ (r - σ).toNat = (-j).natAbs * 2 ^ (σ - r).toNat := by rw [Int.natAbs_neg]; exact w2
  show of64 (round b64 (exactSum (.fin (decide (i < 0)) c q) (.fin (!decide (j < 0)) d r))) = _
  refine congrArg of64 (own_sum (i := i) (j := -j) w1 w3 (fun _ => rfl) ?_ ?_)
  · intro h
    rw [Bool.eq_iff_iff]; simp; omega
  · intro h
    have : i = j := by omega
    rw [this]; cases decide (j < 0) <;> rfl
def own_sc (σ : Int) (w : UInt64) : Prop := own_sg σ ∧ val64 w = .fin false (2 ^ 52) (σ - 52)
theorem own_Vmul {σ i : Int} {x w : UInt64} (hx : own_V 0 i x) (hw : own_sc σ w) : FP.dmul x w = of64 (own_Rs σ i) := by
  obtain ⟨d, r, e1, w1⟩ := hx
  show of64 (round b64 (exactProduct (val64 x) (val64 w))) = of64 (own_Rs σ i)
  rw [e1, hw.2]
  refine congrArg of64 ?_
  show roundRatio b64 (decide (i < 0) != false) (d * 2 ^ 52) 1 (r + (σ - 52)) = roundRatio b64 (decide (i < 0)) i.natAbs 1 σ
  rw [show (decide (i < 0) != false) = decide (i < 0) by cases decide (i < 0) <;> rfl]
  refine roundRatio_congr (by decide) (by decide) ?_
  rw [Nat.mul_one, Nat.mul_one, show r + (σ - 52) - σ = r - 52 by omega, show σ - (r + (σ - 52)) = 52 - r by omega]
  rw [show r - 0 = r by omega, show 0 - r = -r by omega] at w1
  by_cases c1 : 52 ≤ r
  · rw [show (52 - r).toNat = 0 by omega, Nat.pow_zero, Nat.mul_one, Nat.mul_assoc, ← Nat.pow_add, show 52 + (r - 52).toNat = r.toNat by omega, w1, show (-r).toNat = 0 by omega]; simp
  · by_cases c2 : 0 ≤ r
    · rw [show (r - 52).toNat = 0 by omega, Nat.pow_zero, Nat.mul_one]
      rw [show (-r).toNat = 0 by omega, Nat.pow_zero, Nat.mul_one] at w1
      rw [← w1, Nat.mul_assoc, ← Nat.pow_add]
      congr 2; omega
    · rw [show (r - 52).toNat = 0 by omega, Nat.pow_zero, Nat.mul_one]
      rw [show r.toNat = 0 by omega, Nat.pow_zero, Nat.mul_one] at w1
      rw [w1, Nat.mul_assoc, ← Nat.pow_add]
      congr 2; omega
theorem own_Vnn {σ i : Int} {x : UInt64} (h : own_V σ i x) : Jvm.Free.Fl.NoNaN64 x := by
  obtain ⟨d, r, e, -⟩ := h
  exact Jvm.Free.Fl.val64_no.mpr (by rw [e]; exact Datum.noConfusion)
theorem own_l2s (n : Int64) : FP.l2d n = of64 (own_Rs 0 n.toInt) := rfl
theorem own_Vd2l {i : Int} {x : UInt64} (h : own_V 0 i x) {n : Int64} (e : n.toInt = i) : FP.d2l x = n := by
  obtain ⟨d, r, e1, w⟩ := h
  refine d2l_int (a := n) ?_
  show Whole n.toInt (val64 x)
  rw [e1, e]
  show signed (decide (i < 0)) (d * 2 ^ r.toNat) = i * ((2 ^ (-r).toNat : Nat) : Int)
  rw [show r - 0 = r by omega, show 0 - r = -r by omega] at w
  rw [w, signed_mul]
  congr 1
  unfold signed
  by_cases g : i < 0 <;> simp [g] <;> omega
end Fl2
section Two
open Jvm.FP.Core
theorem own_pw {x y : Nat} (h : x < y) : 2 * (2 : Int) ^ x ≤ 2 ^ y := by
  have : 2 ^ x * 2 ≤ 2 ^ y := by rw [← Nat.pow_succ]; exact Nat.pow_le_pow_right (by decide) h
  have c1 : ((2 ^ x : Nat) : Int) = 2 ^ x := by simp
  have c2 : ((2 ^ y : Nat) : Int) = 2 ^ y := by simp
  rw [← c1, ← c2]; omega
theorem own_pl {x y : Nat} (h : x ≤ y) : (2 : Int) ^ x ≤ 2 ^ y := by
  have : 2 ^ x ≤ 2 ^ y := Nat.pow_le_pow_right (by decide) h
  have c1 : ((2 ^ x : Nat) : Int) = 2 ^ x := by simp
  have c2 : ((2 ^ y : Nat) : Int) = 2 ^ y := by simp
  rw [← c1, ← c2]; omega
theorem own_p1 (x : Nat) : 1 ≤ (2 : Int) ^ x := own_pl (x := 0) (Nat.zero_le x)
theorem own_dv {x y : Nat} {i : Int} (h : x ≤ y) (d : (2 : Int) ^ y ∣ i) : (2 : Int) ^ x ∣ i := by
  obtain ⟨z, rfl⟩ := d
  refine ⟨2 ^ (y - x) * z, ?_⟩
  rw [← Int.mul_assoc, ← Int.pow_add, show x + (y - x) = y by omega]
theorem own_na (i : Int) : (own_rnd i).natAbs = own_ra i.natAbs := by
  unfold own_rnd signed
  split <;> omega
theorem own_rnd1 {i : Int} {g : Nat} (hg : g ≤ 10) (hd : (2 : Int) ^ g ∣ i) (h1 : -(2 ^ 53 * 2 ^ g) ≤ i) (h2 : i ≤ 2 ^ 53 * 2 ^ g) : own_rnd i = i := by
  obtain ⟨z, rfl⟩ := hd
  have hp := own_p1 g
  have c : ((2 ^ g : Nat) : Int) = 2 ^ g := by simp
  have e : ((2 : Int) ^ g * z).natAbs = z.natAbs * 2 ^ g := by
    rw [Int.natAbs_mul, Nat.mul_comm, ← c, Int.natAbs_natCast]
  have hz : z.natAbs ≤ 2 ^ 53 := by
    refine Nat.le_of_mul_le_mul_right (c := 2 ^ g) ?_ (Nat.two_pow_pos g)
    rw [← e]
    generalize (2 : Int) ^ g * z = v at *
    omega
  unfold own_rnd
  rw [e, own_ra1 hz hg, ← e]
  unfold signed
  split
  · rename_i h; simp at h; omega
  · rename_i h; simp at h; omega
theorem own_rnd2 {i : Int} (h1 : 2 ^ 53 < i.natAbs) (h2 : i.natAbs ≤ 2 ^ 63) : ∃ q : Nat, 1 ≤ q ∧ q ≤ 11 ∧ 2 ^ 52 * (2 : Int) ^ q ≤ i.natAbs ∧ (i.natAbs : Int) < 2 ^ 53 * 2 ^ q ∧ (2 : Int) ^ q ∣ own_rnd i ∧ 2 * ((own_rnd i - i).natAbs : Int) ≤ 2 ^ q ∧ 2 ^ 52 * (2 : Int) ^ q ≤ (own_rnd i).natAbs ∧ ((own_rnd i).natAbs : Int) ≤ 2 ^ 53 * 2 ^ q := by
  obtain ⟨q, c, q1, q2, -, b1, b2, -, er, c1, c2, s1, s2⟩ := own_raB h1 h2
  have cq : ((2 ^ q : Nat) : Int) = 2 ^ q := by simp
  have g1 : 2 ^ 52 * 2 ^ q ≤ c * 2 ^ q := Nat.mul_le_mul_right _ c1
  have g2 : c * 2 ^ q ≤ 2 ^ 53 * 2 ^ q := Nat.mul_le_mul_right _ c2
  have na := own_na i
  rw [er] at na
  refine ⟨q, q1, q2, ?_, ?_, ?_, ?_, ?_, ?_⟩
  · rw [← cq]; omega
  · rw [← cq]; omega
  · rw [← cq, ← Int.natAbs_dvd_natAbs, Int.natAbs_natCast, na]; exact Nat.dvd_mul_left ..
  · rw [← cq]
    have : (own_rnd i - i).natAbs = (own_rnd i).natAbs - i.natAbs + (i.natAbs - (own_rnd i).natAbs) := by
      unfold own_rnd signed
      split <;> rename_i h <;> simp at h <;> omega
    rw [this, na]
    generalize c * 2 ^ q = v at *
    omega
  · rw [← cq, na]; omega
  · rw [← cq, na]; omega
theorem own_rnd3 {i : Int} (h2 : i.natAbs ≤ 2 ^ 63) : (own_rnd i - i).natAbs ≤ 1024 := by
  by_cases h1 : 2 ^ 53 < i.natAbs
  · obtain ⟨q, q1, q2, -, -, -, d, -, -⟩ := own_rnd2 h1 h2
    have := own_pl q2
    have e : (2 : Int) ^ 11 = 2048 := by decide
    omega
  · have e : own_rnd i = i := by
      unfold own_rnd own_ra
      rw [if_pos (by omega)]
      unfold signed
      split <;> rename_i h <;> simp at h <;> omega
    rw [e]; simp
theorem own_rnd0 {i : Int} (h : i.natAbs ≤ 2 ^ 53) : own_rnd i = i := own_rnd1 (g := 0) (by omega) ⟨i, by simp⟩ (by rw [Int.pow_zero]; omega) (by rw [Int.pow_zero]; omega)
theorem own_f2 {A S T pa pk pq pp : Int} (h1 : -(2 ^ 52 * pa) ≤ A) (h2 : A ≤ 2 ^ 52 * pa) (t1 : -pk ≤ 2 * (T - (S - A))) (t2 : 2 * (T - (S - A)) ≤ pk) (c3 : pk ≤ 2 * pq) (k1 : 2 * pa ≤ pq) (c4 : pq = 2 * pp) (p1 : 1 ≤ pp) : -(2 ^ 53 * pp) ≤ S - T ∧ S - T ≤ 2 ^ 53 * pp := by omega
theorem own_ab {i k : Int} (h : (i.natAbs : Int) ≤ k) : -k ≤ i ∧ i ≤ k := by omega
theorem own_f3 {A B S n pa pb pq : Int} (hn : n = A + B) (hB : -(2 ^ 52 * pb) ≤ B ∧ B ≤ 2 ^ 52 * pb) (s : -pq ≤ 2 * (S - n) ∧ 2 * (S - n) ≤ pq) (k1 : 2 * pb ≤ pq) (p1 : 1 ≤ pq) : -(2 ^ 53 * pq) ≤ S - A ∧ S - A ≤ 2 ^ 53 * pq := by omega
/-- the error of a sum: what decides it is that s - t is a number of the format -/
theorem own_two {A B : Int} {α β : Nat} (dA : (2 : Int) ^ α ∣ A) (dB : (2 : Int) ^ β ∣ B) (hα : α ≤ 9) (hβ : β ≤ 9) (hA : (A.natAbs : Int) ≤ 2 ^ 52 * 2 ^ α) (hB : (B.natAbs : Int) ≤ 2 ^ 52 * 2 ^ β) :
    own_rnd (own_rnd (A + B) - own_rnd (own_rnd (A + B) - A)) = own_rnd (A + B) - own_rnd (own_rnd (A + B) - A) := by
  have pa := own_p1 α; have pb := own_p1 β
  have a9 := own_pl hα; have b9 := own_pl hβ
  have e9 : (2 : Int) ^ 9 = 512 := by decide
  rw [e9] at a9 b9
  have hA' := own_ab hA
  have hB' := own_ab hB
  have rA : own_rnd A = A := own_rnd1 (by omega) dA (by omega) (by omega)
  have rB : own_rnd B = B := own_rnd1 (by omega) dB (by omega) (by omega)
  have back : own_rnd (own_rnd (A + B) - A) = own_rnd (A + B) - A → own_rnd (own_rnd (A + B) - own_rnd (own_rnd (A + B) - A)) = own_rnd (A + B) - own_rnd (own_rnd (A + B) - A) := fun e => by
    rw [e, show own_rnd (A + B) - (own_rnd (A + B) - A) = A by omega]; exact rA
  have exact1 : own_rnd (A + B) = A + B → own_rnd (own_rnd (A + B) - A) = own_rnd (A + B) - A := fun e => by
    rw [e, show A + B - A = B by omega]; exact rB
  by_cases hn : (A + B).natAbs ≤ 2 ^ 53
  · exact back (exact1 (own_rnd0 hn))
  obtain ⟨q, q1, q2, n1, n2, dS, s1, s2, s3⟩ := own_rnd2 (i := A + B) (by omega) (by omega)
  have pq := own_p1 q
  have s1' : -(2 : Int) ^ q ≤ 2 * (own_rnd (A + B) - (A + B)) ∧ 2 * (own_rnd (A + B) - (A + B)) ≤ 2 ^ q := by omega
  by_cases hab : β ≤ α
  · by_cases hx : ((A + B).natAbs : Int) ≤ 2 ^ 53 * 2 ^ β
    · have hx' := own_ab hx
      exact back (exact1 (own_rnd1 (g := β) (by omega) (Int.dvd_add (own_dv hab dA) dB) hx'.1 hx'.2))
    · have hq : β < q := by
        refine Nat.lt_of_not_le fun c => ?_
        have := own_pl c
        omega
      have k1 := own_pw hq
      have k2 := own_pl hab
      have hqa : q ≤ α := by
        refine Nat.le_of_not_lt fun c => ?_
        have := own_pw c
        omega
      have f := own_f3 (S := own_rnd (A + B)) (pa := 0) rfl hB' s1' k1 pq
      exact back (own_rnd1 (g := q) (by omega) (Int.dvd_sub dS (own_dv hqa dA)) f.1 f.2)
  · have hab' : α < β := by omega
    have k0 := own_pw hab'
    by_cases hx : ((A + B).natAbs : Int) ≤ 2 ^ 53 * 2 ^ α
    · have hx' := own_ab hx
      exact back (exact1 (own_rnd1 (g := α) (by omega) (Int.dvd_add dA (own_dv (by omega) dB)) hx'.1 hx'.2))
    · have hq : α < q := by
        refine Nat.lt_of_not_le fun c => ?_
        have := own_pl c
        omega
      have k1 := own_pw hq
      have q11 := own_pl q2
      have e11 : (2 : Int) ^ 11 = 2048 := by decide
      rw [e11] at q11
      by_cases hD : (own_rnd (A + B) - A).natAbs ≤ 2 ^ 53
      · exact back (own_rnd0 hD)
      obtain ⟨k, g1, g2, m1, m2, dT, t1, -, -⟩ := own_rnd2 (i := own_rnd (A + B) - A) (by omega) (by omega)
      have t1' : -(2 : Int) ^ k ≤ 2 * (own_rnd (own_rnd (A + B) - A) - (own_rnd (A + B) - A)) ∧ 2 * (own_rnd (own_rnd (A + B) - A) - (own_rnd (A + B) - A)) ≤ 2 ^ k := by
        clear n1 n2 s1 s2 s3 m1 m2 hn hx hD
        omega
      generalize own_rnd (own_rnd (A + B) - A) = T at *
      generalize own_rnd (A + B) = S at *
      have pk := own_p1 k
      have hk : q ≤ k + 1 := by
        refine Nat.le_of_not_lt fun c => ?_
        have c1 := own_pw (x := k + 1) (y := q) c
        have c2 := own_pw (x := k) (y := k + 1) (by omega)
        clear n1 n2 s1 s3 s1' t1 t1' m1 hn hx hD dS dT rA rB
        omega
      have hk2 : k ≤ q + 1 := by
        refine Nat.le_of_not_lt fun c => ?_
        have c1 := own_pw (x := q + 1) (y := k) c
        have c2 := own_pw (x := q) (y := q + 1) (by omega)
        clear n1 n2 s1 s2 s1' t1 t1' m2 hn hx hD dS dT rA rB
        omega
      obtain ⟨p, rfl⟩ : ∃ p, q = p + 1 := ⟨q - 1, by omega⟩
      have c4 : (2 : Int) ^ (p + 1) = 2 * 2 ^ p := by rw [Int.pow_succ, Int.mul_comm]
      have c3 : (2 : Int) ^ k ≤ 2 * 2 ^ (p + 1) := by
        have := own_pl hk2
        rw [Int.pow_succ, Int.mul_comm] at this
        exact this
      have f := own_f2 hA'.1 hA'.2 t1'.1 t1'.2 c3 k1 c4 (own_p1 p)
      exact own_rnd1 (g := p) (by omega) (Int.dvd_sub (own_dv (by omega) dS) (own_dv (by omega) dT)) f.1 f.2
end Two
section Chain
open Jvm.FP.Core
theorem own_chain {σ : Int} {w : UInt64} (hw : own_sc σ w) {A B : Int64} {α β : Nat} (dA : (2 : Int) ^ α ∣ A.toInt) (dB : (2 : Int) ^ β ∣ B.toInt) (hα : α ≤ 9) (hβ : β ≤ 9) (hA : (A.toInt.natAbs : Int) ≤ 2 ^ 52 * 2 ^ α) (hB : (B.toInt.natAbs : Int) ≤ 2 ^ 52 * 2 ^ β) :
    Jvm.Free.Fl.NoNaN64 (FP.dmul (FP.l2d A) w) ∧ Jvm.Free.Fl.NoNaN64 (FP.dmul (FP.l2d B) w) ∧ ∃ z1 z2 z3 z4 z5 z6 : UInt64, (FP.dadd (FP.dmul (FP.l2d A) w) (FP.dmul (FP.l2d B) w) = z1 ∧ FP.dsub z1 (FP.dmul (FP.l2d A) w) = z2 ∧ FP.dsub z1 z2 = z3 ∧ FP.dsub (FP.dmul (FP.l2d A) w) z3 = z4 ∧ FP.dsub (FP.dmul (FP.l2d B) w) z2 = z5 ∧ FP.dadd z4 z5 = z6) ∧
      (Jvm.Free.Fl.NoNaN64 z1 ∧ Jvm.Free.Fl.NoNaN64 z2 ∧ Jvm.Free.Fl.NoNaN64 z3 ∧ Jvm.Free.Fl.NoNaN64 z4 ∧ Jvm.Free.Fl.NoNaN64 z5 ∧ Jvm.Free.Fl.NoNaN64 z6) ∧ FP.dmul (FP.l2d (A + B)) w = z1 ∧ FP.dmul (FP.l2d ((A + B) - FP.d2l (FP.l2d (A + B)))) w = z6 := by
  have pa := own_p1 α; have pb := own_p1 β
  have a9 := own_pl hα; have b9 := own_pl hβ
  have e9 : (2 : Int) ^ 9 = 512 := by decide
  rw [e9] at a9 b9
  have hA' := own_ab hA
  have hB' := own_ab hB
  have two := own_two dA dB hα hβ hA hB
  have rA : own_rnd A.toInt = A.toInt := own_rnd1 (by omega) dA (by omega) (by omega)
  have rB : own_rnd B.toInt = B.toInt := own_rnd1 (by omega) dB (by omega) (by omega)
  have s0 : own_sg 0 := ⟨by decide, by decide⟩
  have hσ := hw.1
  have en : (A + B).toInt = A.toInt + B.toInt := by rw [Int64.toInt_add]; exact Int.bmod_eq_of_le (by omega) (by omega)
  have xA := (own_VR (i := A.toInt) s0 (by omega)).1
  rw [rA, ← own_l2s] at xA
  have xB := (own_VR (i := B.toInt) s0 (by omega)).1
  rw [rB, ← own_l2s] at xB
  have ea := own_Vmul xA hw
  have eb := own_Vmul xB hw
  have va := (own_VR (i := A.toInt) hσ (by omega)).1
  rw [rA, ← ea] at va
  have vb := (own_VR (i := B.toInt) hσ (by omega)).1
  rw [rB, ← eb] at vb
  have S3 := own_rnd3 (i := A.toInt + B.toInt) (by omega)
  have v1 := own_VR (i := A.toInt + B.toInt) hσ (by omega)
  have xn := (own_VR (i := A.toInt + B.toInt) s0 (by omega)).1
  rw [← en, ← own_l2s, en] at xn
  generalize hS : own_rnd (A.toInt + B.toInt) = S at *
  have e1 := own_Vadd va vb
  have T3 := own_rnd3 (i := S - A.toInt) (by omega)
  have v2 := (own_VR (i := S - A.toInt) hσ (by omega)).1
  generalize hT : own_rnd (S - A.toInt) = T at *
  have e2 := own_Vsub v1.1 va
  have e3 := own_Vsub v1.1 v2
  have v3 := (own_VR (i := S - T) hσ (by omega)).1
  rw [two] at v3
  have e4 := own_Vsub va v3
  have v4 := (own_VR (i := A.toInt - (S - T)) hσ (by omega)).1
  rw [own_rnd0 (by omega)] at v4
  have e5 := own_Vsub vb v2
  have v5 := (own_VR (i := B.toInt - T) hσ (by omega)).1
  rw [own_rnd0 (by omega)] at v5
  have e6 := own_Vadd v4 v5
  have v6 := (own_VR (i := A.toInt - (S - T) + (B.toInt - T)) hσ (by omega)).1
  have eS : (Int64.ofInt S).toInt = S := Int64.toInt_ofInt_of_le (by omega) (by omega)
  have d1 : FP.d2l (FP.l2d (A + B)) = Int64.ofInt S := own_Vd2l xn eS
  have er : (A + B - Int64.ofInt S).toInt = A.toInt - (S - T) + (B.toInt - T) := by
    rw [Int64.toInt_sub, en, eS, Int.bmod_eq_of_le (by omega) (by omega)]; omega
  have xr := (own_VR (i := (A + B - Int64.ofInt S).toInt) s0 (by rw [er]; omega)).1
  rw [own_rnd0 (by rw [er]; omega), ← own_l2s] at xr
  refine ⟨own_Vnn va, own_Vnn vb, _, _, _, _, _, _, ⟨e1, e2, e3, e4, e5, e6⟩, ⟨own_Vnn v1.1, own_Vnn v2, own_Vnn v3, own_Vnn v4, own_Vnn v5, own_Vnn v6⟩, ?_, ?_⟩
  · rw [own_Vmul xn hw, v1.2]
  · rw [d1, own_Vmul xr hw, er]
theorem own_sc0 : own_sc 0 FP.dconst1 := ⟨⟨by decide, by decide⟩, by decide +kernel⟩
theorem own_sc1 : own_sc (-900) (553942754166571008 : UInt64) := ⟨⟨by decide, by decide⟩, by decide +kernel⟩
theorem own_sc2 : own_sc 900 (8660422083433463808 : UInt64) := ⟨⟨by decide, by decide⟩, by decide +kernel⟩
theorem own_sc3 : own_sc (-1000) (103582791429521408 : UInt64) := ⟨⟨by decide, by decide⟩, by decide +kernel⟩
end Chain
theorem own_e10 {e : Int32} (h : 0 ≤ e.toInt ∧ e.toInt < 10) : ∃ k : Fin 10, e = Int32.ofNat k.val := by
  refine ⟨⟨e.toInt.toNat, by omega⟩, ?_⟩
  rw [← Int32.toInt_inj]
  show _ = (Int32.ofNat e.toInt.toNat).toInt
  rw [Int32.toInt_ofNat_of_lt (by omega)]; omega
theorem own_a53 (x : Int64) : -2 ^ 52 ≤ ((x <<< ((11 : Int32) &&& 0x3f).toInt64) >>> ((11 : Int32) &&& 0x3f).toInt64).toInt ∧ ((x <<< ((11 : Int32) &&& 0x3f).toInt64) >>> ((11 : Int32) &&& 0x3f).toInt64).toInt < 2 ^ 52 := by
  generalize x <<< ((11 : Int32) &&& 0x3f).toInt64 = y
  have l := y.le_toInt; have u := y.toInt_lt
  have es : (((11 : Int32) &&& 0x3f).toInt64.toBitVec.smod 64).toNat = 11 := by decide +kernel
  have e : (y >>> ((11 : Int32) &&& 0x3f).toInt64).toInt = y.toInt / 2 ^ 11 := by
    show (y >>> ((11 : Int32) &&& 0x3f).toInt64).toBitVec.toInt = _
    rw [Int64.toBitVec_shiftRight, BitVec.sshiftRight_eq', es, BitVec.toInt_sshiftRight, Int.shiftRight_eq_div_pow]
    rfl
  rw [e]
  omega
theorem own_shs {m : Int64} (h0 : -2 ^ 52 ≤ m.toInt) (h1 : m.toInt < 2 ^ 52) (k : Fin 10) : (m <<< ((Int32.ofNat k.val) &&& 0x3f).toInt64).toInt = m.toInt * 2 ^ k.val := by
  have es : (((Int32.ofNat k.val) &&& 0x3f).toInt64.toBitVec.smod 64).toNat = k.val := (by decide +kernel : ∀ k : Fin 10, (((Int32.ofNat k.val) &&& 0x3f).toInt64.toBitVec.smod 64).toNat = k.val) k
  have et : (m <<< ((Int32.ofNat k.val) &&& 0x3f).toInt64).toBitVec.toNat = m.toBitVec.toNat * 2 ^ k.val % 2 ^ 64 := by
    rw [Int64.toBitVec_shiftLeft, BitVec.shiftLeft_eq', es, BitVec.toNat_shiftLeft, Nat.shiftLeft_eq]
  have em : m.toInt = m.toBitVec.toInt := rfl
  rw [em] at h0 h1 ⊢
  show (m <<< ((Int32.ofNat k.val) &&& 0x3f).toInt64).toBitVec.toInt = _
  have lt := m.toBitVec.isLt
  rw [BitVec.toInt_eq_toNat_cond] at h0 h1 ⊢
  rw [BitVec.toInt_eq_toNat_cond]
  rw [et]
  generalize m.toBitVec.toNat = T at *
  obtain ⟨k, hk⟩ := k
  have kk : k = 0 ∨ k = 1 ∨ k = 2 ∨ k = 3 ∨ k = 4 ∨ k = 5 ∨ k = 6 ∨ k = 7 ∨ k = 8 ∨ k = 9 := by omega
  rcases kk with rfl | rfl | rfl | rfl | rfl | rfl | rfl | rfl | rfl | rfl <;> simp only [Nat.reducePow, Int.reducePow] at * <;> (repeat split at *) <;> omega
theorem own_AB (x : Int64) {e : Int32} (he : 0 ≤ e.toInt ∧ e.toInt < 10) : ∃ α : Nat, α ≤ 9 ∧ (2 : Int) ^ α ∣ (((x <<< ((11 : Int32) &&& 0x3f).toInt64) >>> ((11 : Int32) &&& 0x3f).toInt64) <<< (e &&& 0x3f).toInt64).toInt ∧ ((((x <<< ((11 : Int32) &&& 0x3f).toInt64) >>> ((11 : Int32) &&& 0x3f).toInt64) <<< (e &&& 0x3f).toInt64).toInt.natAbs : Int) ≤ 2 ^ 52 * 2 ^ α := by
  obtain ⟨k, rfl⟩ := own_e10 he
  have h := own_a53 x
  generalize (x <<< ((11 : Int32) &&& 0x3f).toInt64) >>> ((11 : Int32) &&& 0x3f).toInt64 = m at h
  rw [own_shs h.1 h.2 k]
  refine ⟨k.val, by omega, ⟨m.toInt, Int.mul_comm ..⟩, ?_⟩
  have p := own_p1 k.val
  have c : ((2 ^ k.val : Nat) : Int) = 2 ^ k.val := by simp
  rw [← c, Int.natAbs_mul, Int.natAbs_natCast, Int.natCast_mul]
  exact Int.mul_le_mul_of_nonneg_right (by omega) (by omega)
theorem own_pn0 : plainName "java/lang/Record" = true := by first | (simp [plainName, overriddenIn]; done) | decide +kernel
theorem own_d4_0 : decode jdk_30_method_1_code 0 = .ok (.aload_n 0, 1) := by decide +kernel
theorem own_d4_1 : decode jdk_30_method_1_code 1 = .ok (.invokespecial 1, 3) := by decide +kernel
theorem own_d4_4 : decode jdk_30_method_1_code 4 = .ok (.return_, 1) := by decide +kernel
theorem own_efR (m : MethodId) (x0 : Addr) : entryFrame m #[(.ref x0)] 1 = mkF m 0 #[rv x0] [] := by first | (simp [entryFrame, mkF, argsToLocals, Value.category]; done) | rfl
def QR (Z : State) (aR : Addr) (h0 : Heap) (n0 : Nat) (v : Option Value) (h : Heap) (L : List Loc) : Prop := v = none ∧ Fr n0 L ∧ h = h0
set_option maxRecDepth 65536 in
set_option maxHeartbeats 40000000 in
theorem rmR (l : Launch) (Z : State) (a0 : Array Value) (hw : ∀ d ∈ tables_1, d.before a0 Z = true) (ws : List Jvm.Cond) (aR : Addr) (h0 : Heap) (n0 : Nat) (Z0 : n0 ≤ h0.size) :
    MetFree l (⟨"java/lang/Record", "<init>", "()V"⟩ : MethodName) (head1 (Jvm.Cond.code (⟨"java/lang/Record", "<init>", "()V"⟩ : MethodName) jdk_30_method_1_code 1 none :: ws) (oR 1 0 0 12)) (fun a U => a = #[(.ref aR)] ∧ Z.Warmed39 U.vm ∧ U.heap = h0) (fun _ _ _ _ _ => True) (fun _ U o U' => ∃ v L, o = .returned v ∧ QR Z aR h0 n0 v U'.heap L ∧ FrameEnd U o U' L (oR 1 0 0 12).cells (oR 1 0 0 12).slots) := by
  refine MetFree.of_bodySF (plainFor_of_name own_pn0) hisR ?_
  intro p e s m args below meth c s₁ Bd hml0 hP hK
  obtain ⟨rfl, hZ, hh⟩ := hP
  have hx := Bd.exec
  have hby := Bd.bytes
  have hlk : meth.locks = false := Bd.notSynchronized
  have hml : c.maxLocals = 1 := hml0
  have hown : s.vm.findClass "java/lang/Record" = some m.cls := findClass_of_methodNamed Bd.named
  have hnm := (name_of_methodNamed Bd.named Bd.method).1
  have X0 : Stand p l e (oR 1 0 0 12) s m #[(.ref aR)] below meth c s₁ [] 0 0 := Stand.of_body Bd
  have e0 : s₁.heap = h0 := by rw [← hh, Bd.state]; rfl
  have N0 := Fr.nil n0
  refine own_body (A := s₁.setTop (mkF m 0 #[rv aR] [])) (Q := QR Z aR h0 n0) (fun t k => castTop (own_efR m aR) k) ?_
  refine oALN (n := 1) X0 hx (hb hby own_d4_0) rfl rfl rfl ?_
  obtain ⟨T1, X1, e1, st1⟩ := initO X0 hx hZ hown (oW hw 19 rfl) (oW hw 20 rfl) (oW hw 21 rfl) e0 (g := (mkF m 1 #[rv aR] [(.ref aR)])) rfl (by rw [hml]; rfl) rfl (hb hby own_d4_1) (by decide) (W := 0) (by show 2 * 0 + _ ≤ _; exact Nat.le_of_eq rfl) (by decide)
  refine ov (B := T1.setTop (mkF m 4 #[rv aR] [])) (fun t k => st1 t k) ?_
  refine own_leafV X1 hx hlk Bd.returns (hb hby own_d4_4) (by decide) (by decide) ?_
  show QR Z aR h0 n0 _ T1.heap _
  rw [e1]
  refine ⟨?_, N0, rfl⟩
  rfl
theorem own_pn1 : plainName "com/example/gyre/gyre/DoubleDouble" = true := by first | (simp [plainName, overriddenIn]; done) | decide +kernel
theorem own_pd0 : parseMethodDescriptor "()V" = some ⟨[], none⟩ := by decide +kernel
theorem own_d3_0 : decode prog_2_method_1_code 0 = .ok (.aload_n 0, 1) := by decide +kernel
theorem own_d3_1 : decode prog_2_method_1_code 1 = .ok (.invokespecial 1, 3) := by decide +kernel
theorem own_d3_4 : decode prog_2_method_1_code 4 = .ok (.aload_n 0, 1) := by decide +kernel
theorem own_d3_5 : decode prog_2_method_1_code 5 = .ok (.dload_n 1, 1) := by decide +kernel
theorem own_d3_6 : decode prog_2_method_1_code 6 = .ok (.putfield 7, 3) := by decide +kernel
theorem own_d3_9 : decode prog_2_method_1_code 9 = .ok (.aload_n 0, 1) := by decide +kernel
theorem own_d3_10 : decode prog_2_method_1_code 10 = .ok (.dload_n 3, 1) := by decide +kernel
theorem own_d3_11 : decode prog_2_method_1_code 11 = .ok (.putfield 13, 3) := by decide +kernel
theorem own_d3_14 : decode prog_2_method_1_code 14 = .ok (.return_, 1) := by decide +kernel
theorem own_efI (m : MethodId) (x0 : Addr) (x1 : UInt64) (x2 : UInt64) : entryFrame m #[(.ref x0), (.double x1), (.double x2)] 5 = mkF m 0 #[rv x0, .val (.double x1), .second, .val (.double x2), .second] [] := by first | (simp [entryFrame, mkF, argsToLocals, Value.category]; done) | rfl
def QI (Z : State) (a1 : Addr) (xH : UInt64) (xL : UInt64) (u0 : Value) (u1 : Value) (h0 : Heap) (n0 : Nat) (v : Option Value) (h : Heap) (L : List Loc) : Prop := v = none ∧ Fr n0 L ∧ Keep h0 h [a1] ∧ (Fld Z h a1 "com/example/gyre/gyre/DoubleDouble" "hi" "D" (.double xH)) ∧ (Fld Z h a1 "com/example/gyre/gyre/DoubleDouble" "lo" "D" (.double xL))
set_option maxRecDepth 65536 in
set_option maxHeartbeats 40000000 in
theorem rmI (l : Launch) (Z : State) (a0 : Array Value) (hw : ∀ d ∈ tables_1, d.before a0 Z = true) (ws : List Jvm.Cond) (a1 : Addr) (xH : UInt64) (xL : UInt64) (u0 : Value) (u1 : Value) (h0 : Heap) (n0 : Nat) (Z0 : n0 ≤ h0.size) (E1 : Exa Z h0 a1 "com/example/gyre/gyre/DoubleDouble") (F0 : Fld Z h0 a1 "com/example/gyre/gyre/DoubleDouble" "hi" "D" u0) (F1 : Fld Z h0 a1 "com/example/gyre/gyre/DoubleDouble" "lo" "D" u1) (g_a1 : n0 ≤ a1) :
    MetFree l (⟨"com/example/gyre/gyre/DoubleDouble", "<init>", "(DD)V"⟩ : MethodName) (head1 (Jvm.Cond.code (⟨"com/example/gyre/gyre/DoubleDouble", "<init>", "(DD)V"⟩ : MethodName) prog_2_method_1_code 5 none :: ws) (oR 2 0 0 28)) (fun a U => a = #[(.ref a1), (.double xH), (.double xL)] ∧ Z.Warmed39 U.vm ∧ U.heap = h0) (fun _ _ _ _ _ => True) (fun _ U o U' => ∃ v L, o = .returned v ∧ QI Z a1 xH xL u0 u1 h0 n0 v U'.heap L ∧ FrameEnd U o U' L (oR 2 0 0 28).cells (oR 2 0 0 28).slots) := by
  refine MetFree.of_bodySF (plainFor_of_name own_pn1) hisR ?_
  intro p e s m args below meth c s₁ Bd hml0 hP hK
  obtain ⟨rfl, hZ, hh⟩ := hP
  have hx := Bd.exec
  have hby := Bd.bytes
  have hlk : meth.locks = false := Bd.notSynchronized
  have hml : c.maxLocals = 5 := hml0
  have hown : s.vm.findClass "com/example/gyre/gyre/DoubleDouble" = some m.cls := findClass_of_methodNamed Bd.named
  have hnm := (name_of_methodNamed Bd.named Bd.method).1
  have X0 : Stand p l e (oR 2 0 0 28) s m #[(.ref a1), (.double xH), (.double xL)] below meth c s₁ [] 0 0 := Stand.of_body Bd
  have e0 : s₁.heap = h0 := by rw [← hh, Bd.state]; rfl
  have N0 := Fr.nil n0
  refine own_body (A := s₁.setTop (mkF m 0 #[rv a1, .val (.double xH), .second, .val (.double xL), .second] [])) (Q := QI Z a1 xH xL u0 u1 h0 n0) (fun t k => castTop (own_efI m a1 xH xL) k) ?_
  refine oALN (n := 1) X0 hx (hb hby own_d3_0) rfl rfl rfl ?_
  obtain ⟨_, _, ⟨T1, L1, k1, n1⟩, -, X1, ⟨Lc1, hQ1, l1, y1, z1⟩, st1⟩ := X0.specialBack hx (y := (⟨"java/lang/Record", "<init>", "()V"⟩ : MethodName)) rfl hown (mvT hZ (oW hw 14 rfl)) (mvT hZ (oW hw 15 rfl)) (mvT hZ (oW hw 18 rfl)) (by decide) (backOf (W := 0) (rmR l Z a0 hw [] a1 h0 n0 Z0 ) hZ (oW hw 18 rfl) (oW hw 17 rfl) (by decide) (by decide)) (g := (mkF m 1 #[rv a1, .val (.double xH), .second, .val (.double xL), .second] [(.ref a1)])) rfl (by rw [hml]; rfl) (Steps.refl _) (a := a1) (argsL := []) (rest := []) (lenOf own_pd0 rfl) rfl (by show 2 * 0 + _ ≤ _; exact Nat.le_of_eq rfl) (hb hby own_d3_1) (fun _ _ => ⟨rfl, e0, (by decide : 0 + 0 ≤ _), (by decide : 0 + 0 ≤ _)⟩)
  dsimp only [Pt.U, Pt.locs, Pt.cells, Pt.slots] at X1 l1 y1 z1 st1 hQ1
  subst l1 y1 z1
  obtain ⟨rfl, Nq1, eq1⟩ := hQ1
  have N1 := Fr.app N0 Nq1
  refine ov (B := T1.setTop (mkF m 4 #[rv a1, .val (.double xH), .second, .val (.double xL), .second] [])) (fun t k => st1.trans k) ?_
  refine oALN (n := 5) X1 hx (hb hby own_d3_4) rfl rfl rfl ?_
  refine ov (B := T1.setTop (mkF m 6 #[rv a1, .val (.double xH), .second, .val (.double xL), .second] [(.double xH), (.ref a1)])) (fun t k => XS.dloadN X1.here hx rfl (hb hby own_d3_5) rfl k) ?_
  obtain ⟨T2, h2, X2, e2, W2, st2⟩ := putF X1 hx hZ hown (host := "") (Or.inl (oW hw 22 rfl)) Via.refl eq1 F0 E1 (Or.inr ⟨(oW hw 23 rfl), rfl, hnm⟩) (oW hw 10 rfl) (ty := .double) (by decide) rfl rfl (g := (mkF m 6 #[rv a1, .val (.double xH), .second, .val (.double xL), .second] [(.double xH), (.ref a1)])) rfl rfl (hb hby own_d3_6)
  have Fw2 := F0.same W2
  have N2 := Fr.snoc X2 N1 g_a1
  refine ov (B := T2.setTop (mkF m 9 #[rv a1, .val (.double xH), .second, .val (.double xL), .second] [])) (fun t k => st2 t k) ?_
  refine oALN (n := 10) X2 hx (hb hby own_d3_9) rfl rfl rfl ?_
  refine ov (B := T2.setTop (mkF m 11 #[rv a1, .val (.double xH), .second, .val (.double xL), .second] [(.double xL), (.ref a1)])) (fun t k => XS.dloadN X2.here hx rfl (hb hby own_d3_10) rfl k) ?_
  obtain ⟨T3, h3, X3, e3, W3, st3⟩ := putF X2 hx hZ hown (host := "") (Or.inl (oW hw 24 rfl)) Via.refl e2 (F1.other W2 (Or.inr (slot_ne (Or.inr (oW hw 25 rfl)) (Or.inr (oW hw 23 rfl)) (by decide +kernel) (t := .double) (t' := .double) (by decide +kernel) (by decide +kernel)))) (E1.wr W2) (Or.inr ⟨(oW hw 25 rfl), rfl, hnm⟩) (oW hw 10 rfl) (ty := .double) (by decide) rfl rfl (g := (mkF m 11 #[rv a1, .val (.double xH), .second, .val (.double xL), .second] [(.double xL), (.ref a1)])) rfl rfl (hb hby own_d3_11)
  have Fw3 := (F1.other W2 (Or.inr (slot_ne (Or.inr (oW hw 25 rfl)) (Or.inr (oW hw 23 rfl)) (by decide +kernel) (t := .double) (t' := .double) (by decide +kernel) (by decide +kernel)))).same W3
  have N3 := Fr.snoc X3 N2 g_a1
  refine ov (B := T3.setTop (mkF m 14 #[rv a1, .val (.double xH), .second, .val (.double xL), .second] [])) (fun t k => st3 t k) ?_
  refine own_leafV X3 hx hlk Bd.returns (hb hby own_d3_14) (by decide) (by decide) ?_
  show QI Z a1 xH xL u0 u1 h0 n0 _ T3.heap _
  rw [e3]
  refine ⟨?_, N3, (((Keep.refl h0 [a1]).wr W2 (Or.inl (List.mem_of_getElem? (i := 0) rfl))).wr W3 (Or.inl (List.mem_of_getElem? (i := 0) rfl))), (Fw2.other W3 (Or.inr (slot_ne (Or.inr (oW hw 23 rfl)) (Or.inr (oW hw 25 rfl)) (by decide +kernel) (t := .double) (t' := .double) (by decide +kernel) (by decide +kernel)))), Fw3⟩
  rfl
theorem own_pd1 : parseMethodDescriptor "(DD)V" = some ⟨[.double, .double], none⟩ := by decide +kernel
theorem own_d2_0 : decode prog_2_method_3_code 0 = .ok (.dload_n 0, 1) := by decide +kernel
theorem own_d2_1 : decode prog_2_method_3_code 1 = .ok (.dload_n 2, 1) := by decide +kernel
theorem own_d2_2 : decode prog_2_method_3_code 2 = .ok (.dadd, 1) := by decide +kernel
theorem own_d2_3 : decode prog_2_method_3_code 3 = .ok (.dstore 4, 2) := by decide +kernel
theorem own_d2_5 : decode prog_2_method_3_code 5 = .ok (.dload 4, 2) := by decide +kernel
theorem own_d2_7 : decode prog_2_method_3_code 7 = .ok (.dload_n 0, 1) := by decide +kernel
theorem own_d2_8 : decode prog_2_method_3_code 8 = .ok (.dsub, 1) := by decide +kernel
theorem own_d2_9 : decode prog_2_method_3_code 9 = .ok (.dstore 6, 2) := by decide +kernel
theorem own_d2_11 : decode prog_2_method_3_code 11 = .ok (.dload_n 0, 1) := by decide +kernel
theorem own_d2_12 : decode prog_2_method_3_code 12 = .ok (.dload 4, 2) := by decide +kernel
theorem own_d2_14 : decode prog_2_method_3_code 14 = .ok (.dload 6, 2) := by decide +kernel
theorem own_d2_16 : decode prog_2_method_3_code 16 = .ok (.dsub, 1) := by decide +kernel
theorem own_d2_17 : decode prog_2_method_3_code 17 = .ok (.dsub, 1) := by decide +kernel
theorem own_d2_18 : decode prog_2_method_3_code 18 = .ok (.dload_n 2, 1) := by decide +kernel
theorem own_d2_19 : decode prog_2_method_3_code 19 = .ok (.dload 6, 2) := by decide +kernel
theorem own_d2_21 : decode prog_2_method_3_code 21 = .ok (.dsub, 1) := by decide +kernel
theorem own_d2_22 : decode prog_2_method_3_code 22 = .ok (.dadd, 1) := by decide +kernel
theorem own_d2_23 : decode prog_2_method_3_code 23 = .ok (.dstore 8, 2) := by decide +kernel
theorem own_d2_25 : decode prog_2_method_3_code 25 = .ok (.new 8, 3) := by decide +kernel
theorem own_d2_28 : decode prog_2_method_3_code 28 = .ok (.dup, 1) := by decide +kernel
theorem own_d2_29 : decode prog_2_method_3_code 29 = .ok (.dload 4, 2) := by decide +kernel
theorem own_d2_31 : decode prog_2_method_3_code 31 = .ok (.dload 8, 2) := by decide +kernel
theorem own_d2_33 : decode prog_2_method_3_code 33 = .ok (.invokespecial 16, 3) := by decide +kernel
theorem own_d2_36 : decode prog_2_method_3_code 36 = .ok (.areturn, 1) := by decide +kernel
theorem own_efZ (m : MethodId) (x0 : UInt64) (x1 : UInt64) : entryFrame m #[(.double x0), (.double x1)] 10 = mkF m 0 #[.val (.double x0), .second, .val (.double x1), .second, uu, uu, uu, uu, uu, uu] [] := by first | (simp [entryFrame, mkF, argsToLocals, Value.category]; done) | rfl
def QZ (Z : State) (aZ : UInt64) (bZ : UInt64) (zA : UInt64) (zB : UInt64) (zC : UInt64) (zD : UInt64) (zE : UInt64) (zF : UInt64) (h0 : Heap) (n0 : Nat) (v : Option Value) (h : Heap) (L : List Loc) : Prop := ∃ (r : Addr), v = some (.ref r) ∧ Fr n0 L ∧ Keep h0 h [] ∧ (Exa Z h r "com/example/gyre/gyre/DoubleDouble") ∧ (Fld Z h r "com/example/gyre/gyre/DoubleDouble" "hi" "D" (.double zA)) ∧ (Fld Z h r "com/example/gyre/gyre/DoubleDouble" "lo" "D" (.double zF))
set_option maxRecDepth 65536 in
set_option maxHeartbeats 40000000 in
theorem rmZ (l : Launch) (Z : State) (a0 : Array Value) (hw : ∀ d ∈ tables_1, d.before a0 Z = true) (ws : List Jvm.Cond) (aZ : UInt64) (bZ : UInt64) (zA : UInt64) (zB : UInt64) (zC : UInt64) (zD : UInt64) (zE : UInt64) (zF : UInt64) (h0 : Heap) (n0 : Nat) (Z0 : n0 ≤ h0.size) (qqA : FP.dadd aZ bZ = zA) (qqB : FP.dsub zA aZ = zB) (qqC : FP.dsub zA zB = zC) (qqD : FP.dsub aZ zC = zD) (qqE : FP.dsub bZ zB = zE) (qqF : FP.dadd zD zE = zF) (nnA : Jvm.Free.Fl.NoNaN64 zA) (nnB : Jvm.Free.Fl.NoNaN64 zB) (nnC : Jvm.Free.Fl.NoNaN64 zC) (nnD : Jvm.Free.Fl.NoNaN64 zD) (nnE : Jvm.Free.Fl.NoNaN64 zE) (nnF : Jvm.Free.Fl.NoNaN64 zF) :
    MetFree l (⟨"com/example/gyre/gyre/DoubleDouble", "sum", "(DD)Lcom/example/gyre/gyre/DoubleDouble;"⟩ : MethodName) (head1 (Jvm.Cond.code (⟨"com/example/gyre/gyre/DoubleDouble", "sum", "(DD)Lcom/example/gyre/gyre/DoubleDouble;"⟩ : MethodName) prog_2_method_3_code 10 (some (.object "com/example/gyre/gyre/DoubleDouble")) :: ws) (oR 3 1 2 56)) (fun a U => a = #[(.double aZ), (.double bZ)] ∧ Z.Warmed39 U.vm ∧ U.heap = h0) (fun _ _ _ _ _ => True) (fun _ U o U' => ∃ v L, o = .returned v ∧ QZ Z aZ bZ zA zB zC zD zE zF h0 n0 v U'.heap L ∧ FrameEnd U o U' L (oR 3 1 2 56).cells (oR 3 1 2 56).slots) := by
  refine MetFree.of_bodySF (plainFor_of_name own_pn1) hisR ?_
  intro p e s m args below meth c s₁ Bd hml0 hP hK
  obtain ⟨rfl, hZ, hh⟩ := hP
  have hx := Bd.exec
  have hby := Bd.bytes
  have hlk : meth.locks = false := Bd.notSynchronized
  have hml : c.maxLocals = 10 := hml0
  have hown : s.vm.findClass "com/example/gyre/gyre/DoubleDouble" = some m.cls := findClass_of_methodNamed Bd.named
  have hnm := (name_of_methodNamed Bd.named Bd.method).1
  have X0 : Stand p l e (oR 3 1 2 56) s m #[(.double aZ), (.double bZ)] below meth c s₁ [] 0 0 := Stand.of_body Bd
  have e0 : s₁.heap = h0 := by rw [← hh, Bd.state]; rfl
  have N0 := Fr.nil n0
  refine own_body (A := s₁.setTop (mkF m 0 #[.val (.double aZ), .second, .val (.double bZ), .second, uu, uu, uu, uu, uu, uu] [])) (Q := QZ Z aZ bZ zA zB zC zD zE zF h0 n0) (fun t k => castTop (own_efZ m aZ bZ) k) ?_
  refine ov (B := s₁.setTop (mkF m 1 #[.val (.double aZ), .second, .val (.double bZ), .second, uu, uu, uu, uu, uu, uu] [(.double aZ)])) (fun t k => XS.dloadN X0.here hx rfl (hb hby own_d2_0) rfl k) ?_
  refine ov (B := s₁.setTop (mkF m 2 #[.val (.double aZ), .second, .val (.double bZ), .second, uu, uu, uu, uu, uu, uu] [(.double bZ), (.double aZ)])) (fun t k => XS.dloadN X0.here hx rfl (hb hby own_d2_1) rfl k) ?_
  refine ov (B := s₁.setTop (mkF m 3 #[.val (.double aZ), .second, .val (.double bZ), .second, uu, uu, uu, uu, uu, uu] [(.double (FP.dadd aZ bZ))])) (fun t k => XS.daddS X0.here hx rfl (hb hby own_d2_2) rfl (by rw [qqA]; exact nnA) rfl k) ?_
  refine ov (B := s₁.setTop (mkF m 5 #[.val (.double aZ), .second, .val (.double bZ), .second, .val (.double (FP.dadd aZ bZ)), .second, uu, uu, uu, uu] [])) (fun t k => XS.dstore X0.here hx rfl (hb hby own_d2_3) rfl (l' := #[.val (.double aZ), .second, .val (.double bZ), .second, .val (.double (FP.dadd aZ bZ)), .second, uu, uu, uu, uu]) rfl k) ?_
  refine ov (B := s₁.setTop (mkF m 7 #[.val (.double aZ), .second, .val (.double bZ), .second, .val (.double (FP.dadd aZ bZ)), .second, uu, uu, uu, uu] [(.double (FP.dadd aZ bZ))])) (fun t k => XS.dload X0.here hx rfl (hb hby own_d2_5) rfl k) ?_
  refine ov (B := s₁.setTop (mkF m 8 #[.val (.double aZ), .second, .val (.double bZ), .second, .val (.double (FP.dadd aZ bZ)), .second, uu, uu, uu, uu] [(.double aZ), (.double (FP.dadd aZ bZ))])) (fun t k => XS.dloadN X0.here hx rfl (hb hby own_d2_7) rfl k) ?_
  refine ov (B := s₁.setTop (mkF m 9 #[.val (.double aZ), .second, .val (.double bZ), .second, .val (.double (FP.dadd aZ bZ)), .second, uu, uu, uu, uu] [(.double (FP.dsub (FP.dadd aZ bZ) aZ))])) (fun t k => XS.dsubS X0.here hx rfl (hb hby own_d2_8) rfl (by rw [qqA, qqB]; exact nnB) rfl k) ?_
  refine ov (B := s₁.setTop (mkF m 11 #[.val (.double aZ), .second, .val (.double bZ), .second, .val (.double (FP.dadd aZ bZ)), .second, .val (.double (FP.dsub (FP.dadd aZ bZ) aZ)), .second, uu, uu] [])) (fun t k => XS.dstore X0.here hx rfl (hb hby own_d2_9) rfl (l' := #[.val (.double aZ), .second, .val (.double bZ), .second, .val (.double (FP.dadd aZ bZ)), .second, .val (.double (FP.dsub (FP.dadd aZ bZ) aZ)), .second, uu, uu]) rfl k) ?_
  refine ov (B := s₁.setTop (mkF m 12 #[.val (.double aZ), .second, .val (.double bZ), .second, .val (.double (FP.dadd aZ bZ)), .second, .val (.double (FP.dsub (FP.dadd aZ bZ) aZ)), .second, uu, uu] [(.double aZ)])) (fun t k => XS.dloadN X0.here hx rfl (hb hby own_d2_11) rfl k) ?_
  refine ov (B := s₁.setTop (mkF m 14 #[.val (.double aZ), .second, .val (.double bZ), .second, .val (.double (FP.dadd aZ bZ)), .second, .val (.double (FP.dsub (FP.dadd aZ bZ) aZ)), .second, uu, uu] [(.double (FP.dadd aZ bZ)), (.double aZ)])) (fun t k => XS.dload X0.here hx rfl (hb hby own_d2_12) rfl k) ?_
  refine ov (B := s₁.setTop (mkF m 16 #[.val (.double aZ), .second, .val (.double bZ), .second, .val (.double (FP.dadd aZ bZ)), .second, .val (.double (FP.dsub (FP.dadd aZ bZ) aZ)), .second, uu, uu] [(.double (FP.dsub (FP.dadd aZ bZ) aZ)), (.double (FP.dadd aZ bZ)), (.double aZ)])) (fun t k => XS.dload X0.here hx rfl (hb hby own_d2_14) rfl k) ?_
  refine ov (B := s₁.setTop (mkF m 17 #[.val (.double aZ), .second, .val (.double bZ), .second, .val (.double (FP.dadd aZ bZ)), .second, .val (.double (FP.dsub (FP.dadd aZ bZ) aZ)), .second, uu, uu] [(.double (FP.dsub (FP.dadd aZ bZ) (FP.dsub (FP.dadd aZ bZ) aZ))), (.double aZ)])) (fun t k => XS.dsubS X0.here hx rfl (hb hby own_d2_16) rfl (by rw [qqA, qqB, qqC]; exact nnC) rfl k) ?_
  refine ov (B := s₁.setTop (mkF m 18 #[.val (.double aZ), .second, .val (.double bZ), .second, .val (.double (FP.dadd aZ bZ)), .second, .val (.double (FP.dsub (FP.dadd aZ bZ) aZ)), .second, uu, uu] [(.double (FP.dsub aZ (FP.dsub (FP.dadd aZ bZ) (FP.dsub (FP.dadd aZ bZ) aZ))))])) (fun t k => XS.dsubS X0.here hx rfl (hb hby own_d2_17) rfl (by rw [qqA, qqB, qqC, qqD]; exact nnD) rfl k) ?_
  refine ov (B := s₁.setTop (mkF m 19 #[.val (.double aZ), .second, .val (.double bZ), .second, .val (.double (FP.dadd aZ bZ)), .second, .val (.double (FP.dsub (FP.dadd aZ bZ) aZ)), .second, uu, uu] [(.double bZ), (.double (FP.dsub aZ (FP.dsub (FP.dadd aZ bZ) (FP.dsub (FP.dadd aZ bZ) aZ))))])) (fun t k => XS.dloadN X0.here hx rfl (hb hby own_d2_18) rfl k) ?_
  refine ov (B := s₁.setTop (mkF m 21 #[.val (.double aZ), .second, .val (.double bZ), .second, .val (.double (FP.dadd aZ bZ)), .second, .val (.double (FP.dsub (FP.dadd aZ bZ) aZ)), .second, uu, uu] [(.double (FP.dsub (FP.dadd aZ bZ) aZ)), (.double bZ), (.double (FP.dsub aZ (FP.dsub (FP.dadd aZ bZ) (FP.dsub (FP.dadd aZ bZ) aZ))))])) (fun t k => XS.dload X0.here hx rfl (hb hby own_d2_19) rfl k) ?_
  refine ov (B := s₁.setTop (mkF m 22 #[.val (.double aZ), .second, .val (.double bZ), .second, .val (.double (FP.dadd aZ bZ)), .second, .val (.double (FP.dsub (FP.dadd aZ bZ) aZ)), .second, uu, uu] [(.double (FP.dsub bZ (FP.dsub (FP.dadd aZ bZ) aZ))), (.double (FP.dsub aZ (FP.dsub (FP.dadd aZ bZ) (FP.dsub (FP.dadd aZ bZ) aZ))))])) (fun t k => XS.dsubS X0.here hx rfl (hb hby own_d2_21) rfl (by rw [qqA, qqB, qqE]; exact nnE) rfl k) ?_
  refine ov (B := s₁.setTop (mkF m 23 #[.val (.double aZ), .second, .val (.double bZ), .second, .val (.double (FP.dadd aZ bZ)), .second, .val (.double (FP.dsub (FP.dadd aZ bZ) aZ)), .second, uu, uu] [(.double (FP.dadd (FP.dsub aZ (FP.dsub (FP.dadd aZ bZ) (FP.dsub (FP.dadd aZ bZ) aZ))) (FP.dsub bZ (FP.dsub (FP.dadd aZ bZ) aZ))))])) (fun t k => XS.daddS X0.here hx rfl (hb hby own_d2_22) rfl (by rw [qqA, qqB, qqC, qqD, qqE, qqF]; exact nnF) rfl k) ?_
  refine ov (B := s₁.setTop (mkF m 25 #[.val (.double aZ), .second, .val (.double bZ), .second, .val (.double (FP.dadd aZ bZ)), .second, .val (.double (FP.dsub (FP.dadd aZ bZ) aZ)), .second, .val (.double (FP.dadd (FP.dsub aZ (FP.dsub (FP.dadd aZ bZ) (FP.dsub (FP.dadd aZ bZ) aZ))) (FP.dsub bZ (FP.dsub (FP.dadd aZ bZ) aZ)))), .second] [])) (fun t k => XS.dstore X0.here hx rfl (hb hby own_d2_23) rfl (l' := #[.val (.double aZ), .second, .val (.double bZ), .second, .val (.double (FP.dadd aZ bZ)), .second, .val (.double (FP.dsub (FP.dadd aZ bZ) aZ)), .second, .val (.double (FP.dadd (FP.dsub aZ (FP.dsub (FP.dadd aZ bZ) (FP.dsub (FP.dadd aZ bZ) aZ))) (FP.dsub bZ (FP.dsub (FP.dadd aZ bZ) aZ)))), .second]) rfl k) ?_
  obtain ⟨T1, h1, X1, e1, E1, A1, D1, -, st1⟩ := newO X0 hx hZ hown (oW hw 9 rfl) (oW hw 10 rfl) (oW hw 7 rfl) e0 (g := (mkF m 25 #[.val (.double aZ), .second, .val (.double bZ), .second, .val (.double (FP.dadd aZ bZ)), .second, .val (.double (FP.dsub (FP.dadd aZ bZ) aZ)), .second, .val (.double (FP.dadd (FP.dsub aZ (FP.dsub (FP.dadd aZ bZ) (FP.dsub (FP.dadd aZ bZ) aZ))) (FP.dsub bZ (FP.dsub (FP.dadd aZ bZ) aZ)))), .second] [])) rfl (hb hby own_d2_25) (by decide) (by decide)
  obtain ⟨b1, g1⟩ : ∃ z, z = h0.size := ⟨_, rfl⟩
  rw [← g1] at A1 D1 st1
  have g_b1 : n0 ≤ b1 := Nat.le_trans Z0 (Nat.le_of_eq g1.symm)
  have F1_hi : Fld Z h1 b1 "com/example/gyre/gyre/DoubleDouble" "hi" "D" (.double (0 : UInt64)) := D1 (Or.inr (oW hw 23 rfl)) (ty := .double) (by decide)
  have F1_lo : Fld Z h1 b1 "com/example/gyre/gyre/DoubleDouble" "lo" "D" (.double (0 : UInt64)) := D1 (Or.inr (oW hw 25 rfl)) (ty := .double) (by decide)
  refine ov (B := T1.setTop (mkF m 28 #[.val (.double aZ), .second, .val (.double bZ), .second, .val (.double (FP.dadd aZ bZ)), .second, .val (.double (FP.dsub (FP.dadd aZ bZ) aZ)), .second, .val (.double (FP.dadd (FP.dsub aZ (FP.dsub (FP.dadd aZ bZ) (FP.dsub (FP.dadd aZ bZ) aZ))) (FP.dsub bZ (FP.dsub (FP.dadd aZ bZ) aZ)))), .second] [(.ref b1)])) (fun t k => st1 t k) ?_
  refine oDU (n := 29) X1 hx (hb hby own_d2_28) rfl rfl ?_
  refine ov (B := T1.setTop (mkF m 31 #[.val (.double aZ), .second, .val (.double bZ), .second, .val (.double (FP.dadd aZ bZ)), .second, .val (.double (FP.dsub (FP.dadd aZ bZ) aZ)), .second, .val (.double (FP.dadd (FP.dsub aZ (FP.dsub (FP.dadd aZ bZ) (FP.dsub (FP.dadd aZ bZ) aZ))) (FP.dsub bZ (FP.dsub (FP.dadd aZ bZ) aZ)))), .second] [(.double (FP.dadd aZ bZ)), (.ref b1), (.ref b1)])) (fun t k => XS.dload X1.here hx rfl (hb hby own_d2_29) rfl k) ?_
  refine ov (B := T1.setTop (mkF m 33 #[.val (.double aZ), .second, .val (.double bZ), .second, .val (.double (FP.dadd aZ bZ)), .second, .val (.double (FP.dsub (FP.dadd aZ bZ) aZ)), .second, .val (.double (FP.dadd (FP.dsub aZ (FP.dsub (FP.dadd aZ bZ) (FP.dsub (FP.dadd aZ bZ) aZ))) (FP.dsub bZ (FP.dsub (FP.dadd aZ bZ) aZ)))), .second] [(.double (FP.dadd (FP.dsub aZ (FP.dsub (FP.dadd aZ bZ) (FP.dsub (FP.dadd aZ bZ) aZ))) (FP.dsub bZ (FP.dsub (FP.dadd aZ bZ) aZ)))), (.double (FP.dadd aZ bZ)), (.ref b1), (.ref b1)])) (fun t k => XS.dload X1.here hx rfl (hb hby own_d2_31) rfl k) ?_
  obtain ⟨_, _, ⟨T2, L2, k2, n2⟩, -, X2, ⟨Lc2, hQ2, l2, y2, z2⟩, st2⟩ := X1.specialBack hx (y := (⟨"com/example/gyre/gyre/DoubleDouble", "<init>", "(DD)V"⟩ : MethodName)) rfl hown (mvT hZ (oW hw 11 rfl)) (mvT hZ (oW hw 12 rfl)) (mvT hZ (oW hw 13 rfl)) (by decide) (backOf (W := 1) (rmI l Z a0 hw [] b1 (FP.dadd aZ bZ) (FP.dadd (FP.dsub aZ (FP.dsub (FP.dadd aZ bZ) (FP.dsub (FP.dadd aZ bZ) aZ))) (FP.dsub bZ (FP.dsub (FP.dadd aZ bZ) aZ))) (.double (0 : UInt64)) (.double (0 : UInt64)) h1 n0 (Nat.le_trans Z0 E1.1) A1 F1_hi F1_lo g_b1) hZ (oW hw 13 rfl) (oW hw 7 rfl) (by decide) (by decide)) (g := (mkF m 33 #[.val (.double aZ), .second, .val (.double bZ), .second, .val (.double (FP.dadd aZ bZ)), .second, .val (.double (FP.dsub (FP.dadd aZ bZ) aZ)), .second, .val (.double (FP.dadd (FP.dsub aZ (FP.dsub (FP.dadd aZ bZ) (FP.dsub (FP.dadd aZ bZ) aZ))) (FP.dsub bZ (FP.dsub (FP.dadd aZ bZ) aZ)))), .second] [(.double (FP.dadd (FP.dsub aZ (FP.dsub (FP.dadd aZ bZ) (FP.dsub (FP.dadd aZ bZ) aZ))) (FP.dsub bZ (FP.dsub (FP.dadd aZ bZ) aZ)))), (.double (FP.dadd aZ bZ)), (.ref b1), (.ref b1)])) rfl (by rw [hml]; rfl) (Steps.refl _) (a := b1) (argsL := [(.double (FP.dadd aZ bZ)), (.double (FP.dadd (FP.dsub aZ (FP.dsub (FP.dadd aZ bZ) (FP.dsub (FP.dadd aZ bZ) aZ))) (FP.dsub bZ (FP.dsub (FP.dadd aZ bZ) aZ))))]) (rest := [(.ref b1)]) (lenOf own_pd1 rfl) rfl (by show 2 * 0 + _ ≤ _; exact Nat.le_of_eq rfl) (hb hby own_d2_33) (fun _ _ => ⟨rfl, e1, (by decide : (0 + 1) + 0 ≤ _), (by decide : (0 + 2) + 0 ≤ _)⟩)
  dsimp only [Pt.U, Pt.locs, Pt.cells, Pt.slots] at X2 l2 y2 z2 st2 hQ2
  subst l2 y2 z2
  obtain ⟨rfl, Nq2, Kq2, f2_0, f2_1⟩ := hQ2
  have N2 := Fr.app N0 Nq2
  refine ov (B := T2.setTop (mkF m 36 #[.val (.double aZ), .second, .val (.double bZ), .second, .val (.double (FP.dadd aZ bZ)), .second, .val (.double (FP.dsub (FP.dadd aZ bZ) aZ)), .second, .val (.double (FP.dadd (FP.dsub aZ (FP.dsub (FP.dadd aZ bZ) (FP.dsub (FP.dadd aZ bZ) aZ))) (FP.dsub bZ (FP.dsub (FP.dadd aZ bZ) aZ)))), .second] [(.ref b1)])) (fun t k => st2.trans k) ?_
  refine own_leaf X2 hx hlk (t := (.object "com/example/gyre/gyre/DoubleDouble")) Bd.returns rfl (Or.inr (Or.inr (Or.inr (Or.inr ⟨rfl, rfl, rfl⟩)))) (hb hby own_d2_36) (by decide) (by decide) ?_
  show QZ Z aZ bZ zA zB zC zD zE zF h0 n0 _ T2.heap _
  refine ⟨b1, ?_, N2, (((Keep.refl h0 []).ext E1).trans Kq2 (allS (Or.inr (Nat.le_of_eq g1.symm)) all0)), (A1.keep Kq2), (by rw [← qqA]; exact f2_0), (by rw [← qqF, ← qqE, ← qqD, ← qqC, ← qqB, ← qqA]; exact f2_1)⟩
  rfl
theorem own_d6_0 : decode prog_2_method_16_code 0 = .ok (.aload_n 0, 1) := by decide +kernel
theorem own_d6_1 : decode prog_2_method_16_code 1 = .ok (.getfield 7, 3) := by decide +kernel
theorem own_d6_4 : decode prog_2_method_16_code 4 = .ok (.dreturn, 1) := by decide +kernel
theorem own_efG (m : MethodId) (x0 : Addr) : entryFrame m #[(.ref x0)] 1 = mkF m 0 #[rv x0] [] := by first | (simp [entryFrame, mkF, argsToLocals, Value.category]; done) | rfl
def QG (Z : State) (a2 : Addr) (v2 : UInt64) (h0 : Heap) (n0 : Nat) (v : Option Value) (h : Heap) (L : List Loc) : Prop := v = some (.double v2) ∧ Fr n0 L ∧ h = h0
set_option maxRecDepth 65536 in
set_option maxHeartbeats 40000000 in
theorem rmG (l : Launch) (Z : State) (a0 : Array Value) (hw : ∀ d ∈ tables_1, d.before a0 Z = true) (ws : List Jvm.Cond) (a2 : Addr) (v2 : UInt64) (h0 : Heap) (n0 : Nat) (Z0 : n0 ≤ h0.size) (F2 : Fld Z h0 a2 "com/example/gyre/gyre/DoubleDouble" "hi" "D" (.double v2)) :
    MetFree l (⟨"com/example/gyre/gyre/DoubleDouble", "hi", "()D"⟩ : MethodName) (head1 (Jvm.Cond.code (⟨"com/example/gyre/gyre/DoubleDouble", "hi", "()D"⟩ : MethodName) prog_2_method_16_code 1 (some .double) :: ws) (oR 0 0 0 0)) (fun a U => a = #[(.ref a2)] ∧ Z.Warmed39 U.vm ∧ U.heap = h0) (fun _ _ _ _ _ => True) (fun _ U o U' => ∃ v L, o = .returned v ∧ QG Z a2 v2 h0 n0 v U'.heap L ∧ FrameEnd U o U' L (oR 0 0 0 0).cells (oR 0 0 0 0).slots) := by
  refine MetFree.of_bodySF (plainFor_of_name own_pn1) hisR ?_
  intro p e s m args below meth c s₁ Bd hml0 hP hK
  obtain ⟨rfl, hZ, hh⟩ := hP
  have hx := Bd.exec
  have hby := Bd.bytes
  have hlk : meth.locks = false := Bd.notSynchronized
  have hml : c.maxLocals = 1 := hml0
  have hown : s.vm.findClass "com/example/gyre/gyre/DoubleDouble" = some m.cls := findClass_of_methodNamed Bd.named
  have hnm := (name_of_methodNamed Bd.named Bd.method).1
  have X0 : Stand p l e (oR 0 0 0 0) s m #[(.ref a2)] below meth c s₁ [] 0 0 := Stand.of_body Bd
  have e0 : s₁.heap = h0 := by rw [← hh, Bd.state]; rfl
  have N0 := Fr.nil n0
  refine own_body (A := s₁.setTop (mkF m 0 #[rv a2] [])) (Q := QG Z a2 v2 h0 n0) (fun t k => castTop (own_efG m a2) k) ?_
  refine oALN (n := 1) X0 hx (hb hby own_d6_0) rfl rfl rfl ?_
  obtain ⟨T1, X1, e1, st1⟩ := getF X0 hx hZ hown (host := "") (Or.inl (oW hw 22 rfl)) Via.refl e0 F2 (g := (mkF m 1 #[rv a2] [(.ref a2)])) rfl rfl (hb hby own_d6_1)
  refine ov (B := T1.setTop (mkF m 4 #[rv a2] [(.double v2)])) (fun t k => st1 t k) ?_
  refine own_leaf X1 hx hlk (t := .double) Bd.returns rfl (Or.inr (Or.inr (Or.inl ⟨rfl, rfl, _, rfl⟩))) (hb hby own_d6_4) (by decide) (by decide) ?_
  show QG Z a2 v2 h0 n0 _ T1.heap _
  rw [e1]
  refine ⟨?_, N0, rfl⟩
  rfl
theorem own_d7_0 : decode prog_2_method_17_code 0 = .ok (.aload_n 0, 1) := by decide +kernel
theorem own_d7_1 : decode prog_2_method_17_code 1 = .ok (.getfield 13, 3) := by decide +kernel
theorem own_d7_4 : decode prog_2_method_17_code 4 = .ok (.dreturn, 1) := by decide +kernel
theorem own_efL (m : MethodId) (x0 : Addr) : entryFrame m #[(.ref x0)] 1 = mkF m 0 #[rv x0] [] := by first | (simp [entryFrame, mkF, argsToLocals, Value.category]; done) | rfl
def QL (Z : State) (a2 : Addr) (v2 : UInt64) (h0 : Heap) (n0 : Nat) (v : Option Value) (h : Heap) (L : List Loc) : Prop := v = some (.double v2) ∧ Fr n0 L ∧ h = h0
set_option maxRecDepth 65536 in
set_option maxHeartbeats 40000000 in
theorem rmL (l : Launch) (Z : State) (a0 : Array Value) (hw : ∀ d ∈ tables_1, d.before a0 Z = true) (ws : List Jvm.Cond) (a2 : Addr) (v2 : UInt64) (h0 : Heap) (n0 : Nat) (Z0 : n0 ≤ h0.size) (F2 : Fld Z h0 a2 "com/example/gyre/gyre/DoubleDouble" "lo" "D" (.double v2)) :
    MetFree l (⟨"com/example/gyre/gyre/DoubleDouble", "lo", "()D"⟩ : MethodName) (head1 (Jvm.Cond.code (⟨"com/example/gyre/gyre/DoubleDouble", "lo", "()D"⟩ : MethodName) prog_2_method_17_code 1 (some .double) :: ws) (oR 0 0 0 0)) (fun a U => a = #[(.ref a2)] ∧ Z.Warmed39 U.vm ∧ U.heap = h0) (fun _ _ _ _ _ => True) (fun _ U o U' => ∃ v L, o = .returned v ∧ QL Z a2 v2 h0 n0 v U'.heap L ∧ FrameEnd U o U' L (oR 0 0 0 0).cells (oR 0 0 0 0).slots) := by
  refine MetFree.of_bodySF (plainFor_of_name own_pn1) hisR ?_
  intro p e s m args below meth c s₁ Bd hml0 hP hK
  obtain ⟨rfl, hZ, hh⟩ := hP
  have hx := Bd.exec
  have hby := Bd.bytes
  have hlk : meth.locks = false := Bd.notSynchronized
  have hml : c.maxLocals = 1 := hml0
  have hown : s.vm.findClass "com/example/gyre/gyre/DoubleDouble" = some m.cls := findClass_of_methodNamed Bd.named
  have hnm := (name_of_methodNamed Bd.named Bd.method).1
  have X0 : Stand p l e (oR 0 0 0 0) s m #[(.ref a2)] below meth c s₁ [] 0 0 := Stand.of_body Bd
  have e0 : s₁.heap = h0 := by rw [← hh, Bd.state]; rfl
  have N0 := Fr.nil n0
  refine own_body (A := s₁.setTop (mkF m 0 #[rv a2] [])) (Q := QL Z a2 v2 h0 n0) (fun t k => castTop (own_efL m a2) k) ?_
  refine oALN (n := 1) X0 hx (hb hby own_d7_0) rfl rfl rfl ?_
  obtain ⟨T1, X1, e1, st1⟩ := getF X0 hx hZ hown (host := "") (Or.inl (oW hw 24 rfl)) Via.refl e0 F2 (g := (mkF m 1 #[rv a2] [(.ref a2)])) rfl rfl (hb hby own_d7_1)
  refine ov (B := T1.setTop (mkF m 4 #[rv a2] [(.double v2)])) (fun t k => st1 t k) ?_
  refine own_leaf X1 hx hlk (t := .double) Bd.returns rfl (Or.inr (Or.inr (Or.inl ⟨rfl, rfl, _, rfl⟩))) (hb hby own_d7_4) (by decide) (by decide) ?_
  show QL Z a2 v2 h0 n0 _ T1.heap _
  rw [e1]
  refine ⟨?_, N0, rfl⟩
  rfl
theorem own_pn2 : plainName "com/example/gyre/gyre/DoubleDoubleSumPinLaw" = true := by first | (simp [plainName, overriddenIn]; done) | decide +kernel
theorem own_d1_0 : decode method_2_code 0 = .ok (.iload_n 0, 1) := by decide +kernel
theorem own_d1_1 : decode method_2_code 1 = .ok (.ifCond .ne 5, 3) := by decide +kernel
theorem own_d1_4 : decode method_2_code 4 = .ok (.dconst 1, 1) := by decide +kernel
theorem own_d1_5 : decode method_2_code 5 = .ok (.dreturn, 1) := by decide +kernel
theorem own_d1_6 : decode method_2_code 6 = .ok (.iload_n 0, 1) := by decide +kernel
theorem own_d1_7 : decode method_2_code 7 = .ok (.iconst 1, 1) := by decide +kernel
theorem own_d1_8 : decode method_2_code 8 = .ok (.if_icmp .ne 7, 3) := by decide +kernel
theorem own_d1_11 : decode method_2_code 11 = .ok (.ldc2_w 7, 3) := by decide +kernel
theorem own_d1_14 : decode method_2_code 14 = .ok (.dreturn, 1) := by decide +kernel
theorem own_d1_15 : decode method_2_code 15 = .ok (.iload_n 0, 1) := by decide +kernel
theorem own_d1_16 : decode method_2_code 16 = .ok (.iconst 2, 1) := by decide +kernel
theorem own_d1_17 : decode method_2_code 17 = .ok (.if_icmp .ne 7, 3) := by decide +kernel
theorem own_d1_20 : decode method_2_code 20 = .ok (.ldc2_w 9, 3) := by decide +kernel
theorem own_d1_23 : decode method_2_code 23 = .ok (.dreturn, 1) := by decide +kernel
theorem own_d1_24 : decode method_2_code 24 = .ok (.ldc2_w 11, 3) := by decide +kernel
theorem own_d1_27 : decode method_2_code 27 = .ok (.dreturn, 1) := by decide +kernel
theorem own_efK (m : MethodId) (x0 : Int32) : entryFrame m #[(.int x0)] 1 = mkF m 0 #[iv x0] [] := by first | (simp [entryFrame, mkF, argsToLocals, Value.category]; done) | rfl
def QK (Z : State) (kK : Int32) (h0 : Heap) (n0 : Nat) (v : Option Value) (h : Heap) (L : List Loc) : Prop := ∃ (wS : UInt64) (sS : Int), v = some (.double wS) ∧ Fr n0 L ∧ h = h0 ∧ (own_sc sS wS)
set_option maxRecDepth 65536 in
set_option maxHeartbeats 40000000 in
theorem rmK (l : Launch) (Z : State) (a0 : Array Value) (hw : ∀ d ∈ tables_1, d.before a0 Z = true) (ws : List Jvm.Cond) (kK : Int32) (h0 : Heap) (n0 : Nat) (Z0 : n0 ≤ h0.size) :
    MetFree l (⟨"com/example/gyre/gyre/DoubleDoubleSumPinLaw", "pickScale", "(I)D"⟩ : MethodName) (head1 (Jvm.Cond.code (⟨"com/example/gyre/gyre/DoubleDoubleSumPinLaw", "pickScale", "(I)D"⟩ : MethodName) method_2_code 1 (some .double) :: ws) (oR 0 0 0 0)) (fun a U => a = #[(.int kK)] ∧ Z.Warmed39 U.vm ∧ U.heap = h0) (fun _ _ _ _ _ => True) (fun _ U o U' => ∃ v L, o = .returned v ∧ QK Z kK h0 n0 v U'.heap L ∧ FrameEnd U o U' L (oR 0 0 0 0).cells (oR 0 0 0 0).slots) := by
  refine MetFree.of_bodySF (plainFor_of_name own_pn2) hisR ?_
  intro p e s m args below meth c s₁ Bd hml0 hP hK
  obtain ⟨rfl, hZ, hh⟩ := hP
  have hx := Bd.exec
  have hby := Bd.bytes
  have hlk : meth.locks = false := Bd.notSynchronized
  have hml : c.maxLocals = 1 := hml0
  have hown : s.vm.findClass "com/example/gyre/gyre/DoubleDoubleSumPinLaw" = some m.cls := findClass_of_methodNamed Bd.named
  have hnm := (name_of_methodNamed Bd.named Bd.method).1
  have X0 : Stand p l e (oR 0 0 0 0) s m #[(.int kK)] below meth c s₁ [] 0 0 := Stand.of_body Bd
  have e0 : s₁.heap = h0 := by rw [← hh, Bd.state]; rfl
  have N0 := Fr.nil n0
  refine own_body (A := s₁.setTop (mkF m 0 #[iv kK] [])) (Q := QK Z kK h0 n0) (fun t k => castTop (own_efK m kK) k) ?_
  refine oILN (n := 1) X0 hx (hb hby own_d1_0) rfl rfl ?_
  by_cases hc1 : kK = (0 : Int32)
  · refine ov (B := s₁.setTop (mkF m 4 #[iv kK] [])) (fun t k => XS.ifNo X0.here hx rfl (hb hby own_d1_1) rfl ((if0 _ _).trans (teq hc1).2) k) ?_
    refine ov (B := s₁.setTop (mkF m 5 #[iv kK] [(.double FP.dconst1)])) (fun t k => XS.dconst1 X0.here hx rfl (hb hby own_d1_4) rfl k) ?_
    refine own_leaf X0 hx hlk (t := .double) Bd.returns rfl (Or.inr (Or.inr (Or.inl ⟨rfl, rfl, _, rfl⟩))) (hb hby own_d1_5) (by decide) (by decide) ?_
    show QK Z kK h0 n0 _ s₁.heap _
    rw [e0]
    refine ⟨FP.dconst1, 0, ?_, N0, rfl, ?_⟩
    · rfl
    · exact own_sc0
  · refine ov (B := s₁.setTop (mkF m 6 #[iv kK] [])) (fun t k => XS.ifYes X0.here hx rfl (pc0 := 1) (pc' := 6) rfl (hb hby own_d1_1) rfl ((if0 _ _).trans (feq hc1).2) (by decide) (by decide) k) ?_
    refine oILN (n := 7) X0 hx (hb hby own_d1_6) rfl rfl ?_
    refine oIC (n := 8) X0 hx (1 : Int32) (hb hby own_d1_7) (by decide) rfl ?_
    by_cases hc8 : kK = (1 : Int32)
    · refine ov (B := s₁.setTop (mkF m 11 #[iv kK] [])) (fun t k => XS.icmpNo X0.here hx rfl (hb hby own_d1_8) rfl (teq hc8).2 k) ?_
      refine ov (B := s₁.setTop (mkF m 14 #[iv kK] [(.double (553942754166571008 : UInt64))])) (fun t k => X0.ldc2DoubleC hx hown (mvT hZ (oW hw 37 rfl)) (g := (mkF m 11 #[iv kK] [])) rfl (hb hby own_d1_11) _ k) ?_
      refine own_leaf X0 hx hlk (t := .double) Bd.returns rfl (Or.inr (Or.inr (Or.inl ⟨rfl, rfl, _, rfl⟩))) (hb hby own_d1_14) (by decide) (by decide) ?_
      show QK Z kK h0 n0 _ s₁.heap _
      rw [e0]
      refine ⟨(553942754166571008 : UInt64), (-900), ?_, N0, rfl, ?_⟩
      · rfl
      · exact own_sc1
    · refine ov (B := s₁.setTop (mkF m 15 #[iv kK] [])) (fun t k => XS.icmpYes X0.here hx rfl (pc0 := 8) (pc' := 15) rfl (hb hby own_d1_8) rfl (feq hc8).2 (by decide) (by decide) k) ?_
      refine oILN (n := 16) X0 hx (hb hby own_d1_15) rfl rfl ?_
      refine oIC (n := 17) X0 hx (2 : Int32) (hb hby own_d1_16) (by decide) rfl ?_
      by_cases hc17 : kK = (2 : Int32)
      · refine ov (B := s₁.setTop (mkF m 20 #[iv kK] [])) (fun t k => XS.icmpNo X0.here hx rfl (hb hby own_d1_17) rfl (teq hc17).2 k) ?_
        refine ov (B := s₁.setTop (mkF m 23 #[iv kK] [(.double (8660422083433463808 : UInt64))])) (fun t k => X0.ldc2DoubleC hx hown (mvT hZ (oW hw 38 rfl)) (g := (mkF m 20 #[iv kK] [])) rfl (hb hby own_d1_20) _ k) ?_
        refine own_leaf X0 hx hlk (t := .double) Bd.returns rfl (Or.inr (Or.inr (Or.inl ⟨rfl, rfl, _, rfl⟩))) (hb hby own_d1_23) (by decide) (by decide) ?_
        show QK Z kK h0 n0 _ s₁.heap _
        rw [e0]
        refine ⟨(8660422083433463808 : UInt64), 900, ?_, N0, rfl, ?_⟩
        · rfl
        · exact own_sc2
      · refine ov (B := s₁.setTop (mkF m 24 #[iv kK] [])) (fun t k => XS.icmpYes X0.here hx rfl (pc0 := 17) (pc' := 24) rfl (hb hby own_d1_17) rfl (feq hc17).2 (by decide) (by decide) k) ?_
        refine ov (B := s₁.setTop (mkF m 27 #[iv kK] [(.double (103582791429521408 : UInt64))])) (fun t k => X0.ldc2DoubleC hx hown (mvT hZ (oW hw 36 rfl)) (g := (mkF m 24 #[iv kK] [])) rfl (hb hby own_d1_24) _ k) ?_
        refine own_leaf X0 hx hlk (t := .double) Bd.returns rfl (Or.inr (Or.inr (Or.inl ⟨rfl, rfl, _, rfl⟩))) (hb hby own_d1_27) (by decide) (by decide) ?_
        show QK Z kK h0 n0 _ s₁.heap _
        rw [e0]
        refine ⟨(103582791429521408 : UInt64), (-1000), ?_, N0, rfl, ?_⟩
        · rfl
        · exact own_sc3
theorem own_pd2 : parseMethodDescriptor "(I)D" = some ⟨[.int], some .double⟩ := by decide +kernel
theorem own_pd3 : parseMethodDescriptor "(DD)Lcom/example/gyre/gyre/DoubleDouble;" = some ⟨[.double, .double], some (.object "com/example/gyre/gyre/DoubleDouble")⟩ := by decide +kernel
theorem own_pd4 : parseMethodDescriptor "()D" = some ⟨[], some .double⟩ := by decide +kernel
theorem own_ef0 (m : MethodId) (x0 : Int64) (x1 : Int64) (x2 : Int32) (x3 : Int32) (x4 : Int32) : entryFrame m #[(.long x0), (.long x1), (.int x2), (.int x3), (.int x4)] maxLocals = mkF m 0 #[.val (.long x0), .second, .val (.long x1), .second, iv x2, iv x3, iv x4, uu, uu, uu, uu, uu, uu, uu, uu, uu, uu, uu, uu, uu, uu, uu, uu, uu, uu, uu, uu, uu, uu, uu] [] := by first | (simp [entryFrame, mkF, argsToLocals, Value.category, maxLocals]; done) | rfl
def Q0 (Z : State) (i0 : Int64) (i1 : Int64) (i2 : Int32) (i3 : Int32) (i4 : Int32) (h0 : Heap) (n0 : Nat) (v : Option Value) (h : Heap) (L : List Loc) : Prop := v = some (.int 1) ∧ Fr n0 L
set_option maxRecDepth 65536 in
set_option maxHeartbeats 40000000 in
theorem rm0 (l : Launch) (Z : State) (a0 : Array Value) (hw : ∀ d ∈ tables_1, d.before a0 Z = true) (ws : List Jvm.Cond) (i0 : Int64) (i1 : Int64) (i2 : Int32) (i3 : Int32) (i4 : Int32) (h0 : Heap) (n0 : Nat) (Z0 : n0 ≤ h0.size) :
    MetFree l x (head1 (Jvm.Cond.code x code maxLocals ret :: ws) room_1) (fun a U => a = #[(.long i0), (.long i1), (.int i2), (.int i3), (.int i4)] ∧ Z.Warmed39 U.vm ∧ U.heap = h0) (fun _ _ _ _ _ => True) (fun _ U o U' => ∃ v L, o = .returned v ∧ Q0 Z i0 i1 i2 i3 i4 h0 n0 v U'.heap L ∧ FrameEnd U o U' L room_1.cells room_1.slots) := by
  refine MetFree.of_bodySF (plainFor_of_name own_pn2) hisR ?_
  intro p e s m args below meth c s₁ Bd hml0 hP hK
  obtain ⟨rfl, hZ, hh⟩ := hP
  have hx := Bd.exec
  have hby := Bd.bytes
  have hlk : meth.locks = false := Bd.notSynchronized
  have hml : c.maxLocals = 30 := hml0
  have hown : s.vm.findClass "com/example/gyre/gyre/DoubleDoubleSumPinLaw" = some m.cls := findClass_of_methodNamed Bd.named
  have hnm := (name_of_methodNamed Bd.named Bd.method).1
  have X0 : Stand p l e room_1 s m #[(.long i0), (.long i1), (.int i2), (.int i3), (.int i4)] below meth c s₁ [] 0 0 := Stand.of_body Bd
  have e0 : s₁.heap = h0 := by rw [← hh, Bd.state]; rfl
  have N0 := Fr.nil n0
  refine own_body (A := s₁.setTop (mkF m 0 #[.val (.long i0), .second, .val (.long i1), .second, iv i2, iv i3, iv i4, uu, uu, uu, uu, uu, uu, uu, uu, uu, uu, uu, uu, uu, uu, uu, uu, uu, uu, uu, uu, uu, uu, uu] [])) (Q := Q0 Z i0 i1 i2 i3 i4 h0 n0) (fun t k => castTop (own_ef0 m i0 i1 i2 i3 i4) k) ?_
  refine ov (B := s₁.setTop (mkF m 1 #[.val (.long i0), .second, .val (.long i1), .second, iv i2, iv i3, iv i4, uu, uu, uu, uu, uu, uu, uu, uu, uu, uu, uu, uu, uu, uu, uu, uu, uu, uu, uu, uu, uu, uu, uu] [(.long i0)])) (fun t k => XS.lloadN X0.here hx rfl (hb hby at_0) rfl k) ?_
  refine oBP (n := 3) X0 hx (11 : Int32) (hb hby at_1) (by decide) rfl ?_
  refine ov (B := s₁.setTop (mkF m 4 #[.val (.long i0), .second, .val (.long i1), .second, iv i2, iv i3, iv i4, uu, uu, uu, uu, uu, uu, uu, uu, uu, uu, uu, uu, uu, uu, uu, uu, uu, uu, uu, uu, uu, uu, uu] [(.long (i0 <<< ((11 : Int32) &&& 0x3f).toInt64))])) (fun t k => XS.lshl X0.here hx rfl (hb hby at_3) rfl k) ?_
  refine oBP (n := 6) X0 hx (11 : Int32) (hb hby at_4) (by decide) rfl ?_
  refine ov (B := s₁.setTop (mkF m 7 #[.val (.long i0), .second, .val (.long i1), .second, iv i2, iv i3, iv i4, uu, uu, uu, uu, uu, uu, uu, uu, uu, uu, uu, uu, uu, uu, uu, uu, uu, uu, uu, uu, uu, uu, uu] [(.long ((i0 <<< ((11 : Int32) &&& 0x3f).toInt64) >>> ((11 : Int32) &&& 0x3f).toInt64))])) (fun t k => XS.lshr X0.here hx rfl (hb hby at_6) rfl k) ?_
  refine ov (B := s₁.setTop (mkF m 9 #[.val (.long i0), .second, .val (.long i1), .second, iv i2, iv i3, iv i4, .val (.long ((i0 <<< ((11 : Int32) &&& 0x3f).toInt64) >>> ((11 : Int32) &&& 0x3f).toInt64)), .second, uu, uu, uu, uu, uu, uu, uu, uu, uu, uu, uu, uu, uu, uu, uu, uu, uu, uu, uu, uu, uu] [])) (fun t k => XS.lstore X0.here hx rfl (hb hby at_7) rfl (l' := #[.val (.long i0), .second, .val (.long i1), .second, iv i2, iv i3, iv i4, .val (.long ((i0 <<< ((11 : Int32) &&& 0x3f).toInt64) >>> ((11 : Int32) &&& 0x3f).toInt64)), .second, uu, uu, uu, uu, uu, uu, uu, uu, uu, uu, uu, uu, uu, uu, uu, uu, uu, uu, uu, uu, uu]) rfl k) ?_
  refine ov (B := s₁.setTop (mkF m 10 #[.val (.long i0), .second, .val (.long i1), .second, iv i2, iv i3, iv i4, .val (.long ((i0 <<< ((11 : Int32) &&& 0x3f).toInt64) >>> ((11 : Int32) &&& 0x3f).toInt64)), .second, uu, uu, uu, uu, uu, uu, uu, uu, uu, uu, uu, uu, uu, uu, uu, uu, uu, uu, uu, uu, uu] [(.long i1)])) (fun t k => XS.lloadN X0.here hx rfl (hb hby at_9) rfl k) ?_
  refine oBP (n := 12) X0 hx (11 : Int32) (hb hby at_10) (by decide) rfl ?_
  refine ov (B := s₁.setTop (mkF m 13 #[.val (.long i0), .second, .val (.long i1), .second, iv i2, iv i3, iv i4, .val (.long ((i0 <<< ((11 : Int32) &&& 0x3f).toInt64) >>> ((11 : Int32) &&& 0x3f).toInt64)), .second, uu, uu, uu, uu, uu, uu, uu, uu, uu, uu, uu, uu, uu, uu, uu, uu, uu, uu, uu, uu, uu] [(.long (i1 <<< ((11 : Int32) &&& 0x3f).toInt64))])) (fun t k => XS.lshl X0.here hx rfl (hb hby at_12) rfl k) ?_
  refine oBP (n := 15) X0 hx (11 : Int32) (hb hby at_13) (by decide) rfl ?_
  refine ov (B := s₁.setTop (mkF m 16 #[.val (.long i0), .second, .val (.long i1), .second, iv i2, iv i3, iv i4, .val (.long ((i0 <<< ((11 : Int32) &&& 0x3f).toInt64) >>> ((11 : Int32) &&& 0x3f).toInt64)), .second, uu, uu, uu, uu, uu, uu, uu, uu, uu, uu, uu, uu, uu, uu, uu, uu, uu, uu, uu, uu, uu] [(.long ((i1 <<< ((11 : Int32) &&& 0x3f).toInt64) >>> ((11 : Int32) &&& 0x3f).toInt64))])) (fun t k => XS.lshr X0.here hx rfl (hb hby at_15) rfl k) ?_
  refine ov (B := s₁.setTop (mkF m 18 #[.val (.long i0), .second, .val (.long i1), .second, iv i2, iv i3, iv i4, .val (.long ((i0 <<< ((11 : Int32) &&& 0x3f).toInt64) >>> ((11 : Int32) &&& 0x3f).toInt64)), .second, .val (.long ((i1 <<< ((11 : Int32) &&& 0x3f).toInt64) >>> ((11 : Int32) &&& 0x3f).toInt64)), .second, uu, uu, uu, uu, uu, uu, uu, uu, uu, uu, uu, uu, uu, uu, uu, uu, uu, uu, uu] [])) (fun t k => XS.lstore X0.here hx rfl (hb hby at_16) rfl (l' := #[.val (.long i0), .second, .val (.long i1), .second, iv i2, iv i3, iv i4, .val (.long ((i0 <<< ((11 : Int32) &&& 0x3f).toInt64) >>> ((11 : Int32) &&& 0x3f).toInt64)), .second, .val (.long ((i1 <<< ((11 : Int32) &&& 0x3f).toInt64) >>> ((11 : Int32) &&& 0x3f).toInt64)), .second, uu, uu, uu, uu, uu, uu, uu, uu, uu, uu, uu, uu, uu, uu, uu, uu, uu, uu, uu]) rfl k) ?_
  refine oIL (n := 20) X0 hx (hb hby at_18) rfl rfl ?_
  refine ov (B := s₁.setTop (mkF m 22 #[.val (.long i0), .second, .val (.long i1), .second, iv i2, iv i3, iv i4, .val (.long ((i0 <<< ((11 : Int32) &&& 0x3f).toInt64) >>> ((11 : Int32) &&& 0x3f).toInt64)), .second, .val (.long ((i1 <<< ((11 : Int32) &&& 0x3f).toInt64) >>> ((11 : Int32) &&& 0x3f).toInt64)), .second, uu, uu, uu, uu, uu, uu, uu, uu, uu, uu, uu, uu, uu, uu, uu, uu, uu, uu, uu] [(.int (2147483647 : Int32)), (.int i2)])) (fun t k => X0.ldcInt hx hown (mvT hZ (oW hw 0 rfl)) (g := (mkF m 20 #[.val (.long i0), .second, .val (.long i1), .second, iv i2, iv i3, iv i4, .val (.long ((i0 <<< ((11 : Int32) &&& 0x3f).toInt64) >>> ((11 : Int32) &&& 0x3f).toInt64)), .second, .val (.long ((i1 <<< ((11 : Int32) &&& 0x3f).toInt64) >>> ((11 : Int32) &&& 0x3f).toInt64)), .second, uu, uu, uu, uu, uu, uu, uu, uu, uu, uu, uu, uu, uu, uu, uu, uu, uu, uu, uu] [(.int i2)])) rfl (hb hby at_20) _ k) ?_
  refine ov (B := s₁.setTop (mkF m 23 #[.val (.long i0), .second, .val (.long i1), .second, iv i2, iv i3, iv i4, .val (.long ((i0 <<< ((11 : Int32) &&& 0x3f).toInt64) >>> ((11 : Int32) &&& 0x3f).toInt64)), .second, .val (.long ((i1 <<< ((11 : Int32) &&& 0x3f).toInt64) >>> ((11 : Int32) &&& 0x3f).toInt64)), .second, uu, uu, uu, uu, uu, uu, uu, uu, uu, uu, uu, uu, uu, uu, uu, uu, uu, uu, uu] [(.int (i2 &&& (2147483647 : Int32)))])) (fun t k => XS.iand X0.here hx rfl (hb hby at_22) rfl k) ?_
  refine oBP (n := 25) X0 hx (10 : Int32) (hb hby at_23) (by decide) rfl ?_
  refine ov (B := s₁.setTop (mkF m 26 #[.val (.long i0), .second, .val (.long i1), .second, iv i2, iv i3, iv i4, .val (.long ((i0 <<< ((11 : Int32) &&& 0x3f).toInt64) >>> ((11 : Int32) &&& 0x3f).toInt64)), .second, .val (.long ((i1 <<< ((11 : Int32) &&& 0x3f).toInt64) >>> ((11 : Int32) &&& 0x3f).toInt64)), .second, uu, uu, uu, uu, uu, uu, uu, uu, uu, uu, uu, uu, uu, uu, uu, uu, uu, uu, uu] [(.int ((i2 &&& (2147483647 : Int32)) % (10 : Int32)))])) (fun t k => iremM X0 hx rfl (hb hby at_25) rfl (by decide) k) ?_
  refine ov (B := s₁.setTop (mkF m 28 #[.val (.long i0), .second, .val (.long i1), .second, iv i2, iv i3, iv i4, .val (.long ((i0 <<< ((11 : Int32) &&& 0x3f).toInt64) >>> ((11 : Int32) &&& 0x3f).toInt64)), .second, .val (.long ((i1 <<< ((11 : Int32) &&& 0x3f).toInt64) >>> ((11 : Int32) &&& 0x3f).toInt64)), .second, iv ((i2 &&& (2147483647 : Int32)) % (10 : Int32)), uu, uu, uu, uu, uu, uu, uu, uu, uu, uu, uu, uu, uu, uu, uu, uu, uu, uu] [])) (fun t k => XS.istore X0.here hx rfl (hb hby at_26) rfl (l' := #[.val (.long i0), .second, .val (.long i1), .second, iv i2, iv i3, iv i4, .val (.long ((i0 <<< ((11 : Int32) &&& 0x3f).toInt64) >>> ((11 : Int32) &&& 0x3f).toInt64)), .second, .val (.long ((i1 <<< ((11 : Int32) &&& 0x3f).toInt64) >>> ((11 : Int32) &&& 0x3f).toInt64)), .second, iv ((i2 &&& (2147483647 : Int32)) % (10 : Int32)), uu, uu, uu, uu, uu, uu, uu, uu, uu, uu, uu, uu, uu, uu, uu, uu, uu, uu]) rfl k) ?_
  generalize hs26 : ((i2 &&& (2147483647 : Int32)) % (10 : Int32)) = s26
  refine oIL (n := 30) X0 hx (hb hby at_28) rfl rfl ?_
  refine ov (B := s₁.setTop (mkF m 32 #[.val (.long i0), .second, .val (.long i1), .second, iv i2, iv i3, iv i4, .val (.long ((i0 <<< ((11 : Int32) &&& 0x3f).toInt64) >>> ((11 : Int32) &&& 0x3f).toInt64)), .second, .val (.long ((i1 <<< ((11 : Int32) &&& 0x3f).toInt64) >>> ((11 : Int32) &&& 0x3f).toInt64)), .second, iv s26, uu, uu, uu, uu, uu, uu, uu, uu, uu, uu, uu, uu, uu, uu, uu, uu, uu, uu] [(.int (2147483647 : Int32)), (.int i3)])) (fun t k => X0.ldcInt hx hown (mvT hZ (oW hw 0 rfl)) (g := (mkF m 30 #[.val (.long i0), .second, .val (.long i1), .second, iv i2, iv i3, iv i4, .val (.long ((i0 <<< ((11 : Int32) &&& 0x3f).toInt64) >>> ((11 : Int32) &&& 0x3f).toInt64)), .second, .val (.long ((i1 <<< ((11 : Int32) &&& 0x3f).toInt64) >>> ((11 : Int32) &&& 0x3f).toInt64)), .second, iv s26, uu, uu, uu, uu, uu, uu, uu, uu, uu, uu, uu, uu, uu, uu, uu, uu, uu, uu] [(.int i3)])) rfl (hb hby at_30) _ k) ?_
  refine ov (B := s₁.setTop (mkF m 33 #[.val (.long i0), .second, .val (.long i1), .second, iv i2, iv i3, iv i4, .val (.long ((i0 <<< ((11 : Int32) &&& 0x3f).toInt64) >>> ((11 : Int32) &&& 0x3f).toInt64)), .second, .val (.long ((i1 <<< ((11 : Int32) &&& 0x3f).toInt64) >>> ((11 : Int32) &&& 0x3f).toInt64)), .second, iv s26, uu, uu, uu, uu, uu, uu, uu, uu, uu, uu, uu, uu, uu, uu, uu, uu, uu, uu] [(.int (i3 &&& (2147483647 : Int32)))])) (fun t k => XS.iand X0.here hx rfl (hb hby at_32) rfl k) ?_
  refine oBP (n := 35) X0 hx (10 : Int32) (hb hby at_33) (by decide) rfl ?_
  refine ov (B := s₁.setTop (mkF m 36 #[.val (.long i0), .second, .val (.long i1), .second, iv i2, iv i3, iv i4, .val (.long ((i0 <<< ((11 : Int32) &&& 0x3f).toInt64) >>> ((11 : Int32) &&& 0x3f).toInt64)), .second, .val (.long ((i1 <<< ((11 : Int32) &&& 0x3f).toInt64) >>> ((11 : Int32) &&& 0x3f).toInt64)), .second, iv s26, uu, uu, uu, uu, uu, uu, uu, uu, uu, uu, uu, uu, uu, uu, uu, uu, uu, uu] [(.int ((i3 &&& (2147483647 : Int32)) % (10 : Int32)))])) (fun t k => iremM X0 hx rfl (hb hby at_35) rfl (by decide) k) ?_
  refine ov (B := s₁.setTop (mkF m 38 #[.val (.long i0), .second, .val (.long i1), .second, iv i2, iv i3, iv i4, .val (.long ((i0 <<< ((11 : Int32) &&& 0x3f).toInt64) >>> ((11 : Int32) &&& 0x3f).toInt64)), .second, .val (.long ((i1 <<< ((11 : Int32) &&& 0x3f).toInt64) >>> ((11 : Int32) &&& 0x3f).toInt64)), .second, iv s26, iv ((i3 &&& (2147483647 : Int32)) % (10 : Int32)), uu, uu, uu, uu, uu, uu, uu, uu, uu, uu, uu, uu, uu, uu, uu, uu, uu] [])) (fun t k => XS.istore X0.here hx rfl (hb hby at_36) rfl (l' := #[.val (.long i0), .second, .val (.long i1), .second, iv i2, iv i3, iv i4, .val (.long ((i0 <<< ((11 : Int32) &&& 0x3f).toInt64) >>> ((11 : Int32) &&& 0x3f).toInt64)), .second, .val (.long ((i1 <<< ((11 : Int32) &&& 0x3f).toInt64) >>> ((11 : Int32) &&& 0x3f).toInt64)), .second, iv s26, iv ((i3 &&& (2147483647 : Int32)) % (10 : Int32)), uu, uu, uu, uu, uu, uu, uu, uu, uu, uu, uu, uu, uu, uu, uu, uu, uu]) rfl k) ?_
  generalize hs36 : ((i3 &&& (2147483647 : Int32)) % (10 : Int32)) = s36
  refine ov (B := s₁.setTop (mkF m 40 #[.val (.long i0), .second, .val (.long i1), .second, iv i2, iv i3, iv i4, .val (.long ((i0 <<< ((11 : Int32) &&& 0x3f).toInt64) >>> ((11 : Int32) &&& 0x3f).toInt64)), .second, .val (.long ((i1 <<< ((11 : Int32) &&& 0x3f).toInt64) >>> ((11 : Int32) &&& 0x3f).toInt64)), .second, iv s26, iv s36, uu, uu, uu, uu, uu, uu, uu, uu, uu, uu, uu, uu, uu, uu, uu, uu, uu] [(.long ((i0 <<< ((11 : Int32) &&& 0x3f).toInt64) >>> ((11 : Int32) &&& 0x3f).toInt64))])) (fun t k => XS.lload X0.here hx rfl (hb hby at_38) rfl k) ?_
  refine oIL (n := 42) X0 hx (hb hby at_40) rfl rfl ?_
  refine ov (B := s₁.setTop (mkF m 43 #[.val (.long i0), .second, .val (.long i1), .second, iv i2, iv i3, iv i4, .val (.long ((i0 <<< ((11 : Int32) &&& 0x3f).toInt64) >>> ((11 : Int32) &&& 0x3f).toInt64)), .second, .val (.long ((i1 <<< ((11 : Int32) &&& 0x3f).toInt64) >>> ((11 : Int32) &&& 0x3f).toInt64)), .second, iv s26, iv s36, uu, uu, uu, uu, uu, uu, uu, uu, uu, uu, uu, uu, uu, uu, uu, uu, uu] [(.long (((i0 <<< ((11 : Int32) &&& 0x3f).toInt64) >>> ((11 : Int32) &&& 0x3f).toInt64) <<< (s26 &&& 0x3f).toInt64))])) (fun t k => XS.lshl X0.here hx rfl (hb hby at_42) rfl k) ?_
  refine ov (B := s₁.setTop (mkF m 45 #[.val (.long i0), .second, .val (.long i1), .second, iv i2, iv i3, iv i4, .val (.long ((i0 <<< ((11 : Int32) &&& 0x3f).toInt64) >>> ((11 : Int32) &&& 0x3f).toInt64)), .second, .val (.long ((i1 <<< ((11 : Int32) &&& 0x3f).toInt64) >>> ((11 : Int32) &&& 0x3f).toInt64)), .second, iv s26, iv s36, .val (.long (((i0 <<< ((11 : Int32) &&& 0x3f).toInt64) >>> ((11 : Int32) &&& 0x3f).toInt64) <<< (s26 &&& 0x3f).toInt64)), .second, uu, uu, uu, uu, uu, uu, uu, uu, uu, uu, uu, uu, uu, uu, uu] [])) (fun t k => XS.lstore X0.here hx rfl (hb hby at_43) rfl (l' := #[.val (.long i0), .second, .val (.long i1), .second, iv i2, iv i3, iv i4, .val (.long ((i0 <<< ((11 : Int32) &&& 0x3f).toInt64) >>> ((11 : Int32) &&& 0x3f).toInt64)), .second, .val (.long ((i1 <<< ((11 : Int32) &&& 0x3f).toInt64) >>> ((11 : Int32) &&& 0x3f).toInt64)), .second, iv s26, iv s36, .val (.long (((i0 <<< ((11 : Int32) &&& 0x3f).toInt64) >>> ((11 : Int32) &&& 0x3f).toInt64) <<< (s26 &&& 0x3f).toInt64)), .second, uu, uu, uu, uu, uu, uu, uu, uu, uu, uu, uu, uu, uu, uu, uu]) rfl k) ?_
  generalize hs43 : (((i0 <<< ((11 : Int32) &&& 0x3f).toInt64) >>> ((11 : Int32) &&& 0x3f).toInt64) <<< (s26 &&& 0x3f).toInt64) = s43
  refine ov (B := s₁.setTop (mkF m 47 #[.val (.long i0), .second, .val (.long i1), .second, iv i2, iv i3, iv i4, .val (.long ((i0 <<< ((11 : Int32) &&& 0x3f).toInt64) >>> ((11 : Int32) &&& 0x3f).toInt64)), .second, .val (.long ((i1 <<< ((11 : Int32) &&& 0x3f).toInt64) >>> ((11 : Int32) &&& 0x3f).toInt64)), .second, iv s26, iv s36, .val (.long s43), .second, uu, uu, uu, uu, uu, uu, uu, uu, uu, uu, uu, uu, uu, uu, uu] [(.long ((i1 <<< ((11 : Int32) &&& 0x3f).toInt64) >>> ((11 : Int32) &&& 0x3f).toInt64))])) (fun t k => XS.lload X0.here hx rfl (hb hby at_45) rfl k) ?_
  refine oIL (n := 49) X0 hx (hb hby at_47) rfl rfl ?_
  refine ov (B := s₁.setTop (mkF m 50 #[.val (.long i0), .second, .val (.long i1), .second, iv i2, iv i3, iv i4, .val (.long ((i0 <<< ((11 : Int32) &&& 0x3f).toInt64) >>> ((11 : Int32) &&& 0x3f).toInt64)), .second, .val (.long ((i1 <<< ((11 : Int32) &&& 0x3f).toInt64) >>> ((11 : Int32) &&& 0x3f).toInt64)), .second, iv s26, iv s36, .val (.long s43), .second, uu, uu, uu, uu, uu, uu, uu, uu, uu, uu, uu, uu, uu, uu, uu] [(.long (((i1 <<< ((11 : Int32) &&& 0x3f).toInt64) >>> ((11 : Int32) &&& 0x3f).toInt64) <<< (s36 &&& 0x3f).toInt64))])) (fun t k => XS.lshl X0.here hx rfl (hb hby at_49) rfl k) ?_
  refine ov (B := s₁.setTop (mkF m 52 #[.val (.long i0), .second, .val (.long i1), .second, iv i2, iv i3, iv i4, .val (.long ((i0 <<< ((11 : Int32) &&& 0x3f).toInt64) >>> ((11 : Int32) &&& 0x3f).toInt64)), .second, .val (.long ((i1 <<< ((11 : Int32) &&& 0x3f).toInt64) >>> ((11 : Int32) &&& 0x3f).toInt64)), .second, iv s26, iv s36, .val (.long s43), .second, .val (.long (((i1 <<< ((11 : Int32) &&& 0x3f).toInt64) >>> ((11 : Int32) &&& 0x3f).toInt64) <<< (s36 &&& 0x3f).toInt64)), .second, uu, uu, uu, uu, uu, uu, uu, uu, uu, uu, uu, uu, uu] [])) (fun t k => XS.lstore X0.here hx rfl (hb hby at_50) rfl (l' := #[.val (.long i0), .second, .val (.long i1), .second, iv i2, iv i3, iv i4, .val (.long ((i0 <<< ((11 : Int32) &&& 0x3f).toInt64) >>> ((11 : Int32) &&& 0x3f).toInt64)), .second, .val (.long ((i1 <<< ((11 : Int32) &&& 0x3f).toInt64) >>> ((11 : Int32) &&& 0x3f).toInt64)), .second, iv s26, iv s36, .val (.long s43), .second, .val (.long (((i1 <<< ((11 : Int32) &&& 0x3f).toInt64) >>> ((11 : Int32) &&& 0x3f).toInt64) <<< (s36 &&& 0x3f).toInt64)), .second, uu, uu, uu, uu, uu, uu, uu, uu, uu, uu, uu, uu, uu]) rfl k) ?_
  generalize hs50 : (((i1 <<< ((11 : Int32) &&& 0x3f).toInt64) >>> ((11 : Int32) &&& 0x3f).toInt64) <<< (s36 &&& 0x3f).toInt64) = s50
  refine oIL (n := 54) X0 hx (hb hby at_52) rfl rfl ?_
  refine oIC (n := 55) X0 hx (3 : Int32) (hb hby at_54) (by decide) rfl ?_
  refine ov (B := s₁.setTop (mkF m 56 #[.val (.long i0), .second, .val (.long i1), .second, iv i2, iv i3, iv i4, .val (.long ((i0 <<< ((11 : Int32) &&& 0x3f).toInt64) >>> ((11 : Int32) &&& 0x3f).toInt64)), .second, .val (.long ((i1 <<< ((11 : Int32) &&& 0x3f).toInt64) >>> ((11 : Int32) &&& 0x3f).toInt64)), .second, iv s26, iv s36, .val (.long s43), .second, .val (.long s50), .second, uu, uu, uu, uu, uu, uu, uu, uu, uu, uu, uu, uu, uu] [(.int (i4 &&& (3 : Int32)))])) (fun t k => XS.iand X0.here hx rfl (hb hby at_55) rfl k) ?_
  obtain ⟨_, _, ⟨T1, L1, k1, n1⟩, -, X1, ⟨Lc1, hQ1, l1, y1, z1⟩, st1⟩ := Jvm.LawKit.callS X0 hx (y := (⟨"com/example/gyre/gyre/DoubleDoubleSumPinLaw", "pickScale", "(I)D"⟩ : MethodName)) hown (mvT hZ (oW hw 1 rfl)) (mvT hZ (oW hw 2 rfl)) (mvT hZ (oW hw 3 rfl)) (mvT hZ (oW hw 4 rfl)) (by decide) (backOf (W := 0) (rmK l Z a0 hw [] (i4 &&& (3 : Int32)) h0 n0 Z0 ) hZ (oW hw 4 rfl) (oW hw 3 rfl) (by decide) (by decide)) (g := (mkF m 56 #[.val (.long i0), .second, .val (.long i1), .second, iv i2, iv i3, iv i4, .val (.long ((i0 <<< ((11 : Int32) &&& 0x3f).toInt64) >>> ((11 : Int32) &&& 0x3f).toInt64)), .second, .val (.long ((i1 <<< ((11 : Int32) &&& 0x3f).toInt64) >>> ((11 : Int32) &&& 0x3f).toInt64)), .second, iv s26, iv s36, .val (.long s43), .second, .val (.long s50), .second, uu, uu, uu, uu, uu, uu, uu, uu, uu, uu, uu, uu, uu] [(.int (i4 &&& (3 : Int32)))])) rfl (by rw [hml]; rfl) (argsL := [(.int (i4 &&& (3 : Int32)))]) (rest := []) (lenOf own_pd2 rfl) rfl (by show 2 * 0 + _ ≤ _; exact Nat.le_of_eq rfl) (hb hby at_56) (fun _ _ => ⟨rfl, e0, (by decide : 0 + 0 ≤ _), (by decide : 0 + 0 ≤ _)⟩)
  dsimp only [Pt.U, Pt.locs, Pt.cells, Pt.slots] at X1 l1 y1 z1 st1 hQ1
  subst l1 y1 z1
  obtain ⟨wS0, sS0, rfl, Nq1, eq1, hsc_1⟩ := hQ1
  have N1 := Fr.app N0 Nq1
  refine ov (B := T1.setTop (mkF m 59 #[.val (.long i0), .second, .val (.long i1), .second, iv i2, iv i3, iv i4, .val (.long ((i0 <<< ((11 : Int32) &&& 0x3f).toInt64) >>> ((11 : Int32) &&& 0x3f).toInt64)), .second, .val (.long ((i1 <<< ((11 : Int32) &&& 0x3f).toInt64) >>> ((11 : Int32) &&& 0x3f).toInt64)), .second, iv s26, iv s36, .val (.long s43), .second, .val (.long s50), .second, uu, uu, uu, uu, uu, uu, uu, uu, uu, uu, uu, uu, uu] [(.double wS0)])) (fun t k => st1 t k) ?_
  refine ov (B := T1.setTop (mkF m 61 #[.val (.long i0), .second, .val (.long i1), .second, iv i2, iv i3, iv i4, .val (.long ((i0 <<< ((11 : Int32) &&& 0x3f).toInt64) >>> ((11 : Int32) &&& 0x3f).toInt64)), .second, .val (.long ((i1 <<< ((11 : Int32) &&& 0x3f).toInt64) >>> ((11 : Int32) &&& 0x3f).toInt64)), .second, iv s26, iv s36, .val (.long s43), .second, .val (.long s50), .second, .val (.double wS0), .second, uu, uu, uu, uu, uu, uu, uu, uu, uu, uu, uu] [])) (fun t k => XS.dstore X1.here hx rfl (hb hby at_59) rfl (l' := #[.val (.long i0), .second, .val (.long i1), .second, iv i2, iv i3, iv i4, .val (.long ((i0 <<< ((11 : Int32) &&& 0x3f).toInt64) >>> ((11 : Int32) &&& 0x3f).toInt64)), .second, .val (.long ((i1 <<< ((11 : Int32) &&& 0x3f).toInt64) >>> ((11 : Int32) &&& 0x3f).toInt64)), .second, iv s26, iv s36, .val (.long s43), .second, .val (.long s50), .second, .val (.double wS0), .second, uu, uu, uu, uu, uu, uu, uu, uu, uu, uu, uu]) rfl k) ?_
  obtain ⟨eA, aA, aB, aC⟩ := own_AB i0 (e := s26) (by rw [← hs26]; exact own_modm _ 10 (by decide))
  rw [hs43] at aB aC
  obtain ⟨eB, bA, bB, bC⟩ := own_AB i1 (e := s36) (by rw [← hs36]; exact own_modm _ 10 (by decide))
  rw [hs50] at bB bC
  obtain ⟨nnX, nnY, zzA, zzB, zzC, zzD, zzE, zzF, ⟨qqA, qqB, qqC, qqD, qqE, qqF⟩, ⟨nnA, nnB, nnC, nnD, nnE, nnF⟩, mmA, mmB⟩ := own_chain hsc_1 aB bB aA bA aC bC
  refine ov (B := T1.setTop (mkF m 63 #[.val (.long i0), .second, .val (.long i1), .second, iv i2, iv i3, iv i4, .val (.long ((i0 <<< ((11 : Int32) &&& 0x3f).toInt64) >>> ((11 : Int32) &&& 0x3f).toInt64)), .second, .val (.long ((i1 <<< ((11 : Int32) &&& 0x3f).toInt64) >>> ((11 : Int32) &&& 0x3f).toInt64)), .second, iv s26, iv s36, .val (.long s43), .second, .val (.long s50), .second, .val (.double wS0), .second, uu, uu, uu, uu, uu, uu, uu, uu, uu, uu, uu] [(.long s43)])) (fun t k => XS.lload X1.here hx rfl (hb hby at_61) rfl k) ?_
  refine ov (B := T1.setTop (mkF m 64 #[.val (.long i0), .second, .val (.long i1), .second, iv i2, iv i3, iv i4, .val (.long ((i0 <<< ((11 : Int32) &&& 0x3f).toInt64) >>> ((11 : Int32) &&& 0x3f).toInt64)), .second, .val (.long ((i1 <<< ((11 : Int32) &&& 0x3f).toInt64) >>> ((11 : Int32) &&& 0x3f).toInt64)), .second, iv s26, iv s36, .val (.long s43), .second, .val (.long s50), .second, .val (.double wS0), .second, uu, uu, uu, uu, uu, uu, uu, uu, uu, uu, uu] [(.double (FP.l2d s43))])) (fun t k => XS.l2dS X1.here hx rfl (hb hby at_63) rfl rfl k) ?_
  refine ov (B := T1.setTop (mkF m 66 #[.val (.long i0), .second, .val (.long i1), .second, iv i2, iv i3, iv i4, .val (.long ((i0 <<< ((11 : Int32) &&& 0x3f).toInt64) >>> ((11 : Int32) &&& 0x3f).toInt64)), .second, .val (.long ((i1 <<< ((11 : Int32) &&& 0x3f).toInt64) >>> ((11 : Int32) &&& 0x3f).toInt64)), .second, iv s26, iv s36, .val (.long s43), .second, .val (.long s50), .second, .val (.double wS0), .second, uu, uu, uu, uu, uu, uu, uu, uu, uu, uu, uu] [(.double wS0), (.double (FP.l2d s43))])) (fun t k => XS.dload X1.here hx rfl (hb hby at_64) rfl k) ?_
  refine ov (B := T1.setTop (mkF m 67 #[.val (.long i0), .second, .val (.long i1), .second, iv i2, iv i3, iv i4, .val (.long ((i0 <<< ((11 : Int32) &&& 0x3f).toInt64) >>> ((11 : Int32) &&& 0x3f).toInt64)), .second, .val (.long ((i1 <<< ((11 : Int32) &&& 0x3f).toInt64) >>> ((11 : Int32) &&& 0x3f).toInt64)), .second, iv s26, iv s36, .val (.long s43), .second, .val (.long s50), .second, .val (.double wS0), .second, uu, uu, uu, uu, uu, uu, uu, uu, uu, uu, uu] [(.double (FP.dmul (FP.l2d s43) wS0))])) (fun t k => XS.dmulS X1.here hx rfl (hb hby at_66) rfl nnX rfl k) ?_
  refine ov (B := T1.setTop (mkF m 69 #[.val (.long i0), .second, .val (.long i1), .second, iv i2, iv i3, iv i4, .val (.long ((i0 <<< ((11 : Int32) &&& 0x3f).toInt64) >>> ((11 : Int32) &&& 0x3f).toInt64)), .second, .val (.long ((i1 <<< ((11 : Int32) &&& 0x3f).toInt64) >>> ((11 : Int32) &&& 0x3f).toInt64)), .second, iv s26, iv s36, .val (.long s43), .second, .val (.long s50), .second, .val (.double wS0), .second, .val (.double (FP.dmul (FP.l2d s43) wS0)), .second, uu, uu, uu, uu, uu, uu, uu, uu, uu] [])) (fun t k => XS.dstore X1.here hx rfl (hb hby at_67) rfl (l' := #[.val (.long i0), .second, .val (.long i1), .second, iv i2, iv i3, iv i4, .val (.long ((i0 <<< ((11 : Int32) &&& 0x3f).toInt64) >>> ((11 : Int32) &&& 0x3f).toInt64)), .second, .val (.long ((i1 <<< ((11 : Int32) &&& 0x3f).toInt64) >>> ((11 : Int32) &&& 0x3f).toInt64)), .second, iv s26, iv s36, .val (.long s43), .second, .val (.long s50), .second, .val (.double wS0), .second, .val (.double (FP.dmul (FP.l2d s43) wS0)), .second, uu, uu, uu, uu, uu, uu, uu, uu, uu]) rfl k) ?_
  refine ov (B := T1.setTop (mkF m 71 #[.val (.long i0), .second, .val (.long i1), .second, iv i2, iv i3, iv i4, .val (.long ((i0 <<< ((11 : Int32) &&& 0x3f).toInt64) >>> ((11 : Int32) &&& 0x3f).toInt64)), .second, .val (.long ((i1 <<< ((11 : Int32) &&& 0x3f).toInt64) >>> ((11 : Int32) &&& 0x3f).toInt64)), .second, iv s26, iv s36, .val (.long s43), .second, .val (.long s50), .second, .val (.double wS0), .second, .val (.double (FP.dmul (FP.l2d s43) wS0)), .second, uu, uu, uu, uu, uu, uu, uu, uu, uu] [(.long s50)])) (fun t k => XS.lload X1.here hx rfl (hb hby at_69) rfl k) ?_
  refine ov (B := T1.setTop (mkF m 72 #[.val (.long i0), .second, .val (.long i1), .second, iv i2, iv i3, iv i4, .val (.long ((i0 <<< ((11 : Int32) &&& 0x3f).toInt64) >>> ((11 : Int32) &&& 0x3f).toInt64)), .second, .val (.long ((i1 <<< ((11 : Int32) &&& 0x3f).toInt64) >>> ((11 : Int32) &&& 0x3f).toInt64)), .second, iv s26, iv s36, .val (.long s43), .second, .val (.long s50), .second, .val (.double wS0), .second, .val (.double (FP.dmul (FP.l2d s43) wS0)), .second, uu, uu, uu, uu, uu, uu, uu, uu, uu] [(.double (FP.l2d s50))])) (fun t k => XS.l2dS X1.here hx rfl (hb hby at_71) rfl rfl k) ?_
  refine ov (B := T1.setTop (mkF m 74 #[.val (.long i0), .second, .val (.long i1), .second, iv i2, iv i3, iv i4, .val (.long ((i0 <<< ((11 : Int32) &&& 0x3f).toInt64) >>> ((11 : Int32) &&& 0x3f).toInt64)), .second, .val (.long ((i1 <<< ((11 : Int32) &&& 0x3f).toInt64) >>> ((11 : Int32) &&& 0x3f).toInt64)), .second, iv s26, iv s36, .val (.long s43), .second, .val (.long s50), .second, .val (.double wS0), .second, .val (.double (FP.dmul (FP.l2d s43) wS0)), .second, uu, uu, uu, uu, uu, uu, uu, uu, uu] [(.double wS0), (.double (FP.l2d s50))])) (fun t k => XS.dload X1.here hx rfl (hb hby at_72) rfl k) ?_
  refine ov (B := T1.setTop (mkF m 75 #[.val (.long i0), .second, .val (.long i1), .second, iv i2, iv i3, iv i4, .val (.long ((i0 <<< ((11 : Int32) &&& 0x3f).toInt64) >>> ((11 : Int32) &&& 0x3f).toInt64)), .second, .val (.long ((i1 <<< ((11 : Int32) &&& 0x3f).toInt64) >>> ((11 : Int32) &&& 0x3f).toInt64)), .second, iv s26, iv s36, .val (.long s43), .second, .val (.long s50), .second, .val (.double wS0), .second, .val (.double (FP.dmul (FP.l2d s43) wS0)), .second, uu, uu, uu, uu, uu, uu, uu, uu, uu] [(.double (FP.dmul (FP.l2d s50) wS0))])) (fun t k => XS.dmulS X1.here hx rfl (hb hby at_74) rfl nnY rfl k) ?_
  refine ov (B := T1.setTop (mkF m 77 #[.val (.long i0), .second, .val (.long i1), .second, iv i2, iv i3, iv i4, .val (.long ((i0 <<< ((11 : Int32) &&& 0x3f).toInt64) >>> ((11 : Int32) &&& 0x3f).toInt64)), .second, .val (.long ((i1 <<< ((11 : Int32) &&& 0x3f).toInt64) >>> ((11 : Int32) &&& 0x3f).toInt64)), .second, iv s26, iv s36, .val (.long s43), .second, .val (.long s50), .second, .val (.double wS0), .second, .val (.double (FP.dmul (FP.l2d s43) wS0)), .second, .val (.double (FP.dmul (FP.l2d s50) wS0)), .second, uu, uu, uu, uu, uu, uu, uu] [])) (fun t k => XS.dstore X1.here hx rfl (hb hby at_75) rfl (l' := #[.val (.long i0), .second, .val (.long i1), .second, iv i2, iv i3, iv i4, .val (.long ((i0 <<< ((11 : Int32) &&& 0x3f).toInt64) >>> ((11 : Int32) &&& 0x3f).toInt64)), .second, .val (.long ((i1 <<< ((11 : Int32) &&& 0x3f).toInt64) >>> ((11 : Int32) &&& 0x3f).toInt64)), .second, iv s26, iv s36, .val (.long s43), .second, .val (.long s50), .second, .val (.double wS0), .second, .val (.double (FP.dmul (FP.l2d s43) wS0)), .second, .val (.double (FP.dmul (FP.l2d s50) wS0)), .second, uu, uu, uu, uu, uu, uu, uu]) rfl k) ?_
  refine ov (B := T1.setTop (mkF m 79 #[.val (.long i0), .second, .val (.long i1), .second, iv i2, iv i3, iv i4, .val (.long ((i0 <<< ((11 : Int32) &&& 0x3f).toInt64) >>> ((11 : Int32) &&& 0x3f).toInt64)), .second, .val (.long ((i1 <<< ((11 : Int32) &&& 0x3f).toInt64) >>> ((11 : Int32) &&& 0x3f).toInt64)), .second, iv s26, iv s36, .val (.long s43), .second, .val (.long s50), .second, .val (.double wS0), .second, .val (.double (FP.dmul (FP.l2d s43) wS0)), .second, .val (.double (FP.dmul (FP.l2d s50) wS0)), .second, uu, uu, uu, uu, uu, uu, uu] [(.double (FP.dmul (FP.l2d s43) wS0))])) (fun t k => XS.dload X1.here hx rfl (hb hby at_77) rfl k) ?_
  refine ov (B := T1.setTop (mkF m 81 #[.val (.long i0), .second, .val (.long i1), .second, iv i2, iv i3, iv i4, .val (.long ((i0 <<< ((11 : Int32) &&& 0x3f).toInt64) >>> ((11 : Int32) &&& 0x3f).toInt64)), .second, .val (.long ((i1 <<< ((11 : Int32) &&& 0x3f).toInt64) >>> ((11 : Int32) &&& 0x3f).toInt64)), .second, iv s26, iv s36, .val (.long s43), .second, .val (.long s50), .second, .val (.double wS0), .second, .val (.double (FP.dmul (FP.l2d s43) wS0)), .second, .val (.double (FP.dmul (FP.l2d s50) wS0)), .second, uu, uu, uu, uu, uu, uu, uu] [(.double (FP.dmul (FP.l2d s50) wS0)), (.double (FP.dmul (FP.l2d s43) wS0))])) (fun t k => XS.dload X1.here hx rfl (hb hby at_79) rfl k) ?_
  obtain ⟨_, _, ⟨T2, L2, k2, n2⟩, -, X2, ⟨Lc2, hQ2, l2, y2, z2⟩, st2⟩ := Jvm.LawKit.callS X1 hx (y := (⟨"com/example/gyre/gyre/DoubleDouble", "sum", "(DD)Lcom/example/gyre/gyre/DoubleDouble;"⟩ : MethodName)) hown (mvT hZ (oW hw 5 rfl)) (mvT hZ (oW hw 6 rfl)) (mvT hZ (oW hw 7 rfl)) (mvT hZ (oW hw 8 rfl)) (by decide) (backOf (W := 0) (rmZ l Z a0 hw [] (FP.dmul (FP.l2d s43) wS0) (FP.dmul (FP.l2d s50) wS0) zzA zzB zzC zzD zzE zzF h0 n0 Z0 qqA qqB qqC qqD qqE qqF nnA nnB nnC nnD nnE nnF) hZ (oW hw 8 rfl) (oW hw 7 rfl) (by decide) (by decide)) (g := (mkF m 81 #[.val (.long i0), .second, .val (.long i1), .second, iv i2, iv i3, iv i4, .val (.long ((i0 <<< ((11 : Int32) &&& 0x3f).toInt64) >>> ((11 : Int32) &&& 0x3f).toInt64)), .second, .val (.long ((i1 <<< ((11 : Int32) &&& 0x3f).toInt64) >>> ((11 : Int32) &&& 0x3f).toInt64)), .second, iv s26, iv s36, .val (.long s43), .second, .val (.long s50), .second, .val (.double wS0), .second, .val (.double (FP.dmul (FP.l2d s43) wS0)), .second, .val (.double (FP.dmul (FP.l2d s50) wS0)), .second, uu, uu, uu, uu, uu, uu, uu] [(.double (FP.dmul (FP.l2d s50) wS0)), (.double (FP.dmul (FP.l2d s43) wS0))])) rfl (by rw [hml]; rfl) (argsL := [(.double (FP.dmul (FP.l2d s43) wS0)), (.double (FP.dmul (FP.l2d s50) wS0))]) (rest := []) (lenOf own_pd3 rfl) rfl (by show 2 * 0 + _ ≤ _; exact Nat.le_of_eq rfl) (hb hby at_81) (fun _ _ => ⟨rfl, eq1, (by decide : (0 + 0) + 1 ≤ _), (by decide : (0 + 0) + 2 ≤ _)⟩)
  dsimp only [Pt.U, Pt.locs, Pt.cells, Pt.slots] at X2 l2 y2 z2 st2 hQ2
  subst l2 y2 z2
  obtain ⟨r_2, rfl, Nq2, Kq2, f2_0, f2_1, f2_2⟩ := hQ2
  have N2 := Fr.app N1 Nq2
  refine ov (B := T2.setTop (mkF m 84 #[.val (.long i0), .second, .val (.long i1), .second, iv i2, iv i3, iv i4, .val (.long ((i0 <<< ((11 : Int32) &&& 0x3f).toInt64) >>> ((11 : Int32) &&& 0x3f).toInt64)), .second, .val (.long ((i1 <<< ((11 : Int32) &&& 0x3f).toInt64) >>> ((11 : Int32) &&& 0x3f).toInt64)), .second, iv s26, iv s36, .val (.long s43), .second, .val (.long s50), .second, .val (.double wS0), .second, .val (.double (FP.dmul (FP.l2d s43) wS0)), .second, .val (.double (FP.dmul (FP.l2d s50) wS0)), .second, uu, uu, uu, uu, uu, uu, uu] [(.ref r_2)])) (fun t k => st2 t k) ?_
  refine ov (B := T2.setTop (mkF m 86 #[.val (.long i0), .second, .val (.long i1), .second, iv i2, iv i3, iv i4, .val (.long ((i0 <<< ((11 : Int32) &&& 0x3f).toInt64) >>> ((11 : Int32) &&& 0x3f).toInt64)), .second, .val (.long ((i1 <<< ((11 : Int32) &&& 0x3f).toInt64) >>> ((11 : Int32) &&& 0x3f).toInt64)), .second, iv s26, iv s36, .val (.long s43), .second, .val (.long s50), .second, .val (.double wS0), .second, .val (.double (FP.dmul (FP.l2d s43) wS0)), .second, .val (.double (FP.dmul (FP.l2d s50) wS0)), .second, rv r_2, uu, uu, uu, uu, uu, uu] [])) (fun t k => XS.astore X2.here hx rfl (hb hby at_84) rfl rfl (l' := #[.val (.long i0), .second, .val (.long i1), .second, iv i2, iv i3, iv i4, .val (.long ((i0 <<< ((11 : Int32) &&& 0x3f).toInt64) >>> ((11 : Int32) &&& 0x3f).toInt64)), .second, .val (.long ((i1 <<< ((11 : Int32) &&& 0x3f).toInt64) >>> ((11 : Int32) &&& 0x3f).toInt64)), .second, iv s26, iv s36, .val (.long s43), .second, .val (.long s50), .second, .val (.double wS0), .second, .val (.double (FP.dmul (FP.l2d s43) wS0)), .second, .val (.double (FP.dmul (FP.l2d s50) wS0)), .second, rv r_2, uu, uu, uu, uu, uu, uu]) rfl k) ?_
  refine ov (B := T2.setTop (mkF m 88 #[.val (.long i0), .second, .val (.long i1), .second, iv i2, iv i3, iv i4, .val (.long ((i0 <<< ((11 : Int32) &&& 0x3f).toInt64) >>> ((11 : Int32) &&& 0x3f).toInt64)), .second, .val (.long ((i1 <<< ((11 : Int32) &&& 0x3f).toInt64) >>> ((11 : Int32) &&& 0x3f).toInt64)), .second, iv s26, iv s36, .val (.long s43), .second, .val (.long s50), .second, .val (.double wS0), .second, .val (.double (FP.dmul (FP.l2d s43) wS0)), .second, .val (.double (FP.dmul (FP.l2d s50) wS0)), .second, rv r_2, uu, uu, uu, uu, uu, uu] [(.long s43)])) (fun t k => XS.lload X2.here hx rfl (hb hby at_86) rfl k) ?_
  refine ov (B := T2.setTop (mkF m 90 #[.val (.long i0), .second, .val (.long i1), .second, iv i2, iv i3, iv i4, .val (.long ((i0 <<< ((11 : Int32) &&& 0x3f).toInt64) >>> ((11 : Int32) &&& 0x3f).toInt64)), .second, .val (.long ((i1 <<< ((11 : Int32) &&& 0x3f).toInt64) >>> ((11 : Int32) &&& 0x3f).toInt64)), .second, iv s26, iv s36, .val (.long s43), .second, .val (.long s50), .second, .val (.double wS0), .second, .val (.double (FP.dmul (FP.l2d s43) wS0)), .second, .val (.double (FP.dmul (FP.l2d s50) wS0)), .second, rv r_2, uu, uu, uu, uu, uu, uu] [(.long s50), (.long s43)])) (fun t k => XS.lload X2.here hx rfl (hb hby at_88) rfl k) ?_
  refine ov (B := T2.setTop (mkF m 91 #[.val (.long i0), .second, .val (.long i1), .second, iv i2, iv i3, iv i4, .val (.long ((i0 <<< ((11 : Int32) &&& 0x3f).toInt64) >>> ((11 : Int32) &&& 0x3f).toInt64)), .second, .val (.long ((i1 <<< ((11 : Int32) &&& 0x3f).toInt64) >>> ((11 : Int32) &&& 0x3f).toInt64)), .second, iv s26, iv s36, .val (.long s43), .second, .val (.long s50), .second, .val (.double wS0), .second, .val (.double (FP.dmul (FP.l2d s43) wS0)), .second, .val (.double (FP.dmul (FP.l2d s50) wS0)), .second, rv r_2, uu, uu, uu, uu, uu, uu] [(.long (s43 + s50))])) (fun t k => XS.ladd X2.here hx rfl (hb hby at_90) rfl k) ?_
  refine ov (B := T2.setTop (mkF m 93 #[.val (.long i0), .second, .val (.long i1), .second, iv i2, iv i3, iv i4, .val (.long ((i0 <<< ((11 : Int32) &&& 0x3f).toInt64) >>> ((11 : Int32) &&& 0x3f).toInt64)), .second, .val (.long ((i1 <<< ((11 : Int32) &&& 0x3f).toInt64) >>> ((11 : Int32) &&& 0x3f).toInt64)), .second, iv s26, iv s36, .val (.long s43), .second, .val (.long s50), .second, .val (.double wS0), .second, .val (.double (FP.dmul (FP.l2d s43) wS0)), .second, .val (.double (FP.dmul (FP.l2d s50) wS0)), .second, rv r_2, .val (.long (s43 + s50)), .second, uu, uu, uu, uu] [])) (fun t k => XS.lstore X2.here hx rfl (hb hby at_91) rfl (l' := #[.val (.long i0), .second, .val (.long i1), .second, iv i2, iv i3, iv i4, .val (.long ((i0 <<< ((11 : Int32) &&& 0x3f).toInt64) >>> ((11 : Int32) &&& 0x3f).toInt64)), .second, .val (.long ((i1 <<< ((11 : Int32) &&& 0x3f).toInt64) >>> ((11 : Int32) &&& 0x3f).toInt64)), .second, iv s26, iv s36, .val (.long s43), .second, .val (.long s50), .second, .val (.double wS0), .second, .val (.double (FP.dmul (FP.l2d s43) wS0)), .second, .val (.double (FP.dmul (FP.l2d s50) wS0)), .second, rv r_2, .val (.long (s43 + s50)), .second, uu, uu, uu, uu]) rfl k) ?_
  refine ov (B := T2.setTop (mkF m 95 #[.val (.long i0), .second, .val (.long i1), .second, iv i2, iv i3, iv i4, .val (.long ((i0 <<< ((11 : Int32) &&& 0x3f).toInt64) >>> ((11 : Int32) &&& 0x3f).toInt64)), .second, .val (.long ((i1 <<< ((11 : Int32) &&& 0x3f).toInt64) >>> ((11 : Int32) &&& 0x3f).toInt64)), .second, iv s26, iv s36, .val (.long s43), .second, .val (.long s50), .second, .val (.double wS0), .second, .val (.double (FP.dmul (FP.l2d s43) wS0)), .second, .val (.double (FP.dmul (FP.l2d s50) wS0)), .second, rv r_2, .val (.long (s43 + s50)), .second, uu, uu, uu, uu] [(.long (s43 + s50))])) (fun t k => XS.lload X2.here hx rfl (hb hby at_93) rfl k) ?_
  refine ov (B := T2.setTop (mkF m 96 #[.val (.long i0), .second, .val (.long i1), .second, iv i2, iv i3, iv i4, .val (.long ((i0 <<< ((11 : Int32) &&& 0x3f).toInt64) >>> ((11 : Int32) &&& 0x3f).toInt64)), .second, .val (.long ((i1 <<< ((11 : Int32) &&& 0x3f).toInt64) >>> ((11 : Int32) &&& 0x3f).toInt64)), .second, iv s26, iv s36, .val (.long s43), .second, .val (.long s50), .second, .val (.double wS0), .second, .val (.double (FP.dmul (FP.l2d s43) wS0)), .second, .val (.double (FP.dmul (FP.l2d s50) wS0)), .second, rv r_2, .val (.long (s43 + s50)), .second, uu, uu, uu, uu] [(.double (FP.l2d (s43 + s50)))])) (fun t k => XS.l2dS X2.here hx rfl (hb hby at_95) rfl rfl k) ?_
  refine ov (B := T2.setTop (mkF m 98 #[.val (.long i0), .second, .val (.long i1), .second, iv i2, iv i3, iv i4, .val (.long ((i0 <<< ((11 : Int32) &&& 0x3f).toInt64) >>> ((11 : Int32) &&& 0x3f).toInt64)), .second, .val (.long ((i1 <<< ((11 : Int32) &&& 0x3f).toInt64) >>> ((11 : Int32) &&& 0x3f).toInt64)), .second, iv s26, iv s36, .val (.long s43), .second, .val (.long s50), .second, .val (.double wS0), .second, .val (.double (FP.dmul (FP.l2d s43) wS0)), .second, .val (.double (FP.dmul (FP.l2d s50) wS0)), .second, rv r_2, .val (.long (s43 + s50)), .second, .val (.double (FP.l2d (s43 + s50))), .second, uu, uu] [])) (fun t k => XS.dstore X2.here hx rfl (hb hby at_96) rfl (l' := #[.val (.long i0), .second, .val (.long i1), .second, iv i2, iv i3, iv i4, .val (.long ((i0 <<< ((11 : Int32) &&& 0x3f).toInt64) >>> ((11 : Int32) &&& 0x3f).toInt64)), .second, .val (.long ((i1 <<< ((11 : Int32) &&& 0x3f).toInt64) >>> ((11 : Int32) &&& 0x3f).toInt64)), .second, iv s26, iv s36, .val (.long s43), .second, .val (.long s50), .second, .val (.double wS0), .second, .val (.double (FP.dmul (FP.l2d s43) wS0)), .second, .val (.double (FP.dmul (FP.l2d s50) wS0)), .second, rv r_2, .val (.long (s43 + s50)), .second, .val (.double (FP.l2d (s43 + s50))), .second, uu, uu]) rfl k) ?_
  refine ov (B := T2.setTop (mkF m 100 #[.val (.long i0), .second, .val (.long i1), .second, iv i2, iv i3, iv i4, .val (.long ((i0 <<< ((11 : Int32) &&& 0x3f).toInt64) >>> ((11 : Int32) &&& 0x3f).toInt64)), .second, .val (.long ((i1 <<< ((11 : Int32) &&& 0x3f).toInt64) >>> ((11 : Int32) &&& 0x3f).toInt64)), .second, iv s26, iv s36, .val (.long s43), .second, .val (.long s50), .second, .val (.double wS0), .second, .val (.double (FP.dmul (FP.l2d s43) wS0)), .second, .val (.double (FP.dmul (FP.l2d s50) wS0)), .second, rv r_2, .val (.long (s43 + s50)), .second, .val (.double (FP.l2d (s43 + s50))), .second, uu, uu] [(.long (s43 + s50))])) (fun t k => XS.lload X2.here hx rfl (hb hby at_98) rfl k) ?_
  refine ov (B := T2.setTop (mkF m 102 #[.val (.long i0), .second, .val (.long i1), .second, iv i2, iv i3, iv i4, .val (.long ((i0 <<< ((11 : Int32) &&& 0x3f).toInt64) >>> ((11 : Int32) &&& 0x3f).toInt64)), .second, .val (.long ((i1 <<< ((11 : Int32) &&& 0x3f).toInt64) >>> ((11 : Int32) &&& 0x3f).toInt64)), .second, iv s26, iv s36, .val (.long s43), .second, .val (.long s50), .second, .val (.double wS0), .second, .val (.double (FP.dmul (FP.l2d s43) wS0)), .second, .val (.double (FP.dmul (FP.l2d s50) wS0)), .second, rv r_2, .val (.long (s43 + s50)), .second, .val (.double (FP.l2d (s43 + s50))), .second, uu, uu] [(.double (FP.l2d (s43 + s50))), (.long (s43 + s50))])) (fun t k => XS.dload X2.here hx rfl (hb hby at_100) rfl k) ?_
  refine ov (B := T2.setTop (mkF m 103 #[.val (.long i0), .second, .val (.long i1), .second, iv i2, iv i3, iv i4, .val (.long ((i0 <<< ((11 : Int32) &&& 0x3f).toInt64) >>> ((11 : Int32) &&& 0x3f).toInt64)), .second, .val (.long ((i1 <<< ((11 : Int32) &&& 0x3f).toInt64) >>> ((11 : Int32) &&& 0x3f).toInt64)), .second, iv s26, iv s36, .val (.long s43), .second, .val (.long s50), .second, .val (.double wS0), .second, .val (.double (FP.dmul (FP.l2d s43) wS0)), .second, .val (.double (FP.dmul (FP.l2d s50) wS0)), .second, rv r_2, .val (.long (s43 + s50)), .second, .val (.double (FP.l2d (s43 + s50))), .second, uu, uu] [(.long (FP.d2l (FP.l2d (s43 + s50)))), (.long (s43 + s50))])) (fun t k => XS.d2lS X2.here hx rfl (hb hby at_102) rfl rfl k) ?_
  refine ov (B := T2.setTop (mkF m 104 #[.val (.long i0), .second, .val (.long i1), .second, iv i2, iv i3, iv i4, .val (.long ((i0 <<< ((11 : Int32) &&& 0x3f).toInt64) >>> ((11 : Int32) &&& 0x3f).toInt64)), .second, .val (.long ((i1 <<< ((11 : Int32) &&& 0x3f).toInt64) >>> ((11 : Int32) &&& 0x3f).toInt64)), .second, iv s26, iv s36, .val (.long s43), .second, .val (.long s50), .second, .val (.double wS0), .second, .val (.double (FP.dmul (FP.l2d s43) wS0)), .second, .val (.double (FP.dmul (FP.l2d s50) wS0)), .second, rv r_2, .val (.long (s43 + s50)), .second, .val (.double (FP.l2d (s43 + s50))), .second, uu, uu] [(.long ((s43 + s50) - (FP.d2l (FP.l2d (s43 + s50)))))])) (fun t k => XS.lsub X2.here hx rfl (hb hby at_103) rfl k) ?_
  refine ov (B := T2.setTop (mkF m 106 #[.val (.long i0), .second, .val (.long i1), .second, iv i2, iv i3, iv i4, .val (.long ((i0 <<< ((11 : Int32) &&& 0x3f).toInt64) >>> ((11 : Int32) &&& 0x3f).toInt64)), .second, .val (.long ((i1 <<< ((11 : Int32) &&& 0x3f).toInt64) >>> ((11 : Int32) &&& 0x3f).toInt64)), .second, iv s26, iv s36, .val (.long s43), .second, .val (.long s50), .second, .val (.double wS0), .second, .val (.double (FP.dmul (FP.l2d s43) wS0)), .second, .val (.double (FP.dmul (FP.l2d s50) wS0)), .second, rv r_2, .val (.long (s43 + s50)), .second, .val (.double (FP.l2d (s43 + s50))), .second, .val (.long ((s43 + s50) - (FP.d2l (FP.l2d (s43 + s50))))), .second] [])) (fun t k => XS.lstore X2.here hx rfl (hb hby at_104) rfl (l' := #[.val (.long i0), .second, .val (.long i1), .second, iv i2, iv i3, iv i4, .val (.long ((i0 <<< ((11 : Int32) &&& 0x3f).toInt64) >>> ((11 : Int32) &&& 0x3f).toInt64)), .second, .val (.long ((i1 <<< ((11 : Int32) &&& 0x3f).toInt64) >>> ((11 : Int32) &&& 0x3f).toInt64)), .second, iv s26, iv s36, .val (.long s43), .second, .val (.long s50), .second, .val (.double wS0), .second, .val (.double (FP.dmul (FP.l2d s43) wS0)), .second, .val (.double (FP.dmul (FP.l2d s50) wS0)), .second, rv r_2, .val (.long (s43 + s50)), .second, .val (.double (FP.l2d (s43 + s50))), .second, .val (.long ((s43 + s50) - (FP.d2l (FP.l2d (s43 + s50))))), .second]) rfl k) ?_
  refine oAL (n := 108) X2 hx (hb hby at_106) rfl rfl rfl ?_
  obtain ⟨cq3, kq3, q3a, q3b, q3c⟩ := isOf hZ rfl f2_0
  obtain ⟨_, _, ⟨T3, L3, k3, n3⟩, -, X3, ⟨Lc3, hQ3, l3, y3, z3⟩, st3⟩ := X2.virtualBack hx (y := (⟨"com/example/gyre/gyre/DoubleDouble", "hi", "()D"⟩ : MethodName)) (z := (⟨"com/example/gyre/gyre/DoubleDouble", "hi", "()D"⟩ : MethodName)) hown (mvT hZ (oW hw 26 rfl)) (mvT hZ (oW hw 27 rfl)) (notFace_of_selects (args := #[]) (mvT hZ (oW hw 29 rfl))) (mvT hZ (oW hw 29 rfl)) (mvT hZ (oW hw 28 rfl)) (by decide) (backOf (W := 0) (rmG l Z a0 hw [] r_2 zzA T2.heap n0 (Nat.le_trans Z0 Kq2.1) f2_1) hZ (oW hw 30 rfl) (oW hw 7 rfl) (by decide) (by decide)) q3a q3c (g := (mkF m 108 #[.val (.long i0), .second, .val (.long i1), .second, iv i2, iv i3, iv i4, .val (.long ((i0 <<< ((11 : Int32) &&& 0x3f).toInt64) >>> ((11 : Int32) &&& 0x3f).toInt64)), .second, .val (.long ((i1 <<< ((11 : Int32) &&& 0x3f).toInt64) >>> ((11 : Int32) &&& 0x3f).toInt64)), .second, iv s26, iv s36, .val (.long s43), .second, .val (.long s50), .second, .val (.double wS0), .second, .val (.double (FP.dmul (FP.l2d s43) wS0)), .second, .val (.double (FP.dmul (FP.l2d s50) wS0)), .second, rv r_2, .val (.long (s43 + s50)), .second, .val (.double (FP.l2d (s43 + s50))), .second, .val (.long ((s43 + s50) - (FP.d2l (FP.l2d (s43 + s50))))), .second] [(.ref r_2)])) rfl (by rw [hml]; rfl) (Steps.refl _) (argsL := []) (rest := []) (lenOf own_pd4 rfl) rfl (by show 2 * 0 + _ ≤ _; exact Nat.le_of_eq rfl) (hb hby at_108) (fun _ _ => ⟨rfl, rfl, (by decide : ((0 + 0) + 1) + 0 ≤ _), (by decide : ((0 + 0) + 2) + 0 ≤ _)⟩)
  dsimp only [Pt.U, Pt.locs, Pt.cells, Pt.slots] at X3 l3 y3 z3 st3 hQ3
  subst l3 y3 z3
  obtain ⟨rfl, Nq3, eq3⟩ := hQ3
  have N3 := Fr.app N2 Nq3
  refine ov (B := T3.setTop (mkF m 111 #[.val (.long i0), .second, .val (.long i1), .second, iv i2, iv i3, iv i4, .val (.long ((i0 <<< ((11 : Int32) &&& 0x3f).toInt64) >>> ((11 : Int32) &&& 0x3f).toInt64)), .second, .val (.long ((i1 <<< ((11 : Int32) &&& 0x3f).toInt64) >>> ((11 : Int32) &&& 0x3f).toInt64)), .second, iv s26, iv s36, .val (.long s43), .second, .val (.long s50), .second, .val (.double wS0), .second, .val (.double (FP.dmul (FP.l2d s43) wS0)), .second, .val (.double (FP.dmul (FP.l2d s50) wS0)), .second, rv r_2, .val (.long (s43 + s50)), .second, .val (.double (FP.l2d (s43 + s50))), .second, .val (.long ((s43 + s50) - (FP.d2l (FP.l2d (s43 + s50))))), .second] [(.double zzA)])) (fun t k => st3.trans k) ?_
  refine ov (B := T3.setTop (mkF m 113 #[.val (.long i0), .second, .val (.long i1), .second, iv i2, iv i3, iv i4, .val (.long ((i0 <<< ((11 : Int32) &&& 0x3f).toInt64) >>> ((11 : Int32) &&& 0x3f).toInt64)), .second, .val (.long ((i1 <<< ((11 : Int32) &&& 0x3f).toInt64) >>> ((11 : Int32) &&& 0x3f).toInt64)), .second, iv s26, iv s36, .val (.long s43), .second, .val (.long s50), .second, .val (.double wS0), .second, .val (.double (FP.dmul (FP.l2d s43) wS0)), .second, .val (.double (FP.dmul (FP.l2d s50) wS0)), .second, rv r_2, .val (.long (s43 + s50)), .second, .val (.double (FP.l2d (s43 + s50))), .second, .val (.long ((s43 + s50) - (FP.d2l (FP.l2d (s43 + s50))))), .second] [(.double (FP.l2d (s43 + s50))), (.double zzA)])) (fun t k => XS.dload X3.here hx rfl (hb hby at_111) rfl k) ?_
  refine ov (B := T3.setTop (mkF m 115 #[.val (.long i0), .second, .val (.long i1), .second, iv i2, iv i3, iv i4, .val (.long ((i0 <<< ((11 : Int32) &&& 0x3f).toInt64) >>> ((11 : Int32) &&& 0x3f).toInt64)), .second, .val (.long ((i1 <<< ((11 : Int32) &&& 0x3f).toInt64) >>> ((11 : Int32) &&& 0x3f).toInt64)), .second, iv s26, iv s36, .val (.long s43), .second, .val (.long s50), .second, .val (.double wS0), .second, .val (.double (FP.dmul (FP.l2d s43) wS0)), .second, .val (.double (FP.dmul (FP.l2d s50) wS0)), .second, rv r_2, .val (.long (s43 + s50)), .second, .val (.double (FP.l2d (s43 + s50))), .second, .val (.long ((s43 + s50) - (FP.d2l (FP.l2d (s43 + s50))))), .second] [(.double wS0), (.double (FP.l2d (s43 + s50))), (.double zzA)])) (fun t k => XS.dload X3.here hx rfl (hb hby at_113) rfl k) ?_
  refine ov (B := T3.setTop (mkF m 116 #[.val (.long i0), .second, .val (.long i1), .second, iv i2, iv i3, iv i4, .val (.long ((i0 <<< ((11 : Int32) &&& 0x3f).toInt64) >>> ((11 : Int32) &&& 0x3f).toInt64)), .second, .val (.long ((i1 <<< ((11 : Int32) &&& 0x3f).toInt64) >>> ((11 : Int32) &&& 0x3f).toInt64)), .second, iv s26, iv s36, .val (.long s43), .second, .val (.long s50), .second, .val (.double wS0), .second, .val (.double (FP.dmul (FP.l2d s43) wS0)), .second, .val (.double (FP.dmul (FP.l2d s50) wS0)), .second, rv r_2, .val (.long (s43 + s50)), .second, .val (.double (FP.l2d (s43 + s50))), .second, .val (.long ((s43 + s50) - (FP.d2l (FP.l2d (s43 + s50))))), .second] [(.double (FP.dmul (FP.l2d (s43 + s50)) wS0)), (.double zzA)])) (fun t k => XS.dmulS X3.here hx rfl (hb hby at_115) rfl (by rw [mmA]; exact nnA) rfl k) ?_
  refine ov (B := T3.setTop (mkF m 117 #[.val (.long i0), .second, .val (.long i1), .second, iv i2, iv i3, iv i4, .val (.long ((i0 <<< ((11 : Int32) &&& 0x3f).toInt64) >>> ((11 : Int32) &&& 0x3f).toInt64)), .second, .val (.long ((i1 <<< ((11 : Int32) &&& 0x3f).toInt64) >>> ((11 : Int32) &&& 0x3f).toInt64)), .second, iv s26, iv s36, .val (.long s43), .second, .val (.long s50), .second, .val (.double wS0), .second, .val (.double (FP.dmul (FP.l2d s43) wS0)), .second, .val (.double (FP.dmul (FP.l2d s50) wS0)), .second, rv r_2, .val (.long (s43 + s50)), .second, .val (.double (FP.l2d (s43 + s50))), .second, .val (.long ((s43 + s50) - (FP.d2l (FP.l2d (s43 + s50))))), .second] [(.int (cmpValue (FP.dcmp zzA (FP.dmul (FP.l2d (s43 + s50)) wS0)) .l))])) (fun t k => XS.dcmpS X3.here hx rfl (hb hby at_116) rfl rfl k) ?_
  have hc117 : (cmpValue (FP.dcmp zzA (FP.dmul (FP.l2d (s43 + s50)) wS0)) .l) = (0 : Int32) := by rw [mmA]; exact dcmpV_self nnA .l
  refine ov (B := T3.setTop (mkF m 120 #[.val (.long i0), .second, .val (.long i1), .second, iv i2, iv i3, iv i4, .val (.long ((i0 <<< ((11 : Int32) &&& 0x3f).toInt64) >>> ((11 : Int32) &&& 0x3f).toInt64)), .second, .val (.long ((i1 <<< ((11 : Int32) &&& 0x3f).toInt64) >>> ((11 : Int32) &&& 0x3f).toInt64)), .second, iv s26, iv s36, .val (.long s43), .second, .val (.long s50), .second, .val (.double wS0), .second, .val (.double (FP.dmul (FP.l2d s43) wS0)), .second, .val (.double (FP.dmul (FP.l2d s50) wS0)), .second, rv r_2, .val (.long (s43 + s50)), .second, .val (.double (FP.l2d (s43 + s50))), .second, .val (.long ((s43 + s50) - (FP.d2l (FP.l2d (s43 + s50))))), .second] [])) (fun t k => XS.ifNo X3.here hx rfl (hb hby at_117) rfl ((if0 _ _).trans (teq hc117).2) k) ?_
  refine oAL (n := 122) X3 hx (hb hby at_120) rfl rfl rfl ?_
  obtain ⟨cq4, kq4, q4a, q4b, q4c⟩ := isOf hZ eq3 f2_0
  obtain ⟨_, _, ⟨T4, L4, k4, n4⟩, -, X4, ⟨Lc4, hQ4, l4, y4, z4⟩, st4⟩ := X3.virtualBack hx (y := (⟨"com/example/gyre/gyre/DoubleDouble", "lo", "()D"⟩ : MethodName)) (z := (⟨"com/example/gyre/gyre/DoubleDouble", "lo", "()D"⟩ : MethodName)) hown (mvT hZ (oW hw 31 rfl)) (mvT hZ (oW hw 32 rfl)) (notFace_of_selects (args := #[]) (mvT hZ (oW hw 34 rfl))) (mvT hZ (oW hw 34 rfl)) (mvT hZ (oW hw 33 rfl)) (by decide) (backOf (W := 0) (rmL l Z a0 hw [] r_2 zzF T2.heap n0 (Nat.le_trans Z0 Kq2.1) f2_2) hZ (oW hw 35 rfl) (oW hw 7 rfl) (by decide) (by decide)) q4a q4c (g := (mkF m 122 #[.val (.long i0), .second, .val (.long i1), .second, iv i2, iv i3, iv i4, .val (.long ((i0 <<< ((11 : Int32) &&& 0x3f).toInt64) >>> ((11 : Int32) &&& 0x3f).toInt64)), .second, .val (.long ((i1 <<< ((11 : Int32) &&& 0x3f).toInt64) >>> ((11 : Int32) &&& 0x3f).toInt64)), .second, iv s26, iv s36, .val (.long s43), .second, .val (.long s50), .second, .val (.double wS0), .second, .val (.double (FP.dmul (FP.l2d s43) wS0)), .second, .val (.double (FP.dmul (FP.l2d s50) wS0)), .second, rv r_2, .val (.long (s43 + s50)), .second, .val (.double (FP.l2d (s43 + s50))), .second, .val (.long ((s43 + s50) - (FP.d2l (FP.l2d (s43 + s50))))), .second] [(.ref r_2)])) rfl (by rw [hml]; rfl) (Steps.refl _) (argsL := []) (rest := []) (lenOf own_pd4 rfl) rfl (by show 2 * 0 + _ ≤ _; exact Nat.le_of_eq rfl) (hb hby at_122) (fun _ _ => ⟨rfl, eq3, (by decide : (((0 + 0) + 1) + 0) + 0 ≤ _), (by decide : (((0 + 0) + 2) + 0) + 0 ≤ _)⟩)
  dsimp only [Pt.U, Pt.locs, Pt.cells, Pt.slots] at X4 l4 y4 z4 st4 hQ4
  subst l4 y4 z4
  obtain ⟨rfl, Nq4, eq4⟩ := hQ4
  have N4 := Fr.app N3 Nq4
  refine ov (B := T4.setTop (mkF m 125 #[.val (.long i0), .second, .val (.long i1), .second, iv i2, iv i3, iv i4, .val (.long ((i0 <<< ((11 : Int32) &&& 0x3f).toInt64) >>> ((11 : Int32) &&& 0x3f).toInt64)), .second, .val (.long ((i1 <<< ((11 : Int32) &&& 0x3f).toInt64) >>> ((11 : Int32) &&& 0x3f).toInt64)), .second, iv s26, iv s36, .val (.long s43), .second, .val (.long s50), .second, .val (.double wS0), .second, .val (.double (FP.dmul (FP.l2d s43) wS0)), .second, .val (.double (FP.dmul (FP.l2d s50) wS0)), .second, rv r_2, .val (.long (s43 + s50)), .second, .val (.double (FP.l2d (s43 + s50))), .second, .val (.long ((s43 + s50) - (FP.d2l (FP.l2d (s43 + s50))))), .second] [(.double zzF)])) (fun t k => st4.trans k) ?_
  refine ov (B := T4.setTop (mkF m 127 #[.val (.long i0), .second, .val (.long i1), .second, iv i2, iv i3, iv i4, .val (.long ((i0 <<< ((11 : Int32) &&& 0x3f).toInt64) >>> ((11 : Int32) &&& 0x3f).toInt64)), .second, .val (.long ((i1 <<< ((11 : Int32) &&& 0x3f).toInt64) >>> ((11 : Int32) &&& 0x3f).toInt64)), .second, iv s26, iv s36, .val (.long s43), .second, .val (.long s50), .second, .val (.double wS0), .second, .val (.double (FP.dmul (FP.l2d s43) wS0)), .second, .val (.double (FP.dmul (FP.l2d s50) wS0)), .second, rv r_2, .val (.long (s43 + s50)), .second, .val (.double (FP.l2d (s43 + s50))), .second, .val (.long ((s43 + s50) - (FP.d2l (FP.l2d (s43 + s50))))), .second] [(.long ((s43 + s50) - (FP.d2l (FP.l2d (s43 + s50))))), (.double zzF)])) (fun t k => XS.lload X4.here hx rfl (hb hby at_125) rfl k) ?_
  refine ov (B := T4.setTop (mkF m 128 #[.val (.long i0), .second, .val (.long i1), .second, iv i2, iv i3, iv i4, .val (.long ((i0 <<< ((11 : Int32) &&& 0x3f).toInt64) >>> ((11 : Int32) &&& 0x3f).toInt64)), .second, .val (.long ((i1 <<< ((11 : Int32) &&& 0x3f).toInt64) >>> ((11 : Int32) &&& 0x3f).toInt64)), .second, iv s26, iv s36, .val (.long s43), .second, .val (.long s50), .second, .val (.double wS0), .second, .val (.double (FP.dmul (FP.l2d s43) wS0)), .second, .val (.double (FP.dmul (FP.l2d s50) wS0)), .second, rv r_2, .val (.long (s43 + s50)), .second, .val (.double (FP.l2d (s43 + s50))), .second, .val (.long ((s43 + s50) - (FP.d2l (FP.l2d (s43 + s50))))), .second] [(.double (FP.l2d ((s43 + s50) - (FP.d2l (FP.l2d (s43 + s50)))))), (.double zzF)])) (fun t k => XS.l2dS X4.here hx rfl (hb hby at_127) rfl rfl k) ?_
  refine ov (B := T4.setTop (mkF m 130 #[.val (.long i0), .second, .val (.long i1), .second, iv i2, iv i3, iv i4, .val (.long ((i0 <<< ((11 : Int32) &&& 0x3f).toInt64) >>> ((11 : Int32) &&& 0x3f).toInt64)), .second, .val (.long ((i1 <<< ((11 : Int32) &&& 0x3f).toInt64) >>> ((11 : Int32) &&& 0x3f).toInt64)), .second, iv s26, iv s36, .val (.long s43), .second, .val (.long s50), .second, .val (.double wS0), .second, .val (.double (FP.dmul (FP.l2d s43) wS0)), .second, .val (.double (FP.dmul (FP.l2d s50) wS0)), .second, rv r_2, .val (.long (s43 + s50)), .second, .val (.double (FP.l2d (s43 + s50))), .second, .val (.long ((s43 + s50) - (FP.d2l (FP.l2d (s43 + s50))))), .second] [(.double wS0), (.double (FP.l2d ((s43 + s50) - (FP.d2l (FP.l2d (s43 + s50)))))), (.double zzF)])) (fun t k => XS.dload X4.here hx rfl (hb hby at_128) rfl k) ?_
  refine ov (B := T4.setTop (mkF m 131 #[.val (.long i0), .second, .val (.long i1), .second, iv i2, iv i3, iv i4, .val (.long ((i0 <<< ((11 : Int32) &&& 0x3f).toInt64) >>> ((11 : Int32) &&& 0x3f).toInt64)), .second, .val (.long ((i1 <<< ((11 : Int32) &&& 0x3f).toInt64) >>> ((11 : Int32) &&& 0x3f).toInt64)), .second, iv s26, iv s36, .val (.long s43), .second, .val (.long s50), .second, .val (.double wS0), .second, .val (.double (FP.dmul (FP.l2d s43) wS0)), .second, .val (.double (FP.dmul (FP.l2d s50) wS0)), .second, rv r_2, .val (.long (s43 + s50)), .second, .val (.double (FP.l2d (s43 + s50))), .second, .val (.long ((s43 + s50) - (FP.d2l (FP.l2d (s43 + s50))))), .second] [(.double (FP.dmul (FP.l2d ((s43 + s50) - (FP.d2l (FP.l2d (s43 + s50))))) wS0)), (.double zzF)])) (fun t k => XS.dmulS X4.here hx rfl (hb hby at_130) rfl (by rw [mmB]; exact nnF) rfl k) ?_
  refine ov (B := T4.setTop (mkF m 132 #[.val (.long i0), .second, .val (.long i1), .second, iv i2, iv i3, iv i4, .val (.long ((i0 <<< ((11 : Int32) &&& 0x3f).toInt64) >>> ((11 : Int32) &&& 0x3f).toInt64)), .second, .val (.long ((i1 <<< ((11 : Int32) &&& 0x3f).toInt64) >>> ((11 : Int32) &&& 0x3f).toInt64)), .second, iv s26, iv s36, .val (.long s43), .second, .val (.long s50), .second, .val (.double wS0), .second, .val (.double (FP.dmul (FP.l2d s43) wS0)), .second, .val (.double (FP.dmul (FP.l2d s50) wS0)), .second, rv r_2, .val (.long (s43 + s50)), .second, .val (.double (FP.l2d (s43 + s50))), .second, .val (.long ((s43 + s50) - (FP.d2l (FP.l2d (s43 + s50))))), .second] [(.int (cmpValue (FP.dcmp zzF (FP.dmul (FP.l2d ((s43 + s50) - (FP.d2l (FP.l2d (s43 + s50))))) wS0)) .l))])) (fun t k => XS.dcmpS X4.here hx rfl (hb hby at_131) rfl rfl k) ?_
  have hc132 : (cmpValue (FP.dcmp zzF (FP.dmul (FP.l2d ((s43 + s50) - (FP.d2l (FP.l2d (s43 + s50))))) wS0)) .l) = (0 : Int32) := by rw [mmB]; exact dcmpV_self nnF .l
  refine ov (B := T4.setTop (mkF m 135 #[.val (.long i0), .second, .val (.long i1), .second, iv i2, iv i3, iv i4, .val (.long ((i0 <<< ((11 : Int32) &&& 0x3f).toInt64) >>> ((11 : Int32) &&& 0x3f).toInt64)), .second, .val (.long ((i1 <<< ((11 : Int32) &&& 0x3f).toInt64) >>> ((11 : Int32) &&& 0x3f).toInt64)), .second, iv s26, iv s36, .val (.long s43), .second, .val (.long s50), .second, .val (.double wS0), .second, .val (.double (FP.dmul (FP.l2d s43) wS0)), .second, .val (.double (FP.dmul (FP.l2d s50) wS0)), .second, rv r_2, .val (.long (s43 + s50)), .second, .val (.double (FP.l2d (s43 + s50))), .second, .val (.long ((s43 + s50) - (FP.d2l (FP.l2d (s43 + s50))))), .second] [])) (fun t k => XS.ifNo X4.here hx rfl (hb hby at_132) rfl ((if0 _ _).trans (teq hc132).2) k) ?_
  refine oIC (n := 136) X4 hx (1 : Int32) (hb hby at_135) (by decide) rfl ?_
  refine oGO (n := 140) X4 hx (hb hby at_136) (by decide) (by decide) ?_
  refine own_leaf X4 hx hlk (t := .boolean) Bd.returns (by decide) (Or.inl ⟨rfl, by simp, _, rfl⟩) (hb hby at_140) (by decide) (by decide) ?_
  show Q0 Z i0 i1 i2 i3 i4 h0 n0 _ T4.heap _
  rw [eq4]
  refine ⟨?_, N4⟩
  rfl
set_option maxRecDepth 65536 in
set_option maxHeartbeats 40000000 in
theorem comes_1 {Post : Tables → Env → Array Value → State → Outcome → State → Prop} (hpost : ∀ tb e args s v u, (limb_1_1.after args s (.returned v) u = true ∧ limb_1_2.after args s (.returned v) u = true ∧ True) → FrameEnd s (.returned v) u (Jvm.fieldLocs frame_1_writes args s ++ Jvm.arrayLocs frame_1_arrays args s ++ Jvm.staticLocs frame_1_statics s) 16 128 → Post tb e args s (.returned v) u) :
    ArmFor flags0 classFile x code maxLocals ret World_1 tables_1 room_1 Calls_1 rest_1 Pre_1 Post := by
  intro l hfl _ _ p e ha hc hk s m args below hf hA hF happ hP
  obtain ⟨hcalls, hrest, hpre⟩ := hP
  obtain ⟨-, -, -, hnamed, -, -, -, hat⟩ := (Spec.applies_iff hf).mp happ
  obtain ⟨hg, hn⟩ := and_e (Cond.before_iff.mp (show (Jvm.Cond.and given_1 narrow_1).before args s = true from hpre))
  obtain ⟨g1, g2⟩ := and_e hg
  obtain ⟨g3, g4⟩ := and_e g2
  obtain ⟨g5, g6⟩ := and_e g4
  obtain ⟨g7, g8⟩ := and_e g6
  obtain ⟨g9, g10⟩ := and_e g8
  obtain ⟨w0, w1, w2, w3, w4, rfl⟩ : ∃ w0 w1 w2 w3 w4 : Value, args = #[w0, w1, w2, w3, w4] := by
    have hs : args.size = 5 := by simpa [Cond.value, given_1] using g1
    obtain ⟨L⟩ := args
    match L, hs with
    | [w0, w1, w2, w3, w4], _ => exact ⟨w0, w1, w2, w3, w4, rfl⟩
  have hw := fun d (hd : d ∈ tables_1) => atoms_spec (ws := Jvm.Cond.code x code maxLocals ret :: tables_1) hat d (List.mem_cons_of_mem _ hd)
  have hfit : Fit s := fun {y c} hc i hi => by
    obtain ⟨ha, rfl⟩ := Array.getElem?_eq_some_iff.mp hc
    have q := List.all_eq_true.mp ((Array.all_eq_true_iff_forall_mem.mp hF) _ (Array.getElem_mem ha)) i (List.mem_range.mpr hi)
    simpa [Array.getElem?_eq_getElem hi] using q
  obtain ⟨i0, ei0⟩ := isL_v g3
  obtain rfl : w0 = (.long i0) := Option.some.inj ei0
  obtain ⟨i1, ei1⟩ := isL_v g5
  obtain rfl : w1 = (.long i1) := Option.some.inj ei1
  obtain ⟨i2, ei2⟩ := is_v g7
  obtain rfl : w2 = (.int i2) := Option.some.inj ei2
  obtain ⟨i3, ei3⟩ := is_v g9
  obtain rfl : w3 = (.int i3) := Option.some.inj ei3
  obtain ⟨i4, ei4⟩ := is_v g10
  obtain rfl : w4 = (.int i4) := Option.some.inj ei4
  obtain ⟨n, o, h1, h2, h3, _, L, rfl, ⟨rfl, N⟩, hq⟩ := rm0 l s _ hw tables_1 i0 i1 i2 i3 i4 s.heap s.heap.size (Nat.le_refl _)  p e ha hc hk s m _ below hf ((Spec.applies_iff_loose hf).mp happ).1 ⟨rfl, State.Warmed39.refl s, rfl⟩ trivial
  refine ⟨n, _, h1, h2, h3, hpost _ _ _ _ _ _ ⟨Cond.after_iff.mpr rfl, Cond.after_iff.mpr (eq_i res_at (Term.int_eval (1)) rfl), trivial⟩ ⟨hq.1, hq.2.1, (hq.2.2.sift fun y hy => Or.inr (N y hy)).mono (by decide) (by decide)⟩⟩
theorem main_1_1 : Claimed_1_1 := comes_1 fun _ _ _ _ _ _ h hF => ⟨h.1, hF⟩
theorem main_1_2 : Claimed_1_2 := comes_1 fun _ _ _ _ _ _ h hF => ⟨h.2.1, hF⟩
end Jvm.Pilot.@@N@@
namespace Jvm.Pilot.@@N@@
open Jvm Jvm.ClassFile Sem Op Lib Jvm.Free Jvm.Stand Jvm.Pilot.@@N@@.Jvm.D
/-! MADE BY PROGRAM (witnessworld.py) out of the Statement's table words and the real class files: 10 classes; the members and pool entries that the words name. The judged class is class 1, her method 2. -/
namespace start1
open Jvm.ClassFile
def u (s : String) : CpInfo := .utf8 (stringToUtf16 s)
/-- a pool by its gaps: so many unusable entries, then the entry; so many at the end -/
def gap : Nat → List CpInfo → List CpInfo
  | 0, r => r
  | n + 1, r => .unusable :: gap n r
def poolList (es : List (Nat × CpInfo)) (last : Nat) : List CpInfo := es.foldr (fun e r => gap e.1 (e.2 :: r)) (gap last [])
def pool (es : List (Nat × CpInfo)) (last : Nat) : Array CpInfo := ⟨poolList es last⟩
def fileOf (pool : Array CpInfo) (this : Nat) (attrs : Array Attribute := #[]) (ms : Array MethodInfo := #[]) (fl : Nat := 33) (sup : Nat := 0) (ifs : Array Nat := #[]) (fds : Array FieldInfo := #[]) : ClassFile where
  minorVersion := 0
  majorVersion := 65
  constantPool := pool
  accessFlags := fl
  thisClass := this
  superClass := sup
  interfaces := ifs
  fields := fds
  methods := ms
  attributes := attrs
def plain (name : String) (sup : Option ClassId) : Class where
  name := name
  kind := .ordinary
  loader := none
  accessFlags := 33
  super := sup
  interfaces := #[]
  cf := none
  fields := #[]
  methods := #[]
  instanceTypes := #[]
  staticTypes := #[]
  resolved := #[]
  callSites := []
  init := .initialized
  statics := none
  mirror := none

def pool0 : Array CpInfo := pool [(5, u "<init>"), (0, u "()V"), (1, .class_ 10), (1, u "java/lang/Object")] 113

def k0c0 : Code := { maxStack := 0, maxLocals := 1, code := object_method_1_code, exceptionTable := #[], attributes := #[] }
def k0m0 : Method := { name := "<init>", desc := "()V", sig := { parameters := [], returnType := none }, accessFlags := 1, code := some k0c0 }
/-- java/lang/Object -/
def k0 : Class := { plain "java/lang/Object" none with
  accessFlags := 33
  interfaces := #[]
  cf := some (fileOf pool0 8 #[] #[{ accessFlags := 1, nameIndex := 5, descriptorIndex := 6, attributes := #[] }] 33 0 #[] #[])
  fields := #[]
  methods := #[k0m0]
  instanceTypes := #[]
  staticTypes := #[]
  resolved := Array.replicate 124 none
  statics := none }

def pool1 : Array CpInfo := pool [(2, .class_ 4), (1, u "java/lang/Object"), (0, u "<init>"), (0, u "()V"), (0, .double 553942754166571008), (1, .double 8660422083433463808), (1, .double 103582791429521408), (1, .integer 2147483647), (0, .methodref 15 16), (0, .class_ 17), (0, .nameAndType 18 19), (0, u "com/example/gyre/gyre/DoubleDoubleSumPinLaw"), (0, u "pickScale"), (0, u "(I)D"), (0, .methodref 21 22), (0, .class_ 23), (0, .nameAndType 24 25), (0, u "com/example/gyre/gyre/DoubleDouble"), (0, u "sum"), (0, u "(DD)Lcom/example/gyre/gyre/DoubleDouble;"), (0, .methodref 21 27), (0, .nameAndType 28 29), (0, u "hi"), (0, u "()D"), (0, .methodref 21 31), (0, .nameAndType 32 29), (0, u "lo"), (3, u "law"), (0, u "(JJIII)Z")] 2

def k1m0 : Method := { name := "<init>", desc := "()V", sig := { parameters := [], returnType := none }, accessFlags := 1, code := none }
def k1c1 : Code := { maxStack := 2, maxLocals := 1, code := method_2_code, exceptionTable := #[], attributes := #[] }
def k1m1 : Method := { name := "pickScale", desc := "(I)D", sig := { parameters := [.int], returnType := some .double }, accessFlags := 10, code := some k1c1 }
def k1c2 : Code := { maxStack := 6, maxLocals := 30, code := code, exceptionTable := #[], attributes := #[] }
def k1m2 : Method := { name := "law", desc := "(JJIII)Z", sig := { parameters := [.long, .long, .int, .int, .int], returnType := some .boolean }, accessFlags := 9, code := some k1c2 }
/-- com/example/gyre/gyre/DoubleDoubleSumPinLaw -/
def k1 : Class := { plain "com/example/gyre/gyre/DoubleDoubleSumPinLaw" (some 0) with
  accessFlags := 49
  interfaces := #[]
  cf := some (fileOf pool1 15 #[] #[{ accessFlags := 1, nameIndex := 5, descriptorIndex := 6, attributes := #[] }, { accessFlags := 10, nameIndex := 18, descriptorIndex := 19, attributes := #[] }, { accessFlags := 9, nameIndex := 36, descriptorIndex := 37, attributes := #[] }] 49 2 #[] #[])
  fields := #[]
  methods := #[k1m0, k1m1, k1m2]
  instanceTypes := #[]
  staticTypes := #[]
  resolved := Array.replicate 40 none
  statics := none }

def pool2 : Array CpInfo := pool [(1, .methodref 2 3), (0, .class_ 4), (0, .nameAndType 5 6), (0, u "java/lang/Object"), (0, u "<init>"), (0, u "()V"), (0, .class_ 8), (0, u "java/lang/Record")] 13

def k2c0 : Code := { maxStack := 1, maxLocals := 1, code := jdk_30_method_1_code, exceptionTable := #[], attributes := #[] }
def k2m0 : Method := { name := "<init>", desc := "()V", sig := { parameters := [], returnType := none }, accessFlags := 4, code := some k2c0 }
/-- java/lang/Record -/
def k2 : Class := { plain "java/lang/Record" (some 0) with
  accessFlags := 1057
  interfaces := #[]
  cf := some (fileOf pool2 7 #[] #[{ accessFlags := 4, nameIndex := 5, descriptorIndex := 6, attributes := #[] }] 1057 2 #[] #[])
  fields := #[]
  methods := #[k2m0]
  instanceTypes := #[]
  staticTypes := #[]
  resolved := Array.replicate 22 none
  statics := none }

def pool3 : Array CpInfo := pool [(1, .methodref 2 3), (0, .class_ 4), (0, .nameAndType 5 6), (0, u "java/lang/Record"), (0, u "<init>"), (0, u "()V"), (0, .fieldref 8 9), (0, .class_ 10), (0, .nameAndType 11 12), (0, u "com/example/gyre/gyre/DoubleDouble"), (0, u "hi"), (0, u "D"), (0, .fieldref 8 14), (0, .nameAndType 15 12), (0, u "lo"), (0, .methodref 8 17), (0, .nameAndType 5 18), (0, u "(DD)V"), (8, u "sum"), (0, u "(DD)Lcom/example/gyre/gyre/DoubleDouble;"), (34, u "HALF_PI"), (0, u "Lcom/example/gyre/gyre/DoubleDouble;"), (14, u "()D")] 22

def k3c0 : Code := { maxStack := 3, maxLocals := 5, code := prog_2_method_1_code, exceptionTable := #[], attributes := #[] }
def k3m0 : Method := { name := "<init>", desc := "(DD)V", sig := { parameters := [.double, .double], returnType := none }, accessFlags := 0, code := some k3c0 }
def k3c1 : Code := { maxStack := 6, maxLocals := 10, code := prog_2_method_3_code, exceptionTable := #[], attributes := #[] }
def k3m1 : Method := { name := "sum", desc := "(DD)Lcom/example/gyre/gyre/DoubleDouble;", sig := { parameters := [.double, .double], returnType := some (.object "com/example/gyre/gyre/DoubleDouble") }, accessFlags := 8, code := some k3c1 }
def k3c2 : Code := { maxStack := 2, maxLocals := 1, code := prog_2_method_16_code, exceptionTable := #[], attributes := #[] }
def k3m2 : Method := { name := "hi", desc := "()D", sig := { parameters := [], returnType := some .double }, accessFlags := 1, code := some k3c2 }
def k3c3 : Code := { maxStack := 2, maxLocals := 1, code := prog_2_method_17_code, exceptionTable := #[], attributes := #[] }
def k3m3 : Method := { name := "lo", desc := "()D", sig := { parameters := [], returnType := some .double }, accessFlags := 1, code := some k3c3 }
/-- com/example/gyre/gyre/DoubleDouble -/
def k3 : Class := { plain "com/example/gyre/gyre/DoubleDouble" (some 2) with
  accessFlags := 48
  interfaces := #[]
  cf := some (fileOf pool3 8 #[] #[{ accessFlags := 0, nameIndex := 5, descriptorIndex := 18, attributes := #[] }, { accessFlags := 8, nameIndex := 27, descriptorIndex := 28, attributes := #[] }, { accessFlags := 1, nameIndex := 11, descriptorIndex := 79, attributes := #[] }, { accessFlags := 1, nameIndex := 15, descriptorIndex := 79, attributes := #[] }] 48 2 #[] #[{ accessFlags := 18, nameIndex := 11, descriptorIndex := 12, attributes := #[] }, { accessFlags := 18, nameIndex := 15, descriptorIndex := 12, attributes := #[] }, { accessFlags := 24, nameIndex := 63, descriptorIndex := 64, attributes := #[] }])
  fields := #[{ name := "hi", type := .double, accessFlags := 18, slot := 0, constantValue := 0 }, { name := "lo", type := .double, accessFlags := 18, slot := 1, constantValue := 0 }, { name := "HALF_PI", type := (.object "com/example/gyre/gyre/DoubleDouble"), accessFlags := 24, slot := 0, constantValue := 0 }]
  methods := #[k3m0, k3m1, k3m2, k3m3]
  instanceTypes := #[.double, .double]
  staticTypes := #[(.object "com/example/gyre/gyre/DoubleDouble")]
  resolved := Array.replicate 102 none
  statics := none }

def pool4 : Array CpInfo := pool [(1, u "java/lang/Cloneable"), (0, .class_ 1), (0, u "java/lang/Object"), (0, .class_ 3)] 3

/-- java/lang/Cloneable -/
def k4 : Class := { plain "java/lang/Cloneable" (some 0) with
  accessFlags := 1537
  interfaces := #[]
  cf := some (fileOf pool4 2 #[] #[] 1537 4 #[] #[])
  fields := #[]
  methods := #[]
  instanceTypes := #[]
  staticTypes := #[]
  resolved := Array.replicate 8 none
  statics := none }

def pool5 : Array CpInfo := pool [(1, u "java/io/Serializable"), (0, .class_ 1), (0, u "java/lang/Object"), (0, .class_ 3)] 3

/-- java/io/Serializable -/
def k5 : Class := { plain "java/io/Serializable" (some 0) with
  accessFlags := 1537
  interfaces := #[]
  cf := some (fileOf pool5 2 #[] #[] 1537 4 #[] #[])
  fields := #[]
  methods := #[]
  instanceTypes := #[]
  staticTypes := #[]
  resolved := Array.replicate 8 none
  statics := none }

/-- the primitive byte -/
def k6 : Class := { plain "byte" none with kind := .primitive 'B', accessFlags := 0x411 }
/-- [B -/
def k7 : Class := { plain "[B" (some 0) with kind := .array 6 .byte, interfaces := #[4, 5], accessFlags := 1041 }

/-- the primitive int -/
def k8 : Class := { plain "int" none with kind := .primitive 'I', accessFlags := 0x411 }
/-- [I -/
def k9 : Class := { plain "[I" (some 0) with kind := .array 8 .int, interfaces := #[4, 5], accessFlags := 1041 }

def heap : Heap := #[]
def classes : Array Class := #[k0, k1, k2, k3, k4, k5, k6, k7, k8, k9]
def interned : List (Array UInt16 × Addr) := []
def slotsUsed : Nat := 0
def theMethod : MethodId := ⟨1, 2⟩
def args0 : Array Value := #[.long 5, .long 6, .int 7, .int 8, .int 9]
def aboutOver (below : List Frame) : State where
  vm := { classes := classes, interned := interned.toArray }
  heap := heap
  slotsUsed := slotsUsed
  threads := #[{ frames := .invoking theMethod args0 :: below }]
def below0 : List Frame := [.native { method := ⟨0, 0⟩, args := #[] }]
def about1 : State := aboutOver below0
def p0 : Program := .bare "" "" ""
def e0 : Env := launch0.env 0 0 0
theorem w_frames : about1.frames = Frame.invoking theMethod args0 :: below0 := rfl
set_option maxRecDepth 65536 in
theorem w_args : argsFit about1.vm theMethod args0 = true := by decide +kernel
set_option maxRecDepth 65536 in
theorem w_heap : heapFits about1 = true := by decide +kernel
set_option maxRecDepth 65536 in
theorem w_runnable : about1.curStatus? = some .runnable := by decide +kernel
set_option maxRecDepth 65536 in
theorem w_alone : about1.alone = true := by decide +kernel
set_option maxRecDepth 65536 in
theorem w_named : about1.methodNamed? x = some theMethod := by decide +kernel
set_option maxRecDepth 65536 in
theorem w_hears : about1.hears theMethod below0 = true := by decide +kernel
set_option maxRecDepth 65536 in
theorem w_ripe : about1.ripe theMethod args0 below0 = true := by decide +kernel
theorem w_running : about1.status = .running := rfl
set_option maxRecDepth 65536 in
theorem w_room : about1.hasRoom e0.platform room_1 = true :=
  launch0.hasRoom_least _ room_1 (by decide +kernel) (by decide +kernel) (by decide +kernel) (by decide +kernel) (by decide +kernel) (by decide +kernel)
theorem allAtoms_all (ts : List Jvm.Cond) (a : Array Jvm.Value) (st : Jvm.State) : (allAtoms ts).before a st = ts.all (fun c => c.before a st) := by
  induction ts with
  | nil => rfl
  | cons c t ih =>
    show (Jvm.Cond.and c (allAtoms t)).before a st = _
    rw [Jvm.Cond.before_and, ih, List.all_cons]
def words1 : List Jvm.Cond := Jvm.Cond.code x code maxLocals ret :: tables_1
/-- a 'code' word, met by the world's own term for the bytes: nothing is compared byte by byte -/
theorem code_word {y : MethodName} {bytes : ByteArray} {mx : Nat} {rt : Option FieldType} {a : Array Value} {s : State} {m : MethodId} {meth : Method} {c : Code} (h1 : s.methodNamed? y = some m) (h2 : s.vm.method? m = some meth) (h3 : meth.code = some c) (h4 : c.code = bytes)
    (h5 : (c.maxLocals == mx && c.exceptionTable.isEmpty && decide (c.maxStack ≤ mostOperands) && decide (meth.sig.returnType = rt) && !meth.locks && decide (parseMethodDescriptor y.desc = some meth.sig)) = true) : (Jvm.Cond.code y bytes mx rt).before a s = true := by
  simp only [Bool.and_eq_true, beq_iff_eq, Bool.not_eq_true', decide_eq_true_eq] at h5
  obtain ⟨⟨⟨⟨⟨g1, g2⟩, g3⟩, g4⟩, g5⟩, g6⟩ := h5
  simp [Cond.before, Cond.holds, Cond.value, h1, h2, h3, h4, g1, g2, g3, g4, g5, g6]
def isCode : Jvm.Cond → Bool
  | .code _ _ _ _ => true
  | _ => false
theorem all_split {L : List Jvm.Cond} {P : Jvm.Cond → Bool} (h1 : L.all (fun c => isCode c || P c) = true) (h2 : ∀ c ∈ L.filter isCode, P c = true) : L.all P = true := by
  refine List.all_eq_true.mpr fun c hc => ?_
  have h := List.all_eq_true.mp h1 c hc
  rcases Bool.eq_false_or_eq_true (isCode c) with hi | hi
  · exact h2 c (List.mem_filter.mpr ⟨hc, hi⟩)
  · simpa [hi] using h
set_option maxRecDepth 65536 in
theorem w_c0 : (Jvm.Cond.code x code maxLocals ret).before args0 about1 = true := code_word (m := ⟨1, 2⟩) (meth := k1m2) (c := k1c2) (by decide +kernel) rfl rfl rfl (by decide +kernel)
set_option maxRecDepth 65536 in
theorem w_c1 : (Jvm.Cond.code ({ cls := "com/example/gyre/gyre/DoubleDoubleSumPinLaw", name := "pickScale", desc := "(I)D" } : Jvm.MethodName) method_2_code (1 : Nat) (Option.some Jvm.ClassFile.FieldType.double)).before args0 about1 = true := code_word (m := ⟨1, 1⟩) (meth := k1m1) (c := k1c1) (by decide +kernel) rfl rfl rfl (by decide +kernel)
set_option maxRecDepth 65536 in
theorem w_c2 : (Jvm.Cond.code ({ cls := "com/example/gyre/gyre/DoubleDouble", name := "sum", desc := "(DD)Lcom/example/gyre/gyre/DoubleDouble;" } : Jvm.MethodName) prog_2_method_3_code (10 : Nat) (Option.some (Jvm.ClassFile.FieldType.object "com/example/gyre/gyre/DoubleDouble"))).before args0 about1 = true := code_word (m := ⟨3, 1⟩) (meth := k3m1) (c := k3c1) (by decide +kernel) rfl rfl rfl (by decide +kernel)
set_option maxRecDepth 65536 in
theorem w_c3 : (Jvm.Cond.code ({ cls := "com/example/gyre/gyre/DoubleDouble", name := "<init>", desc := "(DD)V" } : Jvm.MethodName) prog_2_method_1_code (5 : Nat) (Option.none : Option Jvm.ClassFile.FieldType)).before args0 about1 = true := code_word (m := ⟨3, 0⟩) (meth := k3m0) (c := k3c0) (by decide +kernel) rfl rfl rfl (by decide +kernel)
set_option maxRecDepth 65536 in
theorem w_c4 : (Jvm.Cond.code ({ cls := "java/lang/Record", name := "<init>", desc := "()V" } : Jvm.MethodName) jdk_30_method_1_code (1 : Nat) (Option.none : Option Jvm.ClassFile.FieldType)).before args0 about1 = true := code_word (m := ⟨2, 0⟩) (meth := k2m0) (c := k2c0) (by decide +kernel) rfl rfl rfl (by decide +kernel)
set_option maxRecDepth 65536 in
theorem w_c5 : (Jvm.Cond.code ({ cls := "java/lang/Object", name := "<init>", desc := "()V" } : Jvm.MethodName) object_method_1_code (1 : Nat) (Option.none : Option Jvm.ClassFile.FieldType)).before args0 about1 = true := code_word (m := ⟨0, 0⟩) (meth := k0m0) (c := k0c0) (by decide +kernel) rfl rfl rfl (by decide +kernel)
set_option maxRecDepth 65536 in
theorem w_c6 : (Jvm.Cond.code ({ cls := "com/example/gyre/gyre/DoubleDouble", name := "hi", desc := "()D" } : Jvm.MethodName) prog_2_method_16_code (1 : Nat) (Option.some Jvm.ClassFile.FieldType.double)).before args0 about1 = true := code_word (m := ⟨3, 2⟩) (meth := k3m2) (c := k3c2) (by decide +kernel) rfl rfl rfl (by decide +kernel)
set_option maxRecDepth 65536 in
theorem w_c7 : (Jvm.Cond.code ({ cls := "com/example/gyre/gyre/DoubleDouble", name := "lo", desc := "()D" } : Jvm.MethodName) prog_2_method_17_code (1 : Nat) (Option.some Jvm.ClassFile.FieldType.double)).before args0 about1 = true := code_word (m := ⟨3, 3⟩) (meth := k3m3) (c := k3c3) (by decide +kernel) rfl rfl rfl (by decide +kernel)
def codes1 : List Jvm.Cond := [Jvm.Cond.code x code maxLocals ret, Jvm.Cond.code ({ cls := "com/example/gyre/gyre/DoubleDoubleSumPinLaw", name := "pickScale", desc := "(I)D" } : Jvm.MethodName) method_2_code (1 : Nat) (Option.some Jvm.ClassFile.FieldType.double), Jvm.Cond.code ({ cls := "com/example/gyre/gyre/DoubleDouble", name := "sum", desc := "(DD)Lcom/example/gyre/gyre/DoubleDouble;" } : Jvm.MethodName) prog_2_method_3_code (10 : Nat) (Option.some (Jvm.ClassFile.FieldType.object "com/example/gyre/gyre/DoubleDouble")), Jvm.Cond.code ({ cls := "com/example/gyre/gyre/DoubleDouble", name := "<init>", desc := "(DD)V" } : Jvm.MethodName) prog_2_method_1_code (5 : Nat) (Option.none : Option Jvm.ClassFile.FieldType), Jvm.Cond.code ({ cls := "java/lang/Record", name := "<init>", desc := "()V" } : Jvm.MethodName) jdk_30_method_1_code (1 : Nat) (Option.none : Option Jvm.ClassFile.FieldType), Jvm.Cond.code ({ cls := "java/lang/Object", name := "<init>", desc := "()V" } : Jvm.MethodName) object_method_1_code (1 : Nat) (Option.none : Option Jvm.ClassFile.FieldType), Jvm.Cond.code ({ cls := "com/example/gyre/gyre/DoubleDouble", name := "hi", desc := "()D" } : Jvm.MethodName) prog_2_method_16_code (1 : Nat) (Option.some Jvm.ClassFile.FieldType.double), Jvm.Cond.code ({ cls := "com/example/gyre/gyre/DoubleDouble", name := "lo", desc := "()D" } : Jvm.MethodName) prog_2_method_17_code (1 : Nat) (Option.some Jvm.ClassFile.FieldType.double)]
set_option maxRecDepth 65536 in
theorem codes_eq : words1.filter isCode = codes1 := rfl
theorem w_codes : ∀ c ∈ words1.filter isCode, c.before args0 about1 = true := by
  rw [codes_eq]
  intro c hc
  simp only [codes1, List.mem_cons, List.not_mem_nil, or_false] at hc
  rcases hc with rfl | rfl | rfl | rfl | rfl | rfl | rfl | rfl
  · exact w_c0
  · exact w_c1
  · exact w_c2
  · exact w_c3
  · exact w_c4
  · exact w_c5
  · exact w_c6
  · exact w_c7
set_option maxRecDepth 65536 in
theorem w_t1 : (words1.take 24).all (fun c => isCode c || c.before args0 about1) = true := by decide +kernel
set_option maxRecDepth 65536 in
theorem w_t2 : (words1.drop 24).all (fun c => isCode c || c.before args0 about1) = true := by decide +kernel
theorem w_tables : (allAtoms (Jvm.Cond.code x code maxLocals ret :: tables_1)).before args0 about1 = true := by
  rw [allAtoms_all]
  show words1.all (fun c => c.before args0 about1) = true
  refine all_split ?_ w_codes
  rw [← List.take_append_drop 24 words1, List.all_append, w_t1, w_t2]
  rfl
set_option maxRecDepth 65536 in
theorem w_case : (Jvm.Cond.and given_1 narrow_1).before args0 about1 = true := by decide +kernel
theorem w_applies : (headSpec (Jvm.Cond.code x code maxLocals ret :: tables_1) room_1).applies x e0.platform about1 = true :=
  (Spec.applies_iff w_frames).mpr ⟨w_running, w_runnable, w_alone, w_named, w_hears, w_ripe, w_room, w_tables⟩
theorem atStart : AtStart classFile x code maxLocals ret World_1 tables_1 room_1 Calls_1 rest_1 Pre_1 launch0 p0 e0 about1 theMethod args0 below0 :=
  ⟨lists_1, trivial, launch0.admits_env _ _ _, launch0.least_env, fairChoices_fair.cas, fairChoices_fair.clock, w_frames, w_args, w_heap, w_applies, trivial, trivial, w_case⟩
end start1
theorem witness_1 : WitnessClaimed_1 := ⟨start1.p0, start1.e0, start1.about1, start1.theMethod, start1.args0, start1.below0, start1.atStart⟩
end Jvm.Pilot.@@N@@
