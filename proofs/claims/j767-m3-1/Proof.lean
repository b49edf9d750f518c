import JvmDerived
import JvmDerived.Pilot.@@N@@Statement
import JvmDerived.Pilot.@@N@@Code
set_option linter.unusedVariables false
set_option linter.unusedSimpArgs false
namespace Jvm.Pilot.@@N@@
open Jvm Jvm.ClassFile Sem Op Lib Jvm.Free Jvm.Stand Jvm.LawKit Jvm.RoadKit Bundle Jvm.Pilot.@@N@@.Jvm.D
theorem own_selP {s : State} {args : Array Value} {y y' : MethodName} {C : String} (he : y'.cls = y.cls) (h' : (Cond.selects C y' y').before args s = true) (hpriv : s.PrivateAt y) (hinst : (Cond.instanceMethod y).before args s = true) (hy : y.cls ≠ "java/lang/invoke/MethodHandle" ∧ y.cls ≠ "java/lang/invoke/VarHandle") : (Cond.selects y.cls y y).before args s = true := by
  obtain ⟨c2, r2, m2, -, -, q3, -, kP, hkP, hkPi⟩ := Cond.selects_spec h'
  exact Jvm.Stand.selects_self_of_private (he ▸ findClass_of_methodNamed q3) hkP hkPi hpriv hinst hy
abbrev oR (f c s l : Nat) : Room := { frames := f, cells := c, slots := s, locals := l }
/-- what a walk owes from a state on: the run comes to a state of which G speaks -/
def own_Go (p : Program) (e : Env) (below : List Frame) (A : State) (G : State → Prop) : Prop := ∃ B, (∀ t, Steps p.tables e below B t → Steps p.tables e below A t) ∧ G B
theorem own_via {p : Program} {e : Env} {below : List Frame} {A B : State} {G : State → Prop} (h : ∀ t, Steps p.tables e below B t → Steps p.tables e below A t) (k : own_Go p e below B G) : own_Go p e below A G := by
  obtain ⟨C, h1, h2⟩ := k
  exact ⟨C, fun t q => h t (h1 t q), h2⟩
abbrev uu : Slot := .unset
theorem ov {p : Program} {e : Env} {below : List Frame} {A B : State} {G : State → Prop} (h : ∀ t, Steps p.tables e below B t → Steps p.tables e below A t) (k : own_Go p e below B G) : own_Go p e below A G := own_via h k
theorem own_done {p : Program} {e : Env} {below : List Frame} {A : State} {G : State → Prop} (g : G A) : own_Go p e below A G := ⟨A, fun _ q => q, g⟩
theorem own_bind {p : Program} {e : Env} {below : List Frame} {A : State} {G G' : State → Prop} (h : own_Go p e below A G) (k : ∀ B, G B → own_Go p e below B G') : own_Go p e below A G' := by
  obtain ⟨B, h1, h2⟩ := h
  exact own_via h1 (k B h2)
/-- the method ends here -/
def own_End (p : Program) (e : Env) (below : List Frame) (s : State) (Q : Option Value → Heap → List Loc → Prop) (C S : Nat) (B : State) : Prop :=
  ∃ s₂ o, Steps p.tables e below B s₂ ∧ s₂.status = .running ∧ Ended s₂ below o ∧ ∃ v L, o = .returned v ∧ Q v s₂.heap L ∧ FrameEnd s o s₂ L C S
theorem own_body {p : Program} {e : Env} {below : List Frame} {s A A' : State} {Q : Option Value → Heap → List Loc → Prop} {C S : Nat} (q : ∀ t, Steps p.tables e below A t → Steps p.tables e below A' t) (h : own_Go p e below A (own_End p e below s Q C S)) :
    ∃ s₂ o, Steps p.tables e below A' s₂ ∧ s₂.status = .running ∧ Ended s₂ below o ∧ ∃ v L, o = .returned v ∧ Q v s₂.heap L ∧ FrameEnd s o s₂ L C S := by
  obtain ⟨B, h1, s₂, o, h2, h3⟩ := h
  exact ⟨s₂, o, q _ (h1 _ h2), h3⟩
theorem oW {Z : State} {a0 : Array Value} (hw : ∀ d ∈ tables_1, d.before a0 Z = true) (i : Nat) {d : Jvm.Cond} (h : tables_1[i]? = some d) : d.before a0 Z = true := hw _ (List.mem_of_getElem? h)
section Short
variable {p : Program} {l : Launch} {e : Env} {R : Room} {s : State} {m : MethodId} {args : Array Value} {below : List Frame} {meth : Method} {c : Code} {T : State} {locs : List Loc} {cells slots : Nat} {G : State → Prop} {pc n : Nat} {Ls : Array Slot} {st : List Value}
theorem oAL (X : Stand p l e R s m args below meth c T locs cells slots) (hx : p.tables.exec = Jvm.exec) {k : Nat} {v : Value} (hd : decode c.code pc = .ok (.aload k, 2)) (hl : Ls[k]? = some (.val v)) (hv : v.isRef = true) (hn : n = pc + 2) (K : own_Go p e below (T.setTop (mkF m n Ls (v :: st))) G) : own_Go p e below (T.setTop (mkF m pc Ls st)) G := by
  subst hn; exact own_via (fun t k => XS.aload X.here hx rfl hd hl hv k) K
theorem oALN (X : Stand p l e R s m args below meth c T locs cells slots) (hx : p.tables.exec = Jvm.exec) {k : Fin 4} {v : Value} (hd : decode c.code pc = .ok (.aload_n k, 1)) (hl : Ls[k.val]? = some (.val v)) (hv : v.isRef = true) (hn : n = pc + 1) (K : own_Go p e below (T.setTop (mkF m n Ls (v :: st))) G) : own_Go p e below (T.setTop (mkF m pc Ls st)) G := by
  subst hn; exact own_via (fun t k => XS.aloadN X.here hx rfl hd hl hv k) K
theorem oIL (X : Stand p l e R s m args below meth c T locs cells slots) (hx : p.tables.exec = Jvm.exec) {k : Nat} {v : Int32} (hd : decode c.code pc = .ok (.iload k, 2)) (hl : Ls[k]? = some (.val (.int v))) (hn : n = pc + 2) (K : own_Go p e below (T.setTop (mkF m n Ls (.int v :: st))) G) : own_Go p e below (T.setTop (mkF m pc Ls st)) G := by
  subst hn; exact own_via (fun t k => XS.iload X.here hx rfl hd hl k) K
theorem oILN (X : Stand p l e R s m args below meth c T locs cells slots) (hx : p.tables.exec = Jvm.exec) {k : Fin 4} {v : Int32} (hd : decode c.code pc = .ok (.iload_n k, 1)) (hl : Ls[k.val]? = some (.val (.int v))) (hn : n = pc + 1) (K : own_Go p e below (T.setTop (mkF m n Ls (.int v :: st))) G) : own_Go p e below (T.setTop (mkF m pc Ls st)) G := by
  subst hn; exact own_via (fun t k => XS.iloadN X.here hx rfl hd hl k) K
theorem oIC (X : Stand p l e R s m args below meth c T locs cells slots) (hx : p.tables.exec = Jvm.exec) {i : Int} (z : Int32) (hd : decode c.code pc = .ok (.iconst i, 1)) (hz : Int32.ofInt i = z) (hn : n = pc + 1) (K : own_Go p e below (T.setTop (mkF m n Ls (.int z :: st))) G) : own_Go p e below (T.setTop (mkF m pc Ls st)) G := by
  subst hn hz; exact own_via (fun t k => XS.iconst X.here hx rfl hd k) K
theorem oBP (X : Stand p l e R s m args below meth c T locs cells slots) (hx : p.tables.exec = Jvm.exec) {i : Int} (z : Int32) (hd : decode c.code pc = .ok (.bipush i, 2)) (hz : (Int8.ofInt i).toInt32 = z) (hn : n = pc + 2) (K : own_Go p e below (T.setTop (mkF m n Ls (.int z :: st))) G) : own_Go p e below (T.setTop (mkF m pc Ls st)) G := by
  subst hn hz; exact own_via (fun t k => XS.bipush X.here hx rfl hd k) K
theorem oSP (X : Stand p l e R s m args below meth c T locs cells slots) (hx : p.tables.exec = Jvm.exec) {i : Int} (z : Int32) (hd : decode c.code pc = .ok (.sipush i, 3)) (hz : (Int16.ofInt i).toInt32 = z) (hn : n = pc + 3) (K : own_Go p e below (T.setTop (mkF m n Ls (.int z :: st))) G) : own_Go p e below (T.setTop (mkF m pc Ls st)) G := by
  subst hn hz; exact own_via (fun t k => XS.sipush X.here hx rfl hd k) K
theorem oNU (X : Stand p l e R s m args below meth c T locs cells slots) (hx : p.tables.exec = Jvm.exec) (hd : decode c.code pc = .ok (.aconst_null, 1)) (hn : n = pc + 1) (K : own_Go p e below (T.setTop (mkF m n Ls (.null :: st))) G) : own_Go p e below (T.setTop (mkF m pc Ls st)) G := by
  subst hn; exact own_via (fun t k => XS.aconstNull X.here hx rfl hd k) K
theorem oDU (X : Stand p l e R s m args below meth c T locs cells slots) (hx : p.tables.exec = Jvm.exec) {x : Value} (hd : decode c.code pc = .ok (.dup, 1)) (hc : x.category = 1) (hn : n = pc + 1) (K : own_Go p e below (T.setTop (mkF m n Ls (x :: x :: st))) G) : own_Go p e below (T.setTop (mkF m pc Ls (x :: st))) G := by
  subst hn; exact own_via (fun t k => XS.dup X.here hx rfl hd rfl hc k) K
theorem oPO (X : Stand p l e R s m args below meth c T locs cells slots) (hx : p.tables.exec = Jvm.exec) {x : Value} (hd : decode c.code pc = .ok (.pop, 1)) (hc : x.category = 1) (hn : n = pc + 1) (K : own_Go p e below (T.setTop (mkF m n Ls st)) G) : own_Go p e below (T.setTop (mkF m pc Ls (x :: st))) G := by
  subst hn; exact own_via (fun t k => XS.pop X.here hx rfl hd rfl hc k) K
theorem oGO (X : Stand p l e R s m args below meth c T locs cells slots) (hx : p.tables.exec = Jvm.exec) {o : Int} (hd : decode c.code pc = .ok (.goto o, 3)) (ho : 0 ≤ (pc : Int) + o) (hn : ((pc : Int) + o).toNat = n) (K : own_Go p e below (T.setTop (mkF m n Ls st)) G) : own_Go p e below (T.setTop (mkF m pc Ls st)) G :=
  own_via (fun t k => XS.goto X.here hx rfl (pc0 := pc) (pc' := n) rfl hd ho hn k) K
end Short
section Leaf
variable {p : Program} {l : Launch} {e : Env} {R : Room} {s : State} {m : MethodId} {args : Array Value} {below : List Frame} {meth : Method} {c : Code} {T : State} {locs : List Loc} {cells slots : Nat}
theorem own_leaf (X : Stand p l e R s m args below meth c T locs cells slots) (hx : p.tables.exec = Jvm.exec) (hlk : meth.locks = false) {pc : Nat} {Ls : Array Slot} {w : Value} {t : FieldType} {i : Instr} {rest : List Value} (hret : meth.sig.returnType = some t) (hn : narrow t w = w)
    (hi : (i = .ireturn ∧ (t = .int ∨ t = .boolean ∨ t = .byte ∨ t = .char ∨ t = .short) ∧ ∃ z, w = .int z) ∨ (i = .lreturn ∧ t = .long ∧ ∃ z, w = .long z) ∨ (i = .dreturn ∧ t = .double ∧ ∃ z, w = .double z) ∨ (i = .freturn ∧ t = .float ∧ ∃ z, w = .float z) ∨ (i = .areturn ∧ t.isReference = true ∧ w.isRef = true))
    (hd : decode c.code pc = .ok (i, 1)) {Q : Option Value → Heap → List Loc → Prop} {C S : Nat} (hC : cells ≤ C) (hS : slots ≤ S) (hq : Q (some w) T.heap locs) : own_Go p e below (T.setTop (mkF m pc Ls (w :: rest))) (own_End p e below s Q C S) := by
  obtain ⟨fs, hr, hrun, hended, hW, hsame⟩ := X.leave (v := some w) (fun h => by rw [hret] at h; cases h) hlk
  exact own_done ⟨_, _, retOut X hx hret hn hi hd hr, hrun, hended, _, _, rfl, hq, ⟨_, rfl⟩, hW, hsame.mono hC hS⟩
theorem own_leafV (X : Stand p l e R s m args below meth c T locs cells slots) (hx : p.tables.exec = Jvm.exec) (hlk : meth.locks = false) {pc : Nat} {Ls : Array Slot} (hret : meth.sig.returnType = none)
    (hd : decode c.code pc = .ok (.return_, 1)) {Q : Option Value → Heap → List Loc → Prop} {C S : Nat} (hC : cells ≤ C) (hS : slots ≤ S) (hq : Q none T.heap locs) : own_Go p e below (T.setTop (mkF m pc Ls [])) (own_End p e below s Q C S) := by
  obtain ⟨fs, hr, hrun, hended, hW, hsame⟩ := X.leave (v := none) (fun _ => rfl) hlk
  exact own_done ⟨_, _, X.returnOut hx hret hd hr, hrun, hended, _, _, rfl, hq, ⟨_, rfl⟩, hW, hsame.mono hC hS⟩
theorem own_getFR {Z : State} {a0 : Array Value} {h : Heap} (X : Stand p l e R s m args below meth c T locs cells slots) (hx : p.tables.exec = Jvm.exec) (hZ : Z.Warmed39 s.vm) {own R0 O n d : String} {index : Nat} (hown : s.vm.findClass own = some m.cls) (w : (Cond.fieldRef own index R0 n d).before a0 Z = true) (via : Via Z R0 O n d)
    (eT : T.heap = h) {a : Addr} {v : Value} (F : Fld Z h a O n d v) {g : JFrame} (hg : g.method = m) {rest : List Value} (hs : g.stack = .ref a :: rest) (hd : decode c.code g.pc = .ok (.getfield index, 3)) : ∃ T', Stand p l e R s m args below meth c T' locs cells slots ∧ T'.heap = h ∧ ∀ target, Steps p.tables e below (T'.setTop { g with pc := g.pc + 3, stack := v :: rest }) target → Steps p.tables e below (T.setTop g) target := by
  obtain ⟨cell, cf, k, i, f, h1, h2, h3, h4, -, -, h7⟩ := F
  have hW : Z.Warmed39 T.vm := wtrans hZ X.warmed
  have w1 := Cond.fieldRef_warmed39 hW w
  obtain ⟨c', k', i', f', hi, hr⟩ := Cond.fieldRef_spec (cur := m.cls) (show (Z.setVm T.vm).vm.findClass own = some m.cls by show T.vm.findClass own = _; rw [X.warmed.alike.findClass]; exact hown) w1
  obtain ⟨k'', hi', -⟩ := State.fieldFound?_setVm (s := Z) hW.alike (via _ h2)
  cases hi.symm.trans hi'
  refine ⟨T, X, eT, fun target hrest => ?_⟩
  subst hg
  jvm_step X.here [hx, hd, getfield.wp_ready (e := e) (s := T) (f := g) X.here.top hr h3 hs (by rw [eT]; exact h1) h4 h7]
  exact hrest
def own_EndW (p : Program) (e : Env) (below : List Frame) (s : State) (Q : Option Value → Heap → List Loc → Prop) (C S : Nat) (B : State) : Prop :=
  ∃ s₂ o, Steps p.tables e below B s₂ ∧ s₂.status = .running ∧ Ended s₂ below o ∧ ∃ v L, o = .returned v ∧ Q v s₂.heap L ∧ ReturnedEndW s o s₂ L C S
theorem own_bodyW {A A' : State} {Q : Option Value → Heap → List Loc → Prop} {C S : Nat} (q : ∀ t, Steps p.tables e below A t → Steps p.tables e below A' t) (h : own_Go p e below A (own_EndW p e below s Q C S)) :
    ∃ s₂ o, Steps p.tables e below A' s₂ ∧ s₂.status = .running ∧ Ended s₂ below o ∧ ∃ v L, o = .returned v ∧ Q v s₂.heap L ∧ ReturnedEndW s o s₂ L C S := by
  obtain ⟨B, h1, s₂, o, h2, h3⟩ := h
  exact ⟨s₂, o, q _ (h1 _ h2), h3⟩
theorem own_leafW {vm₁ : Vm} (X : Stand p l e R (s.setVm vm₁) m args below meth c T locs cells slots) (hx : p.tables.exec = Jvm.exec) (hlk : meth.locks = false) {n : Nat} (hS : s.Since vm₁ n) (hk : n ≤ T.heap.size) {pc : Nat} {Ls : Array Slot} {w : Value} {t : FieldType} {i : Instr} {rest : List Value} (hret : meth.sig.returnType = some t) (hn : narrow t w = w)
    (hi : (i = .ireturn ∧ (t = .int ∨ t = .boolean ∨ t = .byte ∨ t = .char ∨ t = .short) ∧ ∃ z, w = .int z) ∨ (i = .lreturn ∧ t = .long ∧ ∃ z, w = .long z) ∨ (i = .dreturn ∧ t = .double ∧ ∃ z, w = .double z) ∨ (i = .freturn ∧ t = .float ∧ ∃ z, w = .float z) ∨ (i = .areturn ∧ t.isReference = true ∧ w.isRef = true))
    (hd : decode c.code pc = .ok (i, 1)) {Q : Option Value → Heap → List Loc → Prop} {C S : Nat} (hC : cells ≤ C) (hS' : slots ≤ S) (hq : Q (some w) T.heap locs) : own_Go p e below (T.setTop (mkF m pc Ls (w :: rest))) (own_EndW p e below s Q C S) := by
  obtain ⟨fs, hr, hrun, hended, h1, h2, h3, hsame⟩ := X.leaveW hS hk (v := some w) (fun h => by rw [hret] at h; cases h) hlk
  exact own_done ⟨_, _, retOut X hx hret hn hi hd hr, hrun, hended, _, _, rfl, hq, h1, h2, h3, hsame.mono hC hS'⟩
theorem own_leafVW {vm₁ : Vm} (X : Stand p l e R (s.setVm vm₁) m args below meth c T locs cells slots) (hx : p.tables.exec = Jvm.exec) (hlk : meth.locks = false) {n : Nat} (hS : s.Since vm₁ n) (hk : n ≤ T.heap.size) {pc : Nat} {Ls : Array Slot} (hret : meth.sig.returnType = none)
    (hd : decode c.code pc = .ok (.return_, 1)) {Q : Option Value → Heap → List Loc → Prop} {C S : Nat} (hC : cells ≤ C) (hS' : slots ≤ S) (hq : Q none T.heap locs) : own_Go p e below (T.setTop (mkF m pc Ls [])) (own_EndW p e below s Q C S) := by
  obtain ⟨fs, hr, hrun, hended, h1, h2, h3, hsame⟩ := X.leaveW hS hk (v := none) (fun _ => rfl) hlk
  exact own_done ⟨_, _, X.returnOut hx hret hd hr, hrun, hended, _, _, rfl, hq, h1, h2, h3, hsame.mono hC hS'⟩
def own_bit (P : Prop) [Decidable P] : Int32 := if P then 1 else 0
theorem own_bit01 (P : Prop) [Decidable P] : own_bit P = 0 ∨ own_bit P = 1 := by unfold own_bit; split <;> simp
theorem own_bitT {P : Prop} [Decidable P] (h : P) : own_bit P = 1 := if_pos h
theorem own_bitF {P : Prop} [Decidable P] (h : ¬ P) : own_bit P = 0 := if_neg h
theorem own_bit0 {P : Prop} [Decidable P] : own_bit P = 0 ↔ ¬ P := by unfold own_bit; split <;> simp_all
theorem own_bit1 {P : Prop} [Decidable P] : own_bit P = 1 ↔ P := by unfold own_bit; split <;> simp_all
theorem own_bitne {P : Prop} [Decidable P] (h : P) : ¬ own_bit P = 0 := fun q => own_bit0.mp q h
theorem own_bits {P P' : Prop} [Decidable P] [Decidable P'] (h : P ↔ P') : own_bit P = own_bit P' := by unfold own_bit; simp [h]
theorem own_lt (x y : Int32) : x < y ↔ x.toInt < y.toInt := Int32.lt_iff_toInt_lt
theorem own_eq (x y : Int32) : x = y ↔ x.toInt = y.toInt := Int32.toInt_inj.symm
theorem own_ltL (x y : Int64) : x < y ↔ x.toInt < y.toInt := Int64.lt_iff_toInt_lt
theorem own_eqL (x y : Int64) : x = y ↔ x.toInt = y.toInt := Int64.toInt_inj.symm
theorem own_mask (x : Int32) : 0 ≤ (x &&& (2147483647 : Int32)).toInt := by
  have h : (x &&& (2147483647 : Int32)).toBitVec.msb = false := by
    show (x.toBitVec &&& 2147483647#32).msb = false
    have e : (2147483647#32).msb = false := by decide
    rw [BitVec.msb_and, e]; simp
  have := BitVec.toInt_eq_msb_cond (x &&& (2147483647 : Int32)).toBitVec
  rw [h] at this
  show 0 ≤ (x &&& (2147483647 : Int32)).toBitVec.toInt
  rw [this]
  simp only [Bool.false_eq_true, if_false]
  exact Int.natCast_nonneg _
theorem own_modm (x m : Int32) (hm : 0 < m.toInt) : 0 ≤ ((x &&& (2147483647 : Int32)) % m).toInt ∧ ((x &&& (2147483647 : Int32)) % m).toInt < m.toInt := by
  have h := own_mask x
  rw [Int32.toInt_mod, Int.tmod_eq_emod_of_nonneg h]
  exact ⟨Int.emod_nonneg _ (by omega), Int.emod_lt_of_pos _ hm⟩
theorem own_fb {x : Int32} (h : x = 0 ∨ x = 1) : fits .boolean (.int x) = true := by rcases h with rfl | rfl <;> decide
theorem own_eqI {t : Term} {k : Int32} {args : Array Value} {s : State} (h : (Cond.eq t (Term.int k)).value args s none s [] = some true) : t.eval args s none [] s = some (.int k) := by
  simp only [Cond.value] at h
  have hn : (Term.int k).eval args s none [] s = some (.int k) := rfl
  rw [hn] at h
  cases ht : t.eval args s none [] s with
  | none => simp [ht] at h
  | some v => cases v <;> simp [ht] at h ⊢ <;> first | exact h | (exact h.elim) | simp_all
theorem own_eqR {t u : Term} {a : Addr} {args : Array Value} {s : State} (h : (Cond.eq t u).value args s none s [] = some true) (hu : u.eval args s none [] s = some (.ref a)) : t.eval args s none [] s = some (.ref a) := by
  simp only [Cond.value] at h
  rw [hu] at h
  cases ht : t.eval args s none [] s with
  | none => simp [ht] at h
  | some v => cases v <;> simp [ht] at h ⊢ <;> first | exact h | (exact h.elim) | simp_all
theorem own_eqJ {t : Term} {k : Int64} {args : Array Value} {s : State} (h : (Cond.eq t (Term.long k)).value args s none s [] = some true) : t.eval args s none [] s = some (.long k) := by
  simp only [Cond.value] at h
  have hn : (Term.long k).eval args s none [] s = some (.long k) := rfl
  rw [hn] at h
  cases ht : t.eval args s none [] s with
  | none => simp [ht] at h
  | some v => cases v <;> simp [ht] at h ⊢ <;> first | exact h | (exact h.elim) | simp_all
theorem own_b1 {x : Int32} (h : x = 0 ∨ x = 1) : narrow .boolean (.int x) = .int x := by rcases h with rfl | rfl <;> rfl
end Leaf
section Fl
open Jvm.FP.Core
/-- a double whose value is the whole number i -/
def own_W (i : Int) (x : UInt64) : Prop := ∃ c q, val64 x = .fin (decide (i < 0)) c q ∧ Whole i (.fin (decide (i < 0)) c q)
def own_Rd (i : Int) : Datum := round b64 (ofInt i)
theorem own_Rr (i : Int) : own_Rd i = roundRatio b64 (decide (i < 0)) i.natAbs 1 0 := rfl
theorem own_Wadd {i j : Int} {x y : UInt64} (hx : own_W i x) (hy : own_W j y) : FP.dadd x y = of64 (own_Rd (i + j)) := by
  obtain ⟨c, q, e1, w1⟩ := hx
  obtain ⟨d, r, e2, w2⟩ := hy
  show of64 (round b64 (exactSum (val64 x) (val64 y))) = of64 (round b64 (ofInt (i + j)))
  rw [e1, e2, round_sum_whole w1 w2]
  intro h
  rw [Bool.and_eq_false_iff]; simp; omega
theorem own_Wsub {i j : Int} {x y : UInt64} (hx : own_W i x) (hy : own_W j y) : FP.dsub x y = of64 (own_Rd (i - j)) := by
  obtain ⟨c, q, e1, w1⟩ := hx
  obtain ⟨d, r, e2, w2⟩ := hy
  have w3 := whole_negate w2
  show of64 (round b64 (exactSum (val64 x) (negate (val64 y)))) = of64 (round b64 (ofInt (i - j)))
  rw [e1, e2]
  simp only [negate] at w3 ⊢
  rw [round_sum_whole w1 w3]
  · rfl
  · intro h
    have e : i = j := by omega
    rw [e]
    cases decide (j < 0) <;> rfl
theorem own_big {A : Nat} (s : Bool) (h1 : 2 ^ 53 < A) (h2 : A ≤ 2 ^ 63) : ∃ B c : Nat, 0 < B ∧ B ≤ 2048 ∧ 2 * A ≤ (2 * c + 1) * B ∧ 2 * c * B ≤ 2 * A + B ∧ Whole (signed s (c * B)) (roundRatio b64 s A 1 0) ∧ ∃ d q, roundRatio b64 s A 1 0 = .fin s d q := by
  have a0 : A ≠ 0 := by omega
  have l1 : 2 ^ A.log2 ≤ A := Nat.log2_self_le a0
  have l2 : A < 2 ^ (A.log2 + 1) := Nat.lt_log2_self
  have k1 : 53 ≤ A.log2 := by
    refine Nat.le_of_not_lt fun h => ?_
    have : 2 ^ (A.log2 + 1) ≤ 2 ^ 53 := Nat.pow_le_pow_right (by decide) h
    omega
  have k2 : A.log2 ≤ 63 := by
    refine Nat.le_of_not_lt fun h => ?_
    have : 2 ^ 64 ≤ 2 ^ A.log2 := Nat.pow_le_pow_right (by decide) h
    have : (2 : Nat) ^ 63 < 2 ^ 64 := by decide
    omega
  generalize A.log2 = k at l1 l2 k1 k2
  have hq : quantum b64 A 1 0 = (k : Int) - 52 := by
    refine quantum_eq (by omega) (by decide) ?_ ?_ (Or.inr ?_)
    · have : b64.qmin = -1074 := by decide
      omega
    · rw [show (k : Int) - 52 - 0 + ((b64.p : Nat) : Int) = ((k + 1 : Nat) : Int) - ((0 : Nat) : Int) by show (k : Int) - 52 - 0 + ((53 : Nat) : Int) = _; omega, below_iff]
      simpa using l2
    · rw [show (k : Int) - 52 - 0 + (((b64.p : Nat) : Int) - 1) = ((k : Nat) : Int) - ((0 : Nat) : Int) by show (k : Int) - 52 - 0 + (((53 : Nat) : Int) - 1) = _; omega, below_iff]
      simpa using l1
  have eB : unitsDen 1 0 ((k : Int) - 52) = 2 ^ (k - 52) := by
    unfold unitsDen
    rw [show ((k : Int) - 52 - 0).toNat = k - 52 by omega]; simp
  have eA : unitsNum A 0 ((k : Int) - 52) = A := by
    unfold unitsNum
    rw [show (0 - ((k : Int) - 52)).toNat = 0 by omega]; simp
  have hB : 0 < 2 ^ (k - 52) := Nat.two_pow_pos _
  have hB2 : 2 ^ (k - 52) ≤ 2048 := Nat.le_trans (Nat.pow_le_pow_right (by decide) (show k - 52 ≤ 11 by omega)) (by decide)
  obtain ⟨s1, s2, -⟩ := nearest_spec A (2 ^ (k - 52)) hB
  have hc := nearest_units_le (f := b64) (A := A) (B := 1) (by omega) (by decide) 0
  rw [hq, eA, eB] at hc
  have er : roundRatio b64 s A 1 0 = settle b64 s (nearest A (2 ^ (k - 52))) ((k : Int) - 52) := by
    unfold roundRatio
    rw [if_neg a0, hq]
    unfold roundAt
    rw [eA, eB]
  have m1 : (k : Int) - 52 ≤ b64.qmax := by
    have : b64.qmax = 971 := by decide
    omega
  have m2 : (k : Int) - 52 + 1 ≤ b64.qmax := by
    have : b64.qmax = 971 := by decide
    omega
  refine ⟨2 ^ (k - 52), nearest A (2 ^ (k - 52)), hB, hB2, s1, s2, ?_⟩
  rw [er]
  unfold settle bound
  by_cases h : nearest A (2 ^ (k - 52)) < 2 ^ b64.p
  · rw [if_pos h, if_pos m1]
    refine ⟨?_, _, _, rfl⟩
    show signed s (nearest A (2 ^ (k - 52)) * 2 ^ ((k : Int) - 52).toNat) = signed s _ * _
    rw [show ((k : Int) - 52).toNat = k - 52 by omega, show (-((k : Int) - 52)).toNat = 0 by omega]; simp
  · rw [if_neg h, if_pos m2]
    have e : nearest A (2 ^ (k - 52)) = 2 ^ 53 := by
      have z : (2 : Nat) ^ b64.p = 2 ^ 53 := rfl
      omega
    refine ⟨?_, _, _, rfl⟩
    show signed s (b64.tails * 2 ^ ((k : Int) - 52 + 1).toNat) = signed s _ * _
    rw [e, show ((k : Int) - 52 + 1).toNat = k - 52 + 1 by omega, show (-((k : Int) - 52 + 1)).toNat = 0 by omega]
    have t : b64.tails = 2 ^ 52 := rfl
    have u : 2 ^ 52 * 2 ^ (k - 52 + 1) = 2 ^ 53 * 2 ^ (k - 52) := by
      rw [← Nat.pow_add, ← Nat.pow_add]; congr 1; omega
    rw [t, u]; simp
/-- a long as a double: a whole number near it -/
theorem own_Wl (n : Int64) : ∃ S : Int, own_W S (FP.l2d n) ∧ (S - n.toInt).natAbs ≤ 1024 ∧ of64 (own_Rd S) = FP.l2d n := by
  have hv : val64 (FP.l2d n) = roundRatio b64 (decide (n.toInt < 0)) n.toInt.natAbs 1 0 := val64_l2d n
  have lo := n.le_toInt; have hi := n.toInt_lt
  have key : ∃ S : Int, Whole S (val64 (FP.l2d n)) ∧ (S - n.toInt).natAbs ≤ 1024 ∧ (S = 0 → n.toInt = 0) ∧ ∃ c q, val64 (FP.l2d n) = .fin (decide (n.toInt < 0)) c q := by
    by_cases h : n.toInt.natAbs ≤ 2 ^ 53
    · obtain ⟨c, q, e⟩ := l2d_shape n
      exact ⟨n.toInt, l2d_int h, by simp, id, c, q, e⟩
    · obtain ⟨B, c, b1, b2, s1, s2, w, d, q, e⟩ := own_big (A := n.toInt.natAbs) (decide (n.toInt < 0)) (by omega) (by omega)
      rw [← hv] at w e
      have hn : n.toInt = signed (decide (n.toInt < 0)) n.toInt.natAbs := by
        unfold signed
        by_cases g : n.toInt < 0 <;> simp [g] <;> omega
      have p1 : (2 * c + 1) * B = 2 * (c * B) + B := by rw [Nat.add_mul, Nat.one_mul, Nat.mul_assoc]
      have p2 : 2 * c * B = 2 * (c * B) := Nat.mul_assoc ..
      rw [p1] at s1; rw [p2] at s2
      generalize c * B = v at *
      refine ⟨_, w, ?_, ?_, d, q, e⟩
      · rw [show signed (decide (n.toInt < 0)) v - n.toInt = signed (decide (n.toInt < 0)) v - signed (decide (n.toInt < 0)) n.toInt.natAbs by rw [← hn]]
        unfold signed
        split <;> omega
      · intro z
        unfold signed at z
        split at z <;> omega
  obtain ⟨S, w, hd, hz, c, q, e⟩ := key
  have hs : decide (n.toInt < 0) = decide (S < 0) := by
    by_cases g : S = 0
    · rw [g, hz g]
    · rw [e] at w; exact whole_sign w g
  rw [hs] at e
  rw [e] at w
  refine ⟨S, ⟨c, q, e, w⟩, hd, ?_⟩
  have f1 : FP.Core.fits b64 (.fin (decide (S < 0)) c q) := by rw [← e]; exact val64_fits _
  have r1 := round_of_fits good_b64 f1
  rw [round_whole w, ← own_Rr] at r1
  rw [r1, ← e, val64_l2d]
  rfl
theorem own_Wv {S : Int} {n : Int64} (h : n.toInt = S) : of64 (own_Rd S) = FP.l2d n := by rw [← h]; rfl
theorem own_Wsmall {n : Int64} (h : n.toInt.natAbs ≤ 2 ^ 53) : own_W n.toInt (FP.l2d n) := by
  obtain ⟨c, q, e⟩ := l2d_shape n
  have w : Whole n.toInt (val64 (FP.l2d n)) := l2d_int h
  rw [e] at w
  exact ⟨c, q, e, w⟩
theorem own_Wm {n : Int64} {m e : Nat} (h1 : 2 ^ 52 ≤ m) (h2 : m < 2 ^ 53) (he : e ≤ 9) (hn : n.toInt.natAbs = m * 2 ^ e) : own_W n.toInt (FP.l2d n) := by
  have hv : val64 (FP.l2d n) = roundRatio b64 (decide (n.toInt < 0)) n.toInt.natAbs 1 0 := val64_l2d n
  have q1 : b64.qmin = -1074 := by decide
  have q2 : b64.qmax = 971 := by decide
  have ft : FP.Core.fits b64 (.fin (decide (n.toInt < 0)) m (e : Int)) := ⟨h2, by omega, by omega, Or.inr h1⟩
  have er := roundRatio_exact good_b64 (s := decide (n.toInt < 0)) (A := n.toInt.natAbs) (B := 1) (e := 0) (by decide) ft (by
    rw [hn, show (0 - (e : Int)).toNat = 0 by omega, show ((e : Int) - 0).toNat = e by omega]; simp)
  refine ⟨m, e, by rw [hv, er], ?_⟩
  show signed _ (m * 2 ^ (e : Int).toNat) = n.toInt * _
  rw [show ((e : Nat) : Int).toNat = e by omega, show (-(e : Int)).toNat = 0 by omega, ← hn]
  unfold signed
  by_cases g : n.toInt < 0 <;> simp [g] <;> omega
theorem own_d0 : FP.dconst0 = FP.l2d 0 := by decide +kernel
theorem own_nA (n : Int64) : FP.dadd FP.dconst0 (FP.l2d n) = FP.l2d n ∧ FP.dsub (FP.l2d n) FP.dconst0 = FP.l2d n ∧ FP.dsub (FP.l2d n) (FP.l2d n) = FP.l2d 0 := by
  obtain ⟨S, w, -, e⟩ := own_Wl n
  have w0 : own_W 0 (FP.l2d 0) := own_Wsmall (n := 0) (by decide)
  rw [own_d0]
  refine ⟨?_, ?_, ?_⟩
  · rw [own_Wadd w0 w, show (0 : Int) + S = S by omega]; exact e
  · rw [own_Wsub w w0, show S - (0 : Int) = S by omega]; exact e
  · rw [own_Wsub w w, show S - S = (0 : Int) by omega]; exact own_Wv rfl
theorem own_nB {h l : Int64} (hh : own_W h.toInt (FP.l2d h)) (h1 : h.toInt.natAbs < 2 ^ 62) (hl : l.toInt.natAbs ≤ 4096) :
    FP.dadd (FP.l2d h) (FP.l2d l) = FP.l2d (h + l) ∧ FP.dsub (FP.l2d (h + l)) (FP.l2d h) = FP.l2d (FP.d2l (FP.l2d (h + l)) - h) ∧ FP.dsub (FP.l2d l) (FP.l2d (FP.d2l (FP.l2d (h + l)) - h)) = FP.l2d ((h + l) - FP.d2l (FP.l2d (h + l))) := by
  have wl := own_Wsmall (n := l) (by omega)
  have es : (h + l).toInt = h.toInt + l.toInt := by rw [Int64.toInt_add]; exact Int.bmod_eq_of_le (by omega) (by omega)
  obtain ⟨S, w, hd, e⟩ := own_Wl (h + l)
  rw [es] at hd
  have eS : (Int64.ofInt S).toInt = S := Int64.toInt_ofInt_of_le (by omega) (by omega)
  have dS : FP.d2l (FP.l2d (h + l)) = Int64.ofInt S := by
    obtain ⟨c, q, e1, w1⟩ := w
    exact d2l_int (a := Int64.ofInt S) (by show Whole _ (val64 _); rw [eS, e1]; exact w1)
  rw [dS]
  have e2 : (Int64.ofInt S - h).toInt = S - h.toInt := by rw [Int64.toInt_sub, eS]; exact Int.bmod_eq_of_le (by omega) (by omega)
  have w2 := own_Wsmall (n := Int64.ofInt S - h) (by rw [e2]; omega)
  refine ⟨?_, ?_, ?_⟩
  · rw [own_Wadd hh wl]; exact own_Wv es
  · rw [own_Wsub w hh]; exact own_Wv e2
  · rw [own_Wsub wl w2]
    refine own_Wv ?_
    rw [Int64.toInt_sub, es, eS, e2, Int.bmod_eq_of_le (by omega) (by omega)]
    omega
end Fl
theorem own_e10 {e : Int32} (h : 0 ≤ e.toInt ∧ e.toInt < 10) : ∃ k : Fin 10, e = Int32.ofNat k.val := by
  refine ⟨⟨e.toInt.toNat, by omega⟩, ?_⟩
  rw [own_eq]
  show _ = (Int32.ofNat e.toInt.toNat).toInt
  rw [Int32.toInt_ofNat_of_lt (by omega)]; omega
theorem own_toI {x : Int64} (h : x.toBitVec.toNat < 2 ^ 63) : x.toInt = x.toBitVec.toNat := by
  show x.toBitVec.toInt = _
  rw [BitVec.toInt_eq_toNat_of_lt (by omega)]
theorem own_toN {x : Int64} (h : 0 ≤ x.toInt) : x.toBitVec.toNat = x.toInt.toNat ∧ x.toBitVec.toNat < 2 ^ 63 := by
  have e : x.toInt = x.toBitVec.toInt := rfl
  have l := x.toBitVec.isLt
  rw [e] at h ⊢
  rw [BitVec.toInt_eq_toNat_cond] at h ⊢
  split at h <;> split <;> omega
theorem own_m52 (x : Int64) : 2 ^ 52 ≤ ((4503599627370496 : Int64) + (x &&& (4503599627370495 : Int64))).toInt ∧ ((4503599627370496 : Int64) + (x &&& (4503599627370495 : Int64))).toInt < 2 ^ 53 := by
  have h : (x &&& 4503599627370495).toBitVec.toNat < 4503599627370496 := by
    simp only [Int64.toBitVec_and, BitVec.toNat_and]
    exact Nat.lt_succ_of_le Nat.and_le_right
  have e := own_toI (x := x &&& 4503599627370495) (by omega)
  have c : (4503599627370496 : Int64).toInt = 4503599627370496 := by decide
  rw [Int64.toInt_add, c, Int.bmod_eq_of_le (by omega) (by omega), e]
  omega
theorem own_shl {m : Int64} (h0 : 0 ≤ m.toInt) (h1 : m.toInt < 2 ^ 53) (k : Fin 10) : (m <<< ((Int32.ofNat k.val) &&& 0x3f).toInt64).toInt = m.toInt * 2 ^ k.val := by
  obtain ⟨n1, n2⟩ := own_toN h0
  have es : (((Int32.ofNat k.val) &&& 0x3f).toInt64.toBitVec.smod 64).toNat = k.val := (by decide +kernel : ∀ k : Fin 10, (((Int32.ofNat k.val) &&& 0x3f).toInt64.toBitVec.smod 64).toNat = k.val) k
  have hk : 2 ^ k.val ≤ 2 ^ 9 := Nat.pow_le_pow_right (by decide) (by omega)
  have hN : m.toBitVec.toNat < 2 ^ 53 := by omega
  have hp : m.toBitVec.toNat * 2 ^ k.val < 2 ^ 62 := Nat.lt_of_lt_of_le (Nat.mul_lt_mul_of_lt_of_le hN hk (by decide)) (by decide)
  have et : (m <<< ((Int32.ofNat k.val) &&& 0x3f).toInt64).toBitVec.toNat = m.toBitVec.toNat * 2 ^ k.val := by
    rw [Int64.toBitVec_shiftLeft, BitVec.shiftLeft_eq', es, BitVec.toNat_shiftLeft, Nat.shiftLeft_eq, Nat.mod_eq_of_lt (by omega)]
  rw [own_toI (by rw [et]; omega), et, n1, Int.natCast_mul, Int.natCast_pow]
  congr 1
  omega
theorem own_bd (k : Fin 10) : 8 ≤ ((8 : Int32) <<< ((Int32.ofNat k.val) &&& 31)).toInt ∧ ((8 : Int32) <<< ((Int32.ofNat k.val) &&& 31)).toInt ≤ 4096 := (by decide +kernel : ∀ k : Fin 10, 8 ≤ ((8 : Int32) <<< ((Int32.ofNat k.val) &&& 31)).toInt ∧ ((8 : Int32) <<< ((Int32.ofNat k.val) &&& 31)).toInt ≤ 4096) k
theorem own_kb {b : Int32} (h : 8 ≤ b.toInt ∧ b.toInt ≤ 4096) : (((2 : Int32) * b) + (1 : Int32)).toInt = 2 * b.toInt + 1 := by
  have c1 : (1 : Int32).toInt = 1 := rfl
  have c2 : (2 : Int32).toInt = 2 := rfl
  rw [Int32.toInt_add, Int32.toInt_mul, c1, c2, Int.bmod_eq_of_le (n := 2 * b.toInt) (by omega) (by omega)]
  exact Int.bmod_eq_of_le (by omega) (by omega)
theorem own_kz {b : Int32} (h : 8 ≤ b.toInt ∧ b.toInt ≤ 4096) : ¬ (((2 : Int32) * b) + (1 : Int32)) = 0 := by
  have c0 : (0 : Int32).toInt = 0 := rfl
  rw [own_eq, own_kb h, c0]; omega
theorem own_l {y b : Int32} (h : 8 ≤ b.toInt ∧ b.toInt ≤ 4096) : (((y &&& (2147483647 : Int32)) % (((2 : Int32) * b) + (1 : Int32))).toInt64 - b.toInt64).toInt.natAbs ≤ 4096 := by
  have q := own_modm y (((2 : Int32) * b) + (1 : Int32)) (by rw [own_kb h]; omega)
  rw [own_kb h] at q
  rw [Int64.toInt_sub, Int32.toInt_toInt64, Int32.toInt_toInt64, Int.bmod_eq_of_le (by omega) (by omega)]
  omega
theorem own_hB {x v : Int64} {e : Int32} (he : 0 ≤ e.toInt ∧ e.toInt < 10) (hv : v = (((4503599627370496 : Int64) + (x &&& (4503599627370495 : Int64))) <<< (e &&& 0x3f).toInt64) ∨ v = -(((4503599627370496 : Int64) + (x &&& (4503599627370495 : Int64))) <<< (e &&& 0x3f).toInt64)) :
    ∃ m k : Nat, 2 ^ 52 ≤ m ∧ m < 2 ^ 53 ∧ k ≤ 9 ∧ v.toInt.natAbs = m * 2 ^ k ∧ v.toInt.natAbs < 2 ^ 62 := by
  obtain ⟨k, rfl⟩ := own_e10 he
  have hm := own_m52 x
  generalize (4503599627370496 : Int64) + (x &&& (4503599627370495 : Int64)) = m at hm hv
  have es := own_shl (m := m) (by omega) (by omega) k
  have hk : 2 ^ k.val ≤ 2 ^ 9 := Nat.pow_le_pow_right (by decide) (by omega)
  have hp : m.toInt.toNat * 2 ^ k.val < 2 ^ 62 := Nat.lt_of_lt_of_le (Nat.mul_lt_mul_of_lt_of_le (show m.toInt.toNat < 2 ^ 53 by omega) hk (by decide)) (by decide)
  have en : (m <<< ((Int32.ofNat k.val) &&& 0x3f).toInt64).toInt = ((m.toInt.toNat * 2 ^ k.val : Nat) : Int) := by
    rw [es, Int.natCast_mul, Int.natCast_pow]
    congr 1
    omega
  generalize m <<< ((Int32.ofNat k.val) &&& 0x3f).toInt64 = g at en hv
  generalize hgP : m.toInt.toNat * 2 ^ k.val = P at en hp
  refine ⟨m.toInt.toNat, k.val, by omega, by omega, by omega, ?_⟩
  rw [hgP]
  rcases hv with rfl | rfl
  · rw [en]; omega
  · rw [Int64.toInt_neg, Int.bmod_eq_of_le (by omega) (by omega)]; omega

theorem own_nnl (n : Int64) : Jvm.Free.Fl.NoNaN64 (FP.l2d n) := nn_w rfl
theorem own_selfd (n : Int64) : cmpValue (FP.dcmp (FP.l2d n) (FP.l2d n)) .l = 0 := dcmpV_self (own_nnl n) .l
theorem own_zd : cmpValue (FP.dcmp (FP.l2d 0) FP.dconst0) .l = 0 := by rw [own_d0]; exact own_selfd 0
theorem own_pn0 : plainName "java/lang/Record" = true := by first | (simp [plainName, overriddenIn]; done) | decide +kernel
theorem own_d3_0 : decode jdk_30_method_1_code 0 = .ok (.aload_n 0, 1) := by decide +kernel
theorem own_d3_1 : decode jdk_30_method_1_code 1 = .ok (.invokespecial 1, 3) := by decide +kernel
theorem own_d3_4 : decode jdk_30_method_1_code 4 = .ok (.return_, 1) := by decide +kernel
theorem own_efR (m : MethodId) (x0 : Addr) : entryFrame m #[(.ref x0)] 1 = mkF m 0 #[rv x0] [] := by first | (simp [entryFrame, mkF, argsToLocals, Value.category]; done) | rfl
def QR (Z : State) (aR : Addr) (h0 : Heap) (n0 : Nat) (v : Option Value) (h : Heap) (L : List Loc) : Prop := v = none ∧ Fr n0 L ∧ h = h0
set_option maxRecDepth 65536 in
set_option maxHeartbeats 40000000 in
theorem rmR (l : Launch) (Z : State) (a0 : Array Value) (hw : ∀ d ∈ tables_1, d.before a0 Z = true) (ws : List Jvm.Cond) (aR : Addr) (h0 : Heap) (n0 : Nat) (Z0 : n0 ≤ h0.size) :
    MetFree l (⟨"java/lang/Record", "<init>", "()V"⟩ : MethodName) (head1 (Jvm.Cond.code (⟨"java/lang/Record", "<init>", "()V"⟩ : MethodName) jdk_30_method_1_code 1 none :: ws) (oR 1 0 0 12)) (fun a U => a = #[(.ref aR)] ∧ Z.Warmed39 U.vm ∧ U.heap = h0) (fun _ _ _ _ _ => True) (fun _ U o U' => ∃ v L, o = .returned v ∧ QR Z aR h0 n0 v U'.heap L ∧ FrameEnd U o U' L (oR 1 0 0 12).cells (oR 1 0 0 12).slots) := by
  refine MetFree.of_bodySF (plainFor_of_name own_pn0) hisR ?_
  intro p e s m args below meth c s₁ Bd hml0 hP hK
  obtain ⟨rfl, hZ, hh⟩ := hP
  have hx := Bd.exec
  have hby := Bd.bytes
  have hlk : meth.locks = false := Bd.notSynchronized
  have hml : c.maxLocals = 1 := hml0
  have hown : s.vm.findClass "java/lang/Record" = some m.cls := findClass_of_methodNamed Bd.named
  have hnm := (name_of_methodNamed Bd.named Bd.method).1
  have X0 : Stand p l e (oR 1 0 0 12) s m #[(.ref aR)] below meth c s₁ [] 0 0 := Stand.of_body Bd
  have e0 : s₁.heap = h0 := by rw [← hh, Bd.state]; rfl
  have N0 := Fr.nil n0
  refine own_body (A := s₁.setTop (mkF m 0 #[rv aR] [])) (Q := QR Z aR h0 n0) (fun t k => castTop (own_efR m aR) k) ?_
  refine oALN (n := 1) X0 hx (hb hby own_d3_0) rfl rfl rfl ?_
  obtain ⟨T1, X1, e1, st1⟩ := initO X0 hx hZ hown (oW hw 17 rfl) (oW hw 18 rfl) (oW hw 19 rfl) e0 (g := (mkF m 1 #[rv aR] [(.ref aR)])) rfl (by rw [hml]; rfl) rfl (hb hby own_d3_1) (by decide) (W := 0) (by show 2 * 0 + _ ≤ _; exact Nat.le_of_eq rfl) (by decide)
  refine ov (B := T1.setTop (mkF m 4 #[rv aR] [])) (fun t k => st1 t k) ?_
  refine own_leafV X1 hx hlk Bd.returns (hb hby own_d3_4) (by decide) (by decide) ?_
  show QR Z aR h0 n0 _ T1.heap _
  rw [e1]
  refine ⟨?_, N0, rfl⟩
  rfl
theorem own_pn1 : plainName "com/example/gyre/gyre/DoubleDouble" = true := by first | (simp [plainName, overriddenIn]; done) | decide +kernel
theorem own_pd0 : parseMethodDescriptor "()V" = some ⟨[], none⟩ := by decide +kernel
theorem own_d2_0 : decode prog_2_method_1_code 0 = .ok (.aload_n 0, 1) := by decide +kernel
theorem own_d2_1 : decode prog_2_method_1_code 1 = .ok (.invokespecial 1, 3) := by decide +kernel
theorem own_d2_4 : decode prog_2_method_1_code 4 = .ok (.aload_n 0, 1) := by decide +kernel
theorem own_d2_5 : decode prog_2_method_1_code 5 = .ok (.dload_n 1, 1) := by decide +kernel
theorem own_d2_6 : decode prog_2_method_1_code 6 = .ok (.putfield 7, 3) := by decide +kernel
theorem own_d2_9 : decode prog_2_method_1_code 9 = .ok (.aload_n 0, 1) := by decide +kernel
theorem own_d2_10 : decode prog_2_method_1_code 10 = .ok (.dload_n 3, 1) := by decide +kernel
theorem own_d2_11 : decode prog_2_method_1_code 11 = .ok (.putfield 13, 3) := by decide +kernel
theorem own_d2_14 : decode prog_2_method_1_code 14 = .ok (.return_, 1) := by decide +kernel
theorem own_efI (m : MethodId) (x0 : Addr) (x1 : UInt64) (x2 : UInt64) : entryFrame m #[(.ref x0), (.double x1), (.double x2)] 5 = mkF m 0 #[rv x0, .val (.double x1), .second, .val (.double x2), .second] [] := by first | (simp [entryFrame, mkF, argsToLocals, Value.category]; done) | rfl
def QI (Z : State) (a1 : Addr) (xH : UInt64) (xL : UInt64) (u0 : Value) (u1 : Value) (h0 : Heap) (n0 : Nat) (v : Option Value) (h : Heap) (L : List Loc) : Prop := v = none ∧ Fr n0 L ∧ Keep h0 h [a1] ∧ (Fld Z h a1 "com/example/gyre/gyre/DoubleDouble" "hi" "D" (.double xH)) ∧ (Fld Z h a1 "com/example/gyre/gyre/DoubleDouble" "lo" "D" (.double xL))
set_option maxRecDepth 65536 in
set_option maxHeartbeats 40000000 in
theorem rmI (l : Launch) (Z : State) (a0 : Array Value) (hw : ∀ d ∈ tables_1, d.before a0 Z = true) (ws : List Jvm.Cond) (a1 : Addr) (xH : UInt64) (xL : UInt64) (u0 : Value) (u1 : Value) (h0 : Heap) (n0 : Nat) (Z0 : n0 ≤ h0.size) (E1 : Exa Z h0 a1 "com/example/gyre/gyre/DoubleDouble") (F0 : Fld Z h0 a1 "com/example/gyre/gyre/DoubleDouble" "hi" "D" u0) (F1 : Fld Z h0 a1 "com/example/gyre/gyre/DoubleDouble" "lo" "D" u1) (g_a1 : n0 ≤ a1) :
    MetFree l (⟨"com/example/gyre/gyre/DoubleDouble", "<init>", "(DD)V"⟩ : MethodName) (head1 (Jvm.Cond.code (⟨"com/example/gyre/gyre/DoubleDouble", "<init>", "(DD)V"⟩ : MethodName) prog_2_method_1_code 5 none :: ws) (oR 2 0 0 28)) (fun a U => a = #[(.ref a1), (.double xH), (.double xL)] ∧ Z.Warmed39 U.vm ∧ U.heap = h0) (fun _ _ _ _ _ => True) (fun _ U o U' => ∃ v L, o = .returned v ∧ QI Z a1 xH xL u0 u1 h0 n0 v U'.heap L ∧ FrameEnd U o U' L (oR 2 0 0 28).cells (oR 2 0 0 28).slots) := by
  refine MetFree.of_bodySF (plainFor_of_name own_pn1) hisR ?_
  intro p e s m args below meth c s₁ Bd hml0 hP hK
  obtain ⟨rfl, hZ, hh⟩ := hP
  have hx := Bd.exec
  have hby := Bd.bytes
  have hlk : meth.locks = false := Bd.notSynchronized
  have hml : c.maxLocals = 5 := hml0
  have hown : s.vm.findClass "com/example/gyre/gyre/DoubleDouble" = some m.cls := findClass_of_methodNamed Bd.named
  have hnm := (name_of_methodNamed Bd.named Bd.method).1
  have X0 : Stand p l e (oR 2 0 0 28) s m #[(.ref a1), (.double xH), (.double xL)] below meth c s₁ [] 0 0 := Stand.of_body Bd
  have e0 : s₁.heap = h0 := by rw [← hh, Bd.state]; rfl
  have N0 := Fr.nil n0
  refine own_body (A := s₁.setTop (mkF m 0 #[rv a1, .val (.double xH), .second, .val (.double xL), .second] [])) (Q := QI Z a1 xH xL u0 u1 h0 n0) (fun t k => castTop (own_efI m a1 xH xL) k) ?_
  refine oALN (n := 1) X0 hx (hb hby own_d2_0) rfl rfl rfl ?_
  obtain ⟨_, _, ⟨T1, L1, k1, n1⟩, -, X1, ⟨Lc1, hQ1, l1, y1, z1⟩, st1⟩ := X0.specialBack hx (y := (⟨"java/lang/Record", "<init>", "()V"⟩ : MethodName)) rfl hown (mvT hZ (oW hw 12 rfl)) (mvT hZ (oW hw 13 rfl)) (mvT hZ (oW hw 16 rfl)) (by decide) (backOf (W := 0) (rmR l Z a0 hw [] a1 h0 n0 Z0 ) hZ (oW hw 16 rfl) (oW hw 15 rfl) (by decide) (by decide)) (g := (mkF m 1 #[rv a1, .val (.double xH), .second, .val (.double xL), .second] [(.ref a1)])) rfl (by rw [hml]; rfl) (Steps.refl _) (a := a1) (argsL := []) (rest := []) (lenOf own_pd0 rfl) rfl (by show 2 * 0 + _ ≤ _; exact Nat.le_of_eq rfl) (hb hby own_d2_1) (fun _ _ => ⟨rfl, e0, (by decide : 0 + 0 ≤ _), (by decide : 0 + 0 ≤ _)⟩)
  dsimp only [Pt.U, Pt.locs, Pt.cells, Pt.slots] at X1 l1 y1 z1 st1 hQ1
  subst l1 y1 z1
  obtain ⟨rfl, Nq1, eq1⟩ := hQ1
  have N1 := Fr.app N0 Nq1
  refine ov (B := T1.setTop (mkF m 4 #[rv a1, .val (.double xH), .second, .val (.double xL), .second] [])) (fun t k => st1.trans k) ?_
  refine oALN (n := 5) X1 hx (hb hby own_d2_4) rfl rfl rfl ?_
  refine ov (B := T1.setTop (mkF m 6 #[rv a1, .val (.double xH), .second, .val (.double xL), .second] [(.double xH), (.ref a1)])) (fun t k => XS.dloadN X1.here hx rfl (hb hby own_d2_5) rfl k) ?_
  obtain ⟨T2, h2, X2, e2, W2, st2⟩ := putF X1 hx hZ hown (host := "") (Or.inl (oW hw 20 rfl)) Via.refl eq1 F0 E1 (Or.inr ⟨(oW hw 21 rfl), rfl, hnm⟩) (oW hw 8 rfl) (ty := .double) (by decide) rfl rfl (g := (mkF m 6 #[rv a1, .val (.double xH), .second, .val (.double xL), .second] [(.double xH), (.ref a1)])) rfl rfl (hb hby own_d2_6)
  have Fw2 := F0.same W2
  have N2 := Fr.snoc X2 N1 g_a1
  refine ov (B := T2.setTop (mkF m 9 #[rv a1, .val (.double xH), .second, .val (.double xL), .second] [])) (fun t k => st2 t k) ?_
  refine oALN (n := 10) X2 hx (hb hby own_d2_9) rfl rfl rfl ?_
  refine ov (B := T2.setTop (mkF m 11 #[rv a1, .val (.double xH), .second, .val (.double xL), .second] [(.double xL), (.ref a1)])) (fun t k => XS.dloadN X2.here hx rfl (hb hby own_d2_10) rfl k) ?_
  obtain ⟨T3, h3, X3, e3, W3, st3⟩ := putF X2 hx hZ hown (host := "") (Or.inl (oW hw 22 rfl)) Via.refl e2 (F1.other W2 (Or.inr (slot_ne (Or.inr (oW hw 23 rfl)) (Or.inr (oW hw 21 rfl)) (by decide +kernel) (t := .double) (t' := .double) (by decide +kernel) (by decide +kernel)))) (E1.wr W2) (Or.inr ⟨(oW hw 23 rfl), rfl, hnm⟩) (oW hw 8 rfl) (ty := .double) (by decide) rfl rfl (g := (mkF m 11 #[rv a1, .val (.double xH), .second, .val (.double xL), .second] [(.double xL), (.ref a1)])) rfl rfl (hb hby own_d2_11)
  have Fw3 := (F1.other W2 (Or.inr (slot_ne (Or.inr (oW hw 23 rfl)) (Or.inr (oW hw 21 rfl)) (by decide +kernel) (t := .double) (t' := .double) (by decide +kernel) (by decide +kernel)))).same W3
  have N3 := Fr.snoc X3 N2 g_a1
  refine ov (B := T3.setTop (mkF m 14 #[rv a1, .val (.double xH), .second, .val (.double xL), .second] [])) (fun t k => st3 t k) ?_
  refine own_leafV X3 hx hlk Bd.returns (hb hby own_d2_14) (by decide) (by decide) ?_
  show QI Z a1 xH xL u0 u1 h0 n0 _ T3.heap _
  rw [e3]
  refine ⟨?_, N3, (((Keep.refl h0 [a1]).wr W2 (Or.inl (List.mem_of_getElem? (i := 0) rfl))).wr W3 (Or.inl (List.mem_of_getElem? (i := 0) rfl))), (Fw2.other W3 (Or.inr (slot_ne (Or.inr (oW hw 21 rfl)) (Or.inr (oW hw 23 rfl)) (by decide +kernel) (t := .double) (t' := .double) (by decide +kernel) (by decide +kernel)))), Fw3⟩
  rfl
theorem own_pd1 : parseMethodDescriptor "(DD)V" = some ⟨[.double, .double], none⟩ := by decide +kernel
theorem own_d1_0 : decode prog_2_method_5_code 0 = .ok (.dload_n 0, 1) := by decide +kernel
theorem own_d1_1 : decode prog_2_method_5_code 1 = .ok (.dload_n 2, 1) := by decide +kernel
theorem own_d1_2 : decode prog_2_method_5_code 2 = .ok (.dadd, 1) := by decide +kernel
theorem own_d1_3 : decode prog_2_method_5_code 3 = .ok (.dstore 4, 2) := by decide +kernel
theorem own_d1_5 : decode prog_2_method_5_code 5 = .ok (.new 8, 3) := by decide +kernel
theorem own_d1_8 : decode prog_2_method_5_code 8 = .ok (.dup, 1) := by decide +kernel
theorem own_d1_9 : decode prog_2_method_5_code 9 = .ok (.dload 4, 2) := by decide +kernel
theorem own_d1_11 : decode prog_2_method_5_code 11 = .ok (.dload_n 2, 1) := by decide +kernel
theorem own_d1_12 : decode prog_2_method_5_code 12 = .ok (.dload 4, 2) := by decide +kernel
theorem own_d1_14 : decode prog_2_method_5_code 14 = .ok (.dload_n 0, 1) := by decide +kernel
theorem own_d1_15 : decode prog_2_method_5_code 15 = .ok (.dsub, 1) := by decide +kernel
theorem own_d1_16 : decode prog_2_method_5_code 16 = .ok (.dsub, 1) := by decide +kernel
theorem own_d1_17 : decode prog_2_method_5_code 17 = .ok (.invokespecial 16, 3) := by decide +kernel
theorem own_d1_20 : decode prog_2_method_5_code 20 = .ok (.areturn, 1) := by decide +kernel
theorem own_efN (m : MethodId) (x0 : UInt64) (x1 : UInt64) : entryFrame m #[(.double x0), (.double x1)] 6 = mkF m 0 #[.val (.double x0), .second, .val (.double x1), .second, uu, uu] [] := by first | (simp [entryFrame, mkF, argsToLocals, Value.category]; done) | rfl
def QN (Z : State) (hN : UInt64) (lN : UInt64) (zA : UInt64) (zB : UInt64) (zC : UInt64) (h0 : Heap) (n0 : Nat) (v : Option Value) (h : Heap) (L : List Loc) : Prop := ∃ (r : Addr), v = some (.ref r) ∧ Fr n0 L ∧ Keep h0 h [] ∧ (Exa Z h r "com/example/gyre/gyre/DoubleDouble") ∧ (Fld Z h r "com/example/gyre/gyre/DoubleDouble" "hi" "D" (.double zA)) ∧ (Fld Z h r "com/example/gyre/gyre/DoubleDouble" "lo" "D" (.double zC))
set_option maxRecDepth 65536 in
set_option maxHeartbeats 40000000 in
theorem rmN (l : Launch) (Z : State) (a0 : Array Value) (hw : ∀ d ∈ tables_1, d.before a0 Z = true) (ws : List Jvm.Cond) (hN : UInt64) (lN : UInt64) (zA : UInt64) (zB : UInt64) (zC : UInt64) (h0 : Heap) (n0 : Nat) (Z0 : n0 ≤ h0.size) (q1 : FP.dadd hN lN = zA) (q2 : FP.dsub zA hN = zB) (q3 : FP.dsub lN zB = zC) (n1 : Jvm.Free.Fl.NoNaN64 zA) (n2 : Jvm.Free.Fl.NoNaN64 zB) (n3 : Jvm.Free.Fl.NoNaN64 zC) :
    MetFree l (⟨"com/example/gyre/gyre/DoubleDouble", "normalized", "(DD)Lcom/example/gyre/gyre/DoubleDouble;"⟩ : MethodName) (head1 (Jvm.Cond.code (⟨"com/example/gyre/gyre/DoubleDouble", "normalized", "(DD)Lcom/example/gyre/gyre/DoubleDouble;"⟩ : MethodName) prog_2_method_5_code 6 (some (.object "com/example/gyre/gyre/DoubleDouble")) :: ws) (oR 3 1 2 56)) (fun a U => a = #[(.double hN), (.double lN)] ∧ Z.Warmed39 U.vm ∧ U.heap = h0) (fun _ _ _ _ _ => True) (fun _ U o U' => ∃ v L, o = .returned v ∧ QN Z hN lN zA zB zC h0 n0 v U'.heap L ∧ FrameEnd U o U' L (oR 3 1 2 56).cells (oR 3 1 2 56).slots) := by
  refine MetFree.of_bodySF (plainFor_of_name own_pn1) hisR ?_
  intro p e s m args below meth c s₁ Bd hml0 hP hK
  obtain ⟨rfl, hZ, hh⟩ := hP
  have hx := Bd.exec
  have hby := Bd.bytes
  have hlk : meth.locks = false := Bd.notSynchronized
  have hml : c.maxLocals = 6 := hml0
  have hown : s.vm.findClass "com/example/gyre/gyre/DoubleDouble" = some m.cls := findClass_of_methodNamed Bd.named
  have hnm := (name_of_methodNamed Bd.named Bd.method).1
  have X0 : Stand p l e (oR 3 1 2 56) s m #[(.double hN), (.double lN)] below meth c s₁ [] 0 0 := Stand.of_body Bd
  have e0 : s₁.heap = h0 := by rw [← hh, Bd.state]; rfl
  have N0 := Fr.nil n0
  refine own_body (A := s₁.setTop (mkF m 0 #[.val (.double hN), .second, .val (.double lN), .second, uu, uu] [])) (Q := QN Z hN lN zA zB zC h0 n0) (fun t k => castTop (own_efN m hN lN) k) ?_
  refine ov (B := s₁.setTop (mkF m 1 #[.val (.double hN), .second, .val (.double lN), .second, uu, uu] [(.double hN)])) (fun t k => XS.dloadN X0.here hx rfl (hb hby own_d1_0) rfl k) ?_
  refine ov (B := s₁.setTop (mkF m 2 #[.val (.double hN), .second, .val (.double lN), .second, uu, uu] [(.double lN), (.double hN)])) (fun t k => XS.dloadN X0.here hx rfl (hb hby own_d1_1) rfl k) ?_
  refine ov (B := s₁.setTop (mkF m 3 #[.val (.double hN), .second, .val (.double lN), .second, uu, uu] [(.double (FP.dadd hN lN))])) (fun t k => XS.daddS X0.here hx rfl (hb hby own_d1_2) rfl (by rw [q1]; exact n1) rfl k) ?_
  refine ov (B := s₁.setTop (mkF m 5 #[.val (.double hN), .second, .val (.double lN), .second, .val (.double (FP.dadd hN lN)), .second] [])) (fun t k => XS.dstore X0.here hx rfl (hb hby own_d1_3) rfl (l' := #[.val (.double hN), .second, .val (.double lN), .second, .val (.double (FP.dadd hN lN)), .second]) rfl k) ?_
  obtain ⟨T1, h1, X1, e1, E1, A1, D1, -, st1⟩ := newO X0 hx hZ hown (oW hw 7 rfl) (oW hw 8 rfl) (oW hw 5 rfl) e0 (g := (mkF m 5 #[.val (.double hN), .second, .val (.double lN), .second, .val (.double (FP.dadd hN lN)), .second] [])) rfl (hb hby own_d1_5) (by decide) (by decide)
  obtain ⟨b1, g1⟩ : ∃ z, z = h0.size := ⟨_, rfl⟩
  rw [← g1] at A1 D1 st1
  have g_b1 : n0 ≤ b1 := Nat.le_trans Z0 (Nat.le_of_eq g1.symm)
  have F1_hi : Fld Z h1 b1 "com/example/gyre/gyre/DoubleDouble" "hi" "D" (.double (0 : UInt64)) := D1 (Or.inr (oW hw 21 rfl)) (ty := .double) (by decide)
  have F1_lo : Fld Z h1 b1 "com/example/gyre/gyre/DoubleDouble" "lo" "D" (.double (0 : UInt64)) := D1 (Or.inr (oW hw 23 rfl)) (ty := .double) (by decide)
  refine ov (B := T1.setTop (mkF m 8 #[.val (.double hN), .second, .val (.double lN), .second, .val (.double (FP.dadd hN lN)), .second] [(.ref b1)])) (fun t k => st1 t k) ?_
  refine oDU (n := 9) X1 hx (hb hby own_d1_8) rfl rfl ?_
  refine ov (B := T1.setTop (mkF m 11 #[.val (.double hN), .second, .val (.double lN), .second, .val (.double (FP.dadd hN lN)), .second] [(.double (FP.dadd hN lN)), (.ref b1), (.ref b1)])) (fun t k => XS.dload X1.here hx rfl (hb hby own_d1_9) rfl k) ?_
  refine ov (B := T1.setTop (mkF m 12 #[.val (.double hN), .second, .val (.double lN), .second, .val (.double (FP.dadd hN lN)), .second] [(.double lN), (.double (FP.dadd hN lN)), (.ref b1), (.ref b1)])) (fun t k => XS.dloadN X1.here hx rfl (hb hby own_d1_11) rfl k) ?_
  refine ov (B := T1.setTop (mkF m 14 #[.val (.double hN), .second, .val (.double lN), .second, .val (.double (FP.dadd hN lN)), .second] [(.double (FP.dadd hN lN)), (.double lN), (.double (FP.dadd hN lN)), (.ref b1), (.ref b1)])) (fun t k => XS.dload X1.here hx rfl (hb hby own_d1_12) rfl k) ?_
  refine ov (B := T1.setTop (mkF m 15 #[.val (.double hN), .second, .val (.double lN), .second, .val (.double (FP.dadd hN lN)), .second] [(.double hN), (.double (FP.dadd hN lN)), (.double lN), (.double (FP.dadd hN lN)), (.ref b1), (.ref b1)])) (fun t k => XS.dloadN X1.here hx rfl (hb hby own_d1_14) rfl k) ?_
  refine ov (B := T1.setTop (mkF m 16 #[.val (.double hN), .second, .val (.double lN), .second, .val (.double (FP.dadd hN lN)), .second] [(.double (FP.dsub (FP.dadd hN lN) hN)), (.double lN), (.double (FP.dadd hN lN)), (.ref b1), (.ref b1)])) (fun t k => XS.dsubS X1.here hx rfl (hb hby own_d1_15) rfl (by rw [q1, q2]; exact n2) rfl k) ?_
  refine ov (B := T1.setTop (mkF m 17 #[.val (.double hN), .second, .val (.double lN), .second, .val (.double (FP.dadd hN lN)), .second] [(.double (FP.dsub lN (FP.dsub (FP.dadd hN lN) hN))), (.double (FP.dadd hN lN)), (.ref b1), (.ref b1)])) (fun t k => XS.dsubS X1.here hx rfl (hb hby own_d1_16) rfl (by rw [q1, q2, q3]; exact n3) rfl k) ?_
  obtain ⟨_, _, ⟨T2, L2, k2, n2⟩, -, X2, ⟨Lc2, hQ2, l2, y2, z2⟩, st2⟩ := X1.specialBack hx (y := (⟨"com/example/gyre/gyre/DoubleDouble", "<init>", "(DD)V"⟩ : MethodName)) rfl hown (mvT hZ (oW hw 9 rfl)) (mvT hZ (oW hw 10 rfl)) (mvT hZ (oW hw 11 rfl)) (by decide) (backOf (W := 1) (rmI l Z a0 hw [] b1 (FP.dadd hN lN) (FP.dsub lN (FP.dsub (FP.dadd hN lN) hN)) (.double (0 : UInt64)) (.double (0 : UInt64)) h1 n0 (Nat.le_trans Z0 E1.1) A1 F1_hi F1_lo g_b1) hZ (oW hw 11 rfl) (oW hw 5 rfl) (by decide) (by decide)) (g := (mkF m 17 #[.val (.double hN), .second, .val (.double lN), .second, .val (.double (FP.dadd hN lN)), .second] [(.double (FP.dsub lN (FP.dsub (FP.dadd hN lN) hN))), (.double (FP.dadd hN lN)), (.ref b1), (.ref b1)])) rfl (by rw [hml]; rfl) (Steps.refl _) (a := b1) (argsL := [(.double (FP.dadd hN lN)), (.double (FP.dsub lN (FP.dsub (FP.dadd hN lN) hN)))]) (rest := [(.ref b1)]) (lenOf own_pd1 rfl) rfl (by show 2 * 0 + _ ≤ _; exact Nat.le_of_eq rfl) (hb hby own_d1_17) (fun _ _ => ⟨rfl, e1, (by decide : (0 + 1) + 0 ≤ _), (by decide : (0 + 2) + 0 ≤ _)⟩)
  dsimp only [Pt.U, Pt.locs, Pt.cells, Pt.slots] at X2 l2 y2 z2 st2 hQ2
  subst l2 y2 z2
  obtain ⟨rfl, Nq2, Kq2, f2_0, f2_1⟩ := hQ2
  have N2 := Fr.app N0 Nq2
  refine ov (B := T2.setTop (mkF m 20 #[.val (.double hN), .second, .val (.double lN), .second, .val (.double (FP.dadd hN lN)), .second] [(.ref b1)])) (fun t k => st2.trans k) ?_
  refine own_leaf X2 hx hlk (t := (.object "com/example/gyre/gyre/DoubleDouble")) Bd.returns rfl (Or.inr (Or.inr (Or.inr (Or.inr ⟨rfl, rfl, rfl⟩)))) (hb hby own_d1_20) (by decide) (by decide) ?_
  show QN Z hN lN zA zB zC h0 n0 _ T2.heap _
  refine ⟨b1, ?_, N2, (((Keep.refl h0 []).ext E1).trans Kq2 (allS (Or.inr (Nat.le_of_eq g1.symm)) all0)), (A1.keep Kq2), (by rw [← q1]; exact f2_0), (by rw [← q3, ← q2, ← q1]; exact f2_1)⟩
  rfl
theorem own_d5_0 : decode prog_2_method_16_code 0 = .ok (.aload_n 0, 1) := by decide +kernel
theorem own_d5_1 : decode prog_2_method_16_code 1 = .ok (.getfield 7, 3) := by decide +kernel
theorem own_d5_4 : decode prog_2_method_16_code 4 = .ok (.dreturn, 1) := by decide +kernel
theorem own_efG (m : MethodId) (x0 : Addr) : entryFrame m #[(.ref x0)] 1 = mkF m 0 #[rv x0] [] := by first | (simp [entryFrame, mkF, argsToLocals, Value.category]; done) | rfl
def QG (Z : State) (a2 : Addr) (v2 : UInt64) (h0 : Heap) (n0 : Nat) (v : Option Value) (h : Heap) (L : List Loc) : Prop := v = some (.double v2) ∧ Fr n0 L ∧ h = h0
set_option maxRecDepth 65536 in
set_option maxHeartbeats 40000000 in
theorem rmG (l : Launch) (Z : State) (a0 : Array Value) (hw : ∀ d ∈ tables_1, d.before a0 Z = true) (ws : List Jvm.Cond) (a2 : Addr) (v2 : UInt64) (h0 : Heap) (n0 : Nat) (Z0 : n0 ≤ h0.size) (F2 : Fld Z h0 a2 "com/example/gyre/gyre/DoubleDouble" "hi" "D" (.double v2)) :
    MetFree l (⟨"com/example/gyre/gyre/DoubleDouble", "hi", "()D"⟩ : MethodName) (head1 (Jvm.Cond.code (⟨"com/example/gyre/gyre/DoubleDouble", "hi", "()D"⟩ : MethodName) prog_2_method_16_code 1 (some .double) :: ws) (oR 0 0 0 0)) (fun a U => a = #[(.ref a2)] ∧ Z.Warmed39 U.vm ∧ U.heap = h0) (fun _ _ _ _ _ => True) (fun _ U o U' => ∃ v L, o = .returned v ∧ QG Z a2 v2 h0 n0 v U'.heap L ∧ FrameEnd U o U' L (oR 0 0 0 0).cells (oR 0 0 0 0).slots) := by
  refine MetFree.of_bodySF (plainFor_of_name own_pn1) hisR ?_
  intro p e s m args below meth c s₁ Bd hml0 hP hK
  obtain ⟨rfl, hZ, hh⟩ := hP
  have hx := Bd.exec
  have hby := Bd.bytes
  have hlk : meth.locks = false := Bd.notSynchronized
  have hml : c.maxLocals = 1 := hml0
  have hown : s.vm.findClass "com/example/gyre/gyre/DoubleDouble" = some m.cls := findClass_of_methodNamed Bd.named
  have hnm := (name_of_methodNamed Bd.named Bd.method).1
  have X0 : Stand p l e (oR 0 0 0 0) s m #[(.ref a2)] below meth c s₁ [] 0 0 := Stand.of_body Bd
  have e0 : s₁.heap = h0 := by rw [← hh, Bd.state]; rfl
  have N0 := Fr.nil n0
  refine own_body (A := s₁.setTop (mkF m 0 #[rv a2] [])) (Q := QG Z a2 v2 h0 n0) (fun t k => castTop (own_efG m a2) k) ?_
  refine oALN (n := 1) X0 hx (hb hby own_d5_0) rfl rfl rfl ?_
  obtain ⟨T1, X1, e1, st1⟩ := getF X0 hx hZ hown (host := "") (Or.inl (oW hw 20 rfl)) Via.refl e0 F2 (g := (mkF m 1 #[rv a2] [(.ref a2)])) rfl rfl (hb hby own_d5_1)
  refine ov (B := T1.setTop (mkF m 4 #[rv a2] [(.double v2)])) (fun t k => st1 t k) ?_
  refine own_leaf X1 hx hlk (t := .double) Bd.returns rfl (Or.inr (Or.inr (Or.inl ⟨rfl, rfl, _, rfl⟩))) (hb hby own_d5_4) (by decide) (by decide) ?_
  show QG Z a2 v2 h0 n0 _ T1.heap _
  rw [e1]
  refine ⟨?_, N0, rfl⟩
  rfl
theorem own_d6_0 : decode prog_2_method_17_code 0 = .ok (.aload_n 0, 1) := by decide +kernel
theorem own_d6_1 : decode prog_2_method_17_code 1 = .ok (.getfield 13, 3) := by decide +kernel
theorem own_d6_4 : decode prog_2_method_17_code 4 = .ok (.dreturn, 1) := by decide +kernel
theorem own_efL (m : MethodId) (x0 : Addr) : entryFrame m #[(.ref x0)] 1 = mkF m 0 #[rv x0] [] := by first | (simp [entryFrame, mkF, argsToLocals, Value.category]; done) | rfl
def QL (Z : State) (a2 : Addr) (v2 : UInt64) (h0 : Heap) (n0 : Nat) (v : Option Value) (h : Heap) (L : List Loc) : Prop := v = some (.double v2) ∧ Fr n0 L ∧ h = h0
set_option maxRecDepth 65536 in
set_option maxHeartbeats 40000000 in
theorem rmL (l : Launch) (Z : State) (a0 : Array Value) (hw : ∀ d ∈ tables_1, d.before a0 Z = true) (ws : List Jvm.Cond) (a2 : Addr) (v2 : UInt64) (h0 : Heap) (n0 : Nat) (Z0 : n0 ≤ h0.size) (F2 : Fld Z h0 a2 "com/example/gyre/gyre/DoubleDouble" "lo" "D" (.double v2)) :
    MetFree l (⟨"com/example/gyre/gyre/DoubleDouble", "lo", "()D"⟩ : MethodName) (head1 (Jvm.Cond.code (⟨"com/example/gyre/gyre/DoubleDouble", "lo", "()D"⟩ : MethodName) prog_2_method_17_code 1 (some .double) :: ws) (oR 0 0 0 0)) (fun a U => a = #[(.ref a2)] ∧ Z.Warmed39 U.vm ∧ U.heap = h0) (fun _ _ _ _ _ => True) (fun _ U o U' => ∃ v L, o = .returned v ∧ QL Z a2 v2 h0 n0 v U'.heap L ∧ FrameEnd U o U' L (oR 0 0 0 0).cells (oR 0 0 0 0).slots) := by
  refine MetFree.of_bodySF (plainFor_of_name own_pn1) hisR ?_
  intro p e s m args below meth c s₁ Bd hml0 hP hK
  obtain ⟨rfl, hZ, hh⟩ := hP
  have hx := Bd.exec
  have hby := Bd.bytes
  have hlk : meth.locks = false := Bd.notSynchronized
  have hml : c.maxLocals = 1 := hml0
  have hown : s.vm.findClass "com/example/gyre/gyre/DoubleDouble" = some m.cls := findClass_of_methodNamed Bd.named
  have hnm := (name_of_methodNamed Bd.named Bd.method).1
  have X0 : Stand p l e (oR 0 0 0 0) s m #[(.ref a2)] below meth c s₁ [] 0 0 := Stand.of_body Bd
  have e0 : s₁.heap = h0 := by rw [← hh, Bd.state]; rfl
  have N0 := Fr.nil n0
  refine own_body (A := s₁.setTop (mkF m 0 #[rv a2] [])) (Q := QL Z a2 v2 h0 n0) (fun t k => castTop (own_efL m a2) k) ?_
  refine oALN (n := 1) X0 hx (hb hby own_d6_0) rfl rfl rfl ?_
  obtain ⟨T1, X1, e1, st1⟩ := getF X0 hx hZ hown (host := "") (Or.inl (oW hw 22 rfl)) Via.refl e0 F2 (g := (mkF m 1 #[rv a2] [(.ref a2)])) rfl rfl (hb hby own_d6_1)
  refine ov (B := T1.setTop (mkF m 4 #[rv a2] [(.double v2)])) (fun t k => st1 t k) ?_
  refine own_leaf X1 hx hlk (t := .double) Bd.returns rfl (Or.inr (Or.inr (Or.inl ⟨rfl, rfl, _, rfl⟩))) (hb hby own_d6_4) (by decide) (by decide) ?_
  show QL Z a2 v2 h0 n0 _ T1.heap _
  rw [e1]
  refine ⟨?_, N0, rfl⟩
  rfl
theorem own_pn2 : plainName "com/example/gyre/gyre/DoubleDoubleNormalizedPinLaw" = true := by first | (simp [plainName, overriddenIn]; done) | decide +kernel
theorem own_pd2 : parseMethodDescriptor "(DD)Lcom/example/gyre/gyre/DoubleDouble;" = some ⟨[.double, .double], some (.object "com/example/gyre/gyre/DoubleDouble")⟩ := by decide +kernel
theorem own_pd3 : parseMethodDescriptor "()D" = some ⟨[], some .double⟩ := by decide +kernel
theorem own_ef0 (m : MethodId) (x0 : Int64) (x1 : Int32) (x2 : Int32) (x3 : Int32) : entryFrame m #[(.long x0), (.int x1), (.int x2), (.int x3)] maxLocals = mkF m 0 #[.val (.long x0), .second, iv x1, iv x2, iv x3, uu, uu, uu, uu, uu, uu, uu, uu, uu, uu, uu, uu, uu, uu, uu, uu, uu] [] := by first | (simp [entryFrame, mkF, argsToLocals, Value.category, maxLocals]; done) | rfl
def Q0 (Z : State) (i0 : Int64) (i1 : Int32) (i2 : Int32) (i3 : Int32) (h0 : Heap) (n0 : Nat) (v : Option Value) (h : Heap) (L : List Loc) : Prop := v = some (.int 1) ∧ Fr n0 L
set_option maxRecDepth 65536 in
set_option maxHeartbeats 40000000 in
theorem rm0 (l : Launch) (Z : State) (a0 : Array Value) (hw : ∀ d ∈ tables_1, d.before a0 Z = true) (ws : List Jvm.Cond) (i0 : Int64) (i1 : Int32) (i2 : Int32) (i3 : Int32) (h0 : Heap) (n0 : Nat) (Z0 : n0 ≤ h0.size) :
    MetFree l x (head1 (Jvm.Cond.code x code maxLocals ret :: ws) room_1) (fun a U => a = #[(.long i0), (.int i1), (.int i2), (.int i3)] ∧ Z.Warmed39 U.vm ∧ U.heap = h0) (fun _ _ _ _ _ => True) (fun _ U o U' => ∃ v L, o = .returned v ∧ Q0 Z i0 i1 i2 i3 h0 n0 v U'.heap L ∧ FrameEnd U o U' L room_1.cells room_1.slots) := by
  refine MetFree.of_bodySF (plainFor_of_name own_pn2) hisR ?_
  intro p e s m args below meth c s₁ Bd hml0 hP hK
  obtain ⟨rfl, hZ, hh⟩ := hP
  have hx := Bd.exec
  have hby := Bd.bytes
  have hlk : meth.locks = false := Bd.notSynchronized
  have hml : c.maxLocals = 22 := hml0
  have hown : s.vm.findClass "com/example/gyre/gyre/DoubleDoubleNormalizedPinLaw" = some m.cls := findClass_of_methodNamed Bd.named
  have hnm := (name_of_methodNamed Bd.named Bd.method).1
  have X0 : Stand p l e room_1 s m #[(.long i0), (.int i1), (.int i2), (.int i3)] below meth c s₁ [] 0 0 := Stand.of_body Bd
  have e0 : s₁.heap = h0 := by rw [← hh, Bd.state]; rfl
  have N0 := Fr.nil n0
  refine own_body (A := s₁.setTop (mkF m 0 #[.val (.long i0), .second, iv i1, iv i2, iv i3, uu, uu, uu, uu, uu, uu, uu, uu, uu, uu, uu, uu, uu, uu, uu, uu, uu] [])) (Q := Q0 Z i0 i1 i2 i3 h0 n0) (fun t k => castTop (own_ef0 m i0 i1 i2 i3) k) ?_
  refine oIL (n := 2) X0 hx (hb hby at_0) rfl rfl ?_
  refine oIC (n := 3) X0 hx (2 : Int32) (hb hby at_2) (by decide) rfl ?_
  refine ov (B := s₁.setTop (mkF m 4 #[.val (.long i0), .second, iv i1, iv i2, iv i3, uu, uu, uu, uu, uu, uu, uu, uu, uu, uu, uu, uu, uu, uu, uu, uu, uu] [(.int (i3 &&& (2 : Int32)))])) (fun t k => XS.iand X0.here hx rfl (hb hby at_3) rfl k) ?_
  by_cases hc4 : (i3 &&& (2 : Int32)) = (0 : Int32)
  · refine ov (B := s₁.setTop (mkF m 46 #[.val (.long i0), .second, iv i1, iv i2, iv i3, uu, uu, uu, uu, uu, uu, uu, uu, uu, uu, uu, uu, uu, uu, uu, uu, uu] [])) (fun t k => XS.ifYes X0.here hx rfl (pc0 := 4) (pc' := 46) rfl (hb hby at_4) rfl ((if0 _ _).trans (teq hc4).1) (by decide) (by decide) k) ?_
    refine oILN (n := 47) X0 hx (hb hby at_46) rfl rfl ?_
    refine ov (B := s₁.setTop (mkF m 49 #[.val (.long i0), .second, iv i1, iv i2, iv i3, uu, uu, uu, uu, uu, uu, uu, uu, uu, uu, uu, uu, uu, uu, uu, uu, uu] [(.int (2147483647 : Int32)), (.int i1)])) (fun t k => X0.ldcInt hx hown (mvT hZ (oW hw 0 rfl)) (g := (mkF m 47 #[.val (.long i0), .second, iv i1, iv i2, iv i3, uu, uu, uu, uu, uu, uu, uu, uu, uu, uu, uu, uu, uu, uu, uu, uu, uu] [(.int i1)])) rfl (hb hby at_47) _ k) ?_
    refine ov (B := s₁.setTop (mkF m 50 #[.val (.long i0), .second, iv i1, iv i2, iv i3, uu, uu, uu, uu, uu, uu, uu, uu, uu, uu, uu, uu, uu, uu, uu, uu, uu] [(.int (i1 &&& (2147483647 : Int32)))])) (fun t k => XS.iand X0.here hx rfl (hb hby at_49) rfl k) ?_
    refine oBP (n := 52) X0 hx (10 : Int32) (hb hby at_50) (by decide) rfl ?_
    refine ov (B := s₁.setTop (mkF m 53 #[.val (.long i0), .second, iv i1, iv i2, iv i3, uu, uu, uu, uu, uu, uu, uu, uu, uu, uu, uu, uu, uu, uu, uu, uu, uu] [(.int ((i1 &&& (2147483647 : Int32)) % (10 : Int32)))])) (fun t k => iremM X0 hx rfl (hb hby at_52) rfl (by decide) k) ?_
    refine ov (B := s₁.setTop (mkF m 55 #[.val (.long i0), .second, iv i1, iv i2, iv i3, iv ((i1 &&& (2147483647 : Int32)) % (10 : Int32)), uu, uu, uu, uu, uu, uu, uu, uu, uu, uu, uu, uu, uu, uu, uu, uu] [])) (fun t k => XS.istore X0.here hx rfl (hb hby at_53) rfl (l' := #[.val (.long i0), .second, iv i1, iv i2, iv i3, iv ((i1 &&& (2147483647 : Int32)) % (10 : Int32)), uu, uu, uu, uu, uu, uu, uu, uu, uu, uu, uu, uu, uu, uu, uu, uu]) rfl k) ?_
    generalize hs53 : ((i1 &&& (2147483647 : Int32)) % (10 : Int32)) = s53
    refine ov (B := s₁.setTop (mkF m 58 #[.val (.long i0), .second, iv i1, iv i2, iv i3, iv s53, uu, uu, uu, uu, uu, uu, uu, uu, uu, uu, uu, uu, uu, uu, uu, uu] [(.long (4503599627370496 : Int64))])) (fun t k => X0.ldc2Long hx hown (mvT hZ (oW hw 1 rfl)) (g := (mkF m 55 #[.val (.long i0), .second, iv i1, iv i2, iv i3, iv s53, uu, uu, uu, uu, uu, uu, uu, uu, uu, uu, uu, uu, uu, uu, uu, uu] [])) rfl (hb hby at_55) _ k) ?_
    refine ov (B := s₁.setTop (mkF m 59 #[.val (.long i0), .second, iv i1, iv i2, iv i3, iv s53, uu, uu, uu, uu, uu, uu, uu, uu, uu, uu, uu, uu, uu, uu, uu, uu] [(.long i0), (.long (4503599627370496 : Int64))])) (fun t k => XS.lloadN X0.here hx rfl (hb hby at_58) rfl k) ?_
    refine ov (B := s₁.setTop (mkF m 62 #[.val (.long i0), .second, iv i1, iv i2, iv i3, iv s53, uu, uu, uu, uu, uu, uu, uu, uu, uu, uu, uu, uu, uu, uu, uu, uu] [(.long (4503599627370495 : Int64)), (.long i0), (.long (4503599627370496 : Int64))])) (fun t k => X0.ldc2Long hx hown (mvT hZ (oW hw 2 rfl)) (g := (mkF m 59 #[.val (.long i0), .second, iv i1, iv i2, iv i3, iv s53, uu, uu, uu, uu, uu, uu, uu, uu, uu, uu, uu, uu, uu, uu, uu, uu] [(.long i0), (.long (4503599627370496 : Int64))])) rfl (hb hby at_59) _ k) ?_
    refine ov (B := s₁.setTop (mkF m 63 #[.val (.long i0), .second, iv i1, iv i2, iv i3, iv s53, uu, uu, uu, uu, uu, uu, uu, uu, uu, uu, uu, uu, uu, uu, uu, uu] [(.long (i0 &&& (4503599627370495 : Int64))), (.long (4503599627370496 : Int64))])) (fun t k => XS.land X0.here hx rfl (hb hby at_62) rfl k) ?_
    refine ov (B := s₁.setTop (mkF m 64 #[.val (.long i0), .second, iv i1, iv i2, iv i3, iv s53, uu, uu, uu, uu, uu, uu, uu, uu, uu, uu, uu, uu, uu, uu, uu, uu] [(.long ((4503599627370496 : Int64) + (i0 &&& (4503599627370495 : Int64))))])) (fun t k => XS.ladd X0.here hx rfl (hb hby at_63) rfl k) ?_
    refine ov (B := s₁.setTop (mkF m 66 #[.val (.long i0), .second, iv i1, iv i2, iv i3, iv s53, .val (.long ((4503599627370496 : Int64) + (i0 &&& (4503599627370495 : Int64)))), .second, uu, uu, uu, uu, uu, uu, uu, uu, uu, uu, uu, uu, uu, uu] [])) (fun t k => XS.lstore X0.here hx rfl (hb hby at_64) rfl (l' := #[.val (.long i0), .second, iv i1, iv i2, iv i3, iv s53, .val (.long ((4503599627370496 : Int64) + (i0 &&& (4503599627370495 : Int64)))), .second, uu, uu, uu, uu, uu, uu, uu, uu, uu, uu, uu, uu, uu, uu]) rfl k) ?_
    generalize hs64 : ((4503599627370496 : Int64) + (i0 &&& (4503599627370495 : Int64))) = s64
    refine ov (B := s₁.setTop (mkF m 68 #[.val (.long i0), .second, iv i1, iv i2, iv i3, iv s53, .val (.long s64), .second, uu, uu, uu, uu, uu, uu, uu, uu, uu, uu, uu, uu, uu, uu] [(.long s64)])) (fun t k => XS.lload X0.here hx rfl (hb hby at_66) rfl k) ?_
    refine oIL (n := 70) X0 hx (hb hby at_68) rfl rfl ?_
    refine ov (B := s₁.setTop (mkF m 71 #[.val (.long i0), .second, iv i1, iv i2, iv i3, iv s53, .val (.long s64), .second, uu, uu, uu, uu, uu, uu, uu, uu, uu, uu, uu, uu, uu, uu] [(.long (s64 <<< (s53 &&& 0x3f).toInt64))])) (fun t k => XS.lshl X0.here hx rfl (hb hby at_70) rfl k) ?_
    refine ov (B := s₁.setTop (mkF m 73 #[.val (.long i0), .second, iv i1, iv i2, iv i3, iv s53, .val (.long s64), .second, .val (.long (s64 <<< (s53 &&& 0x3f).toInt64)), .second, uu, uu, uu, uu, uu, uu, uu, uu, uu, uu, uu, uu] [])) (fun t k => XS.lstore X0.here hx rfl (hb hby at_71) rfl (l' := #[.val (.long i0), .second, iv i1, iv i2, iv i3, iv s53, .val (.long s64), .second, .val (.long (s64 <<< (s53 &&& 0x3f).toInt64)), .second, uu, uu, uu, uu, uu, uu, uu, uu, uu, uu, uu, uu]) rfl k) ?_
    generalize hs71 : (s64 <<< (s53 &&& 0x3f).toInt64) = s71
    refine oIL (n := 75) X0 hx (hb hby at_73) rfl rfl ?_
    refine oIC (n := 76) X0 hx (1 : Int32) (hb hby at_75) (by decide) rfl ?_
    refine ov (B := s₁.setTop (mkF m 77 #[.val (.long i0), .second, iv i1, iv i2, iv i3, iv s53, .val (.long s64), .second, .val (.long s71), .second, uu, uu, uu, uu, uu, uu, uu, uu, uu, uu, uu, uu] [(.int (i3 &&& (1 : Int32)))])) (fun t k => XS.iand X0.here hx rfl (hb hby at_76) rfl k) ?_
    refine own_bind (G := fun B => ∃ (T' : State) (L' : List Loc) (v77s0 : Int64), Fr n0 L' ∧ ((((i3 &&& (1 : Int32)) = (0 : Int32)) ∧ v77s0 = s71) ∨ ((¬ ((i3 &&& (1 : Int32)) = (0 : Int32))) ∧ v77s0 = (-s71))) ∧ B = T'.setTop (mkF m 88 #[.val (.long i0), .second, iv i1, iv i2, iv i3, iv s53, .val (.long s64), .second, .val (.long s71), .second, uu, uu, uu, uu, uu, uu, uu, uu, uu, uu, uu, uu] [(.long v77s0)]) ∧ Stand p l e room_1 s m #[(.long i0), (.int i1), (.int i2), (.int i3)] below meth c T' L' 0 0 ∧ T'.heap = h0) ?_ ?_
    · by_cases hc77 : (i3 &&& (1 : Int32)) = (0 : Int32)
      · refine ov (B := s₁.setTop (mkF m 86 #[.val (.long i0), .second, iv i1, iv i2, iv i3, iv s53, .val (.long s64), .second, .val (.long s71), .second, uu, uu, uu, uu, uu, uu, uu, uu, uu, uu, uu, uu] [])) (fun t k => XS.ifYes X0.here hx rfl (pc0 := 77) (pc' := 86) rfl (hb hby at_77) rfl ((if0 _ _).trans (teq hc77).1) (by decide) (by decide) k) ?_
        refine ov (B := s₁.setTop (mkF m 88 #[.val (.long i0), .second, iv i1, iv i2, iv i3, iv s53, .val (.long s64), .second, .val (.long s71), .second, uu, uu, uu, uu, uu, uu, uu, uu, uu, uu, uu, uu] [(.long s71)])) (fun t k => XS.lload X0.here hx rfl (hb hby at_86) rfl k) ?_
        exact own_done ⟨_, _, _, N0, (Or.inl ⟨hc77, rfl⟩), rfl, X0, e0⟩
      · refine ov (B := s₁.setTop (mkF m 80 #[.val (.long i0), .second, iv i1, iv i2, iv i3, iv s53, .val (.long s64), .second, .val (.long s71), .second, uu, uu, uu, uu, uu, uu, uu, uu, uu, uu, uu, uu] [])) (fun t k => XS.ifNo X0.here hx rfl (hb hby at_77) rfl ((if0 _ _).trans (feq hc77).1) k) ?_
        refine ov (B := s₁.setTop (mkF m 82 #[.val (.long i0), .second, iv i1, iv i2, iv i3, iv s53, .val (.long s64), .second, .val (.long s71), .second, uu, uu, uu, uu, uu, uu, uu, uu, uu, uu, uu, uu] [(.long s71)])) (fun t k => XS.lload X0.here hx rfl (hb hby at_80) rfl k) ?_
        refine ov (B := s₁.setTop (mkF m 83 #[.val (.long i0), .second, iv i1, iv i2, iv i3, iv s53, .val (.long s64), .second, .val (.long s71), .second, uu, uu, uu, uu, uu, uu, uu, uu, uu, uu, uu, uu] [(.long (-s71))])) (fun t k => XS.lneg X0.here hx rfl (hb hby at_82) rfl k) ?_
        refine oGO (n := 88) X0 hx (hb hby at_83) (by decide) (by decide) ?_
        exact own_done ⟨_, _, _, N0, (Or.inr ⟨hc77, rfl⟩), rfl, X0, e0⟩
    · rintro B ⟨T1, L1, v77s0, N1, hv77, rfl, X1, e1⟩
      refine ov (B := T1.setTop (mkF m 90 #[.val (.long i0), .second, iv i1, iv i2, iv i3, iv s53, .val (.long s64), .second, .val (.long s71), .second, .val (.long v77s0), .second, uu, uu, uu, uu, uu, uu, uu, uu, uu, uu] [])) (fun t k => XS.lstore X1.here hx rfl (hb hby at_88) rfl (l' := #[.val (.long i0), .second, iv i1, iv i2, iv i3, iv s53, .val (.long s64), .second, .val (.long s71), .second, .val (.long v77s0), .second, uu, uu, uu, uu, uu, uu, uu, uu, uu, uu]) rfl k) ?_
      refine oBP (n := 92) X1 hx (8 : Int32) (hb hby at_90) (by decide) rfl ?_
      refine oIL (n := 94) X1 hx (hb hby at_92) rfl rfl ?_
      refine ov (B := T1.setTop (mkF m 95 #[.val (.long i0), .second, iv i1, iv i2, iv i3, iv s53, .val (.long s64), .second, .val (.long s71), .second, .val (.long v77s0), .second, uu, uu, uu, uu, uu, uu, uu, uu, uu, uu] [(.int ((8 : Int32) <<< (s53 &&& 31)))])) (fun t k => XS.ishl X1.here hx rfl (hb hby at_94) rfl k) ?_
      refine ov (B := T1.setTop (mkF m 97 #[.val (.long i0), .second, iv i1, iv i2, iv i3, iv s53, .val (.long s64), .second, .val (.long s71), .second, .val (.long v77s0), .second, iv ((8 : Int32) <<< (s53 &&& 31)), uu, uu, uu, uu, uu, uu, uu, uu, uu] [])) (fun t k => XS.istore X1.here hx rfl (hb hby at_95) rfl (l' := #[.val (.long i0), .second, iv i1, iv i2, iv i3, iv s53, .val (.long s64), .second, .val (.long s71), .second, .val (.long v77s0), .second, iv ((8 : Int32) <<< (s53 &&& 31)), uu, uu, uu, uu, uu, uu, uu, uu, uu]) rfl k) ?_
      generalize hs95 : ((8 : Int32) <<< (s53 &&& 31)) = s95
      refine oILN (n := 98) X1 hx (hb hby at_97) rfl rfl ?_
      refine ov (B := T1.setTop (mkF m 100 #[.val (.long i0), .second, iv i1, iv i2, iv i3, iv s53, .val (.long s64), .second, .val (.long s71), .second, .val (.long v77s0), .second, iv s95, uu, uu, uu, uu, uu, uu, uu, uu, uu] [(.int (2147483647 : Int32)), (.int i2)])) (fun t k => X1.ldcInt hx hown (mvT hZ (oW hw 0 rfl)) (g := (mkF m 98 #[.val (.long i0), .second, iv i1, iv i2, iv i3, iv s53, .val (.long s64), .second, .val (.long s71), .second, .val (.long v77s0), .second, iv s95, uu, uu, uu, uu, uu, uu, uu, uu, uu] [(.int i2)])) rfl (hb hby at_98) _ k) ?_
      refine ov (B := T1.setTop (mkF m 101 #[.val (.long i0), .second, iv i1, iv i2, iv i3, iv s53, .val (.long s64), .second, .val (.long s71), .second, .val (.long v77s0), .second, iv s95, uu, uu, uu, uu, uu, uu, uu, uu, uu] [(.int (i2 &&& (2147483647 : Int32)))])) (fun t k => XS.iand X1.here hx rfl (hb hby at_100) rfl k) ?_
      refine oIC (n := 102) X1 hx (2 : Int32) (hb hby at_101) (by decide) rfl ?_
      refine oIL (n := 104) X1 hx (hb hby at_102) rfl rfl ?_
      refine ov (B := T1.setTop (mkF m 105 #[.val (.long i0), .second, iv i1, iv i2, iv i3, iv s53, .val (.long s64), .second, .val (.long s71), .second, .val (.long v77s0), .second, iv s95, uu, uu, uu, uu, uu, uu, uu, uu, uu] [(.int ((2 : Int32) * s95)), (.int (i2 &&& (2147483647 : Int32)))])) (fun t k => XS.imul X1.here hx rfl (hb hby at_104) rfl k) ?_
      refine oIC (n := 106) X1 hx (1 : Int32) (hb hby at_105) (by decide) rfl ?_
      refine ov (B := T1.setTop (mkF m 107 #[.val (.long i0), .second, iv i1, iv i2, iv i3, iv s53, .val (.long s64), .second, .val (.long s71), .second, .val (.long v77s0), .second, iv s95, uu, uu, uu, uu, uu, uu, uu, uu, uu] [(.int (((2 : Int32) * s95) + (1 : Int32))), (.int (i2 &&& (2147483647 : Int32)))])) (fun t k => XS.iadd X1.here hx rfl (hb hby at_106) rfl k) ?_
      have hBz : 8 ≤ s95.toInt ∧ s95.toInt ≤ 4096 := by
        obtain ⟨k, hk⟩ := own_e10 (e := s53) (by rw [← hs53]; exact own_modm _ 10 (by decide))
        rw [← hs95, hk]; exact own_bd k
      refine ov (B := T1.setTop (mkF m 108 #[.val (.long i0), .second, iv i1, iv i2, iv i3, iv s53, .val (.long s64), .second, .val (.long s71), .second, .val (.long v77s0), .second, iv s95, uu, uu, uu, uu, uu, uu, uu, uu, uu] [(.int ((i2 &&& (2147483647 : Int32)) % (((2 : Int32) * s95) + (1 : Int32))))])) (fun t k => iremM X1 hx rfl (hb hby at_107) rfl (own_kz hBz) k) ?_
      refine ov (B := T1.setTop (mkF m 109 #[.val (.long i0), .second, iv i1, iv i2, iv i3, iv s53, .val (.long s64), .second, .val (.long s71), .second, .val (.long v77s0), .second, iv s95, uu, uu, uu, uu, uu, uu, uu, uu, uu] [(.long (((i2 &&& (2147483647 : Int32)) % (((2 : Int32) * s95) + (1 : Int32))).toInt64))])) (fun t k => XS.i2l X1.here hx rfl (hb hby at_108) rfl k) ?_
      refine oIL (n := 111) X1 hx (hb hby at_109) rfl rfl ?_
      refine ov (B := T1.setTop (mkF m 112 #[.val (.long i0), .second, iv i1, iv i2, iv i3, iv s53, .val (.long s64), .second, .val (.long s71), .second, .val (.long v77s0), .second, iv s95, uu, uu, uu, uu, uu, uu, uu, uu, uu] [(.long (s95.toInt64)), (.long (((i2 &&& (2147483647 : Int32)) % (((2 : Int32) * s95) + (1 : Int32))).toInt64))])) (fun t k => XS.i2l X1.here hx rfl (hb hby at_111) rfl k) ?_
      refine ov (B := T1.setTop (mkF m 113 #[.val (.long i0), .second, iv i1, iv i2, iv i3, iv s53, .val (.long s64), .second, .val (.long s71), .second, .val (.long v77s0), .second, iv s95, uu, uu, uu, uu, uu, uu, uu, uu, uu] [(.long ((((i2 &&& (2147483647 : Int32)) % (((2 : Int32) * s95) + (1 : Int32))).toInt64) - (s95.toInt64)))])) (fun t k => XS.lsub X1.here hx rfl (hb hby at_112) rfl k) ?_
      refine ov (B := T1.setTop (mkF m 115 #[.val (.long i0), .second, iv i1, iv i2, iv i3, iv s53, .val (.long s64), .second, .val (.long s71), .second, .val (.long v77s0), .second, iv s95, .val (.long ((((i2 &&& (2147483647 : Int32)) % (((2 : Int32) * s95) + (1 : Int32))).toInt64) - (s95.toInt64))), .second, uu, uu, uu, uu, uu, uu, uu] [])) (fun t k => XS.lstore X1.here hx rfl (hb hby at_113) rfl (l' := #[.val (.long i0), .second, iv i1, iv i2, iv i3, iv s53, .val (.long s64), .second, .val (.long s71), .second, .val (.long v77s0), .second, iv s95, .val (.long ((((i2 &&& (2147483647 : Int32)) % (((2 : Int32) * s95) + (1 : Int32))).toInt64) - (s95.toInt64))), .second, uu, uu, uu, uu, uu, uu, uu]) rfl k) ?_
      generalize hs113 : ((((i2 &&& (2147483647 : Int32)) % (((2 : Int32) * s95) + (1 : Int32))).toInt64) - (s95.toInt64)) = s113
      have hE : 0 ≤ s53.toInt ∧ s53.toInt < 10 := (by rw [← hs53]; exact own_modm _ 10 (by decide))
      have hBd : 8 ≤ s95.toInt ∧ s95.toInt ≤ 4096 := by
        obtain ⟨k, hk⟩ := own_e10 hE
        rw [← hs95, hk]; exact own_bd k
      have hL : s113.toInt.natAbs ≤ 4096 := by rw [← hs113]; exact own_l hBd
      have hH := own_hB (x := i0) (v := v77s0) hE (by
        rcases hv77 with ⟨_, q⟩ | ⟨_, q⟩
        · exact Or.inl (by rw [q, ← hs71, ← hs64])
        · exact Or.inr (by rw [q, ← hs71, ← hs64]))
      obtain ⟨mH, kH, m1, m2, m3, m4, m5⟩ := hH
      have hQ := own_nB (own_Wm m1 m2 m3 m4) m5 hL
      refine ov (B := T1.setTop (mkF m 117 #[.val (.long i0), .second, iv i1, iv i2, iv i3, iv s53, .val (.long s64), .second, .val (.long s71), .second, .val (.long v77s0), .second, iv s95, .val (.long s113), .second, uu, uu, uu, uu, uu, uu, uu] [(.long v77s0)])) (fun t k => XS.lload X1.here hx rfl (hb hby at_115) rfl k) ?_
      refine ov (B := T1.setTop (mkF m 118 #[.val (.long i0), .second, iv i1, iv i2, iv i3, iv s53, .val (.long s64), .second, .val (.long s71), .second, .val (.long v77s0), .second, iv s95, .val (.long s113), .second, uu, uu, uu, uu, uu, uu, uu] [(.double (FP.l2d v77s0))])) (fun t k => XS.l2dS X1.here hx rfl (hb hby at_117) rfl rfl k) ?_
      refine ov (B := T1.setTop (mkF m 120 #[.val (.long i0), .second, iv i1, iv i2, iv i3, iv s53, .val (.long s64), .second, .val (.long s71), .second, .val (.long v77s0), .second, iv s95, .val (.long s113), .second, uu, uu, uu, uu, uu, uu, uu] [(.long s113), (.double (FP.l2d v77s0))])) (fun t k => XS.lload X1.here hx rfl (hb hby at_118) rfl k) ?_
      refine ov (B := T1.setTop (mkF m 121 #[.val (.long i0), .second, iv i1, iv i2, iv i3, iv s53, .val (.long s64), .second, .val (.long s71), .second, .val (.long v77s0), .second, iv s95, .val (.long s113), .second, uu, uu, uu, uu, uu, uu, uu] [(.double (FP.l2d s113)), (.double (FP.l2d v77s0))])) (fun t k => XS.l2dS X1.here hx rfl (hb hby at_120) rfl rfl k) ?_
      obtain ⟨_, _, ⟨T2, L2, k2, n2⟩, -, X2, ⟨Lc2, hQ2, l2, y2, z2⟩, st2⟩ := Jvm.LawKit.callS X1 hx (y := (⟨"com/example/gyre/gyre/DoubleDouble", "normalized", "(DD)Lcom/example/gyre/gyre/DoubleDouble;"⟩ : MethodName)) hown (mvT hZ (oW hw 3 rfl)) (mvT hZ (oW hw 4 rfl)) (mvT hZ (oW hw 5 rfl)) (mvT hZ (oW hw 6 rfl)) (by decide) (backOf (W := 0) (rmN l Z a0 hw [] (FP.l2d v77s0) (FP.l2d s113) (FP.l2d (v77s0 + s113)) (FP.l2d ((FP.d2l (FP.l2d (v77s0 + s113))) - v77s0)) (FP.l2d ((v77s0 + s113) - (FP.d2l (FP.l2d (v77s0 + s113))))) h0 n0 Z0 hQ.1 hQ.2.1 hQ.2.2 (own_nnl _) (own_nnl _) (own_nnl _)) hZ (oW hw 6 rfl) (oW hw 5 rfl) (by decide) (by decide)) (g := (mkF m 121 #[.val (.long i0), .second, iv i1, iv i2, iv i3, iv s53, .val (.long s64), .second, .val (.long s71), .second, .val (.long v77s0), .second, iv s95, .val (.long s113), .second, uu, uu, uu, uu, uu, uu, uu] [(.double (FP.l2d s113)), (.double (FP.l2d v77s0))])) rfl (by rw [hml]; rfl) (argsL := [(.double (FP.l2d v77s0)), (.double (FP.l2d s113))]) (rest := []) (lenOf own_pd2 rfl) rfl (by show 2 * 0 + _ ≤ _; exact Nat.le_of_eq rfl) (hb hby at_121) (fun _ _ => ⟨rfl, e1, (by decide : 0 + 1 ≤ _), (by decide : 0 + 2 ≤ _)⟩)
      dsimp only [Pt.U, Pt.locs, Pt.cells, Pt.slots] at X2 l2 y2 z2 st2 hQ2
      subst l2 y2 z2
      obtain ⟨r_2, rfl, Nq2, Kq2, f2_0, f2_1, f2_2⟩ := hQ2
      have N2 := Fr.app N1 Nq2
      refine ov (B := T2.setTop (mkF m 124 #[.val (.long i0), .second, iv i1, iv i2, iv i3, iv s53, .val (.long s64), .second, .val (.long s71), .second, .val (.long v77s0), .second, iv s95, .val (.long s113), .second, uu, uu, uu, uu, uu, uu, uu] [(.ref r_2)])) (fun t k => st2 t k) ?_
      refine ov (B := T2.setTop (mkF m 126 #[.val (.long i0), .second, iv i1, iv i2, iv i3, iv s53, .val (.long s64), .second, .val (.long s71), .second, .val (.long v77s0), .second, iv s95, .val (.long s113), .second, rv r_2, uu, uu, uu, uu, uu, uu] [])) (fun t k => XS.astore X2.here hx rfl (hb hby at_124) rfl rfl (l' := #[.val (.long i0), .second, iv i1, iv i2, iv i3, iv s53, .val (.long s64), .second, .val (.long s71), .second, .val (.long v77s0), .second, iv s95, .val (.long s113), .second, rv r_2, uu, uu, uu, uu, uu, uu]) rfl k) ?_
      refine ov (B := T2.setTop (mkF m 128 #[.val (.long i0), .second, iv i1, iv i2, iv i3, iv s53, .val (.long s64), .second, .val (.long s71), .second, .val (.long v77s0), .second, iv s95, .val (.long s113), .second, rv r_2, uu, uu, uu, uu, uu, uu] [(.long v77s0)])) (fun t k => XS.lload X2.here hx rfl (hb hby at_126) rfl k) ?_
      refine ov (B := T2.setTop (mkF m 130 #[.val (.long i0), .second, iv i1, iv i2, iv i3, iv s53, .val (.long s64), .second, .val (.long s71), .second, .val (.long v77s0), .second, iv s95, .val (.long s113), .second, rv r_2, uu, uu, uu, uu, uu, uu] [(.long s113), (.long v77s0)])) (fun t k => XS.lload X2.here hx rfl (hb hby at_128) rfl k) ?_
      refine ov (B := T2.setTop (mkF m 131 #[.val (.long i0), .second, iv i1, iv i2, iv i3, iv s53, .val (.long s64), .second, .val (.long s71), .second, .val (.long v77s0), .second, iv s95, .val (.long s113), .second, rv r_2, uu, uu, uu, uu, uu, uu] [(.long (v77s0 + s113))])) (fun t k => XS.ladd X2.here hx rfl (hb hby at_130) rfl k) ?_
      refine ov (B := T2.setTop (mkF m 133 #[.val (.long i0), .second, iv i1, iv i2, iv i3, iv s53, .val (.long s64), .second, .val (.long s71), .second, .val (.long v77s0), .second, iv s95, .val (.long s113), .second, rv r_2, .val (.long (v77s0 + s113)), .second, uu, uu, uu, uu] [])) (fun t k => XS.lstore X2.here hx rfl (hb hby at_131) rfl (l' := #[.val (.long i0), .second, iv i1, iv i2, iv i3, iv s53, .val (.long s64), .second, .val (.long s71), .second, .val (.long v77s0), .second, iv s95, .val (.long s113), .second, rv r_2, .val (.long (v77s0 + s113)), .second, uu, uu, uu, uu]) rfl k) ?_
      refine oAL (n := 135) X2 hx (hb hby at_133) rfl rfl rfl ?_
      obtain ⟨cq3, kq3, q3a, q3b, q3c⟩ := isOf hZ rfl f2_0
      obtain ⟨_, _, ⟨T3, L3, k3, n3⟩, -, X3, ⟨Lc3, hQ3, l3, y3, z3⟩, st3⟩ := X2.virtualBack hx (y := (⟨"com/example/gyre/gyre/DoubleDouble", "hi", "()D"⟩ : MethodName)) (z := (⟨"com/example/gyre/gyre/DoubleDouble", "hi", "()D"⟩ : MethodName)) hown (mvT hZ (oW hw 24 rfl)) (mvT hZ (oW hw 25 rfl)) (notFace_of_selects (args := #[]) (mvT hZ (oW hw 27 rfl))) (mvT hZ (oW hw 27 rfl)) (mvT hZ (oW hw 26 rfl)) (by decide) (backOf (W := 0) (rmG l Z a0 hw [] r_2 (FP.l2d (v77s0 + s113)) T2.heap n0 (Nat.le_trans Z0 Kq2.1) f2_1) hZ (oW hw 28 rfl) (oW hw 5 rfl) (by decide) (by decide)) q3a q3c (g := (mkF m 135 #[.val (.long i0), .second, iv i1, iv i2, iv i3, iv s53, .val (.long s64), .second, .val (.long s71), .second, .val (.long v77s0), .second, iv s95, .val (.long s113), .second, rv r_2, .val (.long (v77s0 + s113)), .second, uu, uu, uu, uu] [(.ref r_2)])) rfl (by rw [hml]; rfl) (Steps.refl _) (argsL := []) (rest := []) (lenOf own_pd3 rfl) rfl (by show 2 * 0 + _ ≤ _; exact Nat.le_of_eq rfl) (hb hby at_135) (fun _ _ => ⟨rfl, rfl, (by decide : (0 + 1) + 0 ≤ _), (by decide : (0 + 2) + 0 ≤ _)⟩)
      dsimp only [Pt.U, Pt.locs, Pt.cells, Pt.slots] at X3 l3 y3 z3 st3 hQ3
      subst l3 y3 z3
      obtain ⟨rfl, Nq3, eq3⟩ := hQ3
      have N3 := Fr.app N2 Nq3
      refine ov (B := T3.setTop (mkF m 138 #[.val (.long i0), .second, iv i1, iv i2, iv i3, iv s53, .val (.long s64), .second, .val (.long s71), .second, .val (.long v77s0), .second, iv s95, .val (.long s113), .second, rv r_2, .val (.long (v77s0 + s113)), .second, uu, uu, uu, uu] [(.double (FP.l2d (v77s0 + s113)))])) (fun t k => st3.trans k) ?_
      refine ov (B := T3.setTop (mkF m 140 #[.val (.long i0), .second, iv i1, iv i2, iv i3, iv s53, .val (.long s64), .second, .val (.long s71), .second, .val (.long v77s0), .second, iv s95, .val (.long s113), .second, rv r_2, .val (.long (v77s0 + s113)), .second, .val (.double (FP.l2d (v77s0 + s113))), .second, uu, uu] [])) (fun t k => XS.dstore X3.here hx rfl (hb hby at_138) rfl (l' := #[.val (.long i0), .second, iv i1, iv i2, iv i3, iv s53, .val (.long s64), .second, .val (.long s71), .second, .val (.long v77s0), .second, iv s95, .val (.long s113), .second, rv r_2, .val (.long (v77s0 + s113)), .second, .val (.double (FP.l2d (v77s0 + s113))), .second, uu, uu]) rfl k) ?_
      refine ov (B := T3.setTop (mkF m 142 #[.val (.long i0), .second, iv i1, iv i2, iv i3, iv s53, .val (.long s64), .second, .val (.long s71), .second, .val (.long v77s0), .second, iv s95, .val (.long s113), .second, rv r_2, .val (.long (v77s0 + s113)), .second, .val (.double (FP.l2d (v77s0 + s113))), .second, uu, uu] [(.double (FP.l2d (v77s0 + s113)))])) (fun t k => XS.dload X3.here hx rfl (hb hby at_140) rfl k) ?_
      refine ov (B := T3.setTop (mkF m 144 #[.val (.long i0), .second, iv i1, iv i2, iv i3, iv s53, .val (.long s64), .second, .val (.long s71), .second, .val (.long v77s0), .second, iv s95, .val (.long s113), .second, rv r_2, .val (.long (v77s0 + s113)), .second, .val (.double (FP.l2d (v77s0 + s113))), .second, uu, uu] [(.long (v77s0 + s113)), (.double (FP.l2d (v77s0 + s113)))])) (fun t k => XS.lload X3.here hx rfl (hb hby at_142) rfl k) ?_
      refine ov (B := T3.setTop (mkF m 145 #[.val (.long i0), .second, iv i1, iv i2, iv i3, iv s53, .val (.long s64), .second, .val (.long s71), .second, .val (.long v77s0), .second, iv s95, .val (.long s113), .second, rv r_2, .val (.long (v77s0 + s113)), .second, .val (.double (FP.l2d (v77s0 + s113))), .second, uu, uu] [(.double (FP.l2d (v77s0 + s113))), (.double (FP.l2d (v77s0 + s113)))])) (fun t k => XS.l2dS X3.here hx rfl (hb hby at_144) rfl rfl k) ?_
      refine ov (B := T3.setTop (mkF m 146 #[.val (.long i0), .second, iv i1, iv i2, iv i3, iv s53, .val (.long s64), .second, .val (.long s71), .second, .val (.long v77s0), .second, iv s95, .val (.long s113), .second, rv r_2, .val (.long (v77s0 + s113)), .second, .val (.double (FP.l2d (v77s0 + s113))), .second, uu, uu] [(.int (cmpValue (FP.dcmp (FP.l2d (v77s0 + s113)) (FP.l2d (v77s0 + s113))) .l))])) (fun t k => XS.dcmpS X3.here hx rfl (hb hby at_145) rfl rfl k) ?_
      have hc146 : (cmpValue (FP.dcmp (FP.l2d (v77s0 + s113)) (FP.l2d (v77s0 + s113))) .l) = (0 : Int32) := own_selfd _
      refine ov (B := T3.setTop (mkF m 151 #[.val (.long i0), .second, iv i1, iv i2, iv i3, iv s53, .val (.long s64), .second, .val (.long s71), .second, .val (.long v77s0), .second, iv s95, .val (.long s113), .second, rv r_2, .val (.long (v77s0 + s113)), .second, .val (.double (FP.l2d (v77s0 + s113))), .second, uu, uu] [])) (fun t k => XS.ifYes X3.here hx rfl (pc0 := 146) (pc' := 151) rfl (hb hby at_146) rfl ((if0 _ _).trans (teq hc146).1) (by decide) (by decide) k) ?_
      refine ov (B := T3.setTop (mkF m 153 #[.val (.long i0), .second, iv i1, iv i2, iv i3, iv s53, .val (.long s64), .second, .val (.long s71), .second, .val (.long v77s0), .second, iv s95, .val (.long s113), .second, rv r_2, .val (.long (v77s0 + s113)), .second, .val (.double (FP.l2d (v77s0 + s113))), .second, uu, uu] [(.long (v77s0 + s113))])) (fun t k => XS.lload X3.here hx rfl (hb hby at_151) rfl k) ?_
      refine ov (B := T3.setTop (mkF m 155 #[.val (.long i0), .second, iv i1, iv i2, iv i3, iv s53, .val (.long s64), .second, .val (.long s71), .second, .val (.long v77s0), .second, iv s95, .val (.long s113), .second, rv r_2, .val (.long (v77s0 + s113)), .second, .val (.double (FP.l2d (v77s0 + s113))), .second, uu, uu] [(.double (FP.l2d (v77s0 + s113))), (.long (v77s0 + s113))])) (fun t k => XS.dload X3.here hx rfl (hb hby at_153) rfl k) ?_
      refine ov (B := T3.setTop (mkF m 156 #[.val (.long i0), .second, iv i1, iv i2, iv i3, iv s53, .val (.long s64), .second, .val (.long s71), .second, .val (.long v77s0), .second, iv s95, .val (.long s113), .second, rv r_2, .val (.long (v77s0 + s113)), .second, .val (.double (FP.l2d (v77s0 + s113))), .second, uu, uu] [(.long (FP.d2l (FP.l2d (v77s0 + s113)))), (.long (v77s0 + s113))])) (fun t k => XS.d2lS X3.here hx rfl (hb hby at_155) rfl rfl k) ?_
      refine ov (B := T3.setTop (mkF m 157 #[.val (.long i0), .second, iv i1, iv i2, iv i3, iv s53, .val (.long s64), .second, .val (.long s71), .second, .val (.long v77s0), .second, iv s95, .val (.long s113), .second, rv r_2, .val (.long (v77s0 + s113)), .second, .val (.double (FP.l2d (v77s0 + s113))), .second, uu, uu] [(.long ((v77s0 + s113) - (FP.d2l (FP.l2d (v77s0 + s113)))))])) (fun t k => XS.lsub X3.here hx rfl (hb hby at_156) rfl k) ?_
      refine ov (B := T3.setTop (mkF m 159 #[.val (.long i0), .second, iv i1, iv i2, iv i3, iv s53, .val (.long s64), .second, .val (.long s71), .second, .val (.long v77s0), .second, iv s95, .val (.long s113), .second, rv r_2, .val (.long (v77s0 + s113)), .second, .val (.double (FP.l2d (v77s0 + s113))), .second, .val (.long ((v77s0 + s113) - (FP.d2l (FP.l2d (v77s0 + s113))))), .second] [])) (fun t k => XS.lstore X3.here hx rfl (hb hby at_157) rfl (l' := #[.val (.long i0), .second, iv i1, iv i2, iv i3, iv s53, .val (.long s64), .second, .val (.long s71), .second, .val (.long v77s0), .second, iv s95, .val (.long s113), .second, rv r_2, .val (.long (v77s0 + s113)), .second, .val (.double (FP.l2d (v77s0 + s113))), .second, .val (.long ((v77s0 + s113) - (FP.d2l (FP.l2d (v77s0 + s113))))), .second]) rfl k) ?_
      refine oAL (n := 161) X3 hx (hb hby at_159) rfl rfl rfl ?_
      obtain ⟨cq4, kq4, q4a, q4b, q4c⟩ := isOf hZ eq3 f2_0
      obtain ⟨_, _, ⟨T4, L4, k4, n4⟩, -, X4, ⟨Lc4, hQ4, l4, y4, z4⟩, st4⟩ := X3.virtualBack hx (y := (⟨"com/example/gyre/gyre/DoubleDouble", "lo", "()D"⟩ : MethodName)) (z := (⟨"com/example/gyre/gyre/DoubleDouble", "lo", "()D"⟩ : MethodName)) hown (mvT hZ (oW hw 29 rfl)) (mvT hZ (oW hw 30 rfl)) (notFace_of_selects (args := #[]) (mvT hZ (oW hw 32 rfl))) (mvT hZ (oW hw 32 rfl)) (mvT hZ (oW hw 31 rfl)) (by decide) (backOf (W := 0) (rmL l Z a0 hw [] r_2 (FP.l2d ((v77s0 + s113) - (FP.d2l (FP.l2d (v77s0 + s113))))) T2.heap n0 (Nat.le_trans Z0 Kq2.1) f2_2) hZ (oW hw 33 rfl) (oW hw 5 rfl) (by decide) (by decide)) q4a q4c (g := (mkF m 161 #[.val (.long i0), .second, iv i1, iv i2, iv i3, iv s53, .val (.long s64), .second, .val (.long s71), .second, .val (.long v77s0), .second, iv s95, .val (.long s113), .second, rv r_2, .val (.long (v77s0 + s113)), .second, .val (.double (FP.l2d (v77s0 + s113))), .second, .val (.long ((v77s0 + s113) - (FP.d2l (FP.l2d (v77s0 + s113))))), .second] [(.ref r_2)])) rfl (by rw [hml]; rfl) (Steps.refl _) (argsL := []) (rest := []) (lenOf own_pd3 rfl) rfl (by show 2 * 0 + _ ≤ _; exact Nat.le_of_eq rfl) (hb hby at_161) (fun _ _ => ⟨rfl, eq3, (by decide : ((0 + 1) + 0) + 0 ≤ _), (by decide : ((0 + 2) + 0) + 0 ≤ _)⟩)
      dsimp only [Pt.U, Pt.locs, Pt.cells, Pt.slots] at X4 l4 y4 z4 st4 hQ4
      subst l4 y4 z4
      obtain ⟨rfl, Nq4, eq4⟩ := hQ4
      have N4 := Fr.app N3 Nq4
      refine ov (B := T4.setTop (mkF m 164 #[.val (.long i0), .second, iv i1, iv i2, iv i3, iv s53, .val (.long s64), .second, .val (.long s71), .second, .val (.long v77s0), .second, iv s95, .val (.long s113), .second, rv r_2, .val (.long (v77s0 + s113)), .second, .val (.double (FP.l2d (v77s0 + s113))), .second, .val (.long ((v77s0 + s113) - (FP.d2l (FP.l2d (v77s0 + s113))))), .second] [(.double (FP.l2d ((v77s0 + s113) - (FP.d2l (FP.l2d (v77s0 + s113))))))])) (fun t k => st4.trans k) ?_
      refine ov (B := T4.setTop (mkF m 166 #[.val (.long i0), .second, iv i1, iv i2, iv i3, iv s53, .val (.long s64), .second, .val (.long s71), .second, .val (.long v77s0), .second, iv s95, .val (.long s113), .second, rv r_2, .val (.long (v77s0 + s113)), .second, .val (.double (FP.l2d (v77s0 + s113))), .second, .val (.long ((v77s0 + s113) - (FP.d2l (FP.l2d (v77s0 + s113))))), .second] [(.long ((v77s0 + s113) - (FP.d2l (FP.l2d (v77s0 + s113))))), (.double (FP.l2d ((v77s0 + s113) - (FP.d2l (FP.l2d (v77s0 + s113))))))])) (fun t k => XS.lload X4.here hx rfl (hb hby at_164) rfl k) ?_
      refine ov (B := T4.setTop (mkF m 167 #[.val (.long i0), .second, iv i1, iv i2, iv i3, iv s53, .val (.long s64), .second, .val (.long s71), .second, .val (.long v77s0), .second, iv s95, .val (.long s113), .second, rv r_2, .val (.long (v77s0 + s113)), .second, .val (.double (FP.l2d (v77s0 + s113))), .second, .val (.long ((v77s0 + s113) - (FP.d2l (FP.l2d (v77s0 + s113))))), .second] [(.double (FP.l2d ((v77s0 + s113) - (FP.d2l (FP.l2d (v77s0 + s113)))))), (.double (FP.l2d ((v77s0 + s113) - (FP.d2l (FP.l2d (v77s0 + s113))))))])) (fun t k => XS.l2dS X4.here hx rfl (hb hby at_166) rfl rfl k) ?_
      refine ov (B := T4.setTop (mkF m 168 #[.val (.long i0), .second, iv i1, iv i2, iv i3, iv s53, .val (.long s64), .second, .val (.long s71), .second, .val (.long v77s0), .second, iv s95, .val (.long s113), .second, rv r_2, .val (.long (v77s0 + s113)), .second, .val (.double (FP.l2d (v77s0 + s113))), .second, .val (.long ((v77s0 + s113) - (FP.d2l (FP.l2d (v77s0 + s113))))), .second] [(.int (cmpValue (FP.dcmp (FP.l2d ((v77s0 + s113) - (FP.d2l (FP.l2d (v77s0 + s113))))) (FP.l2d ((v77s0 + s113) - (FP.d2l (FP.l2d (v77s0 + s113)))))) .l))])) (fun t k => XS.dcmpS X4.here hx rfl (hb hby at_167) rfl rfl k) ?_
      have hc168 : (cmpValue (FP.dcmp (FP.l2d ((v77s0 + s113) - (FP.d2l (FP.l2d (v77s0 + s113))))) (FP.l2d ((v77s0 + s113) - (FP.d2l (FP.l2d (v77s0 + s113)))))) .l) = (0 : Int32) := own_selfd _
      refine ov (B := T4.setTop (mkF m 171 #[.val (.long i0), .second, iv i1, iv i2, iv i3, iv s53, .val (.long s64), .second, .val (.long s71), .second, .val (.long v77s0), .second, iv s95, .val (.long s113), .second, rv r_2, .val (.long (v77s0 + s113)), .second, .val (.double (FP.l2d (v77s0 + s113))), .second, .val (.long ((v77s0 + s113) - (FP.d2l (FP.l2d (v77s0 + s113))))), .second] [])) (fun t k => XS.ifNo X4.here hx rfl (hb hby at_168) rfl ((if0 _ _).trans (teq hc168).2) k) ?_
      refine oIC (n := 172) X4 hx (1 : Int32) (hb hby at_171) (by decide) rfl ?_
      refine oGO (n := 176) X4 hx (hb hby at_172) (by decide) (by decide) ?_
      refine own_leaf X4 hx hlk (t := .boolean) Bd.returns (by decide) (Or.inl ⟨rfl, by simp, _, rfl⟩) (hb hby at_176) (by decide) (by decide) ?_
      show Q0 Z i0 i1 i2 i3 h0 n0 _ T4.heap _
      rw [eq4]
      refine ⟨?_, N4⟩
      rfl
  · refine ov (B := s₁.setTop (mkF m 7 #[.val (.long i0), .second, iv i1, iv i2, iv i3, uu, uu, uu, uu, uu, uu, uu, uu, uu, uu, uu, uu, uu, uu, uu, uu, uu] [])) (fun t k => XS.ifNo X0.here hx rfl (hb hby at_4) rfl ((if0 _ _).trans (feq hc4).1) k) ?_
    refine ov (B := s₁.setTop (mkF m 8 #[.val (.long i0), .second, iv i1, iv i2, iv i3, uu, uu, uu, uu, uu, uu, uu, uu, uu, uu, uu, uu, uu, uu, uu, uu, uu] [(.long i0)])) (fun t k => XS.lloadN X0.here hx rfl (hb hby at_7) rfl k) ?_
    refine ov (B := s₁.setTop (mkF m 9 #[.val (.long i0), .second, iv i1, iv i2, iv i3, uu, uu, uu, uu, uu, uu, uu, uu, uu, uu, uu, uu, uu, uu, uu, uu, uu] [(.double (FP.l2d i0))])) (fun t k => XS.l2dS X0.here hx rfl (hb hby at_8) rfl rfl k) ?_
    refine ov (B := s₁.setTop (mkF m 11 #[.val (.long i0), .second, iv i1, iv i2, iv i3, .val (.double (FP.l2d i0)), .second, uu, uu, uu, uu, uu, uu, uu, uu, uu, uu, uu, uu, uu, uu, uu] [])) (fun t k => XS.dstore X0.here hx rfl (hb hby at_9) rfl (l' := #[.val (.long i0), .second, iv i1, iv i2, iv i3, .val (.double (FP.l2d i0)), .second, uu, uu, uu, uu, uu, uu, uu, uu, uu, uu, uu, uu, uu, uu, uu]) rfl k) ?_
    refine ov (B := s₁.setTop (mkF m 12 #[.val (.long i0), .second, iv i1, iv i2, iv i3, .val (.double (FP.l2d i0)), .second, uu, uu, uu, uu, uu, uu, uu, uu, uu, uu, uu, uu, uu, uu, uu] [(.double FP.dconst0)])) (fun t k => XS.dconst0 X0.here hx rfl (hb hby at_11) rfl k) ?_
    refine ov (B := s₁.setTop (mkF m 14 #[.val (.long i0), .second, iv i1, iv i2, iv i3, .val (.double (FP.l2d i0)), .second, uu, uu, uu, uu, uu, uu, uu, uu, uu, uu, uu, uu, uu, uu, uu] [(.double (FP.l2d i0)), (.double FP.dconst0)])) (fun t k => XS.dload X0.here hx rfl (hb hby at_12) rfl k) ?_
    obtain ⟨_, _, ⟨T5, L5, k5, n5⟩, -, X5, ⟨Lc5, hQ5, l5, y5, z5⟩, st5⟩ := Jvm.LawKit.callS X0 hx (y := (⟨"com/example/gyre/gyre/DoubleDouble", "normalized", "(DD)Lcom/example/gyre/gyre/DoubleDouble;"⟩ : MethodName)) hown (mvT hZ (oW hw 3 rfl)) (mvT hZ (oW hw 4 rfl)) (mvT hZ (oW hw 5 rfl)) (mvT hZ (oW hw 6 rfl)) (by decide) (backOf (W := 0) (rmN l Z a0 hw [] FP.dconst0 (FP.l2d i0) (FP.l2d i0) (FP.l2d i0) (FP.l2d 0) h0 n0 Z0 (own_nA i0).1 (own_nA i0).2.1 (own_nA i0).2.2 (own_nnl _) (own_nnl _) (own_nnl _)) hZ (oW hw 6 rfl) (oW hw 5 rfl) (by decide) (by decide)) (g := (mkF m 14 #[.val (.long i0), .second, iv i1, iv i2, iv i3, .val (.double (FP.l2d i0)), .second, uu, uu, uu, uu, uu, uu, uu, uu, uu, uu, uu, uu, uu, uu, uu] [(.double (FP.l2d i0)), (.double FP.dconst0)])) rfl (by rw [hml]; rfl) (argsL := [(.double FP.dconst0), (.double (FP.l2d i0))]) (rest := []) (lenOf own_pd2 rfl) rfl (by show 2 * 0 + _ ≤ _; exact Nat.le_of_eq rfl) (hb hby at_14) (fun _ _ => ⟨rfl, e0, (by decide : 0 + 1 ≤ _), (by decide : 0 + 2 ≤ _)⟩)
    dsimp only [Pt.U, Pt.locs, Pt.cells, Pt.slots] at X5 l5 y5 z5 st5 hQ5
    subst l5 y5 z5
    obtain ⟨r_5, rfl, Nq5, Kq5, f5_0, f5_1, f5_2⟩ := hQ5
    have N5 := Fr.app N0 Nq5
    refine ov (B := T5.setTop (mkF m 17 #[.val (.long i0), .second, iv i1, iv i2, iv i3, .val (.double (FP.l2d i0)), .second, uu, uu, uu, uu, uu, uu, uu, uu, uu, uu, uu, uu, uu, uu, uu] [(.ref r_5)])) (fun t k => st5 t k) ?_
    refine ov (B := T5.setTop (mkF m 19 #[.val (.long i0), .second, iv i1, iv i2, iv i3, .val (.double (FP.l2d i0)), .second, rv r_5, uu, uu, uu, uu, uu, uu, uu, uu, uu, uu, uu, uu, uu, uu] [])) (fun t k => XS.astore X5.here hx rfl (hb hby at_17) rfl rfl (l' := #[.val (.long i0), .second, iv i1, iv i2, iv i3, .val (.double (FP.l2d i0)), .second, rv r_5, uu, uu, uu, uu, uu, uu, uu, uu, uu, uu, uu, uu, uu, uu]) rfl k) ?_
    refine oAL (n := 21) X5 hx (hb hby at_19) rfl rfl rfl ?_
    obtain ⟨cq6, kq6, q6a, q6b, q6c⟩ := isOf hZ rfl f5_0
    obtain ⟨_, _, ⟨T6, L6, k6, n6⟩, -, X6, ⟨Lc6, hQ6, l6, y6, z6⟩, st6⟩ := X5.virtualBack hx (y := (⟨"com/example/gyre/gyre/DoubleDouble", "hi", "()D"⟩ : MethodName)) (z := (⟨"com/example/gyre/gyre/DoubleDouble", "hi", "()D"⟩ : MethodName)) hown (mvT hZ (oW hw 24 rfl)) (mvT hZ (oW hw 25 rfl)) (notFace_of_selects (args := #[]) (mvT hZ (oW hw 27 rfl))) (mvT hZ (oW hw 27 rfl)) (mvT hZ (oW hw 26 rfl)) (by decide) (backOf (W := 0) (rmG l Z a0 hw [] r_5 (FP.l2d i0) T5.heap n0 (Nat.le_trans Z0 Kq5.1) f5_1) hZ (oW hw 28 rfl) (oW hw 5 rfl) (by decide) (by decide)) q6a q6c (g := (mkF m 21 #[.val (.long i0), .second, iv i1, iv i2, iv i3, .val (.double (FP.l2d i0)), .second, rv r_5, uu, uu, uu, uu, uu, uu, uu, uu, uu, uu, uu, uu, uu, uu] [(.ref r_5)])) rfl (by rw [hml]; rfl) (Steps.refl _) (argsL := []) (rest := []) (lenOf own_pd3 rfl) rfl (by show 2 * 0 + _ ≤ _; exact Nat.le_of_eq rfl) (hb hby at_21) (fun _ _ => ⟨rfl, rfl, (by decide : (0 + 1) + 0 ≤ _), (by decide : (0 + 2) + 0 ≤ _)⟩)
    dsimp only [Pt.U, Pt.locs, Pt.cells, Pt.slots] at X6 l6 y6 z6 st6 hQ6
    subst l6 y6 z6
    obtain ⟨rfl, Nq6, eq6⟩ := hQ6
    have N6 := Fr.app N5 Nq6
    refine ov (B := T6.setTop (mkF m 24 #[.val (.long i0), .second, iv i1, iv i2, iv i3, .val (.double (FP.l2d i0)), .second, rv r_5, uu, uu, uu, uu, uu, uu, uu, uu, uu, uu, uu, uu, uu, uu] [(.double (FP.l2d i0))])) (fun t k => st6.trans k) ?_
    refine ov (B := T6.setTop (mkF m 26 #[.val (.long i0), .second, iv i1, iv i2, iv i3, .val (.double (FP.l2d i0)), .second, rv r_5, uu, uu, uu, uu, uu, uu, uu, uu, uu, uu, uu, uu, uu, uu] [(.double (FP.l2d i0)), (.double (FP.l2d i0))])) (fun t k => XS.dload X6.here hx rfl (hb hby at_24) rfl k) ?_
    refine ov (B := T6.setTop (mkF m 27 #[.val (.long i0), .second, iv i1, iv i2, iv i3, .val (.double (FP.l2d i0)), .second, rv r_5, uu, uu, uu, uu, uu, uu, uu, uu, uu, uu, uu, uu, uu, uu] [(.int (cmpValue (FP.dcmp (FP.l2d i0) (FP.l2d i0)) .l))])) (fun t k => XS.dcmpS X6.here hx rfl (hb hby at_26) rfl rfl k) ?_
    have hc27 : (cmpValue (FP.dcmp (FP.l2d i0) (FP.l2d i0)) .l) = (0 : Int32) := own_selfd _
    refine ov (B := T6.setTop (mkF m 30 #[.val (.long i0), .second, iv i1, iv i2, iv i3, .val (.double (FP.l2d i0)), .second, rv r_5, uu, uu, uu, uu, uu, uu, uu, uu, uu, uu, uu, uu, uu, uu] [])) (fun t k => XS.ifNo X6.here hx rfl (hb hby at_27) rfl ((if0 _ _).trans (teq hc27).2) k) ?_
    refine oAL (n := 32) X6 hx (hb hby at_30) rfl rfl rfl ?_
    obtain ⟨cq7, kq7, q7a, q7b, q7c⟩ := isOf hZ eq6 f5_0
    obtain ⟨_, _, ⟨T7, L7, k7, n7⟩, -, X7, ⟨Lc7, hQ7, l7, y7, z7⟩, st7⟩ := X6.virtualBack hx (y := (⟨"com/example/gyre/gyre/DoubleDouble", "lo", "()D"⟩ : MethodName)) (z := (⟨"com/example/gyre/gyre/DoubleDouble", "lo", "()D"⟩ : MethodName)) hown (mvT hZ (oW hw 29 rfl)) (mvT hZ (oW hw 30 rfl)) (notFace_of_selects (args := #[]) (mvT hZ (oW hw 32 rfl))) (mvT hZ (oW hw 32 rfl)) (mvT hZ (oW hw 31 rfl)) (by decide) (backOf (W := 0) (rmL l Z a0 hw [] r_5 (FP.l2d 0) T5.heap n0 (Nat.le_trans Z0 Kq5.1) f5_2) hZ (oW hw 33 rfl) (oW hw 5 rfl) (by decide) (by decide)) q7a q7c (g := (mkF m 32 #[.val (.long i0), .second, iv i1, iv i2, iv i3, .val (.double (FP.l2d i0)), .second, rv r_5, uu, uu, uu, uu, uu, uu, uu, uu, uu, uu, uu, uu, uu, uu] [(.ref r_5)])) rfl (by rw [hml]; rfl) (Steps.refl _) (argsL := []) (rest := []) (lenOf own_pd3 rfl) rfl (by show 2 * 0 + _ ≤ _; exact Nat.le_of_eq rfl) (hb hby at_32) (fun _ _ => ⟨rfl, eq6, (by decide : ((0 + 1) + 0) + 0 ≤ _), (by decide : ((0 + 2) + 0) + 0 ≤ _)⟩)
    dsimp only [Pt.U, Pt.locs, Pt.cells, Pt.slots] at X7 l7 y7 z7 st7 hQ7
    subst l7 y7 z7
    obtain ⟨rfl, Nq7, eq7⟩ := hQ7
    have N7 := Fr.app N6 Nq7
    refine ov (B := T7.setTop (mkF m 35 #[.val (.long i0), .second, iv i1, iv i2, iv i3, .val (.double (FP.l2d i0)), .second, rv r_5, uu, uu, uu, uu, uu, uu, uu, uu, uu, uu, uu, uu, uu, uu] [(.double (FP.l2d 0))])) (fun t k => st7.trans k) ?_
    refine ov (B := T7.setTop (mkF m 36 #[.val (.long i0), .second, iv i1, iv i2, iv i3, .val (.double (FP.l2d i0)), .second, rv r_5, uu, uu, uu, uu, uu, uu, uu, uu, uu, uu, uu, uu, uu, uu] [(.double FP.dconst0), (.double (FP.l2d 0))])) (fun t k => XS.dconst0 X7.here hx rfl (hb hby at_35) rfl k) ?_
    refine ov (B := T7.setTop (mkF m 37 #[.val (.long i0), .second, iv i1, iv i2, iv i3, .val (.double (FP.l2d i0)), .second, rv r_5, uu, uu, uu, uu, uu, uu, uu, uu, uu, uu, uu, uu, uu, uu] [(.int (cmpValue (FP.dcmp (FP.l2d 0) FP.dconst0) .l))])) (fun t k => XS.dcmpS X7.here hx rfl (hb hby at_36) rfl rfl k) ?_
    have hc37 : (cmpValue (FP.dcmp (FP.l2d 0) FP.dconst0) .l) = (0 : Int32) := own_zd
    refine ov (B := T7.setTop (mkF m 40 #[.val (.long i0), .second, iv i1, iv i2, iv i3, .val (.double (FP.l2d i0)), .second, rv r_5, uu, uu, uu, uu, uu, uu, uu, uu, uu, uu, uu, uu, uu, uu] [])) (fun t k => XS.ifNo X7.here hx rfl (hb hby at_37) rfl ((if0 _ _).trans (teq hc37).2) k) ?_
    refine oIC (n := 41) X7 hx (1 : Int32) (hb hby at_40) (by decide) rfl ?_
    refine oGO (n := 45) X7 hx (hb hby at_41) (by decide) (by decide) ?_
    refine own_leaf X7 hx hlk (t := .boolean) Bd.returns (by decide) (Or.inl ⟨rfl, by simp, _, rfl⟩) (hb hby at_45) (by decide) (by decide) ?_
    show Q0 Z i0 i1 i2 i3 h0 n0 _ T7.heap _
    rw [eq7]
    refine ⟨?_, N7⟩
    rfl
set_option maxRecDepth 65536 in
set_option maxHeartbeats 40000000 in
theorem comes_1 {Post : Tables → Env → Array Value → State → Outcome → State → Prop} (hpost : ∀ tb e args s v u, (limb_1_1.after args s (.returned v) u = true ∧ limb_1_2.after args s (.returned v) u = true ∧ True) → FrameEnd s (.returned v) u (Jvm.fieldLocs frame_1_writes args s ++ Jvm.arrayLocs frame_1_arrays args s ++ Jvm.staticLocs frame_1_statics s) 16 128 → Post tb e args s (.returned v) u) :
    ArmFor flags0 classFile x code maxLocals ret World_1 tables_1 room_1 Calls_1 rest_1 Pre_1 Post := by
  intro l hfl _ _ p e ha hc hk s m args below hf hA hF happ hP
  obtain ⟨hcalls, hrest, hpre⟩ := hP
  obtain ⟨-, -, -, hnamed, -, -, -, hat⟩ := (Spec.applies_iff hf).mp happ
  obtain ⟨hg, hn⟩ := and_e (Cond.before_iff.mp (show (Jvm.Cond.and given_1 narrow_1).before args s = true from hpre))
  obtain ⟨g1, g2⟩ := and_e hg
  obtain ⟨g3, g4⟩ := and_e g2
  obtain ⟨g5, g6⟩ := and_e g4
  obtain ⟨g7, g8⟩ := and_e g6
  obtain ⟨w0, w1, w2, w3, rfl⟩ : ∃ w0 w1 w2 w3 : Value, args = #[w0, w1, w2, w3] := by
    have hs : args.size = 4 := by simpa [Cond.value, given_1] using g1
    obtain ⟨L⟩ := args
    match L, hs with
    | [w0, w1, w2, w3], _ => exact ⟨w0, w1, w2, w3, rfl⟩
  have hw := fun d (hd : d ∈ tables_1) => atoms_spec (ws := Jvm.Cond.code x code maxLocals ret :: tables_1) hat d (List.mem_cons_of_mem _ hd)
  have hfit : Fit s := fun {y c} hc i hi => by
    obtain ⟨ha, rfl⟩ := Array.getElem?_eq_some_iff.mp hc
    have q := List.all_eq_true.mp ((Array.all_eq_true_iff_forall_mem.mp hF) _ (Array.getElem_mem ha)) i (List.mem_range.mpr hi)
    simpa [Array.getElem?_eq_getElem hi] using q
  obtain ⟨i0, ei0⟩ := isL_v g3
  obtain rfl : w0 = (.long i0) := Option.some.inj ei0
  obtain ⟨i1, ei1⟩ := is_v g5
  obtain rfl : w1 = (.int i1) := Option.some.inj ei1
  obtain ⟨i2, ei2⟩ := is_v g7
  obtain rfl : w2 = (.int i2) := Option.some.inj ei2
  obtain ⟨i3, ei3⟩ := is_v g8
  obtain rfl : w3 = (.int i3) := Option.some.inj ei3
  obtain ⟨n, o, h1, h2, h3, _, L, rfl, ⟨rfl, N⟩, hq⟩ := rm0 l s _ hw tables_1 i0 i1 i2 i3 s.heap s.heap.size (Nat.le_refl _)  p e ha hc hk s m _ below hf ((Spec.applies_iff_loose hf).mp happ).1 ⟨rfl, State.Warmed39.refl s, rfl⟩ trivial
  refine ⟨n, _, h1, h2, h3, hpost _ _ _ _ _ _ ⟨Cond.after_iff.mpr rfl, Cond.after_iff.mpr (eq_i res_at (Term.int_eval (1)) rfl), trivial⟩ ⟨hq.1, hq.2.1, (hq.2.2.sift fun y hy => Or.inr (N y hy)).mono (by decide) (by decide)⟩⟩
theorem main_1_1 : Claimed_1_1 := comes_1 fun _ _ _ _ _ _ h hF => ⟨h.1, hF⟩
theorem main_1_2 : Claimed_1_2 := comes_1 fun _ _ _ _ _ _ h hF => ⟨h.2.1, hF⟩
end Jvm.Pilot.@@N@@
namespace Jvm.Pilot.@@N@@
open Jvm Jvm.ClassFile Sem Op Lib Jvm.Free Jvm.Stand Jvm.Pilot.@@N@@.Jvm.D
/-! MADE BY PROGRAM (witnessworld.py) out of the Statement's table words and the real class files: 10 classes; the members and pool entries that the words name. The judged class is class 1, her method 1. -/
namespace start1
open Jvm.ClassFile
def u (s : String) : CpInfo := .utf8 (stringToUtf16 s)
/-- a pool by its gaps: so many unusable entries, then the entry; so many at the end -/
def gap : Nat → List CpInfo → List CpInfo
  | 0, r => r
  | n + 1, r => .unusable :: gap n r
def poolList (es : List (Nat × CpInfo)) (last : Nat) : List CpInfo := es.foldr (fun e r => gap e.1 (e.2 :: r)) (gap last [])
def pool (es : List (Nat × CpInfo)) (last : Nat) : Array CpInfo := ⟨poolList es last⟩
def fileOf (pool : Array CpInfo) (this : Nat) (attrs : Array Attribute := #[]) (ms : Array MethodInfo := #[]) (fl : Nat := 33) (sup : Nat := 0) (ifs : Array Nat := #[]) (fds : Array FieldInfo := #[]) : ClassFile where
  minorVersion := 0
  majorVersion := 65
  constantPool := pool
  accessFlags := fl
  thisClass := this
  superClass := sup
  interfaces := ifs
  fields := fds
  methods := ms
  attributes := attrs
def plain (name : String) (sup : Option ClassId) : Class where
  name := name
  kind := .ordinary
  loader := none
  accessFlags := 33
  super := sup
  interfaces := #[]
  cf := none
  fields := #[]
  methods := #[]
  instanceTypes := #[]
  staticTypes := #[]
  resolved := #[]
  callSites := []
  init := .initialized
  statics := none
  mirror := none

def pool0 : Array CpInfo := pool [(5, u "<init>"), (0, u "()V"), (1, .class_ 10), (1, u "java/lang/Object")] 113

def k0c0 : Code := { maxStack := 0, maxLocals := 1, code := object_method_1_code, exceptionTable := #[], attributes := #[] }
def k0m0 : Method := { name := "<init>", desc := "()V", sig := { parameters := [], returnType := none }, accessFlags := 1, code := some k0c0 }
/-- java/lang/Object -/
def k0 : Class := { plain "java/lang/Object" none with
  accessFlags := 33
  interfaces := #[]
  cf := some (fileOf pool0 8 #[] #[{ accessFlags := 1, nameIndex := 5, descriptorIndex := 6, attributes := #[] }] 33 0 #[] #[])
  fields := #[]
  methods := #[k0m0]
  instanceTypes := #[]
  staticTypes := #[]
  resolved := Array.replicate 124 none
  statics := none }

def pool1 : Array CpInfo := pool [(2, .class_ 4), (1, u "java/lang/Object"), (0, u "<init>"), (0, u "()V"), (0, .methodref 8 9), (0, .class_ 10), (0, .nameAndType 11 12), (0, u "com/example/gyre/gyre/DoubleDouble"), (0, u "normalized"), (0, u "(DD)Lcom/example/gyre/gyre/DoubleDouble;"), (0, .methodref 8 14), (0, .nameAndType 15 16), (0, u "hi"), (0, u "()D"), (0, .methodref 8 18), (0, .nameAndType 19 16), (0, u "lo"), (0, .integer 2147483647), (0, .long 4503599627370496), (1, .long 4503599627370495), (1, .class_ 26), (0, u "com/example/gyre/gyre/DoubleDoubleNormalizedPinLaw"), (2, u "law"), (0, u "(JIII)Z")] 3

def k1m0 : Method := { name := "<init>", desc := "()V", sig := { parameters := [], returnType := none }, accessFlags := 1, code := none }
def k1c1 : Code := { maxStack := 6, maxLocals := 22, code := code, exceptionTable := #[], attributes := #[] }
def k1m1 : Method := { name := "law", desc := "(JIII)Z", sig := { parameters := [.long, .int, .int, .int], returnType := some .boolean }, accessFlags := 9, code := some k1c1 }
/-- com/example/gyre/gyre/DoubleDoubleNormalizedPinLaw -/
def k1 : Class := { plain "com/example/gyre/gyre/DoubleDoubleNormalizedPinLaw" (some 0) with
  accessFlags := 49
  interfaces := #[]
  cf := some (fileOf pool1 25 #[] #[{ accessFlags := 1, nameIndex := 5, descriptorIndex := 6, attributes := #[] }, { accessFlags := 9, nameIndex := 29, descriptorIndex := 30, attributes := #[] }] 49 2 #[] #[])
  fields := #[]
  methods := #[k1m0, k1m1]
  instanceTypes := #[]
  staticTypes := #[]
  resolved := Array.replicate 34 none
  statics := none }

def pool2 : Array CpInfo := pool [(1, .methodref 2 3), (0, .class_ 4), (0, .nameAndType 5 6), (0, u "java/lang/Object"), (0, u "<init>"), (0, u "()V"), (0, .class_ 8), (0, u "java/lang/Record")] 13

def k2c0 : Code := { maxStack := 1, maxLocals := 1, code := jdk_30_method_1_code, exceptionTable := #[], attributes := #[] }
def k2m0 : Method := { name := "<init>", desc := "()V", sig := { parameters := [], returnType := none }, accessFlags := 4, code := some k2c0 }
/-- java/lang/Record -/
def k2 : Class := { plain "java/lang/Record" (some 0) with
  accessFlags := 1057
  interfaces := #[]
  cf := some (fileOf pool2 7 #[] #[{ accessFlags := 4, nameIndex := 5, descriptorIndex := 6, attributes := #[] }] 1057 2 #[] #[])
  fields := #[]
  methods := #[k2m0]
  instanceTypes := #[]
  staticTypes := #[]
  resolved := Array.replicate 22 none
  statics := none }

def pool3 : Array CpInfo := pool [(1, .methodref 2 3), (0, .class_ 4), (0, .nameAndType 5 6), (0, u "java/lang/Record"), (0, u "<init>"), (0, u "()V"), (0, .fieldref 8 9), (0, .class_ 10), (0, .nameAndType 11 12), (0, u "com/example/gyre/gyre/DoubleDouble"), (0, u "hi"), (0, u "D"), (0, .fieldref 8 14), (0, .nameAndType 15 12), (0, u "lo"), (0, .methodref 8 17), (0, .nameAndType 5 18), (0, u "(DD)V"), (9, u "(DD)Lcom/example/gyre/gyre/DoubleDouble;"), (5, u "normalized"), (28, u "HALF_PI"), (0, u "Lcom/example/gyre/gyre/DoubleDouble;"), (14, u "()D")] 22

def k3c0 : Code := { maxStack := 3, maxLocals := 5, code := prog_2_method_1_code, exceptionTable := #[], attributes := #[] }
def k3m0 : Method := { name := "<init>", desc := "(DD)V", sig := { parameters := [.double, .double], returnType := none }, accessFlags := 0, code := some k3c0 }
def k3c1 : Code := { maxStack := 10, maxLocals := 6, code := prog_2_method_5_code, exceptionTable := #[], attributes := #[] }
def k3m1 : Method := { name := "normalized", desc := "(DD)Lcom/example/gyre/gyre/DoubleDouble;", sig := { parameters := [.double, .double], returnType := some (.object "com/example/gyre/gyre/DoubleDouble") }, accessFlags := 8, code := some k3c1 }
def k3c2 : Code := { maxStack := 2, maxLocals := 1, code := prog_2_method_16_code, exceptionTable := #[], attributes := #[] }
def k3m2 : Method := { name := "hi", desc := "()D", sig := { parameters := [], returnType := some .double }, accessFlags := 1, code := some k3c2 }
def k3c3 : Code := { maxStack := 2, maxLocals := 1, code := prog_2_method_17_code, exceptionTable := #[], attributes := #[] }
def k3m3 : Method := { name := "lo", desc := "()D", sig := { parameters := [], returnType := some .double }, accessFlags := 1, code := some k3c3 }
/-- com/example/gyre/gyre/DoubleDouble -/
def k3 : Class := { plain "com/example/gyre/gyre/DoubleDouble" (some 2) with
  accessFlags := 48
  interfaces := #[]
  cf := some (fileOf pool3 8 #[] #[{ accessFlags := 0, nameIndex := 5, descriptorIndex := 18, attributes := #[] }, { accessFlags := 8, nameIndex := 34, descriptorIndex := 28, attributes := #[] }, { accessFlags := 1, nameIndex := 11, descriptorIndex := 79, attributes := #[] }, { accessFlags := 1, nameIndex := 15, descriptorIndex := 79, attributes := #[] }] 48 2 #[] #[{ accessFlags := 18, nameIndex := 11, descriptorIndex := 12, attributes := #[] }, { accessFlags := 18, nameIndex := 15, descriptorIndex := 12, attributes := #[] }, { accessFlags := 24, nameIndex := 63, descriptorIndex := 64, attributes := #[] }])
  fields := #[{ name := "hi", type := .double, accessFlags := 18, slot := 0, constantValue := 0 }, { name := "lo", type := .double, accessFlags := 18, slot := 1, constantValue := 0 }, { name := "HALF_PI", type := (.object "com/example/gyre/gyre/DoubleDouble"), accessFlags := 24, slot := 0, constantValue := 0 }]
  methods := #[k3m0, k3m1, k3m2, k3m3]
  instanceTypes := #[.double, .double]
  staticTypes := #[(.object "com/example/gyre/gyre/DoubleDouble")]
  resolved := Array.replicate 102 none
  statics := none }

def pool4 : Array CpInfo := pool [(1, u "java/lang/Cloneable"), (0, .class_ 1), (0, u "java/lang/Object"), (0, .class_ 3)] 3

/-- java/lang/Cloneable -/
def k4 : Class := { plain "java/lang/Cloneable" (some 0) with
  accessFlags := 1537
  interfaces := #[]
  cf := some (fileOf pool4 2 #[] #[] 1537 4 #[] #[])
  fields := #[]
  methods := #[]
  instanceTypes := #[]
  staticTypes := #[]
  resolved := Array.replicate 8 none
  statics := none }

def pool5 : Array CpInfo := pool [(1, u "java/io/Serializable"), (0, .class_ 1), (0, u "java/lang/Object"), (0, .class_ 3)] 3

/-- java/io/Serializable -/
def k5 : Class := { plain "java/io/Serializable" (some 0) with
  accessFlags := 1537
  interfaces := #[]
  cf := some (fileOf pool5 2 #[] #[] 1537 4 #[] #[])
  fields := #[]
  methods := #[]
  instanceTypes := #[]
  staticTypes := #[]
  resolved := Array.replicate 8 none
  statics := none }

/-- the primitive byte -/
def k6 : Class := { plain "byte" none with kind := .primitive 'B', accessFlags := 0x411 }
/-- [B -/
def k7 : Class := { plain "[B" (some 0) with kind := .array 6 .byte, interfaces := #[4, 5], accessFlags := 1041 }

/-- the primitive int -/
def k8 : Class := { plain "int" none with kind := .primitive 'I', accessFlags := 0x411 }
/-- [I -/
def k9 : Class := { plain "[I" (some 0) with kind := .array 8 .int, interfaces := #[4, 5], accessFlags := 1041 }

def heap : Heap := #[]
def classes : Array Class := #[k0, k1, k2, k3, k4, k5, k6, k7, k8, k9]
def interned : List (Array UInt16 × Addr) := []
def slotsUsed : Nat := 0
def theMethod : MethodId := ⟨1, 1⟩
def args0 : Array Value := #[.long 5, .int 6, .int 7, .int 8]
def aboutOver (below : List Frame) : State where
  vm := { classes := classes, interned := interned.toArray }
  heap := heap
  slotsUsed := slotsUsed
  threads := #[{ frames := .invoking theMethod args0 :: below }]
def below0 : List Frame := [.native { method := ⟨0, 0⟩, args := #[] }]
def about1 : State := aboutOver below0
def p0 : Program := .bare "" "" ""
def e0 : Env := launch0.env 0 0 0
theorem w_frames : about1.frames = Frame.invoking theMethod args0 :: below0 := rfl
set_option maxRecDepth 65536 in
theorem w_args : argsFit about1.vm theMethod args0 = true := by decide +kernel
set_option maxRecDepth 65536 in
theorem w_heap : heapFits about1 = true := by decide +kernel
set_option maxRecDepth 65536 in
theorem w_runnable : about1.curStatus? = some .runnable := by decide +kernel
set_option maxRecDepth 65536 in
theorem w_alone : about1.alone = true := by decide +kernel
set_option maxRecDepth 65536 in
theorem w_named : about1.methodNamed? x = some theMethod := by decide +kernel
set_option maxRecDepth 65536 in
theorem w_hears : about1.hears theMethod below0 = true := by decide +kernel
set_option maxRecDepth 65536 in
theorem w_ripe : about1.ripe theMethod args0 below0 = true := by decide +kernel
theorem w_running : about1.status = .running := rfl
set_option maxRecDepth 65536 in
theorem w_room : about1.hasRoom e0.platform room_1 = true :=
  launch0.hasRoom_least _ room_1 (by decide +kernel) (by decide +kernel) (by decide +kernel) (by decide +kernel) (by decide +kernel) (by decide +kernel)
theorem allAtoms_all (ts : List Jvm.Cond) (a : Array Jvm.Value) (st : Jvm.State) : (allAtoms ts).before a st = ts.all (fun c => c.before a st) := by
  induction ts with
  | nil => rfl
  | cons c t ih =>
    show (Jvm.Cond.and c (allAtoms t)).before a st = _
    rw [Jvm.Cond.before_and, ih, List.all_cons]
def words1 : List Jvm.Cond := Jvm.Cond.code x code maxLocals ret :: tables_1
/-- a 'code' word, met by the world's own term for the bytes: nothing is compared byte by byte -/
theorem code_word {y : MethodName} {bytes : ByteArray} {mx : Nat} {rt : Option FieldType} {a : Array Value} {s : State} {m : MethodId} {meth : Method} {c : Code} (h1 : s.methodNamed? y = some m) (h2 : s.vm.method? m = some meth) (h3 : meth.code = some c) (h4 : c.code = bytes)
    (h5 : (c.maxLocals == mx && c.exceptionTable.isEmpty && decide (c.maxStack ≤ mostOperands) && decide (meth.sig.returnType = rt) && !meth.locks && decide (parseMethodDescriptor y.desc = some meth.sig)) = true) : (Jvm.Cond.code y bytes mx rt).before a s = true := by
  simp only [Bool.and_eq_true, beq_iff_eq, Bool.not_eq_true', decide_eq_true_eq] at h5
  obtain ⟨⟨⟨⟨⟨g1, g2⟩, g3⟩, g4⟩, g5⟩, g6⟩ := h5
  simp [Cond.before, Cond.holds, Cond.value, h1, h2, h3, h4, g1, g2, g3, g4, g5, g6]
def isCode : Jvm.Cond → Bool
  | .code _ _ _ _ => true
  | _ => false
theorem all_split {L : List Jvm.Cond} {P : Jvm.Cond → Bool} (h1 : L.all (fun c => isCode c || P c) = true) (h2 : ∀ c ∈ L.filter isCode, P c = true) : L.all P = true := by
  refine List.all_eq_true.mpr fun c hc => ?_
  have h := List.all_eq_true.mp h1 c hc
  rcases Bool.eq_false_or_eq_true (isCode c) with hi | hi
  · exact h2 c (List.mem_filter.mpr ⟨hc, hi⟩)
  · simpa [hi] using h
set_option maxRecDepth 65536 in
theorem w_c0 : (Jvm.Cond.code x code maxLocals ret).before args0 about1 = true := code_word (m := ⟨1, 1⟩) (meth := k1m1) (c := k1c1) (by decide +kernel) rfl rfl rfl (by decide +kernel)
set_option maxRecDepth 65536 in
theorem w_c1 : (Jvm.Cond.code ({ cls := "com/example/gyre/gyre/DoubleDouble", name := "normalized", desc := "(DD)Lcom/example/gyre/gyre/DoubleDouble;" } : Jvm.MethodName) prog_2_method_5_code (6 : Nat) (Option.some (Jvm.ClassFile.FieldType.object "com/example/gyre/gyre/DoubleDouble"))).before args0 about1 = true := code_word (m := ⟨3, 1⟩) (meth := k3m1) (c := k3c1) (by decide +kernel) rfl rfl rfl (by decide +kernel)
set_option maxRecDepth 65536 in
theorem w_c2 : (Jvm.Cond.code ({ cls := "com/example/gyre/gyre/DoubleDouble", name := "<init>", desc := "(DD)V" } : Jvm.MethodName) prog_2_method_1_code (5 : Nat) (Option.none : Option Jvm.ClassFile.FieldType)).before args0 about1 = true := code_word (m := ⟨3, 0⟩) (meth := k3m0) (c := k3c0) (by decide +kernel) rfl rfl rfl (by decide +kernel)
set_option maxRecDepth 65536 in
theorem w_c3 : (Jvm.Cond.code ({ cls := "java/lang/Record", name := "<init>", desc := "()V" } : Jvm.MethodName) jdk_30_method_1_code (1 : Nat) (Option.none : Option Jvm.ClassFile.FieldType)).before args0 about1 = true := code_word (m := ⟨2, 0⟩) (meth := k2m0) (c := k2c0) (by decide +kernel) rfl rfl rfl (by decide +kernel)
set_option maxRecDepth 65536 in
theorem w_c4 : (Jvm.Cond.code ({ cls := "java/lang/Object", name := "<init>", desc := "()V" } : Jvm.MethodName) object_method_1_code (1 : Nat) (Option.none : Option Jvm.ClassFile.FieldType)).before args0 about1 = true := code_word (m := ⟨0, 0⟩) (meth := k0m0) (c := k0c0) (by decide +kernel) rfl rfl rfl (by decide +kernel)
set_option maxRecDepth 65536 in
theorem w_c5 : (Jvm.Cond.code ({ cls := "com/example/gyre/gyre/DoubleDouble", name := "hi", desc := "()D" } : Jvm.MethodName) prog_2_method_16_code (1 : Nat) (Option.some Jvm.ClassFile.FieldType.double)).before args0 about1 = true := code_word (m := ⟨3, 2⟩) (meth := k3m2) (c := k3c2) (by decide +kernel) rfl rfl rfl (by decide +kernel)
set_option maxRecDepth 65536 in
theorem w_c6 : (Jvm.Cond.code ({ cls := "com/example/gyre/gyre/DoubleDouble", name := "lo", desc := "()D" } : Jvm.MethodName) prog_2_method_17_code (1 : Nat) (Option.some Jvm.ClassFile.FieldType.double)).before args0 about1 = true := code_word (m := ⟨3, 3⟩) (meth := k3m3) (c := k3c3) (by decide +kernel) rfl rfl rfl (by decide +kernel)
def codes1 : List Jvm.Cond := [Jvm.Cond.code x code maxLocals ret, Jvm.Cond.code ({ cls := "com/example/gyre/gyre/DoubleDouble", name := "normalized", desc := "(DD)Lcom/example/gyre/gyre/DoubleDouble;" } : Jvm.MethodName) prog_2_method_5_code (6 : Nat) (Option.some (Jvm.ClassFile.FieldType.object "com/example/gyre/gyre/DoubleDouble")), Jvm.Cond.code ({ cls := "com/example/gyre/gyre/DoubleDouble", name := "<init>", desc := "(DD)V" } : Jvm.MethodName) prog_2_method_1_code (5 : Nat) (Option.none : Option Jvm.ClassFile.FieldType), Jvm.Cond.code ({ cls := "java/lang/Record", name := "<init>", desc := "()V" } : Jvm.MethodName) jdk_30_method_1_code (1 : Nat) (Option.none : Option Jvm.ClassFile.FieldType), Jvm.Cond.code ({ cls := "java/lang/Object", name := "<init>", desc := "()V" } : Jvm.MethodName) object_method_1_code (1 : Nat) (Option.none : Option Jvm.ClassFile.FieldType), Jvm.Cond.code ({ cls := "com/example/gyre/gyre/DoubleDouble", name := "hi", desc := "()D" } : Jvm.MethodName) prog_2_method_16_code (1 : Nat) (Option.some Jvm.ClassFile.FieldType.double), Jvm.Cond.code ({ cls := "com/example/gyre/gyre/DoubleDouble", name := "lo", desc := "()D" } : Jvm.MethodName) prog_2_method_17_code (1 : Nat) (Option.some Jvm.ClassFile.FieldType.double)]
set_option maxRecDepth 65536 in
theorem codes_eq : words1.filter isCode = codes1 := rfl
theorem w_codes : ∀ c ∈ words1.filter isCode, c.before args0 about1 = true := by
  rw [codes_eq]
  intro c hc
  simp only [codes1, List.mem_cons, List.not_mem_nil, or_false] at hc
  rcases hc with rfl | rfl | rfl | rfl | rfl | rfl | rfl
  · exact w_c0
  · exact w_c1
  · exact w_c2
  · exact w_c3
  · exact w_c4
  · exact w_c5
  · exact w_c6
set_option maxRecDepth 65536 in
theorem w_t1 : (words1.take 24).all (fun c => isCode c || c.before args0 about1) = true := by decide +kernel
set_option maxRecDepth 65536 in
theorem w_t2 : (words1.drop 24).all (fun c => isCode c || c.before args0 about1) = true := by decide +kernel
theorem w_tables : (allAtoms (Jvm.Cond.code x code maxLocals ret :: tables_1)).before args0 about1 = true := by
  rw [allAtoms_all]
  show words1.all (fun c => c.before args0 about1) = true
  refine all_split ?_ w_codes
  rw [← List.take_append_drop 24 words1, List.all_append, w_t1, w_t2]
  rfl
set_option maxRecDepth 65536 in
theorem w_case : (Jvm.Cond.and given_1 narrow_1).before args0 about1 = true := by decide +kernel
theorem w_applies : (headSpec (Jvm.Cond.code x code maxLocals ret :: tables_1) room_1).applies x e0.platform about1 = true :=
  (Spec.applies_iff w_frames).mpr ⟨w_running, w_runnable, w_alone, w_named, w_hears, w_ripe, w_room, w_tables⟩
theorem atStart : AtStart classFile x code maxLocals ret World_1 tables_1 room_1 Calls_1 rest_1 Pre_1 launch0 p0 e0 about1 theMethod args0 below0 :=
  ⟨lists_1, trivial, launch0.admits_env _ _ _, launch0.least_env, fairChoices_fair.cas, fairChoices_fair.clock, w_frames, w_args, w_heap, w_applies, trivial, trivial, w_case⟩
end start1
theorem witness_1 : WitnessClaimed_1 := ⟨start1.p0, start1.e0, start1.about1, start1.theMethod, start1.args0, start1.below0, start1.atStart⟩
end Jvm.Pilot.@@N@@
