import JvmDerived
import JvmDerived.Pilot.@@N@@Statement
import JvmDerived.Pilot.@@N@@Code
set_option linter.unusedVariables false
set_option linter.unusedSimpArgs false
namespace Jvm.Pilot.@@N@@
open Jvm Jvm.ClassFile Sem Op Lib Jvm.Free Jvm.Stand Jvm.LawKit Jvm.RoadKit Bundle Jvm.Pilot.@@N@@.Jvm.D
theorem own_selP {s : State} {args : Array Value} {y y' : MethodName} {C : String} (he : y'.cls = y.cls) (h' : (Cond.selects C y' y').before args s = true) (hpriv : s.PrivateAt y) (hinst : (Cond.instanceMethod y).before args s = true) (hy : y.cls ≠ "java/lang/invoke/MethodHandle" ∧ y.cls ≠ "java/lang/invoke/VarHandle") : (Cond.selects y.cls y y).before args s = true := by
  obtain ⟨c2, r2, m2, -, -, q3, -, kP, hkP, hkPi⟩ := Cond.selects_spec h'
  exact Jvm.Stand.selects_self_of_private (he ▸ findClass_of_methodNamed q3) hkP hkPi hpriv hinst hy
abbrev oR (f c s l : Nat) : Room := { frames := f, cells := c, slots := s, locals := l }
/-- what a walk owes from a state on: the run comes to a state of which G speaks -/
def own_Go (p : Program) (e : Env) (below : List Frame) (A : State) (G : State → Prop) : Prop := ∃ B, (∀ t, Steps p.tables e below B t → Steps p.tables e below A t) ∧ G B
theorem own_via {p : Program} {e : Env} {below : List Frame} {A B : State} {G : State → Prop} (h : ∀ t, Steps p.tables e below B t → Steps p.tables e below A t) (k : own_Go p e below B G) : own_Go p e below A G := by
  obtain ⟨C, h1, h2⟩ := k
  exact ⟨C, fun t q => h t (h1 t q), h2⟩
abbrev uu : Slot := .unset
theorem ov {p : Program} {e : Env} {below : List Frame} {A B : State} {G : State → Prop} (h : ∀ t, Steps p.tables e below B t → Steps p.tables e below A t) (k : own_Go p e below B G) : own_Go p e below A G := own_via h k
theorem own_done {p : Program} {e : Env} {below : List Frame} {A : State} {G : State → Prop} (g : G A) : own_Go p e below A G := ⟨A, fun _ q => q, g⟩
theorem own_bind {p : Program} {e : Env} {below : List Frame} {A : State} {G G' : State → Prop} (h : own_Go p e below A G) (k : ∀ B, G B → own_Go p e below B G') : own_Go p e below A G' := by
  obtain ⟨B, h1, h2⟩ := h
  exact own_via h1 (k B h2)
/-- the method ends here -/
def own_End (p : Program) (e : Env) (below : List Frame) (s : State) (Q : Option Value → Heap → List Loc → Prop) (C S : Nat) (B : State) : Prop :=
  ∃ s₂ o, Steps p.tables e below B s₂ ∧ s₂.status = .running ∧ Ended s₂ below o ∧ ∃ v L, o = .returned v ∧ Q v s₂.heap L ∧ FrameEnd s o s₂ L C S
theorem own_body {p : Program} {e : Env} {below : List Frame} {s A A' : State} {Q : Option Value → Heap → List Loc → Prop} {C S : Nat} (q : ∀ t, Steps p.tables e below A t → Steps p.tables e below A' t) (h : own_Go p e below A (own_End p e below s Q C S)) :
    ∃ s₂ o, Steps p.tables e below A' s₂ ∧ s₂.status = .running ∧ Ended s₂ below o ∧ ∃ v L, o = .returned v ∧ Q v s₂.heap L ∧ FrameEnd s o s₂ L C S := by
  obtain ⟨B, h1, s₂, o, h2, h3⟩ := h
  exact ⟨s₂, o, q _ (h1 _ h2), h3⟩
theorem oW {Z : State} {a0 : Array Value} (hw : ∀ d ∈ tables_1, d.before a0 Z = true) (i : Nat) {d : Jvm.Cond} (h : tables_1[i]? = some d) : d.before a0 Z = true := hw _ (List.mem_of_getElem? h)
section Short
variable {p : Program} {l : Launch} {e : Env} {R : Room} {s : State} {m : MethodId} {args : Array Value} {below : List Frame} {meth : Method} {c : Code} {T : State} {locs : List Loc} {cells slots : Nat} {G : State → Prop} {pc n : Nat} {Ls : Array Slot} {st : List Value}
theorem oAL (X : Stand p l e R s m args below meth c T locs cells slots) (hx : p.tables.exec = Jvm.exec) {k : Nat} {v : Value} (hd : decode c.code pc = .ok (.aload k, 2)) (hl : Ls[k]? = some (.val v)) (hv : v.isRef = true) (hn : n = pc + 2) (K : own_Go p e below (T.setTop (mkF m n Ls (v :: st))) G) : own_Go p e below (T.setTop (mkF m pc Ls st)) G := by
  subst hn; exact own_via (fun t k => XS.aload X.here hx rfl hd hl hv k) K
theorem oALN (X : Stand p l e R s m args below meth c T locs cells slots) (hx : p.tables.exec = Jvm.exec) {k : Fin 4} {v : Value} (hd : decode c.code pc = .ok (.aload_n k, 1)) (hl : Ls[k.val]? = some (.val v)) (hv : v.isRef = true) (hn : n = pc + 1) (K : own_Go p e below (T.setTop (mkF m n Ls (v :: st))) G) : own_Go p e below (T.setTop (mkF m pc Ls st)) G := by
  subst hn; exact own_via (fun t k => XS.aloadN X.here hx rfl hd hl hv k) K
theorem oIL (X : Stand p l e R s m args below meth c T locs cells slots) (hx : p.tables.exec = Jvm.exec) {k : Nat} {v : Int32} (hd : decode c.code pc = .ok (.iload k, 2)) (hl : Ls[k]? = some (.val (.int v))) (hn : n = pc + 2) (K : own_Go p e below (T.setTop (mkF m n Ls (.int v :: st))) G) : own_Go p e below (T.setTop (mkF m pc Ls st)) G := by
  subst hn; exact own_via (fun t k => XS.iload X.here hx rfl hd hl k) K
theorem oILN (X : Stand p l e R s m args below meth c T locs cells slots) (hx : p.tables.exec = Jvm.exec) {k : Fin 4} {v : Int32} (hd : decode c.code pc = .ok (.iload_n k, 1)) (hl : Ls[k.val]? = some (.val (.int v))) (hn : n = pc + 1) (K : own_Go p e below (T.setTop (mkF m n Ls (.int v :: st))) G) : own_Go p e below (T.setTop (mkF m pc Ls st)) G := by
  subst hn; exact own_via (fun t k => XS.iloadN X.here hx rfl hd hl k) K
theorem oIC (X : Stand p l e R s m args below meth c T locs cells slots) (hx : p.tables.exec = Jvm.exec) {i : Int} (z : Int32) (hd : decode c.code pc = .ok (.iconst i, 1)) (hz : Int32.ofInt i = z) (hn : n = pc + 1) (K : own_Go p e below (T.setTop (mkF m n Ls (.int z :: st))) G) : own_Go p e below (T.setTop (mkF m pc Ls st)) G := by
  subst hn hz; exact own_via (fun t k => XS.iconst X.here hx rfl hd k) K
theorem oBP (X : Stand p l e R s m args below meth c T locs cells slots) (hx : p.tables.exec = Jvm.exec) {i : Int} (z : Int32) (hd : decode c.code pc = .ok (.bipush i, 2)) (hz : (Int8.ofInt i).toInt32 = z) (hn : n = pc + 2) (K : own_Go p e below (T.setTop (mkF m n Ls (.int z :: st))) G) : own_Go p e below (T.setTop (mkF m pc Ls st)) G := by
  subst hn hz; exact own_via (fun t k => XS.bipush X.here hx rfl hd k) K
theorem oSP (X : Stand p l e R s m args below meth c T locs cells slots) (hx : p.tables.exec = Jvm.exec) {i : Int} (z : Int32) (hd : decode c.code pc = .ok (.sipush i, 3)) (hz : (Int16.ofInt i).toInt32 = z) (hn : n = pc + 3) (K : own_Go p e below (T.setTop (mkF m n Ls (.int z :: st))) G) : own_Go p e below (T.setTop (mkF m pc Ls st)) G := by
  subst hn hz; exact own_via (fun t k => XS.sipush X.here hx rfl hd k) K
theorem oNU (X : Stand p l e R s m args below meth c T locs cells slots) (hx : p.tables.exec = Jvm.exec) (hd : decode c.code pc = .ok (.aconst_null, 1)) (hn : n = pc + 1) (K : own_Go p e below (T.setTop (mkF m n Ls (.null :: st))) G) : own_Go p e below (T.setTop (mkF m pc Ls st)) G := by
  subst hn; exact own_via (fun t k => XS.aconstNull X.here hx rfl hd k) K
theorem oDU (X : Stand p l e R s m args below meth c T locs cells slots) (hx : p.tables.exec = Jvm.exec) {x : Value} (hd : decode c.code pc = .ok (.dup, 1)) (hc : x.category = 1) (hn : n = pc + 1) (K : own_Go p e below (T.setTop (mkF m n Ls (x :: x :: st))) G) : own_Go p e below (T.setTop (mkF m pc Ls (x :: st))) G := by
  subst hn; exact own_via (fun t k => XS.dup X.here hx rfl hd rfl hc k) K
theorem oPO (X : Stand p l e R s m args below meth c T locs cells slots) (hx : p.tables.exec = Jvm.exec) {x : Value} (hd : decode c.code pc = .ok (.pop, 1)) (hc : x.category = 1) (hn : n = pc + 1) (K : own_Go p e below (T.setTop (mkF m n Ls st)) G) : own_Go p e below (T.setTop (mkF m pc Ls (x :: st))) G := by
  subst hn; exact own_via (fun t k => XS.pop X.here hx rfl hd rfl hc k) K
theorem oGO (X : Stand p l e R s m args below meth c T locs cells slots) (hx : p.tables.exec = Jvm.exec) {o : Int} (hd : decode c.code pc = .ok (.goto o, 3)) (ho : 0 ≤ (pc : Int) + o) (hn : ((pc : Int) + o).toNat = n) (K : own_Go p e below (T.setTop (mkF m n Ls st)) G) : own_Go p e below (T.setTop (mkF m pc Ls st)) G :=
  own_via (fun t k => XS.goto X.here hx rfl (pc0 := pc) (pc' := n) rfl hd ho hn k) K
end Short
section Leaf
variable {p : Program} {l : Launch} {e : Env} {R : Room} {s : State} {m : MethodId} {args : Array Value} {below : List Frame} {meth : Method} {c : Code} {T : State} {locs : List Loc} {cells slots : Nat}
theorem own_leaf (X : Stand p l e R s m args below meth c T locs cells slots) (hx : p.tables.exec = Jvm.exec) (hlk : meth.locks = false) {pc : Nat} {Ls : Array Slot} {w : Value} {t : FieldType} {i : Instr} {rest : List Value} (hret : meth.sig.returnType = some t) (hn : narrow t w = w)
    (hi : (i = .ireturn ∧ (t = .int ∨ t = .boolean ∨ t = .byte ∨ t = .char ∨ t = .short) ∧ ∃ z, w = .int z) ∨ (i = .lreturn ∧ t = .long ∧ ∃ z, w = .long z) ∨ (i = .dreturn ∧ t = .double ∧ ∃ z, w = .double z) ∨ (i = .freturn ∧ t = .float ∧ ∃ z, w = .float z) ∨ (i = .areturn ∧ t.isReference = true ∧ w.isRef = true))
    (hd : decode c.code pc = .ok (i, 1)) {Q : Option Value → Heap → List Loc → Prop} {C S : Nat} (hC : cells ≤ C) (hS : slots ≤ S) (hq : Q (some w) T.heap locs) : own_Go p e below (T.setTop (mkF m pc Ls (w :: rest))) (own_End p e below s Q C S) := by
  obtain ⟨fs, hr, hrun, hended, hW, hsame⟩ := X.leave (v := some w) (fun h => by rw [hret] at h; cases h) hlk
  exact own_done ⟨_, _, retOut X hx hret hn hi hd hr, hrun, hended, _, _, rfl, hq, ⟨_, rfl⟩, hW, hsame.mono hC hS⟩
theorem own_leafV (X : Stand p l e R s m args below meth c T locs cells slots) (hx : p.tables.exec = Jvm.exec) (hlk : meth.locks = false) {pc : Nat} {Ls : Array Slot} (hret : meth.sig.returnType = none)
    (hd : decode c.code pc = .ok (.return_, 1)) {Q : Option Value → Heap → List Loc → Prop} {C S : Nat} (hC : cells ≤ C) (hS : slots ≤ S) (hq : Q none T.heap locs) : own_Go p e below (T.setTop (mkF m pc Ls [])) (own_End p e below s Q C S) := by
  obtain ⟨fs, hr, hrun, hended, hW, hsame⟩ := X.leave (v := none) (fun _ => rfl) hlk
  exact own_done ⟨_, _, X.returnOut hx hret hd hr, hrun, hended, _, _, rfl, hq, ⟨_, rfl⟩, hW, hsame.mono hC hS⟩
theorem own_getFR {Z : State} {a0 : Array Value} {h : Heap} (X : Stand p l e R s m args below meth c T locs cells slots) (hx : p.tables.exec = Jvm.exec) (hZ : Z.Warmed39 s.vm) {own R0 O n d : String} {index : Nat} (hown : s.vm.findClass own = some m.cls) (w : (Cond.fieldRef own index R0 n d).before a0 Z = true) (via : Via Z R0 O n d)
    (eT : T.heap = h) {a : Addr} {v : Value} (F : Fld Z h a O n d v) {g : JFrame} (hg : g.method = m) {rest : List Value} (hs : g.stack = .ref a :: rest) (hd : decode c.code g.pc = .ok (.getfield index, 3)) : ∃ T', Stand p l e R s m args below meth c T' locs cells slots ∧ T'.heap = h ∧ ∀ target, Steps p.tables e below (T'.setTop { g with pc := g.pc + 3, stack := v :: rest }) target → Steps p.tables e below (T.setTop g) target := by
  obtain ⟨cell, cf, k, i, f, h1, h2, h3, h4, -, -, h7⟩ := F
  have hW : Z.Warmed39 T.vm := wtrans hZ X.warmed
  have w1 := Cond.fieldRef_warmed39 hW w
  obtain ⟨c', k', i', f', hi, hr⟩ := Cond.fieldRef_spec (cur := m.cls) (show (Z.setVm T.vm).vm.findClass own = some m.cls by show T.vm.findClass own = _; rw [X.warmed.alike.findClass]; exact hown) w1
  obtain ⟨k'', hi', -⟩ := State.fieldFound?_setVm (s := Z) hW.alike (via _ h2)
  cases hi.symm.trans hi'
  refine ⟨T, X, eT, fun target hrest => ?_⟩
  subst hg
  jvm_step X.here [hx, hd, getfield.wp_ready (e := e) (s := T) (f := g) X.here.top hr h3 hs (by rw [eT]; exact h1) h4 h7]
  exact hrest
def own_EndW (p : Program) (e : Env) (below : List Frame) (s : State) (Q : Option Value → Heap → List Loc → Prop) (C S : Nat) (B : State) : Prop :=
  ∃ s₂ o, Steps p.tables e below B s₂ ∧ s₂.status = .running ∧ Ended s₂ below o ∧ ∃ v L, o = .returned v ∧ Q v s₂.heap L ∧ ReturnedEndW s o s₂ L C S
theorem own_bodyW {A A' : State} {Q : Option Value → Heap → List Loc → Prop} {C S : Nat} (q : ∀ t, Steps p.tables e below A t → Steps p.tables e below A' t) (h : own_Go p e below A (own_EndW p e below s Q C S)) :
    ∃ s₂ o, Steps p.tables e below A' s₂ ∧ s₂.status = .running ∧ Ended s₂ below o ∧ ∃ v L, o = .returned v ∧ Q v s₂.heap L ∧ ReturnedEndW s o s₂ L C S := by
  obtain ⟨B, h1, s₂, o, h2, h3⟩ := h
  exact ⟨s₂, o, q _ (h1 _ h2), h3⟩
theorem own_leafW {vm₁ : Vm} (X : Stand p l e R (s.setVm vm₁) m args below meth c T locs cells slots) (hx : p.tables.exec = Jvm.exec) (hlk : meth.locks = false) {n : Nat} (hS : s.Since vm₁ n) (hk : n ≤ T.heap.size) {pc : Nat} {Ls : Array Slot} {w : Value} {t : FieldType} {i : Instr} {rest : List Value} (hret : meth.sig.returnType = some t) (hn : narrow t w = w)
    (hi : (i = .ireturn ∧ (t = .int ∨ t = .boolean ∨ t = .byte ∨ t = .char ∨ t = .short) ∧ ∃ z, w = .int z) ∨ (i = .lreturn ∧ t = .long ∧ ∃ z, w = .long z) ∨ (i = .dreturn ∧ t = .double ∧ ∃ z, w = .double z) ∨ (i = .freturn ∧ t = .float ∧ ∃ z, w = .float z) ∨ (i = .areturn ∧ t.isReference = true ∧ w.isRef = true))
    (hd : decode c.code pc = .ok (i, 1)) {Q : Option Value → Heap → List Loc → Prop} {C S : Nat} (hC : cells ≤ C) (hS' : slots ≤ S) (hq : Q (some w) T.heap locs) : own_Go p e below (T.setTop (mkF m pc Ls (w :: rest))) (own_EndW p e below s Q C S) := by
  obtain ⟨fs, hr, hrun, hended, h1, h2, h3, hsame⟩ := X.leaveW hS hk (v := some w) (fun h => by rw [hret] at h; cases h) hlk
  exact own_done ⟨_, _, retOut X hx hret hn hi hd hr, hrun, hended, _, _, rfl, hq, h1, h2, h3, hsame.mono hC hS'⟩
theorem own_leafVW {vm₁ : Vm} (X : Stand p l e R (s.setVm vm₁) m args below meth c T locs cells slots) (hx : p.tables.exec = Jvm.exec) (hlk : meth.locks = false) {n : Nat} (hS : s.Since vm₁ n) (hk : n ≤ T.heap.size) {pc : Nat} {Ls : Array Slot} (hret : meth.sig.returnType = none)
    (hd : decode c.code pc = .ok (.return_, 1)) {Q : Option Value → Heap → List Loc → Prop} {C S : Nat} (hC : cells ≤ C) (hS' : slots ≤ S) (hq : Q none T.heap locs) : own_Go p e below (T.setTop (mkF m pc Ls [])) (own_EndW p e below s Q C S) := by
  obtain ⟨fs, hr, hrun, hended, h1, h2, h3, hsame⟩ := X.leaveW hS hk (v := none) (fun _ => rfl) hlk
  exact own_done ⟨_, _, X.returnOut hx hret hd hr, hrun, hended, _, _, rfl, hq, h1, h2, h3, hsame.mono hC hS'⟩
def own_bit (P : Prop) [Decidable P] : Int32 := if P then 1 else 0
theorem own_bit01 (P : Prop) [Decidable P] : own_bit P = 0 ∨ own_bit P = 1 := by unfold own_bit; split <;> simp
theorem own_bitT {P : Prop} [Decidable P] (h : P) : own_bit P = 1 := if_pos h
theorem own_bitF {P : Prop} [Decidable P] (h : ¬ P) : own_bit P = 0 := if_neg h
theorem own_bit0 {P : Prop} [Decidable P] : own_bit P = 0 ↔ ¬ P := by unfold own_bit; split <;> simp_all
theorem own_bit1 {P : Prop} [Decidable P] : own_bit P = 1 ↔ P := by unfold own_bit; split <;> simp_all
theorem own_bitne {P : Prop} [Decidable P] (h : P) : ¬ own_bit P = 0 := fun q => own_bit0.mp q h
theorem own_bits {P P' : Prop} [Decidable P] [Decidable P'] (h : P ↔ P') : own_bit P = own_bit P' := by unfold own_bit; simp [h]
theorem own_lt (x y : Int32) : x < y ↔ x.toInt < y.toInt := Int32.lt_iff_toInt_lt
theorem own_eq (x y : Int32) : x = y ↔ x.toInt = y.toInt := Int32.toInt_inj.symm
theorem own_ltL (x y : Int64) : x < y ↔ x.toInt < y.toInt := Int64.lt_iff_toInt_lt
theorem own_eqL (x y : Int64) : x = y ↔ x.toInt = y.toInt := Int64.toInt_inj.symm
theorem own_mask (x : Int32) : 0 ≤ (x &&& (2147483647 : Int32)).toInt := by
  have h : (x &&& (2147483647 : Int32)).toBitVec.msb = false := by
    show (x.toBitVec &&& 2147483647#32).msb = false
    have e : (2147483647#32).msb = false := by decide
    rw [BitVec.msb_and, e]; simp
  have := BitVec.toInt_eq_msb_cond (x &&& (2147483647 : Int32)).toBitVec
  rw [h] at this
  show 0 ≤ (x &&& (2147483647 : Int32)).toBitVec.toInt
  rw [this]
  simp only [Bool.false_eq_true, if_false]
  exact Int.natCast_nonneg _
theorem own_modm (x m : Int32) (hm : 0 < m.toInt) : 0 ≤ ((x &&& (2147483647 : Int32)) % m).toInt ∧ ((x &&& (2147483647 : Int32)) % m).toInt < m.toInt := by
  have h := own_mask x
  rw [Int32.toInt_mod, Int.tmod_eq_emod_of_nonneg h]
  exact ⟨Int.emod_nonneg _ (by omega), Int.emod_lt_of_pos _ hm⟩
theorem own_fb {x : Int32} (h : x = 0 ∨ x = 1) : fits .boolean (.int x) = true := by rcases h with rfl | rfl <;> decide
theorem own_eqI {t : Term} {k : Int32} {args : Array Value} {s : State} (h : (Cond.eq t (Term.int k)).value args s none s [] = some true) : t.eval args s none [] s = some (.int k) := by
  simp only [Cond.value] at h
  have hn : (Term.int k).eval args s none [] s = some (.int k) := rfl
  rw [hn] at h
  cases ht : t.eval args s none [] s with
  | none => simp [ht] at h
  | some v => cases v <;> simp [ht] at h ⊢ <;> first | exact h | (exact h.elim) | simp_all
theorem own_eqR {t u : Term} {a : Addr} {args : Array Value} {s : State} (h : (Cond.eq t u).value args s none s [] = some true) (hu : u.eval args s none [] s = some (.ref a)) : t.eval args s none [] s = some (.ref a) := by
  simp only [Cond.value] at h
  rw [hu] at h
  cases ht : t.eval args s none [] s with
  | none => simp [ht] at h
  | some v => cases v <;> simp [ht] at h ⊢ <;> first | exact h | (exact h.elim) | simp_all
theorem own_eqJ {t : Term} {k : Int64} {args : Array Value} {s : State} (h : (Cond.eq t (Term.long k)).value args s none s [] = some true) : t.eval args s none [] s = some (.long k) := by
  simp only [Cond.value] at h
  have hn : (Term.long k).eval args s none [] s = some (.long k) := rfl
  rw [hn] at h
  cases ht : t.eval args s none [] s with
  | none => simp [ht] at h
  | some v => cases v <;> simp [ht] at h ⊢ <;> first | exact h | (exact h.elim) | simp_all
theorem own_b1 {x : Int32} (h : x = 0 ∨ x = 1) : narrow .boolean (.int x) = .int x := by rcases h with rfl | rfl <;> rfl
end Leaf

theorem own_rep {α : Type} (i : Nat) (a b : α) : (List.replicate i a ++ List.replicate 1 b).set i a = List.replicate (i + 1) a := by
  rw [List.set_append_right _ _ (by simp)]
  simp [List.replicate_succ']
theorem own_full {Z : State} {h : Heap} {a : Addr} {k : ClassId} {z : Int32} {v d : Value} {n : Nat} (hn : n = z.toNatClampNeg) (V : Arv Z h a k .double z (List.replicate n v) d) (hv : fits .double v = true) : Arv Z h a k .double z [] v := by
  obtain ⟨c, A, q1, S, M, H, G⟩ := V
  refine ⟨c, A, q1, S, M, fun i hi => ?_, fun i hi => ?_⟩
  · rw [H i hi, List.getD_eq_getElem?_getD, List.getElem?_replicate, if_pos (by rw [hn, ← S]; exact hi)]; rfl
  · exact hv
theorem own_step {Z : State} {h h1 : Heap} {a : Addr} {k : ClassId} {z : Int32} {v d : Value} {i : Nat} {cl : Cell} (Ar : Arr Z h a cl .double) (q1 : cl.cls = k) (S : cl.slots.size = z.toNatClampNeg) (M : ¬ z < 0) (H : Has cl (List.replicate i v ++ List.replicate 1 d) d) (G : ∀ j, j < cl.slots.size → fits .double ((List.replicate i v ++ List.replicate 1 d).getD j d) = true) (hv : fits .double v = true) (W : Wr h h1 a (Int32.ofNat i).toNatClampNeg v) (hi : i < 2147483648) : Arv Z h1 a k .double z (List.replicate (i + 1) v) d := by
  have q := Arv.set Ar q1 S M H G hv W i (clamp_of rfl hi) (by simp)
  rw [own_rep] at q
  exact q
theorem own_zc (z : Int32) (hz : ¬ z < 0) : z.toNatClampNeg < 2147483648 ∧ z.toInt = (z.toNatClampNeg : Int) := ⟨(back32 hz).2, nat_of hz⟩
theorem own_ge {i : Nat} {z : Int32} (hz : ¬ z < 0) (hi : i + 0 = z.toNatClampNeg) : ¬ (Int32.ofNat i < z) := by
  obtain ⟨h1, h2⟩ := own_zc z hz
  rw [own_lt, Int32.toInt_ofNat_of_lt (by omega)]; omega
theorem own_go {i k : Nat} {z : Int32} (hz : ¬ z < 0) (hi : i + (k + 1) = z.toNatClampNeg) : Int32.ofNat i < z ∧ ¬ Int32.ofNat i < 0 ∧ i < 2147483648 := by
  obtain ⟨h1, h2⟩ := own_zc z hz
  have e0 : (0 : Int32).toInt = 0 := by decide
  refine ⟨?_, ?_, by omega⟩
  · rw [own_lt, Int32.toInt_ofNat_of_lt (by omega)]; omega
  · rw [own_lt, Int32.toInt_ofNat_of_lt (by omega), e0]; omega
def own_R (e : Int32) : Prop := 0 ≤ e.toInt ∧ e.toInt < 6
def own_T (e : Int32) : Prop := 0 ≤ e.toInt ∧ e.toInt ≤ 7
def own_mv (l : List Int32) (x v : Int32) : List Int32 := l.set x.toNatClampNeg v
def own_pp (l : List Int32) (x : Int32) : Int32 := l.getD x.toNatClampNeg 0
def own_rk (tt : List Int32) (x : Int32) : Int := 6 * (tt.getD x.toNatClampNeg 0).toInt + x.toInt
def own_I1 (tt : List Int32) : Prop := tt.length = 6 ∧ ∀ q, own_T (tt.getD q 0)
def own_I2 (PP : List Int32) (a b c d e f : Int32) : Prop := PP.length = 6 ∧ own_R a ∧ own_R b ∧ own_R c ∧ own_R d ∧ own_R e ∧ own_R f ∧ own_pp PP a = 0 ∧ own_pp PP b = 1 ∧ own_pp PP c = 2 ∧ own_pp PP d = 3 ∧ own_pp PP e = 4 ∧ own_pp PP f = 5
def own_I3 (a b c d e f : Int32) : Prop := ∀ q, own_R q → q = a ∨ q = b ∨ q = c ∨ q = d ∨ q = e ∨ q = f
def own_I4 (tt : List Int32) (a b c d e f : Int32) : Prop := own_rk tt a ≤ own_rk tt b ∧ own_rk tt a ≤ own_rk tt c ∧ own_rk tt b ≤ own_rk tt d ∧ own_rk tt b ≤ own_rk tt e ∧ own_rk tt c ≤ own_rk tt f
theorem own_Rn {x : Int32} (h : own_R x) : x.toNatClampNeg < 6 := by
  show x.toInt.toNat < 6
  have h1 := h.1; have h2 := h.2
  omega
theorem own_Rb {x : Int32} (h : own_R x) : ¬ x < 0 ∧ x < (6 : Int32) := by
  have a : (0 : Int32).toInt = 0 := rfl
  have b : (6 : Int32).toInt = 6 := rfl
  have h1 := h.1; have h2 := h.2
  rw [own_lt, own_lt, a, b]; omega
theorem own_Rinj {x y : Int32} (hx : own_R x) (hy : own_R y) (h : x ≠ y) : x.toNatClampNeg ≠ y.toNatClampNeg := fun q => h (by
  rw [own_eq]
  have q' : x.toInt.toNat = y.toInt.toNat := q
  have h1 := hx.1; have h2 := hx.2; have h3 := hy.1; have h4 := hy.2
  omega)
theorem own_mvl {l : List Int32} {x v : Int32} (h : l.length = 6) : (own_mv l x v).length = 6 := by simpa [own_mv] using h
theorem own_mvS {l : List Int32} {x v : Int32} (h : l.length = 6) (hx : own_R x) : own_pp (own_mv l x v) x = v := by
  have := own_Rn hx
  simp [own_pp, own_mv, List.getD_eq_getElem?_getD, h, this]
theorem own_mvN {l : List Int32} {x y v : Int32} (h : x ≠ y) (hx : own_R x) (hy : own_R y) : own_pp (own_mv l x v) y = own_pp l y := by
  have := own_Rinj hx hy h
  simp [own_pp, own_mv, List.getD_eq_getElem?_getD, List.getElem?_set, this]
theorem own_ppne {l : List Int32} {x y i j : Int32} (hx : own_pp l x = i) (hy : own_pp l y = j) (h : i ≠ j) : x ≠ y := fun e => h (by rw [← hx, ← hy, e])
theorem own_rkne {l : List Int32} {x y v : Int32} (h : x ≠ y) (hx : own_R x) (hy : own_R y) : own_rk (own_mv l x v) y = own_rk l y := by
  have e := own_mvN (l := l) (v := v) h hx hy
  unfold own_pp at e
  unfold own_rk
  rw [e]
theorem own_I1mv {l : List Int32} {x v : Int32} (h : own_I1 l) (hx : own_R x) (hv : own_T v) : own_I1 (own_mv l x v) := by
  refine ⟨own_mvl h.1, fun q => ?_⟩
  have e : (own_mv l x v).getD q 0 = v ∨ (own_mv l x v).getD q 0 = l.getD q 0 := by
    simp only [own_mv, List.getD_eq_getElem?_getD, List.getElem?_set]
    by_cases h1 : x.toNatClampNeg = q
    · subst h1
      left
      have := own_Rn hx
      simp [h.1, this]
    · right; simp [h1]
  rcases e with e | e <;> rw [e]
  · exact hv
  · exact h.2 q
def own_b (tt : List Int32) : Nat → Int32
  | 0 => 0
  | n + 1 => if tt.getD (n + 1) 0 < tt.getD (own_b tt n).toNatClampNeg 0 then Int32.ofNat (n + 1) else own_b tt n
theorem own_bT {tt : List Int32} {n : Nat} {b : Int32} (hb : b = own_b tt n) (h : tt.getD (n + 1) 0 < tt.getD b.toNatClampNeg 0) : Int32.ofNat (n + 1) = own_b tt (n + 1) := by
  rw [hb] at h; exact (if_pos h).symm
theorem own_bF {tt : List Int32} {n : Nat} {b : Int32} (hb : b = own_b tt n) (h : ¬ tt.getD (n + 1) 0 < tt.getD b.toNatClampNeg 0) : b = own_b tt (n + 1) := by
  rw [hb] at h ⊢; exact (if_neg h).symm
theorem own_bR (tt : List Int32) (n : Nat) (hn : n ≤ 5) : 0 ≤ (own_b tt n).toInt ∧ (own_b tt n).toInt ≤ n := by
  induction n with
  | zero => exact (show 0 ≤ (0 : Int32).toInt ∧ (0 : Int32).toInt ≤ ((0 : Nat) : Int) from ⟨by decide, by decide⟩)
  | succ n ih =>
    have := ih (by omega)
    unfold own_b; split
    · rw [Int32.toInt_ofNat_of_lt (by omega)]; omega
    · omega
theorem own_bRR (tt : List Int32) (n : Nat) (hn : n ≤ 5) : own_R (own_b tt n) := ⟨(own_bR tt n hn).1, by have := (own_bR tt n hn).2; omega⟩
theorem own_of {q : Nat} (hq : q ≤ 5) : (Int32.ofNat q).toInt = q ∧ (Int32.ofNat q).toNatClampNeg = q := ⟨Int32.toInt_ofNat_of_lt (by omega), Int32.toNatClampNeg_ofNat_of_lt (by omega)⟩
theorem own_bmin (tt : List Int32) (n : Nat) (hn : n ≤ 5) : ∀ q, q ≤ n → own_rk tt (own_b tt n) ≤ own_rk tt (Int32.ofNat q) := by
  induction n with
  | zero => intro q hq; rw [Nat.le_zero.mp hq]; exact Int.le_refl _
  | succ n ih =>
    intro q hq
    have hb := own_bR tt n (by omega)
    have o1 := own_of (q := n + 1) hn
    by_cases h : tt.getD (n + 1) 0 < tt.getD (own_b tt n).toNatClampNeg 0
    · have e : own_b tt (n + 1) = Int32.ofNat (n + 1) := if_pos h
      rw [e]
      rw [own_lt] at h
      by_cases h2 : q = n + 1
      · rw [h2]; exact Int.le_refl _
      · have i := ih (by omega) q (by omega)
        have o2 := own_of (q := q) (by omega)
        unfold own_rk at i ⊢
        rw [o1.1, o1.2]
        rw [o2.1, o2.2] at i ⊢
        omega
    · have e : own_b tt (n + 1) = own_b tt n := if_neg h
      rw [e]
      rw [own_lt] at h
      by_cases h2 : q = n + 1
      · rw [h2]
        unfold own_rk
        rw [o1.1, o1.2]
        omega
      · exact ih (by omega) q (by omega)
theorem own_min {tt PP : List Int32} {a b c d e f : Int32} (h2 : own_I2 PP a b c d e f) (h3 : own_I3 a b c d e f) (h4 : own_I4 tt a b c d e f) : a = own_b tt 5 := by
  have hr := own_bRR tt 5 (by omega)
  have ha := h2.2.1
  obtain ⟨o1, o2, o3, o4, o5⟩ := h4
  have m : own_rk tt (own_b tt 5) ≤ own_rk tt a := by
    have q := own_bmin tt 5 (by omega) a.toInt.toNat (by have := ha.2; omega)
    have ea : Int32.ofNat a.toInt.toNat = a := by
      have g := own_of (q := a.toInt.toNat) (by have := ha.2; omega)
      rw [own_eq, g.1]; have := ha.1; omega
    rwa [ea] at q
  have m2 : own_rk tt a ≤ own_rk tt (own_b tt 5) := by
    rcases h3 _ hr with q | q | q | q | q | q <;> rw [q] <;> omega
  have k1 := ha.1; have k2 := ha.2; have k3 := hr.1; have k4 := hr.2
  rw [own_eq]
  unfold own_rk at m m2
  omega
theorem own_s6 (x : Int32) : own_R ((x &&& (65535 : Int32)) % (6 : Int32)) := by
  have h : (x &&& 65535).toBitVec.toNat < 65536 := by
    simp only [Int32.toBitVec_and, BitVec.toNat_and]
    exact Nat.lt_succ_of_le Nat.and_le_right
  have e : (x &&& 65535) = Int32.ofNat (x &&& 65535).toBitVec.toNat := by
    apply Int32.toBitVec_inj.mp
    show _ = BitVec.ofNat 32 _
    rw [BitVec.ofNat_toNat]; simp
  have p : 0 ≤ (x &&& 65535).toInt := by rw [e, Int32.toInt_ofNat_of_lt (by omega)]; omega
  have e6 : (6 : Int32).toInt = 6 := rfl
  unfold own_R
  rw [Int32.toInt_mod, Int.tmod_eq_emod_of_nonneg p, e6]
  omega
theorem own_y7 (x : Int32) : own_T (x &&& (7 : Int32)) := by
  have h : (x &&& 7).toBitVec.toNat < 8 := by
    simp only [Int32.toBitVec_and, BitVec.toNat_and]
    exact Nat.lt_succ_of_le Nat.and_le_right
  have e : (x &&& 7) = Int32.ofNat (x &&& 7).toBitVec.toNat := by
    apply Int32.toBitVec_inj.mp
    show _ = BitVec.ofNat 32 _
    rw [BitVec.ofNat_toNat]; simp
  unfold own_T
  rw [e, Int32.toInt_ofNat_of_lt (by omega)]
  omega
theorem own_T8 {a : Int32} (h : own_T a) : ∃ k : Fin 8, a = Int32.ofNat k.val := by
  have h1 := h.1; have h2 := h.2
  refine ⟨⟨a.toInt.toNat, by omega⟩, ?_⟩
  rw [own_eq]
  show _ = (Int32.ofNat a.toInt.toNat).toInt
  rw [Int32.toInt_ofNat_of_lt (by omega)]; omega
theorem own_i1 : own_I1 [7, 7, 7, 7, 7, 7] := by
  refine ⟨rfl, fun q => ?_⟩
  rcases q with _ | _ | _ | _ | _ | _ | q
  all_goals first | exact ⟨by decide, by decide⟩ | (show own_T 0; exact ⟨by decide, by decide⟩)
theorem own_i2 : own_I2 [0, 1, 2, 3, 4, 5] 0 1 2 3 4 5 := by
  refine ⟨rfl, ?_, ?_, ?_, ?_, ?_, ?_, rfl, rfl, rfl, rfl, rfl, rfl⟩ <;> exact ⟨by decide, by decide⟩
theorem own_i3 : own_I3 0 1 2 3 4 5 := by
  intro q hq
  have h1 := hq.1; have h2 := hq.2
  simp only [own_eq]
  have a0 : (0 : Int32).toInt = 0 := rfl
  have a1 : (1 : Int32).toInt = 1 := rfl
  have a2 : (2 : Int32).toInt = 2 := rfl
  have a3 : (3 : Int32).toInt = 3 := rfl
  have a4 : (4 : Int32).toInt = 4 := rfl
  have a5 : (5 : Int32).toInt = 5 := rfl
  rw [a0, a1, a2, a3, a4, a5]; omega
theorem own_i4 : own_I4 [7, 7, 7, 7, 7, 7] 0 1 2 3 4 5 := by
  refine ⟨?_, ?_, ?_, ?_, ?_⟩ <;> decide

def own_tw (t : Int32) : UInt64 := if t = 7 then (9218868437227405312 : UInt64) else FP.i2d t
def own_tv (t : Int32) : Value := .double (own_tw t)
theorem own_tw7 {t : Int32} (h : t = (7 : Int32)) : (9218868437227405312 : UInt64) = own_tw t := (if_pos h).symm
theorem own_twn {t : Int32} (h : ¬ t = (7 : Int32)) : FP.i2d t = own_tw t := (if_neg h).symm
theorem own_cmp {a b : Int32} (ha : own_T a) (hb : own_T b) : (cmpValue (FP.dcmp (own_tw a) (own_tw b)) .g < 0 ↔ a.toInt < b.toInt) ∧ (cmpValue (FP.dcmp (own_tw a) (own_tw b)) .l = 0 ↔ a.toInt = b.toInt) := by
  obtain ⟨i, rfl⟩ := own_T8 ha
  obtain ⟨j, rfl⟩ := own_T8 hb
  exact (by decide +kernel : ∀ i j : Fin 8, (cmpValue (FP.dcmp (own_tw (Int32.ofNat i.val)) (own_tw (Int32.ofNat j.val))) .g < 0 ↔ (Int32.ofNat i.val).toInt < (Int32.ofNat j.val).toInt) ∧ (cmpValue (FP.dcmp (own_tw (Int32.ofNat i.val)) (own_tw (Int32.ofNat j.val))) .l = 0 ↔ (Int32.ofNat i.val).toInt = (Int32.ofNat j.val).toInt)) i j
theorem own_mgI (l : List Int32) (n : Nat) : (l.map Value.int).getD n (.int 0) = .int (l.getD n 0) := by rw [List.getD_eq_getElem?_getD, List.getD_eq_getElem?_getD, List.getElem?_map]; cases l[n]? <;> rfl
theorem own_mgT (l : List Int32) (n : Nat) : (l.map own_tv).getD n (.double (own_tw 0)) = .double (own_tw (l.getD n 0)) := by rw [List.getD_eq_getElem?_getD, List.getD_eq_getElem?_getD, List.getElem?_map]; cases l[n]? <;> rfl
theorem own_msI (l : List Int32) (n : Nat) (v : Int32) : (l.map Value.int).set n (.int v) = (l.set n v).map Value.int := by simp [List.map_set]
theorem own_msT (l : List Int32) (n : Nat) (v : Int32) : (l.map own_tv).set n (.double (own_tw v)) = (l.set n v).map own_tv := by simp [List.map_set, own_tv]
theorem own_t0 {Z : State} {h : Heap} {a : Addr} {k : ClassId} (V : Arv Z h a k .double (6 : Int32) [] (.double (9218868437227405312 : UInt64))) : Arv Z h a k .double (6 : Int32) (([7, 7, 7, 7, 7, 7] : List Int32).map own_tv) (.double (own_tw 0)) := by
  obtain ⟨c, A, q1, S, M, H, G⟩ := V
  have e : ∀ i, i < c.slots.size → (([7, 7, 7, 7, 7, 7] : List Int32).map own_tv).getD i (.double (own_tw 0)) = ([] : List Value).getD i (.double (9218868437227405312 : UInt64)) := fun i hi => by
    have h6 : i < 6 := by rw [S] at hi; exact hi
    rcases i with _ | _ | _ | _ | _ | _ | i
    all_goals first | rfl | omega
  exact ⟨c, A, q1, S, M, fun i hi => by rw [e i hi]; exact H i hi, fun i hi => by rw [e i hi]; exact G i hi⟩
theorem own_got7 {t : Int32} (h : t = (7 : Int32)) : cmpValue (FP.dcmp (own_tw t) (9218868437227405312 : UInt64)) .l = 0 := by rw [h]; decide +kernel
theorem own_gotn {t : Int32} (h : ¬ t = (7 : Int32)) : cmpValue (FP.dcmp (own_tw t) (FP.i2d t)) .l = 0 := by rw [← own_twn h]; exact dcmpV_self (nn_w (i2d_w t)) .l
theorem own_Bt {tt : List Int32} {x y : Int32} (h : own_I1 tt) : (cmpValue (FP.dcmp (own_tw (tt.getD x.toNatClampNeg 0)) (own_tw (tt.getD y.toNatClampNeg 0))) .g < 0 ↔ (tt.getD x.toNatClampNeg 0).toInt < (tt.getD y.toNatClampNeg 0).toInt) ∧ (cmpValue (FP.dcmp (own_tw (tt.getD x.toNatClampNeg 0)) (own_tw (tt.getD y.toNatClampNeg 0))) .l = 0 ↔ (tt.getD x.toNatClampNeg 0).toInt = (tt.getD y.toNatClampNeg 0).toInt) := own_cmp (h.2 _) (h.2 _)
theorem own_B1 {tt : List Int32} {x y : Int32} (hx : own_R x) (hy : own_R y) (h : own_I1 tt) (c : cmpValue (FP.dcmp (own_tw (tt.getD x.toNatClampNeg 0)) (own_tw (tt.getD y.toNatClampNeg 0))) .g < 0) : own_rk tt x < own_rk tt y := by
  have q := (own_Bt (x := x) (y := y) h).1.mp c
  have h1 := hx.1; have h2 := hx.2; have h3 := hy.1; have h4 := hy.2
  unfold own_rk; omega
theorem own_B2 {tt : List Int32} {x y : Int32} (hx : own_R x) (hy : own_R y) (h : own_I1 tt) (c : ¬ cmpValue (FP.dcmp (own_tw (tt.getD x.toNatClampNeg 0)) (own_tw (tt.getD y.toNatClampNeg 0))) .g < 0) (d : ¬ cmpValue (FP.dcmp (own_tw (tt.getD x.toNatClampNeg 0)) (own_tw (tt.getD y.toNatClampNeg 0))) .l = 0) : ¬ own_rk tt x < own_rk tt y := by
  have q := mt (own_Bt (x := x) (y := y) h).1.mpr c
  have r := mt (own_Bt (x := x) (y := y) h).2.mpr d
  have h1 := hx.1; have h2 := hx.2; have h3 := hy.1; have h4 := hy.2
  unfold own_rk; omega
theorem own_B3 {tt : List Int32} {x y : Int32} (hx : own_R x) (hy : own_R y) (h : own_I1 tt) (d : cmpValue (FP.dcmp (own_tw (tt.getD x.toNatClampNeg 0)) (own_tw (tt.getD y.toNatClampNeg 0))) .l = 0) : own_rk tt x < own_rk tt y ↔ x < y := by
  have r := (own_Bt (x := x) (y := y) h).2.mp d
  rw [own_lt]
  unfold own_rk; omega
theorem own_d3_0 : decode jdk_65_method_113_code 0 = .ok (.iconst 0, 1) := by decide +kernel
theorem own_d3_1 : decode jdk_65_method_113_code 1 = .ok (.istore_n 3, 1) := by decide +kernel
theorem own_d3_2 : decode jdk_65_method_113_code 2 = .ok (.aload_n 0, 1) := by decide +kernel
theorem own_d3_3 : decode jdk_65_method_113_code 3 = .ok (.arraylength, 1) := by decide +kernel
theorem own_d3_4 : decode jdk_65_method_113_code 4 = .ok (.istore 4, 2) := by decide +kernel
theorem own_d3_6 : decode jdk_65_method_113_code 6 = .ok (.iload_n 3, 1) := by decide +kernel
theorem own_d3_7 : decode jdk_65_method_113_code 7 = .ok (.iload 4, 2) := by decide +kernel
theorem own_d3_9 : decode jdk_65_method_113_code 9 = .ok (.if_icmp .ge 13, 3) := by decide +kernel
theorem own_d3_12 : decode jdk_65_method_113_code 12 = .ok (.aload_n 0, 1) := by decide +kernel
theorem own_d3_13 : decode jdk_65_method_113_code 13 = .ok (.iload_n 3, 1) := by decide +kernel
theorem own_d3_14 : decode jdk_65_method_113_code 14 = .ok (.dload_n 1, 1) := by decide +kernel
theorem own_d3_15 : decode jdk_65_method_113_code 15 = .ok (.dastore, 1) := by decide +kernel
theorem own_d3_16 : decode jdk_65_method_113_code 16 = .ok (.iinc 3 1, 3) := by decide +kernel
theorem own_d3_19 : decode jdk_65_method_113_code 19 = .ok (.goto (-13), 3) := by decide +kernel
theorem own_d3_22 : decode jdk_65_method_113_code 22 = .ok (.return_, 1) := by decide +kernel
set_option maxRecDepth 65536 in
set_option maxHeartbeats 40000000 in
theorem own_loop3 {p : Program} {l : Launch} {e : Env} {R : Room} {s : State} {m : MethodId} {args : Array Value} {below : List Frame} {meth : Method} {c : Code} {cells slots : Nat} {Z : State} {n0 : Nat} {a3 : Addr} {v3 : UInt64} {k3 : ClassId} {z3 : Int32} {d3 : Value} (hx : p.tables.exec = Jvm.exec) (hZ : Z.Warmed39 s.vm) (hby : c.code = jdk_65_method_113_code) (g_a3 : n0 ≤ a3) :
    ∀ (k i : Nat) (T : State) (h : Heap) (locs : List Loc), i + k = z3.toNatClampNeg → Stand p l e R s m args below meth c T locs cells slots → T.heap = h → Fr n0 locs → Arv Z h a3 k3 .double z3 (List.replicate i (.double v3)) d3 → own_Go p e below (T.setTop (mkF m 6 #[.val (.ref a3), .val (.double v3), .second, .val (.int (Int32.ofNat i)), .val (.int z3)] [])) (fun B => ∃ (T' : State) (h' : Heap) (L' : List Loc) (i' : Int32), B = T'.setTop (mkF m 22 #[.val (.ref a3), .val (.double v3), .second, .val (.int i'), .val (.int z3)] []) ∧ Stand p l e R s m args below meth c T' L' cells slots ∧ T'.heap = h' ∧ Fr n0 L' ∧ Keep h h' [a3] ∧ Arv Z h' a3 k3 .double z3 [] (.double v3)) := by
  intro k
  induction k with
  | zero =>
    intro i T h locs hi X0 e0 N0 V
    refine oILN (n := 7) X0 hx (hb hby own_d3_6) rfl rfl ?_
    refine oIL (n := 9) X0 hx (hb hby own_d3_7) rfl rfl ?_
    have hc9 : ¬ ((Int32.ofNat i) < z3) := own_ge (by obtain ⟨_, _, _, _, M, _⟩ := V; exact M) hi
    refine ov (B := T.setTop (mkF m 22 #[rv a3, .val (.double v3), .second, iv (Int32.ofNat i), iv z3] [])) (fun t k => XS.icmpYes X0.here hx rfl (pc0 := 9) (pc' := 22) rfl (hb hby own_d3_9) rfl (flt hc9).2.1 (by decide) (by decide) k) ?_
    exact own_done ⟨_, _, _, _, rfl, X0, e0, N0, Keep.refl _ _, own_full (by omega) V rfl⟩
  | succ k ih =>
    intro i T h locs hi X0 e0 N0 V
    have hg := own_go (by obtain ⟨_, _, _, _, M, _⟩ := V; exact M) hi
    refine oILN (n := 7) X0 hx (hb hby own_d3_6) rfl rfl ?_
    refine oIL (n := 9) X0 hx (hb hby own_d3_7) rfl rfl ?_
    have hc9 : (Int32.ofNat i) < z3 := hg.1
    refine ov (B := T.setTop (mkF m 12 #[rv a3, .val (.double v3), .second, iv (Int32.ofNat i), iv z3] [])) (fun t k => XS.icmpNo X0.here hx rfl (hb hby own_d3_9) rfl (tlt hc9).2.1 k) ?_
    refine oALN (n := 13) X0 hx (hb hby own_d3_12) rfl rfl rfl ?_
    refine oILN (n := 14) X0 hx (hb hby own_d3_13) rfl rfl ?_
    refine ov (B := T.setTop (mkF m 15 #[rv a3, .val (.double v3), .second, iv (Int32.ofNat i), iv z3] [(.double v3), (.int (Int32.ofNat i)), (.ref a3)])) (fun t k => XS.dloadN X0.here hx rfl (hb hby own_d3_14) rfl k) ?_
    obtain ⟨cl, Ar, q1, S1, M1, H1, G1⟩ := V.pad (pad_rep _ d3 1)
    obtain ⟨T1, h1, X1, e1, W1, st1⟩ := stD X0 hx hZ e0 Ar (j := (Int32.ofNat i)) (inb_of S1 ⟨hg.2.1, hg.1⟩) (g := (mkF m 15 #[rv a3, .val (.double v3), .second, iv (Int32.ofNat i), iv z3] [(.double v3), (.int (Int32.ofNat i)), (.ref a3)])) rfl rfl (hb hby own_d3_15)
    have V1 := own_step Ar q1 S1 M1 H1 G1 rfl W1 hg.2.2
    have N1 := Fr.snoc X1 N0 g_a3
    refine ov (B := T1.setTop (mkF m 16 #[rv a3, .val (.double v3), .second, iv (Int32.ofNat i), iv z3] [])) (fun t k => st1 t k) ?_
    refine ov (B := T1.setTop (mkF m 19 #[rv a3, .val (.double v3), .second, iv ((Int32.ofNat i) + (1 : Int32)), iv z3] [])) (fun t k => XS.iinc X1.here hx rfl (hb hby own_d3_16) rfl (l' := #[rv a3, .val (.double v3), .second, iv ((Int32.ofNat i) + (1 : Int32)), iv z3]) rfl k) ?_
    refine oGO (n := 6) X1 hx (hb hby own_d3_19) (by decide) (by decide) ?_
    refine own_bind (by have q := ih (i + 1) _ _ _ (by omega) X1 e1 N1 V1; rw [inc_ofNat] at q; exact q) ?_
    rintro B ⟨T', h', L', i', rfl, X', e', N', K', V'⟩
    exact own_done ⟨T', h', L', i', rfl, X', e', N', (Keep.of_wr W1).trans K' (allS (Or.inl (List.mem_of_getElem? (i := 0) rfl)) all0), V'⟩
theorem own_pn0 : plainName "java/util/Arrays" = true := by first | (simp [plainName, overriddenIn]; done) | decide +kernel
theorem own_ef3 (m : MethodId) (x0 : Addr) (x1 : UInt64) : entryFrame m #[(.ref x0), (.double x1)] 5 = mkF m 0 #[rv x0, .val (.double x1), .second, uu, uu] [] := by first | (simp [entryFrame, mkF, argsToLocals, Value.category]; done) | rfl
def Q3 (Z : State) (a3 : Addr) (v3 : UInt64) (k3 : ClassId) (z3 : Int32) (d3 : Value) (h0 : Heap) (n0 : Nat) (v : Option Value) (h : Heap) (L : List Loc) : Prop := v = none ∧ Fr n0 L ∧ Keep h0 h [a3] ∧ (Arv Z h a3 k3 .double z3 [] (.double v3))
set_option maxRecDepth 65536 in
set_option maxHeartbeats 40000000 in
theorem rm3 (l : Launch) (Z : State) (a0 : Array Value) (hw : ∀ d ∈ tables_1, d.before a0 Z = true) (ws : List Jvm.Cond) (a3 : Addr) (v3 : UInt64) (k3 : ClassId) (z3 : Int32) (d3 : Value) (h0 : Heap) (n0 : Nat) (Z0 : n0 ≤ h0.size) (V3 : Arv Z h0 a3 k3 .double z3 [] d3) (g_a3 : n0 ≤ a3) :
    MetFree l (⟨"java/util/Arrays", "fill", "([DD)V"⟩ : MethodName) (head1 (Jvm.Cond.code (⟨"java/util/Arrays", "fill", "([DD)V"⟩ : MethodName) jdk_65_method_113_code 5 none :: ws) (oR 0 0 0 0)) (fun a U => a = #[(.ref a3), (.double v3)] ∧ Z.Warmed39 U.vm ∧ U.heap = h0) (fun _ _ _ _ _ => True) (fun _ U o U' => ∃ v L, o = .returned v ∧ Q3 Z a3 v3 k3 z3 d3 h0 n0 v U'.heap L ∧ FrameEnd U o U' L (oR 0 0 0 0).cells (oR 0 0 0 0).slots) := by
  refine MetFree.of_bodySF (plainFor_of_name own_pn0) hisR ?_
  intro p e s m args below meth c s₁ Bd hml0 hP hK
  obtain ⟨rfl, hZ, hh⟩ := hP
  have hx := Bd.exec
  have hby := Bd.bytes
  have hlk : meth.locks = false := Bd.notSynchronized
  have hml : c.maxLocals = 5 := hml0
  have hown : s.vm.findClass "java/util/Arrays" = some m.cls := findClass_of_methodNamed Bd.named
  have hnm := (name_of_methodNamed Bd.named Bd.method).1
  have X0 : Stand p l e (oR 0 0 0 0) s m #[(.ref a3), (.double v3)] below meth c s₁ [] 0 0 := Stand.of_body Bd
  have e0 : s₁.heap = h0 := by rw [← hh, Bd.state]; rfl
  have N0 := Fr.nil n0
  refine own_body (A := s₁.setTop (mkF m 0 #[rv a3, .val (.double v3), .second, uu, uu] [])) (Q := Q3 Z a3 v3 k3 z3 d3 h0 n0) (fun t k => castTop (own_ef3 m a3 v3) k) ?_
  refine oIC (n := 1) X0 hx (0 : Int32) (hb hby own_d3_0) (by decide) rfl ?_
  refine ov (B := s₁.setTop (mkF m 2 #[rv a3, .val (.double v3), .second, iv (0 : Int32), uu] [])) (fun t k => XS.istoreN X0.here hx rfl (hb hby own_d3_1) rfl (l' := #[rv a3, .val (.double v3), .second, iv (0 : Int32), uu]) rfl k) ?_
  refine oALN (n := 3) X0 hx (hb hby own_d3_2) rfl rfl rfl ?_
  obtain ⟨cl1, Ar1, q1, S1, M1, H1, G1⟩ := id V3
  refine ov (B := s₁.setTop (mkF m 4 #[rv a3, .val (.double v3), .second, iv (0 : Int32), uu] [(.int z3)])) (fun t k => X0.arraylength hx (by rw [e0]; exact Ar1.1) (State.isArrayOf_alike hZ.alike Ar1.2.1) (g := (mkF m 3 #[rv a3, .val (.double v3), .second, iv (0 : Int32), uu] [(.ref a3)])) rfl rfl (hb hby own_d3_3) _ (by rw [len_of S1 M1]; exact k)) ?_
  refine ov (B := s₁.setTop (mkF m 6 #[rv a3, .val (.double v3), .second, iv (0 : Int32), iv z3] [])) (fun t k => XS.istore X0.here hx rfl (hb hby own_d3_4) rfl (l' := #[rv a3, .val (.double v3), .second, iv (0 : Int32), iv z3]) rfl k) ?_
  refine own_bind (own_loop3 hx hZ hby g_a3 z3.toNatClampNeg 0 _ _ _ (by omega) X0 e0 N0 V3) ?_
  rintro B ⟨T9, h9, L9, i9, rfl, X9, e9, N9, K9, Vf⟩
  refine own_leafV X9 hx hlk Bd.returns (hb hby own_d3_22) (by decide) (by decide) ?_
  show Q3 Z a3 v3 k3 z3 d3 h0 n0 _ T9.heap _
  rw [e9]
  refine ⟨?_, N9, ((Keep.refl h0 [a3]).trans K9 (allS (Or.inl (List.mem_of_getElem? (i := 0) rfl)) all0)), Vf⟩
  rfl
theorem own_pn1 : plainName "com/example/meerkat/meerkat/simulate/Completions" = true := by first | (simp [plainName, overriddenIn]; done) | decide +kernel
theorem own_d6_0 : decode prog_26_method_5_code 0 = .ok (.aload_n 0, 1) := by decide +kernel
theorem own_d6_1 : decode prog_26_method_5_code 1 = .ok (.getfield 7, 3) := by decide +kernel
theorem own_d6_4 : decode prog_26_method_5_code 4 = .ok (.iload_n 1, 1) := by decide +kernel
theorem own_d6_5 : decode prog_26_method_5_code 5 = .ok (.daload, 1) := by decide +kernel
theorem own_d6_6 : decode prog_26_method_5_code 6 = .ok (.aload_n 0, 1) := by decide +kernel
theorem own_d6_7 : decode prog_26_method_5_code 7 = .ok (.getfield 7, 3) := by decide +kernel
theorem own_d6_10 : decode prog_26_method_5_code 10 = .ok (.iload_n 2, 1) := by decide +kernel
theorem own_d6_11 : decode prog_26_method_5_code 11 = .ok (.daload, 1) := by decide +kernel
theorem own_d6_12 : decode prog_26_method_5_code 12 = .ok (.dcmp .g, 1) := by decide +kernel
theorem own_d6_13 : decode prog_26_method_5_code 13 = .ok (.ifCond .lt 24, 3) := by decide +kernel
theorem own_d6_16 : decode prog_26_method_5_code 16 = .ok (.aload_n 0, 1) := by decide +kernel
theorem own_d6_17 : decode prog_26_method_5_code 17 = .ok (.getfield 7, 3) := by decide +kernel
theorem own_d6_20 : decode prog_26_method_5_code 20 = .ok (.iload_n 1, 1) := by decide +kernel
theorem own_d6_21 : decode prog_26_method_5_code 21 = .ok (.daload, 1) := by decide +kernel
theorem own_d6_22 : decode prog_26_method_5_code 22 = .ok (.aload_n 0, 1) := by decide +kernel
theorem own_d6_23 : decode prog_26_method_5_code 23 = .ok (.getfield 7, 3) := by decide +kernel
theorem own_d6_26 : decode prog_26_method_5_code 26 = .ok (.iload_n 2, 1) := by decide +kernel
theorem own_d6_27 : decode prog_26_method_5_code 27 = .ok (.daload, 1) := by decide +kernel
theorem own_d6_28 : decode prog_26_method_5_code 28 = .ok (.dcmp .l, 1) := by decide +kernel
theorem own_d6_29 : decode prog_26_method_5_code 29 = .ok (.ifCond .ne 12, 3) := by decide +kernel
theorem own_d6_32 : decode prog_26_method_5_code 32 = .ok (.iload_n 1, 1) := by decide +kernel
theorem own_d6_33 : decode prog_26_method_5_code 33 = .ok (.iload_n 2, 1) := by decide +kernel
theorem own_d6_34 : decode prog_26_method_5_code 34 = .ok (.if_icmp .ge 7, 3) := by decide +kernel
theorem own_d6_37 : decode prog_26_method_5_code 37 = .ok (.iconst 1, 1) := by decide +kernel
theorem own_d6_38 : decode prog_26_method_5_code 38 = .ok (.goto 4, 3) := by decide +kernel
theorem own_d6_41 : decode prog_26_method_5_code 41 = .ok (.iconst 0, 1) := by decide +kernel
theorem own_d6_42 : decode prog_26_method_5_code 42 = .ok (.ireturn, 1) := by decide +kernel
theorem own_efB (m : MethodId) (x0 : Addr) (x1 : Int32) (x2 : Int32) : entryFrame m #[(.ref x0), (.int x1), (.int x2)] 3 = mkF m 0 #[rv x0, iv x1, iv x2] [] := by first | (simp [entryFrame, mkF, argsToLocals, Value.category]; done) | rfl
def QB (Z : State) (aB : Addr) (xB : Int32) (yB : Int32) (gB : Addr) (kt : ClassId) (tt : List Int32) (h0 : Heap) (n0 : Nat) (v : Option Value) (h : Heap) (L : List Loc) : Prop := v = some (.int (own_bit (own_rk tt xB < own_rk tt yB))) ∧ Fr n0 L ∧ h = h0
set_option maxRecDepth 65536 in
set_option maxHeartbeats 40000000 in
theorem rmB (l : Launch) (Z : State) (a0 : Array Value) (hw : ∀ d ∈ tables_1, d.before a0 Z = true) (ws : List Jvm.Cond) (aB : Addr) (xB : Int32) (yB : Int32) (gB : Addr) (kt : ClassId) (tt : List Int32) (h0 : Heap) (n0 : Nat) (Z0 : n0 ≤ h0.size) (Ft : Fld Z h0 aB "com/example/meerkat/meerkat/simulate/Completions" "times" "[D" (.ref gB)) (Vt : Arv Z h0 gB kt .double (6 : Int32) (tt.map own_tv) (.double (own_tw 0))) (qI : own_I1 tt) (rx : own_R xB) (ry : own_R yB) :
    MetFree l (⟨"com/example/meerkat/meerkat/simulate/Completions", "before", "(II)Z"⟩ : MethodName) (head1 (Jvm.Cond.code (⟨"com/example/meerkat/meerkat/simulate/Completions", "before", "(II)Z"⟩ : MethodName) prog_26_method_5_code 3 (some .boolean) :: ws) (oR 0 0 0 0)) (fun a U => a = #[(.ref aB), (.int xB), (.int yB)] ∧ Z.Warmed39 U.vm ∧ U.heap = h0) (fun _ _ _ _ _ => True) (fun _ U o U' => ∃ v L, o = .returned v ∧ QB Z aB xB yB gB kt tt h0 n0 v U'.heap L ∧ FrameEnd U o U' L (oR 0 0 0 0).cells (oR 0 0 0 0).slots) := by
  refine MetFree.of_bodySF (plainFor_of_name own_pn1) hisR ?_
  intro p e s m args below meth c s₁ Bd hml0 hP hK
  obtain ⟨rfl, hZ, hh⟩ := hP
  have hx := Bd.exec
  have hby := Bd.bytes
  have hlk : meth.locks = false := Bd.notSynchronized
  have hml : c.maxLocals = 3 := hml0
  have hown : s.vm.findClass "com/example/meerkat/meerkat/simulate/Completions" = some m.cls := findClass_of_methodNamed Bd.named
  have hnm := (name_of_methodNamed Bd.named Bd.method).1
  have X0 : Stand p l e (oR 0 0 0 0) s m #[(.ref aB), (.int xB), (.int yB)] below meth c s₁ [] 0 0 := Stand.of_body Bd
  have e0 : s₁.heap = h0 := by rw [← hh, Bd.state]; rfl
  have N0 := Fr.nil n0
  refine own_body (A := s₁.setTop (mkF m 0 #[rv aB, iv xB, iv yB] [])) (Q := QB Z aB xB yB gB kt tt h0 n0) (fun t k => castTop (own_efB m aB xB yB) k) ?_
  refine oALN (n := 1) X0 hx (hb hby own_d6_0) rfl rfl rfl ?_
  obtain ⟨T1, X1, e1, st1⟩ := getF X0 hx hZ hown (host := "") (Or.inl (oW hw 10 rfl)) Via.refl e0 Ft (g := (mkF m 1 #[rv aB, iv xB, iv yB] [(.ref aB)])) rfl rfl (hb hby own_d6_1)
  refine ov (B := T1.setTop (mkF m 4 #[rv aB, iv xB, iv yB] [(.ref gB)])) (fun t k => st1 t k) ?_
  refine oILN (n := 5) X1 hx (hb hby own_d6_4) rfl rfl ?_
  obtain ⟨cl2, Ar2, q2, S2, M2, H2, G2⟩ := id Vt
  have hin2 : ¬ (xB < 0 ∨ cl2.slots.size ≤ (xB).toNatClampNeg) := inb_of S2 (own_Rb rx)
  refine ov (B := T1.setTop (mkF m 6 #[rv aB, iv xB, iv yB] [(.double (own_tw (tt.getD xB.toNatClampNeg 0)))])) (fun t k => X1.daload hx (j := xB) (v := (.double (own_tw (tt.getD xB.toNatClampNeg 0)))) (by rw [e1]; exact Ar2.1) (State.isArrayOf_alike hZ.alike Ar2.2.1) Ar2.2.2 hin2 (Has.at H2 hin2 (own_mgT _ _)) (g := (mkF m 5 #[rv aB, iv xB, iv yB] [(.int xB), (.ref gB)])) rfl rfl (hb hby own_d6_5) _ k) ?_
  refine oALN (n := 7) X1 hx (hb hby own_d6_6) rfl rfl rfl ?_
  obtain ⟨T3, X3, e3, st3⟩ := getF X1 hx hZ hown (host := "") (Or.inl (oW hw 10 rfl)) Via.refl e1 Ft (g := (mkF m 7 #[rv aB, iv xB, iv yB] [(.ref aB), (.double (own_tw (tt.getD xB.toNatClampNeg 0)))])) rfl rfl (hb hby own_d6_7)
  refine ov (B := T3.setTop (mkF m 10 #[rv aB, iv xB, iv yB] [(.ref gB), (.double (own_tw (tt.getD xB.toNatClampNeg 0)))])) (fun t k => st3 t k) ?_
  refine oILN (n := 11) X3 hx (hb hby own_d6_10) rfl rfl ?_
  obtain ⟨cl4, Ar4, q4, S4, M4, H4, G4⟩ := id Vt
  have hin4 : ¬ (yB < 0 ∨ cl4.slots.size ≤ (yB).toNatClampNeg) := inb_of S4 (own_Rb ry)
  refine ov (B := T3.setTop (mkF m 12 #[rv aB, iv xB, iv yB] [(.double (own_tw (tt.getD yB.toNatClampNeg 0))), (.double (own_tw (tt.getD xB.toNatClampNeg 0)))])) (fun t k => X3.daload hx (j := yB) (v := (.double (own_tw (tt.getD yB.toNatClampNeg 0)))) (by rw [e3]; exact Ar4.1) (State.isArrayOf_alike hZ.alike Ar4.2.1) Ar4.2.2 hin4 (Has.at H4 hin4 (own_mgT _ _)) (g := (mkF m 11 #[rv aB, iv xB, iv yB] [(.int yB), (.ref gB), (.double (own_tw (tt.getD xB.toNatClampNeg 0)))])) rfl rfl (hb hby own_d6_11) _ k) ?_
  refine ov (B := T3.setTop (mkF m 13 #[rv aB, iv xB, iv yB] [(.int (cmpValue (FP.dcmp (own_tw (tt.getD xB.toNatClampNeg 0)) (own_tw (tt.getD yB.toNatClampNeg 0))) .g))])) (fun t k => XS.dcmpS X3.here hx rfl (hb hby own_d6_12) rfl rfl k) ?_
  by_cases hc13 : (cmpValue (FP.dcmp (own_tw (tt.getD xB.toNatClampNeg 0)) (own_tw (tt.getD yB.toNatClampNeg 0))) .g) < (0 : Int32)
  · refine ov (B := T3.setTop (mkF m 37 #[rv aB, iv xB, iv yB] [])) (fun t k => XS.ifYes X3.here hx rfl (pc0 := 13) (pc' := 37) rfl (hb hby own_d6_13) rfl ((if0 _ _).trans (tlt hc13).1) (by decide) (by decide) k) ?_
    refine oIC (n := 38) X3 hx (1 : Int32) (hb hby own_d6_37) (by decide) rfl ?_
    refine oGO (n := 42) X3 hx (hb hby own_d6_38) (by decide) (by decide) ?_
    refine own_leaf X3 hx hlk (t := .boolean) Bd.returns (by decide) (Or.inl ⟨rfl, by simp, _, rfl⟩) (hb hby own_d6_42) (by decide) (by decide) ?_
    show QB Z aB xB yB gB kt tt h0 n0 _ T3.heap _
    rw [e3]
    refine ⟨?_, N0, rfl⟩
    exact congrArg (fun z => some (Value.int z)) (own_bitT (P := own_rk tt xB < own_rk tt yB) (own_B1 rx ry qI hc13)).symm
  · refine ov (B := T3.setTop (mkF m 16 #[rv aB, iv xB, iv yB] [])) (fun t k => XS.ifNo X3.here hx rfl (hb hby own_d6_13) rfl ((if0 _ _).trans (flt hc13).1) k) ?_
    refine oALN (n := 17) X3 hx (hb hby own_d6_16) rfl rfl rfl ?_
    obtain ⟨T5, X5, e5, st5⟩ := getF X3 hx hZ hown (host := "") (Or.inl (oW hw 10 rfl)) Via.refl e3 Ft (g := (mkF m 17 #[rv aB, iv xB, iv yB] [(.ref aB)])) rfl rfl (hb hby own_d6_17)
    refine ov (B := T5.setTop (mkF m 20 #[rv aB, iv xB, iv yB] [(.ref gB)])) (fun t k => st5 t k) ?_
    refine oILN (n := 21) X5 hx (hb hby own_d6_20) rfl rfl ?_
    obtain ⟨cl6, Ar6, q6, S6, M6, H6, G6⟩ := id Vt
    have hin6 : ¬ (xB < 0 ∨ cl6.slots.size ≤ (xB).toNatClampNeg) := inb_of S6 (own_Rb rx)
    refine ov (B := T5.setTop (mkF m 22 #[rv aB, iv xB, iv yB] [(.double (own_tw (tt.getD xB.toNatClampNeg 0)))])) (fun t k => X5.daload hx (j := xB) (v := (.double (own_tw (tt.getD xB.toNatClampNeg 0)))) (by rw [e5]; exact Ar6.1) (State.isArrayOf_alike hZ.alike Ar6.2.1) Ar6.2.2 hin6 (Has.at H6 hin6 (own_mgT _ _)) (g := (mkF m 21 #[rv aB, iv xB, iv yB] [(.int xB), (.ref gB)])) rfl rfl (hb hby own_d6_21) _ k) ?_
    refine oALN (n := 23) X5 hx (hb hby own_d6_22) rfl rfl rfl ?_
    obtain ⟨T7, X7, e7, st7⟩ := getF X5 hx hZ hown (host := "") (Or.inl (oW hw 10 rfl)) Via.refl e5 Ft (g := (mkF m 23 #[rv aB, iv xB, iv yB] [(.ref aB), (.double (own_tw (tt.getD xB.toNatClampNeg 0)))])) rfl rfl (hb hby own_d6_23)
    refine ov (B := T7.setTop (mkF m 26 #[rv aB, iv xB, iv yB] [(.ref gB), (.double (own_tw (tt.getD xB.toNatClampNeg 0)))])) (fun t k => st7 t k) ?_
    refine oILN (n := 27) X7 hx (hb hby own_d6_26) rfl rfl ?_
    obtain ⟨cl8, Ar8, q8, S8, M8, H8, G8⟩ := id Vt
    have hin8 : ¬ (yB < 0 ∨ cl8.slots.size ≤ (yB).toNatClampNeg) := inb_of S8 (own_Rb ry)
    refine ov (B := T7.setTop (mkF m 28 #[rv aB, iv xB, iv yB] [(.double (own_tw (tt.getD yB.toNatClampNeg 0))), (.double (own_tw (tt.getD xB.toNatClampNeg 0)))])) (fun t k => X7.daload hx (j := yB) (v := (.double (own_tw (tt.getD yB.toNatClampNeg 0)))) (by rw [e7]; exact Ar8.1) (State.isArrayOf_alike hZ.alike Ar8.2.1) Ar8.2.2 hin8 (Has.at H8 hin8 (own_mgT _ _)) (g := (mkF m 27 #[rv aB, iv xB, iv yB] [(.int yB), (.ref gB), (.double (own_tw (tt.getD xB.toNatClampNeg 0)))])) rfl rfl (hb hby own_d6_27) _ k) ?_
    refine ov (B := T7.setTop (mkF m 29 #[rv aB, iv xB, iv yB] [(.int (cmpValue (FP.dcmp (own_tw (tt.getD xB.toNatClampNeg 0)) (own_tw (tt.getD yB.toNatClampNeg 0))) .l))])) (fun t k => XS.dcmpS X7.here hx rfl (hb hby own_d6_28) rfl rfl k) ?_
    by_cases hc29 : (cmpValue (FP.dcmp (own_tw (tt.getD xB.toNatClampNeg 0)) (own_tw (tt.getD yB.toNatClampNeg 0))) .l) = (0 : Int32)
    · refine ov (B := T7.setTop (mkF m 32 #[rv aB, iv xB, iv yB] [])) (fun t k => XS.ifNo X7.here hx rfl (hb hby own_d6_29) rfl ((if0 _ _).trans (teq hc29).2) k) ?_
      refine oILN (n := 33) X7 hx (hb hby own_d6_32) rfl rfl ?_
      refine oILN (n := 34) X7 hx (hb hby own_d6_33) rfl rfl ?_
      by_cases hc34 : xB < yB
      · refine ov (B := T7.setTop (mkF m 37 #[rv aB, iv xB, iv yB] [])) (fun t k => XS.icmpNo X7.here hx rfl (hb hby own_d6_34) rfl (tlt hc34).2.1 k) ?_
        refine oIC (n := 38) X7 hx (1 : Int32) (hb hby own_d6_37) (by decide) rfl ?_
        refine oGO (n := 42) X7 hx (hb hby own_d6_38) (by decide) (by decide) ?_
        refine own_leaf X7 hx hlk (t := .boolean) Bd.returns (by decide) (Or.inl ⟨rfl, by simp, _, rfl⟩) (hb hby own_d6_42) (by decide) (by decide) ?_
        show QB Z aB xB yB gB kt tt h0 n0 _ T7.heap _
        rw [e7]
        refine ⟨?_, N0, rfl⟩
        exact congrArg (fun z => some (Value.int z)) (own_bitT (P := own_rk tt xB < own_rk tt yB) ((own_B3 rx ry qI hc29).mpr hc34)).symm
      · refine ov (B := T7.setTop (mkF m 41 #[rv aB, iv xB, iv yB] [])) (fun t k => XS.icmpYes X7.here hx rfl (pc0 := 34) (pc' := 41) rfl (hb hby own_d6_34) rfl (flt hc34).2.1 (by decide) (by decide) k) ?_
        refine oIC (n := 42) X7 hx (0 : Int32) (hb hby own_d6_41) (by decide) rfl ?_
        refine own_leaf X7 hx hlk (t := .boolean) Bd.returns (by decide) (Or.inl ⟨rfl, by simp, _, rfl⟩) (hb hby own_d6_42) (by decide) (by decide) ?_
        show QB Z aB xB yB gB kt tt h0 n0 _ T7.heap _
        rw [e7]
        refine ⟨?_, N0, rfl⟩
        exact congrArg (fun z => some (Value.int z)) (own_bitF (P := own_rk tt xB < own_rk tt yB) (mt (own_B3 rx ry qI hc29).mp hc34)).symm
    · refine ov (B := T7.setTop (mkF m 41 #[rv aB, iv xB, iv yB] [])) (fun t k => XS.ifYes X7.here hx rfl (pc0 := 29) (pc' := 41) rfl (hb hby own_d6_29) rfl ((if0 _ _).trans (feq hc29).2) (by decide) (by decide) k) ?_
      refine oIC (n := 42) X7 hx (0 : Int32) (hb hby own_d6_41) (by decide) rfl ?_
      refine own_leaf X7 hx hlk (t := .boolean) Bd.returns (by decide) (Or.inl ⟨rfl, by simp, _, rfl⟩) (hb hby own_d6_42) (by decide) (by decide) ?_
      show QB Z aB xB yB gB kt tt h0 n0 _ T7.heap _
      rw [e7]
      refine ⟨?_, N0, rfl⟩
      exact congrArg (fun z => some (Value.int z)) (own_bitF (P := own_rk tt xB < own_rk tt yB) (own_B2 rx ry qI hc13 hc29)).symm
theorem own_d7_0 : decode prog_26_method_6_code 0 = .ok (.aload_n 0, 1) := by decide +kernel
theorem own_d7_1 : decode prog_26_method_6_code 1 = .ok (.getfield 13, 3) := by decide +kernel
theorem own_d7_4 : decode prog_26_method_6_code 4 = .ok (.iload_n 2, 1) := by decide +kernel
theorem own_d7_5 : decode prog_26_method_6_code 5 = .ok (.iload_n 1, 1) := by decide +kernel
theorem own_d7_6 : decode prog_26_method_6_code 6 = .ok (.iastore, 1) := by decide +kernel
theorem own_d7_7 : decode prog_26_method_6_code 7 = .ok (.aload_n 0, 1) := by decide +kernel
theorem own_d7_8 : decode prog_26_method_6_code 8 = .ok (.getfield 17, 3) := by decide +kernel
theorem own_d7_11 : decode prog_26_method_6_code 11 = .ok (.iload_n 1, 1) := by decide +kernel
theorem own_d7_12 : decode prog_26_method_6_code 12 = .ok (.iload_n 2, 1) := by decide +kernel
theorem own_d7_13 : decode prog_26_method_6_code 13 = .ok (.iastore, 1) := by decide +kernel
theorem own_d7_14 : decode prog_26_method_6_code 14 = .ok (.return_, 1) := by decide +kernel
theorem own_efM (m : MethodId) (x0 : Addr) (x1 : Int32) (x2 : Int32) : entryFrame m #[(.ref x0), (.int x1), (.int x2)] 3 = mkF m 0 #[rv x0, iv x1, iv x2] [] := by first | (simp [entryFrame, mkF, argsToLocals, Value.category]; done) | rfl
def QM (Z : State) (aM : Addr) (xM : Int32) (iM : Int32) (hM : Addr) (pM : Addr) (kh : ClassId) (kp : ClassId) (HL : List Int32) (PP : List Int32) (h0 : Heap) (n0 : Nat) (v : Option Value) (h : Heap) (L : List Loc) : Prop := v = none ∧ Fr n0 L ∧ Keep h0 h [hM, pM] ∧ (Arv Z h hM kh .int (6 : Int32) ((own_mv HL iM xM).map Value.int) (.int (0 : Int32))) ∧ (Arv Z h pM kp .int (6 : Int32) ((own_mv PP xM iM).map Value.int) (.int (0 : Int32)))
set_option maxRecDepth 65536 in
set_option maxHeartbeats 40000000 in
theorem rmM (l : Launch) (Z : State) (a0 : Array Value) (hw : ∀ d ∈ tables_1, d.before a0 Z = true) (ws : List Jvm.Cond) (aM : Addr) (xM : Int32) (iM : Int32) (hM : Addr) (pM : Addr) (kh : ClassId) (kp : ClassId) (HL : List Int32) (PP : List Int32) (h0 : Heap) (n0 : Nat) (Z0 : n0 ≤ h0.size) (Eo : Exa Z h0 aM "com/example/meerkat/meerkat/simulate/Completions") (Fh : Fld Z h0 aM "com/example/meerkat/meerkat/simulate/Completions" "heap" "[I" (.ref hM)) (Fp : Fld Z h0 aM "com/example/meerkat/meerkat/simulate/Completions" "places" "[I" (.ref pM)) (Vh : Arv Z h0 hM kh .int (6 : Int32) (HL.map Value.int) (.int (0 : Int32))) (Vp : Arv Z h0 pM kp .int (6 : Int32) (PP.map Value.int) (.int (0 : Int32))) (nhp : hM ≠ pM) (g_hM : n0 ≤ hM) (g_pM : n0 ≤ pM) (lH : HL.length = 6) (lP : PP.length = 6) (rx : own_R xM) (ri : own_R iM) :
    MetFree l (⟨"com/example/meerkat/meerkat/simulate/Completions", "move", "(II)V"⟩ : MethodName) (head1 (Jvm.Cond.code (⟨"com/example/meerkat/meerkat/simulate/Completions", "move", "(II)V"⟩ : MethodName) prog_26_method_6_code 3 none :: ws) (oR 0 0 0 0)) (fun a U => a = #[(.ref aM), (.int xM), (.int iM)] ∧ Z.Warmed39 U.vm ∧ U.heap = h0) (fun _ _ _ _ _ => True) (fun _ U o U' => ∃ v L, o = .returned v ∧ QM Z aM xM iM hM pM kh kp HL PP h0 n0 v U'.heap L ∧ FrameEnd U o U' L (oR 0 0 0 0).cells (oR 0 0 0 0).slots) := by
  refine MetFree.of_bodySF (plainFor_of_name own_pn1) hisR ?_
  intro p e s m args below meth c s₁ Bd hml0 hP hK
  obtain ⟨rfl, hZ, hh⟩ := hP
  have hx := Bd.exec
  have hby := Bd.bytes
  have hlk : meth.locks = false := Bd.notSynchronized
  have hml : c.maxLocals = 3 := hml0
  have hown : s.vm.findClass "com/example/meerkat/meerkat/simulate/Completions" = some m.cls := findClass_of_methodNamed Bd.named
  have hnm := (name_of_methodNamed Bd.named Bd.method).1
  have X0 : Stand p l e (oR 0 0 0 0) s m #[(.ref aM), (.int xM), (.int iM)] below meth c s₁ [] 0 0 := Stand.of_body Bd
  have e0 : s₁.heap = h0 := by rw [← hh, Bd.state]; rfl
  have N0 := Fr.nil n0
  refine own_body (A := s₁.setTop (mkF m 0 #[rv aM, iv xM, iv iM] [])) (Q := QM Z aM xM iM hM pM kh kp HL PP h0 n0) (fun t k => castTop (own_efM m aM xM iM) k) ?_
  refine oALN (n := 1) X0 hx (hb hby own_d7_0) rfl rfl rfl ?_
  obtain ⟨T1, X1, e1, st1⟩ := getF X0 hx hZ hown (host := "") (Or.inl (oW hw 13 rfl)) Via.refl e0 Fh (g := (mkF m 1 #[rv aM, iv xM, iv iM] [(.ref aM)])) rfl rfl (hb hby own_d7_1)
  refine ov (B := T1.setTop (mkF m 4 #[rv aM, iv xM, iv iM] [(.ref hM)])) (fun t k => st1 t k) ?_
  refine oILN (n := 5) X1 hx (hb hby own_d7_4) rfl rfl ?_
  refine oILN (n := 6) X1 hx (hb hby own_d7_5) rfl rfl ?_
  obtain ⟨cl2, Ar2, q2, S2, M2, H2, G2⟩ := id Vh
  obtain ⟨T3, h3, X3, e3, W3, st3⟩ := stI X1 hx hZ e1 Ar2 (j := iM) (inb_of S2 (own_Rb ri)) (g := (mkF m 6 #[rv aM, iv xM, iv iM] [(.int xM), (.int iM), (.ref hM)])) rfl rfl (hb hby own_d7_6)
  have V3 : Arv Z h3 hM kh .int (6 : Int32) ((HL.set iM.toNatClampNeg xM).map Value.int) (.int (0 : Int32)) := by have q := Arv.set Ar2 q2 S2 M2 H2 G2 rfl W3 iM.toNatClampNeg rfl (by rw [List.length_map, lH]; exact own_Rn ri); rw [own_msI] at q; exact q
  have N3 := Fr.snoc X3 N0 g_hM
  refine ov (B := T3.setTop (mkF m 7 #[rv aM, iv xM, iv iM] [])) (fun t k => st3 t k) ?_
  refine oALN (n := 8) X3 hx (hb hby own_d7_7) rfl rfl rfl ?_
  obtain ⟨T4, X4, e4, st4⟩ := getF X3 hx hZ hown (host := "") (Or.inl (oW hw 15 rfl)) Via.refl e3 (Fp.other W3 (Or.inl (Exa.neArv (Eo.wr W3) V3 (oW hw 1 rfl)))) (g := (mkF m 8 #[rv aM, iv xM, iv iM] [(.ref aM)])) rfl rfl (hb hby own_d7_8)
  refine ov (B := T4.setTop (mkF m 11 #[rv aM, iv xM, iv iM] [(.ref pM)])) (fun t k => st4 t k) ?_
  refine oILN (n := 12) X4 hx (hb hby own_d7_11) rfl rfl ?_
  refine oILN (n := 13) X4 hx (hb hby own_d7_12) rfl rfl ?_
  obtain ⟨cl5, Ar5, q5, S5, M5, H5, G5⟩ := id (Vp.other W3 (Ne.symm nhp))
  obtain ⟨T6, h6, X6, e6, W6, st6⟩ := stI X4 hx hZ e4 Ar5 (j := xM) (inb_of S5 (own_Rb rx)) (g := (mkF m 13 #[rv aM, iv xM, iv iM] [(.int iM), (.int xM), (.ref pM)])) rfl rfl (hb hby own_d7_13)
  have V6 : Arv Z h6 pM kp .int (6 : Int32) ((PP.set xM.toNatClampNeg iM).map Value.int) (.int (0 : Int32)) := by have q := Arv.set Ar5 q5 S5 M5 H5 G5 rfl W6 xM.toNatClampNeg rfl (by rw [List.length_map, lP]; exact own_Rn rx); rw [own_msI] at q; exact q
  have N6 := Fr.snoc X6 N3 g_pM
  refine ov (B := T6.setTop (mkF m 14 #[rv aM, iv xM, iv iM] [])) (fun t k => st6 t k) ?_
  refine own_leafV X6 hx hlk Bd.returns (hb hby own_d7_14) (by decide) (by decide) ?_
  show QM Z aM xM iM hM pM kh kp HL PP h0 n0 _ T6.heap _
  rw [e6]
  refine ⟨?_, N6, (((Keep.refl h0 [hM, pM]).wr W3 (Or.inl (List.mem_of_getElem? (i := 0) rfl))).wr W6 (Or.inl (List.mem_of_getElem? (i := 1) rfl))), (V3.other W6 nhp), V6⟩
  rfl
theorem own_d8_0 : decode prog_26_method_2_code 0 = .ok (.aload_n 0, 1) := by decide +kernel
theorem own_d8_1 : decode prog_26_method_2_code 1 = .ok (.getfield 13, 3) := by decide +kernel
theorem own_d8_4 : decode prog_26_method_2_code 4 = .ok (.iconst 0, 1) := by decide +kernel
theorem own_d8_5 : decode prog_26_method_2_code 5 = .ok (.iaload, 1) := by decide +kernel
theorem own_d8_6 : decode prog_26_method_2_code 6 = .ok (.ireturn, 1) := by decide +kernel
theorem own_efE (m : MethodId) (x0 : Addr) : entryFrame m #[(.ref x0)] 1 = mkF m 0 #[rv x0] [] := by first | (simp [entryFrame, mkF, argsToLocals, Value.category]; done) | rfl
def QE (Z : State) (a2 : Addr) (hE : Addr) (kh : ClassId) (eA : Int32) (eB : Int32) (eC : Int32) (eD : Int32) (eE : Int32) (eF : Int32) (h0 : Heap) (n0 : Nat) (v : Option Value) (h : Heap) (L : List Loc) : Prop := v = some (.int eA) ∧ Fr n0 L ∧ h = h0
set_option maxRecDepth 65536 in
set_option maxHeartbeats 40000000 in
theorem rmE (l : Launch) (Z : State) (a0 : Array Value) (hw : ∀ d ∈ tables_1, d.before a0 Z = true) (ws : List Jvm.Cond) (a2 : Addr) (hE : Addr) (kh : ClassId) (eA : Int32) (eB : Int32) (eC : Int32) (eD : Int32) (eE : Int32) (eF : Int32) (h0 : Heap) (n0 : Nat) (Z0 : n0 ≤ h0.size) (Fh : Fld Z h0 a2 "com/example/meerkat/meerkat/simulate/Completions" "heap" "[I" (.ref hE)) (Vh : Arv Z h0 hE kh .int (6 : Int32) [(.int eA), (.int eB), (.int eC), (.int eD), (.int eE), (.int eF)] (.int (0 : Int32))) :
    MetFree l (⟨"com/example/meerkat/meerkat/simulate/Completions", "earliest", "()I"⟩ : MethodName) (head1 (Jvm.Cond.code (⟨"com/example/meerkat/meerkat/simulate/Completions", "earliest", "()I"⟩ : MethodName) prog_26_method_2_code 1 (some .int) :: ws) (oR 0 0 0 0)) (fun a U => a = #[(.ref a2)] ∧ Z.Warmed39 U.vm ∧ U.heap = h0) (fun _ _ _ _ _ => True) (fun _ U o U' => ∃ v L, o = .returned v ∧ QE Z a2 hE kh eA eB eC eD eE eF h0 n0 v U'.heap L ∧ FrameEnd U o U' L (oR 0 0 0 0).cells (oR 0 0 0 0).slots) := by
  refine MetFree.of_bodySF (plainFor_of_name own_pn1) hisR ?_
  intro p e s m args below meth c s₁ Bd hml0 hP hK
  obtain ⟨rfl, hZ, hh⟩ := hP
  have hx := Bd.exec
  have hby := Bd.bytes
  have hlk : meth.locks = false := Bd.notSynchronized
  have hml : c.maxLocals = 1 := hml0
  have hown : s.vm.findClass "com/example/meerkat/meerkat/simulate/Completions" = some m.cls := findClass_of_methodNamed Bd.named
  have hnm := (name_of_methodNamed Bd.named Bd.method).1
  have X0 : Stand p l e (oR 0 0 0 0) s m #[(.ref a2)] below meth c s₁ [] 0 0 := Stand.of_body Bd
  have e0 : s₁.heap = h0 := by rw [← hh, Bd.state]; rfl
  have N0 := Fr.nil n0
  refine own_body (A := s₁.setTop (mkF m 0 #[rv a2] [])) (Q := QE Z a2 hE kh eA eB eC eD eE eF h0 n0) (fun t k => castTop (own_efE m a2) k) ?_
  refine oALN (n := 1) X0 hx (hb hby own_d8_0) rfl rfl rfl ?_
  obtain ⟨T1, X1, e1, st1⟩ := getF X0 hx hZ hown (host := "") (Or.inl (oW hw 13 rfl)) Via.refl e0 Fh (g := (mkF m 1 #[rv a2] [(.ref a2)])) rfl rfl (hb hby own_d8_1)
  refine ov (B := T1.setTop (mkF m 4 #[rv a2] [(.ref hE)])) (fun t k => st1 t k) ?_
  refine oIC (n := 5) X1 hx (0 : Int32) (hb hby own_d8_4) (by decide) rfl ?_
  obtain ⟨cl2, Ar2, q2, S2, M2, H2, G2⟩ := id Vh
  have hin2 : ¬ ((0 : Int32) < 0 ∨ cl2.slots.size ≤ ((0 : Int32)).toNatClampNeg) := inb_of S2 ⟨by decide, by decide⟩
  refine ov (B := T1.setTop (mkF m 6 #[rv a2] [(.int eA)])) (fun t k => X1.iaload hx (j := (0 : Int32)) (v := (.int eA)) (by rw [e1]; exact Ar2.1) (State.isArrayOf_alike hZ.alike Ar2.2.1) Ar2.2.2 hin2 (Has.at H2 hin2 rfl) (g := (mkF m 5 #[rv a2] [(.int (0 : Int32)), (.ref hE)])) rfl rfl (hb hby own_d8_5) _ k) ?_
  refine own_leaf X1 hx hlk (t := .int) Bd.returns rfl (Or.inl ⟨rfl, by simp, _, rfl⟩) (hb hby own_d8_6) (by decide) (by decide) ?_
  show QE Z a2 hE kh eA eB eC eD eE eF h0 n0 _ T1.heap _
  rw [e1]
  refine ⟨?_, N0, rfl⟩
  rfl
theorem own_d10_0 : decode prog_26_method_3_code 0 = .ok (.aload_n 0, 1) := by decide +kernel
theorem own_d10_1 : decode prog_26_method_3_code 1 = .ok (.getfield 7, 3) := by decide +kernel
theorem own_d10_4 : decode prog_26_method_3_code 4 = .ok (.iload_n 1, 1) := by decide +kernel
theorem own_d10_5 : decode prog_26_method_3_code 5 = .ok (.daload, 1) := by decide +kernel
theorem own_d10_6 : decode prog_26_method_3_code 6 = .ok (.dreturn, 1) := by decide +kernel
theorem own_efD (m : MethodId) (x0 : Addr) (x1 : Int32) : entryFrame m #[(.ref x0), (.int x1)] 2 = mkF m 0 #[rv x0, iv x1] [] := by first | (simp [entryFrame, mkF, argsToLocals, Value.category]; done) | rfl
def QD (Z : State) (aD : Addr) (iD : Int32) (gD : Addr) (kt : ClassId) (tt : List Int32) (h0 : Heap) (n0 : Nat) (v : Option Value) (h : Heap) (L : List Loc) : Prop := v = some (.double (own_tw (tt.getD iD.toNatClampNeg 0))) ∧ Fr n0 L ∧ h = h0
set_option maxRecDepth 65536 in
set_option maxHeartbeats 40000000 in
theorem rmD (l : Launch) (Z : State) (a0 : Array Value) (hw : ∀ d ∈ tables_1, d.before a0 Z = true) (ws : List Jvm.Cond) (aD : Addr) (iD : Int32) (gD : Addr) (kt : ClassId) (tt : List Int32) (h0 : Heap) (n0 : Nat) (Z0 : n0 ≤ h0.size) (Ft : Fld Z h0 aD "com/example/meerkat/meerkat/simulate/Completions" "times" "[D" (.ref gD)) (Vt : Arv Z h0 gD kt .double (6 : Int32) (tt.map own_tv) (.double (own_tw 0))) (ri : own_R iD) :
    MetFree l (⟨"com/example/meerkat/meerkat/simulate/Completions", "time", "(I)D"⟩ : MethodName) (head1 (Jvm.Cond.code (⟨"com/example/meerkat/meerkat/simulate/Completions", "time", "(I)D"⟩ : MethodName) prog_26_method_3_code 2 (some .double) :: ws) (oR 0 0 0 0)) (fun a U => a = #[(.ref aD), (.int iD)] ∧ Z.Warmed39 U.vm ∧ U.heap = h0) (fun _ _ _ _ _ => True) (fun _ U o U' => ∃ v L, o = .returned v ∧ QD Z aD iD gD kt tt h0 n0 v U'.heap L ∧ FrameEnd U o U' L (oR 0 0 0 0).cells (oR 0 0 0 0).slots) := by
  refine MetFree.of_bodySF (plainFor_of_name own_pn1) hisR ?_
  intro p e s m args below meth c s₁ Bd hml0 hP hK
  obtain ⟨rfl, hZ, hh⟩ := hP
  have hx := Bd.exec
  have hby := Bd.bytes
  have hlk : meth.locks = false := Bd.notSynchronized
  have hml : c.maxLocals = 2 := hml0
  have hown : s.vm.findClass "com/example/meerkat/meerkat/simulate/Completions" = some m.cls := findClass_of_methodNamed Bd.named
  have hnm := (name_of_methodNamed Bd.named Bd.method).1
  have X0 : Stand p l e (oR 0 0 0 0) s m #[(.ref aD), (.int iD)] below meth c s₁ [] 0 0 := Stand.of_body Bd
  have e0 : s₁.heap = h0 := by rw [← hh, Bd.state]; rfl
  have N0 := Fr.nil n0
  refine own_body (A := s₁.setTop (mkF m 0 #[rv aD, iv iD] [])) (Q := QD Z aD iD gD kt tt h0 n0) (fun t k => castTop (own_efD m aD iD) k) ?_
  refine oALN (n := 1) X0 hx (hb hby own_d10_0) rfl rfl rfl ?_
  obtain ⟨T1, X1, e1, st1⟩ := getF X0 hx hZ hown (host := "") (Or.inl (oW hw 10 rfl)) Via.refl e0 Ft (g := (mkF m 1 #[rv aD, iv iD] [(.ref aD)])) rfl rfl (hb hby own_d10_1)
  refine ov (B := T1.setTop (mkF m 4 #[rv aD, iv iD] [(.ref gD)])) (fun t k => st1 t k) ?_
  refine oILN (n := 5) X1 hx (hb hby own_d10_4) rfl rfl ?_
  obtain ⟨cl2, Ar2, q2, S2, M2, H2, G2⟩ := id Vt
  have hin2 : ¬ (iD < 0 ∨ cl2.slots.size ≤ (iD).toNatClampNeg) := inb_of S2 (own_Rb ri)
  refine ov (B := T1.setTop (mkF m 6 #[rv aD, iv iD] [(.double (own_tw (tt.getD iD.toNatClampNeg 0)))])) (fun t k => X1.daload hx (j := iD) (v := (.double (own_tw (tt.getD iD.toNatClampNeg 0)))) (by rw [e1]; exact Ar2.1) (State.isArrayOf_alike hZ.alike Ar2.2.1) Ar2.2.2 hin2 (Has.at H2 hin2 (own_mgT _ _)) (g := (mkF m 5 #[rv aD, iv iD] [(.int iD), (.ref gD)])) rfl rfl (hb hby own_d10_5) _ k) ?_
  refine own_leaf X1 hx hlk (t := .double) Bd.returns rfl (Or.inr (Or.inr (Or.inl ⟨rfl, rfl, _, rfl⟩))) (hb hby own_d10_6) (by decide) (by decide) ?_
  show QD Z aD iD gD kt tt h0 n0 _ T1.heap _
  rw [e1]
  refine ⟨?_, N0, rfl⟩
  rfl
theorem own_pn2 : plainName "com/example/meerkat/meerkat/simulate/CompletionsSetPinLaw" = true := by first | (simp [plainName, overriddenIn]; done) | decide +kernel
theorem own_d11_0 : decode method_2_code 0 = .ok (.ldc2_w 7, 3) := by decide +kernel
theorem own_d11_3 : decode method_2_code 3 = .ok (.dreturn, 1) := by decide +kernel
theorem own_efF (m : MethodId)  : entryFrame m #[] 0 = mkF m 0 #[] [] := by first | (simp [entryFrame, mkF, argsToLocals, Value.category]; done) | rfl
def QF (Z : State)  (h0 : Heap) (n0 : Nat) (v : Option Value) (h : Heap) (L : List Loc) : Prop := v = some (.double (9218868437227405312 : UInt64)) ∧ Fr n0 L ∧ h = h0
set_option maxRecDepth 65536 in
set_option maxHeartbeats 40000000 in
theorem rmF (l : Launch) (Z : State) (a0 : Array Value) (hw : ∀ d ∈ tables_1, d.before a0 Z = true) (ws : List Jvm.Cond)  (h0 : Heap) (n0 : Nat) (Z0 : n0 ≤ h0.size) :
    MetFree l (⟨"com/example/meerkat/meerkat/simulate/CompletionsSetPinLaw", "inf", "()D"⟩ : MethodName) (head1 (Jvm.Cond.code (⟨"com/example/meerkat/meerkat/simulate/CompletionsSetPinLaw", "inf", "()D"⟩ : MethodName) method_2_code 0 (some .double) :: ws) (oR 0 0 0 0)) (fun a U => a = #[] ∧ Z.Warmed39 U.vm ∧ U.heap = h0) (fun _ _ _ _ _ => True) (fun _ U o U' => ∃ v L, o = .returned v ∧ QF Z  h0 n0 v U'.heap L ∧ FrameEnd U o U' L (oR 0 0 0 0).cells (oR 0 0 0 0).slots) := by
  refine MetFree.of_bodySF (plainFor_of_name own_pn2) hisR ?_
  intro p e s m args below meth c s₁ Bd hml0 hP hK
  obtain ⟨rfl, hZ, hh⟩ := hP
  have hx := Bd.exec
  have hby := Bd.bytes
  have hlk : meth.locks = false := Bd.notSynchronized
  have hml : c.maxLocals = 0 := hml0
  have hown : s.vm.findClass "com/example/meerkat/meerkat/simulate/CompletionsSetPinLaw" = some m.cls := findClass_of_methodNamed Bd.named
  have hnm := (name_of_methodNamed Bd.named Bd.method).1
  have X0 : Stand p l e (oR 0 0 0 0) s m #[] below meth c s₁ [] 0 0 := Stand.of_body Bd
  have e0 : s₁.heap = h0 := by rw [← hh, Bd.state]; rfl
  have N0 := Fr.nil n0
  refine own_body (A := s₁.setTop (mkF m 0 #[] [])) (Q := QF Z  h0 n0) (fun t k => castTop (own_efF m ) k) ?_
  refine ov (B := s₁.setTop (mkF m 3 #[] [(.double (9218868437227405312 : UInt64))])) (fun t k => X0.ldc2DoubleC hx hown (mvT hZ (oW hw 56 rfl)) (g := (mkF m 0 #[] [])) rfl (hb hby own_d11_0) _ k) ?_
  refine own_leaf X0 hx hlk (t := .double) Bd.returns rfl (Or.inr (Or.inr (Or.inl ⟨rfl, rfl, _, rfl⟩))) (hb hby own_d11_3) (by decide) (by decide) ?_
  show QF Z  h0 n0 _ s₁.heap _
  rw [e0]
  refine ⟨?_, N0, rfl⟩
  rfl
theorem own_d9_0 : decode method_3_code 0 = .ok (.iconst 0, 1) := by decide +kernel
theorem own_d9_1 : decode method_3_code 1 = .ok (.istore_n 1, 1) := by decide +kernel
theorem own_d9_2 : decode method_3_code 2 = .ok (.aload_n 0, 1) := by decide +kernel
theorem own_d9_3 : decode method_3_code 3 = .ok (.iconst 1, 1) := by decide +kernel
theorem own_d9_4 : decode method_3_code 4 = .ok (.iaload, 1) := by decide +kernel
theorem own_d9_5 : decode method_3_code 5 = .ok (.aload_n 0, 1) := by decide +kernel
theorem own_d9_6 : decode method_3_code 6 = .ok (.iload_n 1, 1) := by decide +kernel
theorem own_d9_7 : decode method_3_code 7 = .ok (.iaload, 1) := by decide +kernel
theorem own_d9_8 : decode method_3_code 8 = .ok (.if_icmp .ge 5, 3) := by decide +kernel
theorem own_d9_11 : decode method_3_code 11 = .ok (.iconst 1, 1) := by decide +kernel
theorem own_d9_12 : decode method_3_code 12 = .ok (.istore_n 1, 1) := by decide +kernel
theorem own_d9_13 : decode method_3_code 13 = .ok (.aload_n 0, 1) := by decide +kernel
theorem own_d9_14 : decode method_3_code 14 = .ok (.iconst 2, 1) := by decide +kernel
theorem own_d9_15 : decode method_3_code 15 = .ok (.iaload, 1) := by decide +kernel
theorem own_d9_16 : decode method_3_code 16 = .ok (.aload_n 0, 1) := by decide +kernel
theorem own_d9_17 : decode method_3_code 17 = .ok (.iload_n 1, 1) := by decide +kernel
theorem own_d9_18 : decode method_3_code 18 = .ok (.iaload, 1) := by decide +kernel
theorem own_d9_19 : decode method_3_code 19 = .ok (.if_icmp .ge 5, 3) := by decide +kernel
theorem own_d9_22 : decode method_3_code 22 = .ok (.iconst 2, 1) := by decide +kernel
theorem own_d9_23 : decode method_3_code 23 = .ok (.istore_n 1, 1) := by decide +kernel
theorem own_d9_24 : decode method_3_code 24 = .ok (.aload_n 0, 1) := by decide +kernel
theorem own_d9_25 : decode method_3_code 25 = .ok (.iconst 3, 1) := by decide +kernel
theorem own_d9_26 : decode method_3_code 26 = .ok (.iaload, 1) := by decide +kernel
theorem own_d9_27 : decode method_3_code 27 = .ok (.aload_n 0, 1) := by decide +kernel
theorem own_d9_28 : decode method_3_code 28 = .ok (.iload_n 1, 1) := by decide +kernel
theorem own_d9_29 : decode method_3_code 29 = .ok (.iaload, 1) := by decide +kernel
theorem own_d9_30 : decode method_3_code 30 = .ok (.if_icmp .ge 5, 3) := by decide +kernel
theorem own_d9_33 : decode method_3_code 33 = .ok (.iconst 3, 1) := by decide +kernel
theorem own_d9_34 : decode method_3_code 34 = .ok (.istore_n 1, 1) := by decide +kernel
theorem own_d9_35 : decode method_3_code 35 = .ok (.aload_n 0, 1) := by decide +kernel
theorem own_d9_36 : decode method_3_code 36 = .ok (.iconst 4, 1) := by decide +kernel
theorem own_d9_37 : decode method_3_code 37 = .ok (.iaload, 1) := by decide +kernel
theorem own_d9_38 : decode method_3_code 38 = .ok (.aload_n 0, 1) := by decide +kernel
theorem own_d9_39 : decode method_3_code 39 = .ok (.iload_n 1, 1) := by decide +kernel
theorem own_d9_40 : decode method_3_code 40 = .ok (.iaload, 1) := by decide +kernel
theorem own_d9_41 : decode method_3_code 41 = .ok (.if_icmp .ge 5, 3) := by decide +kernel
theorem own_d9_44 : decode method_3_code 44 = .ok (.iconst 4, 1) := by decide +kernel
theorem own_d9_45 : decode method_3_code 45 = .ok (.istore_n 1, 1) := by decide +kernel
theorem own_d9_46 : decode method_3_code 46 = .ok (.aload_n 0, 1) := by decide +kernel
theorem own_d9_47 : decode method_3_code 47 = .ok (.iconst 5, 1) := by decide +kernel
theorem own_d9_48 : decode method_3_code 48 = .ok (.iaload, 1) := by decide +kernel
theorem own_d9_49 : decode method_3_code 49 = .ok (.aload_n 0, 1) := by decide +kernel
theorem own_d9_50 : decode method_3_code 50 = .ok (.iload_n 1, 1) := by decide +kernel
theorem own_d9_51 : decode method_3_code 51 = .ok (.iaload, 1) := by decide +kernel
theorem own_d9_52 : decode method_3_code 52 = .ok (.if_icmp .ge 5, 3) := by decide +kernel
theorem own_d9_55 : decode method_3_code 55 = .ok (.iconst 5, 1) := by decide +kernel
theorem own_d9_56 : decode method_3_code 56 = .ok (.istore_n 1, 1) := by decide +kernel
theorem own_d9_57 : decode method_3_code 57 = .ok (.iload_n 1, 1) := by decide +kernel
theorem own_d9_58 : decode method_3_code 58 = .ok (.ireturn, 1) := by decide +kernel
theorem own_efL (m : MethodId) (x0 : Addr) : entryFrame m #[(.ref x0)] 2 = mkF m 0 #[rv x0, uu] [] := by first | (simp [entryFrame, mkF, argsToLocals, Value.category]; done) | rfl
def QL (Z : State) (rL : Addr) (kr : ClassId) (tt : List Int32) (h0 : Heap) (n0 : Nat) (v : Option Value) (h : Heap) (L : List Loc) : Prop := v = some (.int (own_b tt 5)) ∧ Fr n0 L ∧ h = h0
set_option maxRecDepth 65536 in
set_option maxHeartbeats 40000000 in
theorem rmL (l : Launch) (Z : State) (a0 : Array Value) (hw : ∀ d ∈ tables_1, d.before a0 Z = true) (ws : List Jvm.Cond) (rL : Addr) (kr : ClassId) (tt : List Int32) (h0 : Heap) (n0 : Nat) (Z0 : n0 ≤ h0.size) (Vr : Arv Z h0 rL kr .int (6 : Int32) (tt.map Value.int) (.int (0 : Int32))) :
    MetFree l (⟨"com/example/meerkat/meerkat/simulate/CompletionsSetPinLaw", "least", "([I)I"⟩ : MethodName) (head1 (Jvm.Cond.code (⟨"com/example/meerkat/meerkat/simulate/CompletionsSetPinLaw", "least", "([I)I"⟩ : MethodName) method_3_code 2 (some .int) :: ws) (oR 0 0 0 0)) (fun a U => a = #[(.ref rL)] ∧ Z.Warmed39 U.vm ∧ U.heap = h0) (fun _ _ _ _ _ => True) (fun _ U o U' => ∃ v L, o = .returned v ∧ QL Z rL kr tt h0 n0 v U'.heap L ∧ FrameEnd U o U' L (oR 0 0 0 0).cells (oR 0 0 0 0).slots) := by
  refine MetFree.of_bodySF (plainFor_of_name own_pn2) hisR ?_
  intro p e s m args below meth c s₁ Bd hml0 hP hK
  obtain ⟨rfl, hZ, hh⟩ := hP
  have hx := Bd.exec
  have hby := Bd.bytes
  have hlk : meth.locks = false := Bd.notSynchronized
  have hml : c.maxLocals = 2 := hml0
  have hown : s.vm.findClass "com/example/meerkat/meerkat/simulate/CompletionsSetPinLaw" = some m.cls := findClass_of_methodNamed Bd.named
  have hnm := (name_of_methodNamed Bd.named Bd.method).1
  have X0 : Stand p l e (oR 0 0 0 0) s m #[(.ref rL)] below meth c s₁ [] 0 0 := Stand.of_body Bd
  have e0 : s₁.heap = h0 := by rw [← hh, Bd.state]; rfl
  have N0 := Fr.nil n0
  refine own_body (A := s₁.setTop (mkF m 0 #[rv rL, uu] [])) (Q := QL Z rL kr tt h0 n0) (fun t k => castTop (own_efL m rL) k) ?_
  refine oIC (n := 1) X0 hx (0 : Int32) (hb hby own_d9_0) (by decide) rfl ?_
  refine ov (B := s₁.setTop (mkF m 2 #[rv rL, iv (0 : Int32)] [])) (fun t k => XS.istoreN X0.here hx rfl (hb hby own_d9_1) rfl (l' := #[rv rL, iv (0 : Int32)]) rfl k) ?_
  refine oALN (n := 3) X0 hx (hb hby own_d9_2) rfl rfl rfl ?_
  refine oIC (n := 4) X0 hx (1 : Int32) (hb hby own_d9_3) (by decide) rfl ?_
  obtain ⟨cl1, Ar1, q1, S1, M1, H1, G1⟩ := id Vr
  have hin1 : ¬ ((1 : Int32) < 0 ∨ cl1.slots.size ≤ ((1 : Int32)).toNatClampNeg) := inb_of S1 ⟨by decide, by decide⟩
  refine ov (B := s₁.setTop (mkF m 5 #[rv rL, iv (0 : Int32)] [(.int (tt.getD 1 0))])) (fun t k => X0.iaload hx (j := (1 : Int32)) (v := (.int (tt.getD 1 0))) (by rw [e0]; exact Ar1.1) (State.isArrayOf_alike hZ.alike Ar1.2.1) Ar1.2.2 hin1 (Has.at H1 hin1 (own_mgI _ _)) (g := (mkF m 4 #[rv rL, iv (0 : Int32)] [(.int (1 : Int32)), (.ref rL)])) rfl rfl (hb hby own_d9_4) _ k) ?_
  refine oALN (n := 6) X0 hx (hb hby own_d9_5) rfl rfl rfl ?_
  refine oILN (n := 7) X0 hx (hb hby own_d9_6) rfl rfl ?_
  obtain ⟨cl2, Ar2, q2, S2, M2, H2, G2⟩ := id Vr
  have hin2 : ¬ ((0 : Int32) < 0 ∨ cl2.slots.size ≤ ((0 : Int32)).toNatClampNeg) := inb_of S2 ⟨by decide, by decide⟩
  refine ov (B := s₁.setTop (mkF m 8 #[rv rL, iv (0 : Int32)] [(.int (tt.getD 0 0)), (.int (tt.getD 1 0))])) (fun t k => X0.iaload hx (j := (0 : Int32)) (v := (.int (tt.getD 0 0))) (by rw [e0]; exact Ar2.1) (State.isArrayOf_alike hZ.alike Ar2.2.1) Ar2.2.2 hin2 (Has.at H2 hin2 (own_mgI _ _)) (g := (mkF m 7 #[rv rL, iv (0 : Int32)] [(.int (0 : Int32)), (.ref rL), (.int (tt.getD 1 0))])) rfl rfl (hb hby own_d9_7) _ k) ?_
  refine own_bind (G := fun B => ∃ (T' : State) (L' : List Loc) (v8l1 : Int32), Fr n0 L' ∧ ((((tt.getD 1 0) < (tt.getD 0 0)) ∧ v8l1 = (1 : Int32)) ∨ ((¬ ((tt.getD 1 0) < (tt.getD 0 0))) ∧ v8l1 = (0 : Int32))) ∧ (v8l1 = own_b tt 1) ∧ B = T'.setTop (mkF m 13 #[rv rL, iv v8l1] []) ∧ Stand p l e (oR 0 0 0 0) s m #[(.ref rL)] below meth c T' L' 0 0 ∧ T'.heap = h0) ?_ ?_
  · by_cases hc8 : (tt.getD 1 0) < (tt.getD 0 0)
    · refine ov (B := s₁.setTop (mkF m 11 #[rv rL, iv (0 : Int32)] [])) (fun t k => XS.icmpNo X0.here hx rfl (hb hby own_d9_8) rfl (tlt hc8).2.1 k) ?_
      refine oIC (n := 12) X0 hx (1 : Int32) (hb hby own_d9_11) (by decide) rfl ?_
      refine ov (B := s₁.setTop (mkF m 13 #[rv rL, iv (1 : Int32)] [])) (fun t k => XS.istoreN X0.here hx rfl (hb hby own_d9_12) rfl (l' := #[rv rL, iv (1 : Int32)]) rfl k) ?_
      exact own_done ⟨_, _, _, N0, (Or.inl ⟨hc8, rfl⟩), (own_bT (n := 0) rfl hc8), rfl, X0, e0⟩
    · refine ov (B := s₁.setTop (mkF m 13 #[rv rL, iv (0 : Int32)] [])) (fun t k => XS.icmpYes X0.here hx rfl (pc0 := 8) (pc' := 13) rfl (hb hby own_d9_8) rfl (flt hc8).2.1 (by decide) (by decide) k) ?_
      exact own_done ⟨_, _, _, N0, (Or.inr ⟨hc8, rfl⟩), (own_bF (n := 0) rfl hc8), rfl, X0, e0⟩
  · rintro B ⟨T3, L3, v8l1, N3, hv8, jf3_0, rfl, X3, e3⟩
    refine oALN (n := 14) X3 hx (hb hby own_d9_13) rfl rfl rfl ?_
    refine oIC (n := 15) X3 hx (2 : Int32) (hb hby own_d9_14) (by decide) rfl ?_
    obtain ⟨cl4, Ar4, q4, S4, M4, H4, G4⟩ := id Vr
    have hin4 : ¬ ((2 : Int32) < 0 ∨ cl4.slots.size ≤ ((2 : Int32)).toNatClampNeg) := inb_of S4 ⟨by decide, by decide⟩
    refine ov (B := T3.setTop (mkF m 16 #[rv rL, iv v8l1] [(.int (tt.getD 2 0))])) (fun t k => X3.iaload hx (j := (2 : Int32)) (v := (.int (tt.getD 2 0))) (by rw [e3]; exact Ar4.1) (State.isArrayOf_alike hZ.alike Ar4.2.1) Ar4.2.2 hin4 (Has.at H4 hin4 (own_mgI _ _)) (g := (mkF m 15 #[rv rL, iv v8l1] [(.int (2 : Int32)), (.ref rL)])) rfl rfl (hb hby own_d9_15) _ k) ?_
    refine oALN (n := 17) X3 hx (hb hby own_d9_16) rfl rfl rfl ?_
    refine oILN (n := 18) X3 hx (hb hby own_d9_17) rfl rfl ?_
    obtain ⟨cl5, Ar5, q5, S5, M5, H5, G5⟩ := id Vr
    have hin5 : ¬ (v8l1 < 0 ∨ cl5.slots.size ≤ (v8l1).toNatClampNeg) := inb_of S5 (own_Rb (by rw [jf3_0]; exact own_bRR tt 1 (by omega)))
    refine ov (B := T3.setTop (mkF m 19 #[rv rL, iv v8l1] [(.int (tt.getD v8l1.toNatClampNeg 0)), (.int (tt.getD 2 0))])) (fun t k => X3.iaload hx (j := v8l1) (v := (.int (tt.getD v8l1.toNatClampNeg 0))) (by rw [e3]; exact Ar5.1) (State.isArrayOf_alike hZ.alike Ar5.2.1) Ar5.2.2 hin5 (Has.at H5 hin5 (own_mgI _ _)) (g := (mkF m 18 #[rv rL, iv v8l1] [(.int v8l1), (.ref rL), (.int (tt.getD 2 0))])) rfl rfl (hb hby own_d9_18) _ k) ?_
    refine own_bind (G := fun B => ∃ (T' : State) (L' : List Loc) (v19l1 : Int32), Fr n0 L' ∧ ((((tt.getD 2 0) < (tt.getD v8l1.toNatClampNeg 0)) ∧ v19l1 = (2 : Int32)) ∨ ((¬ ((tt.getD 2 0) < (tt.getD v8l1.toNatClampNeg 0))) ∧ v19l1 = v8l1)) ∧ (v19l1 = own_b tt 2) ∧ B = T'.setTop (mkF m 24 #[rv rL, iv v19l1] []) ∧ Stand p l e (oR 0 0 0 0) s m #[(.ref rL)] below meth c T' L' 0 0 ∧ T'.heap = h0) ?_ ?_
    · by_cases hc19 : (tt.getD 2 0) < (tt.getD v8l1.toNatClampNeg 0)
      · refine ov (B := T3.setTop (mkF m 22 #[rv rL, iv v8l1] [])) (fun t k => XS.icmpNo X3.here hx rfl (hb hby own_d9_19) rfl (tlt hc19).2.1 k) ?_
        refine oIC (n := 23) X3 hx (2 : Int32) (hb hby own_d9_22) (by decide) rfl ?_
        refine ov (B := T3.setTop (mkF m 24 #[rv rL, iv (2 : Int32)] [])) (fun t k => XS.istoreN X3.here hx rfl (hb hby own_d9_23) rfl (l' := #[rv rL, iv (2 : Int32)]) rfl k) ?_
        exact own_done ⟨_, _, _, N3, (Or.inl ⟨hc19, rfl⟩), (own_bT (n := 1) jf3_0 hc19), rfl, X3, e3⟩
      · refine ov (B := T3.setTop (mkF m 24 #[rv rL, iv v8l1] [])) (fun t k => XS.icmpYes X3.here hx rfl (pc0 := 19) (pc' := 24) rfl (hb hby own_d9_19) rfl (flt hc19).2.1 (by decide) (by decide) k) ?_
        exact own_done ⟨_, _, _, N3, (Or.inr ⟨hc19, rfl⟩), (own_bF (n := 1) jf3_0 hc19), rfl, X3, e3⟩
    · rintro B ⟨T6, L6, v19l1, N6, hv19, jf6_0, rfl, X6, e6⟩
      refine oALN (n := 25) X6 hx (hb hby own_d9_24) rfl rfl rfl ?_
      refine oIC (n := 26) X6 hx (3 : Int32) (hb hby own_d9_25) (by decide) rfl ?_
      obtain ⟨cl7, Ar7, q7, S7, M7, H7, G7⟩ := id Vr
      have hin7 : ¬ ((3 : Int32) < 0 ∨ cl7.slots.size ≤ ((3 : Int32)).toNatClampNeg) := inb_of S7 ⟨by decide, by decide⟩
      refine ov (B := T6.setTop (mkF m 27 #[rv rL, iv v19l1] [(.int (tt.getD 3 0))])) (fun t k => X6.iaload hx (j := (3 : Int32)) (v := (.int (tt.getD 3 0))) (by rw [e6]; exact Ar7.1) (State.isArrayOf_alike hZ.alike Ar7.2.1) Ar7.2.2 hin7 (Has.at H7 hin7 (own_mgI _ _)) (g := (mkF m 26 #[rv rL, iv v19l1] [(.int (3 : Int32)), (.ref rL)])) rfl rfl (hb hby own_d9_26) _ k) ?_
      refine oALN (n := 28) X6 hx (hb hby own_d9_27) rfl rfl rfl ?_
      refine oILN (n := 29) X6 hx (hb hby own_d9_28) rfl rfl ?_
      obtain ⟨cl8, Ar8, q8, S8, M8, H8, G8⟩ := id Vr
      have hin8 : ¬ (v19l1 < 0 ∨ cl8.slots.size ≤ (v19l1).toNatClampNeg) := inb_of S8 (own_Rb (by rw [jf6_0]; exact own_bRR tt 2 (by omega)))
      refine ov (B := T6.setTop (mkF m 30 #[rv rL, iv v19l1] [(.int (tt.getD v19l1.toNatClampNeg 0)), (.int (tt.getD 3 0))])) (fun t k => X6.iaload hx (j := v19l1) (v := (.int (tt.getD v19l1.toNatClampNeg 0))) (by rw [e6]; exact Ar8.1) (State.isArrayOf_alike hZ.alike Ar8.2.1) Ar8.2.2 hin8 (Has.at H8 hin8 (own_mgI _ _)) (g := (mkF m 29 #[rv rL, iv v19l1] [(.int v19l1), (.ref rL), (.int (tt.getD 3 0))])) rfl rfl (hb hby own_d9_29) _ k) ?_
      refine own_bind (G := fun B => ∃ (T' : State) (L' : List Loc) (v30l1 : Int32), Fr n0 L' ∧ ((((tt.getD 3 0) < (tt.getD v19l1.toNatClampNeg 0)) ∧ v30l1 = (3 : Int32)) ∨ ((¬ ((tt.getD 3 0) < (tt.getD v19l1.toNatClampNeg 0))) ∧ v30l1 = v19l1)) ∧ (v30l1 = own_b tt 3) ∧ B = T'.setTop (mkF m 35 #[rv rL, iv v30l1] []) ∧ Stand p l e (oR 0 0 0 0) s m #[(.ref rL)] below meth c T' L' 0 0 ∧ T'.heap = h0) ?_ ?_
      · by_cases hc30 : (tt.getD 3 0) < (tt.getD v19l1.toNatClampNeg 0)
        · refine ov (B := T6.setTop (mkF m 33 #[rv rL, iv v19l1] [])) (fun t k => XS.icmpNo X6.here hx rfl (hb hby own_d9_30) rfl (tlt hc30).2.1 k) ?_
          refine oIC (n := 34) X6 hx (3 : Int32) (hb hby own_d9_33) (by decide) rfl ?_
          refine ov (B := T6.setTop (mkF m 35 #[rv rL, iv (3 : Int32)] [])) (fun t k => XS.istoreN X6.here hx rfl (hb hby own_d9_34) rfl (l' := #[rv rL, iv (3 : Int32)]) rfl k) ?_
          exact own_done ⟨_, _, _, N6, (Or.inl ⟨hc30, rfl⟩), (own_bT (n := 2) jf6_0 hc30), rfl, X6, e6⟩
        · refine ov (B := T6.setTop (mkF m 35 #[rv rL, iv v19l1] [])) (fun t k => XS.icmpYes X6.here hx rfl (pc0 := 30) (pc' := 35) rfl (hb hby own_d9_30) rfl (flt hc30).2.1 (by decide) (by decide) k) ?_
          exact own_done ⟨_, _, _, N6, (Or.inr ⟨hc30, rfl⟩), (own_bF (n := 2) jf6_0 hc30), rfl, X6, e6⟩
      · rintro B ⟨T9, L9, v30l1, N9, hv30, jf9_0, rfl, X9, e9⟩
        refine oALN (n := 36) X9 hx (hb hby own_d9_35) rfl rfl rfl ?_
        refine oIC (n := 37) X9 hx (4 : Int32) (hb hby own_d9_36) (by decide) rfl ?_
        obtain ⟨cl10, Ar10, q10, S10, M10, H10, G10⟩ := id Vr
        have hin10 : ¬ ((4 : Int32) < 0 ∨ cl10.slots.size ≤ ((4 : Int32)).toNatClampNeg) := inb_of S10 ⟨by decide, by decide⟩
        refine ov (B := T9.setTop (mkF m 38 #[rv rL, iv v30l1] [(.int (tt.getD 4 0))])) (fun t k => X9.iaload hx (j := (4 : Int32)) (v := (.int (tt.getD 4 0))) (by rw [e9]; exact Ar10.1) (State.isArrayOf_alike hZ.alike Ar10.2.1) Ar10.2.2 hin10 (Has.at H10 hin10 (own_mgI _ _)) (g := (mkF m 37 #[rv rL, iv v30l1] [(.int (4 : Int32)), (.ref rL)])) rfl rfl (hb hby own_d9_37) _ k) ?_
        refine oALN (n := 39) X9 hx (hb hby own_d9_38) rfl rfl rfl ?_
        refine oILN (n := 40) X9 hx (hb hby own_d9_39) rfl rfl ?_
        obtain ⟨cl11, Ar11, q11, S11, M11, H11, G11⟩ := id Vr
        have hin11 : ¬ (v30l1 < 0 ∨ cl11.slots.size ≤ (v30l1).toNatClampNeg) := inb_of S11 (own_Rb (by rw [jf9_0]; exact own_bRR tt 3 (by omega)))
        refine ov (B := T9.setTop (mkF m 41 #[rv rL, iv v30l1] [(.int (tt.getD v30l1.toNatClampNeg 0)), (.int (tt.getD 4 0))])) (fun t k => X9.iaload hx (j := v30l1) (v := (.int (tt.getD v30l1.toNatClampNeg 0))) (by rw [e9]; exact Ar11.1) (State.isArrayOf_alike hZ.alike Ar11.2.1) Ar11.2.2 hin11 (Has.at H11 hin11 (own_mgI _ _)) (g := (mkF m 40 #[rv rL, iv v30l1] [(.int v30l1), (.ref rL), (.int (tt.getD 4 0))])) rfl rfl (hb hby own_d9_40) _ k) ?_
        refine own_bind (G := fun B => ∃ (T' : State) (L' : List Loc) (v41l1 : Int32), Fr n0 L' ∧ ((((tt.getD 4 0) < (tt.getD v30l1.toNatClampNeg 0)) ∧ v41l1 = (4 : Int32)) ∨ ((¬ ((tt.getD 4 0) < (tt.getD v30l1.toNatClampNeg 0))) ∧ v41l1 = v30l1)) ∧ (v41l1 = own_b tt 4) ∧ B = T'.setTop (mkF m 46 #[rv rL, iv v41l1] []) ∧ Stand p l e (oR 0 0 0 0) s m #[(.ref rL)] below meth c T' L' 0 0 ∧ T'.heap = h0) ?_ ?_
        · by_cases hc41 : (tt.getD 4 0) < (tt.getD v30l1.toNatClampNeg 0)
          · refine ov (B := T9.setTop (mkF m 44 #[rv rL, iv v30l1] [])) (fun t k => XS.icmpNo X9.here hx rfl (hb hby own_d9_41) rfl (tlt hc41).2.1 k) ?_
            refine oIC (n := 45) X9 hx (4 : Int32) (hb hby own_d9_44) (by decide) rfl ?_
            refine ov (B := T9.setTop (mkF m 46 #[rv rL, iv (4 : Int32)] [])) (fun t k => XS.istoreN X9.here hx rfl (hb hby own_d9_45) rfl (l' := #[rv rL, iv (4 : Int32)]) rfl k) ?_
            exact own_done ⟨_, _, _, N9, (Or.inl ⟨hc41, rfl⟩), (own_bT (n := 3) jf9_0 hc41), rfl, X9, e9⟩
          · refine ov (B := T9.setTop (mkF m 46 #[rv rL, iv v30l1] [])) (fun t k => XS.icmpYes X9.here hx rfl (pc0 := 41) (pc' := 46) rfl (hb hby own_d9_41) rfl (flt hc41).2.1 (by decide) (by decide) k) ?_
            exact own_done ⟨_, _, _, N9, (Or.inr ⟨hc41, rfl⟩), (own_bF (n := 3) jf9_0 hc41), rfl, X9, e9⟩
        · rintro B ⟨T12, L12, v41l1, N12, hv41, jf12_0, rfl, X12, e12⟩
          refine oALN (n := 47) X12 hx (hb hby own_d9_46) rfl rfl rfl ?_
          refine oIC (n := 48) X12 hx (5 : Int32) (hb hby own_d9_47) (by decide) rfl ?_
          obtain ⟨cl13, Ar13, q13, S13, M13, H13, G13⟩ := id Vr
          have hin13 : ¬ ((5 : Int32) < 0 ∨ cl13.slots.size ≤ ((5 : Int32)).toNatClampNeg) := inb_of S13 ⟨by decide, by decide⟩
          refine ov (B := T12.setTop (mkF m 49 #[rv rL, iv v41l1] [(.int (tt.getD 5 0))])) (fun t k => X12.iaload hx (j := (5 : Int32)) (v := (.int (tt.getD 5 0))) (by rw [e12]; exact Ar13.1) (State.isArrayOf_alike hZ.alike Ar13.2.1) Ar13.2.2 hin13 (Has.at H13 hin13 (own_mgI _ _)) (g := (mkF m 48 #[rv rL, iv v41l1] [(.int (5 : Int32)), (.ref rL)])) rfl rfl (hb hby own_d9_48) _ k) ?_
          refine oALN (n := 50) X12 hx (hb hby own_d9_49) rfl rfl rfl ?_
          refine oILN (n := 51) X12 hx (hb hby own_d9_50) rfl rfl ?_
          obtain ⟨cl14, Ar14, q14, S14, M14, H14, G14⟩ := id Vr
          have hin14 : ¬ (v41l1 < 0 ∨ cl14.slots.size ≤ (v41l1).toNatClampNeg) := inb_of S14 (own_Rb (by rw [jf12_0]; exact own_bRR tt 4 (by omega)))
          refine ov (B := T12.setTop (mkF m 52 #[rv rL, iv v41l1] [(.int (tt.getD v41l1.toNatClampNeg 0)), (.int (tt.getD 5 0))])) (fun t k => X12.iaload hx (j := v41l1) (v := (.int (tt.getD v41l1.toNatClampNeg 0))) (by rw [e12]; exact Ar14.1) (State.isArrayOf_alike hZ.alike Ar14.2.1) Ar14.2.2 hin14 (Has.at H14 hin14 (own_mgI _ _)) (g := (mkF m 51 #[rv rL, iv v41l1] [(.int v41l1), (.ref rL), (.int (tt.getD 5 0))])) rfl rfl (hb hby own_d9_51) _ k) ?_
          refine own_bind (G := fun B => ∃ (T' : State) (L' : List Loc) (v52l1 : Int32), Fr n0 L' ∧ ((((tt.getD 5 0) < (tt.getD v41l1.toNatClampNeg 0)) ∧ v52l1 = (5 : Int32)) ∨ ((¬ ((tt.getD 5 0) < (tt.getD v41l1.toNatClampNeg 0))) ∧ v52l1 = v41l1)) ∧ (v52l1 = own_b tt 5) ∧ B = T'.setTop (mkF m 57 #[rv rL, iv v52l1] []) ∧ Stand p l e (oR 0 0 0 0) s m #[(.ref rL)] below meth c T' L' 0 0 ∧ T'.heap = h0) ?_ ?_
          · by_cases hc52 : (tt.getD 5 0) < (tt.getD v41l1.toNatClampNeg 0)
            · refine ov (B := T12.setTop (mkF m 55 #[rv rL, iv v41l1] [])) (fun t k => XS.icmpNo X12.here hx rfl (hb hby own_d9_52) rfl (tlt hc52).2.1 k) ?_
              refine oIC (n := 56) X12 hx (5 : Int32) (hb hby own_d9_55) (by decide) rfl ?_
              refine ov (B := T12.setTop (mkF m 57 #[rv rL, iv (5 : Int32)] [])) (fun t k => XS.istoreN X12.here hx rfl (hb hby own_d9_56) rfl (l' := #[rv rL, iv (5 : Int32)]) rfl k) ?_
              exact own_done ⟨_, _, _, N12, (Or.inl ⟨hc52, rfl⟩), (own_bT (n := 4) jf12_0 hc52), rfl, X12, e12⟩
            · refine ov (B := T12.setTop (mkF m 57 #[rv rL, iv v41l1] [])) (fun t k => XS.icmpYes X12.here hx rfl (pc0 := 52) (pc' := 57) rfl (hb hby own_d9_52) rfl (flt hc52).2.1 (by decide) (by decide) k) ?_
              exact own_done ⟨_, _, _, N12, (Or.inr ⟨hc52, rfl⟩), (own_bF (n := 4) jf12_0 hc52), rfl, X12, e12⟩
          · rintro B ⟨T15, L15, v52l1, N15, hv52, jf15_0, rfl, X15, e15⟩
            refine oILN (n := 58) X15 hx (hb hby own_d9_57) rfl rfl ?_
            refine own_leaf X15 hx hlk (t := .int) Bd.returns rfl (Or.inl ⟨rfl, by simp, _, rfl⟩) (hb hby own_d9_58) (by decide) (by decide) ?_
            show QL Z rL kr tt h0 n0 _ T15.heap _
            rw [e15]
            refine ⟨?_, N15, rfl⟩
            exact congrArg (fun z => some (Value.int z)) jf15_0
theorem own_pd0 : parseMethodDescriptor "(II)Z" = some ⟨[.int, .int], some .boolean⟩ := by decide +kernel
theorem own_pd1 : parseMethodDescriptor "(II)V" = some ⟨[.int, .int], none⟩ := by decide +kernel
theorem own_d5_0 : decode prog_26_method_4_code 0 = .ok (.aload_n 0, 1) := by decide +kernel
theorem own_d5_1 : decode prog_26_method_4_code 1 = .ok (.getfield 7, 3) := by decide +kernel
theorem own_d5_4 : decode prog_26_method_4_code 4 = .ok (.iload_n 1, 1) := by decide +kernel
theorem own_d5_5 : decode prog_26_method_4_code 5 = .ok (.dload_n 2, 1) := by decide +kernel
theorem own_d5_6 : decode prog_26_method_4_code 6 = .ok (.dastore, 1) := by decide +kernel
theorem own_d5_7 : decode prog_26_method_4_code 7 = .ok (.aload_n 0, 1) := by decide +kernel
theorem own_d5_8 : decode prog_26_method_4_code 8 = .ok (.getfield 17, 3) := by decide +kernel
theorem own_d5_11 : decode prog_26_method_4_code 11 = .ok (.iload_n 1, 1) := by decide +kernel
theorem own_d5_12 : decode prog_26_method_4_code 12 = .ok (.iaload, 1) := by decide +kernel
theorem own_d5_13 : decode prog_26_method_4_code 13 = .ok (.istore 4, 2) := by decide +kernel
theorem own_d5_15 : decode prog_26_method_4_code 15 = .ok (.iload 4, 2) := by decide +kernel
theorem own_d5_17 : decode prog_26_method_4_code 17 = .ok (.ifCond .le 50, 3) := by decide +kernel
theorem own_d5_20 : decode prog_26_method_4_code 20 = .ok (.aload_n 0, 1) := by decide +kernel
theorem own_d5_21 : decode prog_26_method_4_code 21 = .ok (.iload_n 1, 1) := by decide +kernel
theorem own_d5_22 : decode prog_26_method_4_code 22 = .ok (.aload_n 0, 1) := by decide +kernel
theorem own_d5_23 : decode prog_26_method_4_code 23 = .ok (.getfield 13, 3) := by decide +kernel
theorem own_d5_26 : decode prog_26_method_4_code 26 = .ok (.iload 4, 2) := by decide +kernel
theorem own_d5_28 : decode prog_26_method_4_code 28 = .ok (.iconst 1, 1) := by decide +kernel
theorem own_d5_29 : decode prog_26_method_4_code 29 = .ok (.isub, 1) := by decide +kernel
theorem own_d5_30 : decode prog_26_method_4_code 30 = .ok (.iconst 2, 1) := by decide +kernel
theorem own_d5_31 : decode prog_26_method_4_code 31 = .ok (.idiv, 1) := by decide +kernel
theorem own_d5_32 : decode prog_26_method_4_code 32 = .ok (.iaload, 1) := by decide +kernel
theorem own_d5_33 : decode prog_26_method_4_code 33 = .ok (.invokevirtual 30, 3) := by decide +kernel
theorem own_d5_36 : decode prog_26_method_4_code 36 = .ok (.ifCond .eq 31, 3) := by decide +kernel
theorem own_d5_39 : decode prog_26_method_4_code 39 = .ok (.aload_n 0, 1) := by decide +kernel
theorem own_d5_40 : decode prog_26_method_4_code 40 = .ok (.aload_n 0, 1) := by decide +kernel
theorem own_d5_41 : decode prog_26_method_4_code 41 = .ok (.getfield 13, 3) := by decide +kernel
theorem own_d5_44 : decode prog_26_method_4_code 44 = .ok (.iload 4, 2) := by decide +kernel
theorem own_d5_46 : decode prog_26_method_4_code 46 = .ok (.iconst 1, 1) := by decide +kernel
theorem own_d5_47 : decode prog_26_method_4_code 47 = .ok (.isub, 1) := by decide +kernel
theorem own_d5_48 : decode prog_26_method_4_code 48 = .ok (.iconst 2, 1) := by decide +kernel
theorem own_d5_49 : decode prog_26_method_4_code 49 = .ok (.idiv, 1) := by decide +kernel
theorem own_d5_50 : decode prog_26_method_4_code 50 = .ok (.iaload, 1) := by decide +kernel
theorem own_d5_51 : decode prog_26_method_4_code 51 = .ok (.iload 4, 2) := by decide +kernel
theorem own_d5_53 : decode prog_26_method_4_code 53 = .ok (.invokevirtual 34, 3) := by decide +kernel
theorem own_d5_56 : decode prog_26_method_4_code 56 = .ok (.iload 4, 2) := by decide +kernel
theorem own_d5_58 : decode prog_26_method_4_code 58 = .ok (.iconst 1, 1) := by decide +kernel
theorem own_d5_59 : decode prog_26_method_4_code 59 = .ok (.isub, 1) := by decide +kernel
theorem own_d5_60 : decode prog_26_method_4_code 60 = .ok (.iconst 2, 1) := by decide +kernel
theorem own_d5_61 : decode prog_26_method_4_code 61 = .ok (.idiv, 1) := by decide +kernel
theorem own_d5_62 : decode prog_26_method_4_code 62 = .ok (.istore 4, 2) := by decide +kernel
theorem own_d5_64 : decode prog_26_method_4_code 64 = .ok (.goto (-49), 3) := by decide +kernel
theorem own_d5_67 : decode prog_26_method_4_code 67 = .ok (.iconst 2, 1) := by decide +kernel
theorem own_d5_68 : decode prog_26_method_4_code 68 = .ok (.iload 4, 2) := by decide +kernel
theorem own_d5_70 : decode prog_26_method_4_code 70 = .ok (.imul, 1) := by decide +kernel
theorem own_d5_71 : decode prog_26_method_4_code 71 = .ok (.iconst 1, 1) := by decide +kernel
theorem own_d5_72 : decode prog_26_method_4_code 72 = .ok (.iadd, 1) := by decide +kernel
theorem own_d5_73 : decode prog_26_method_4_code 73 = .ok (.istore 5, 2) := by decide +kernel
theorem own_d5_75 : decode prog_26_method_4_code 75 = .ok (.iload 5, 2) := by decide +kernel
theorem own_d5_77 : decode prog_26_method_4_code 77 = .ok (.aload_n 0, 1) := by decide +kernel
theorem own_d5_78 : decode prog_26_method_4_code 78 = .ok (.getfield 13, 3) := by decide +kernel
theorem own_d5_81 : decode prog_26_method_4_code 81 = .ok (.arraylength, 1) := by decide +kernel
theorem own_d5_82 : decode prog_26_method_4_code 82 = .ok (.if_icmp .lt 6, 3) := by decide +kernel
theorem own_d5_85 : decode prog_26_method_4_code 85 = .ok (.goto 79, 3) := by decide +kernel
theorem own_d5_88 : decode prog_26_method_4_code 88 = .ok (.iload 5, 2) := by decide +kernel
theorem own_d5_90 : decode prog_26_method_4_code 90 = .ok (.iconst 1, 1) := by decide +kernel
theorem own_d5_91 : decode prog_26_method_4_code 91 = .ok (.iadd, 1) := by decide +kernel
theorem own_d5_92 : decode prog_26_method_4_code 92 = .ok (.aload_n 0, 1) := by decide +kernel
theorem own_d5_93 : decode prog_26_method_4_code 93 = .ok (.getfield 13, 3) := by decide +kernel
theorem own_d5_96 : decode prog_26_method_4_code 96 = .ok (.arraylength, 1) := by decide +kernel
theorem own_d5_97 : decode prog_26_method_4_code 97 = .ok (.if_icmp .ge 29, 3) := by decide +kernel
theorem own_d5_100 : decode prog_26_method_4_code 100 = .ok (.aload_n 0, 1) := by decide +kernel
theorem own_d5_101 : decode prog_26_method_4_code 101 = .ok (.aload_n 0, 1) := by decide +kernel
theorem own_d5_102 : decode prog_26_method_4_code 102 = .ok (.getfield 13, 3) := by decide +kernel
theorem own_d5_105 : decode prog_26_method_4_code 105 = .ok (.iload 5, 2) := by decide +kernel
theorem own_d5_107 : decode prog_26_method_4_code 107 = .ok (.iconst 1, 1) := by decide +kernel
theorem own_d5_108 : decode prog_26_method_4_code 108 = .ok (.iadd, 1) := by decide +kernel
theorem own_d5_109 : decode prog_26_method_4_code 109 = .ok (.iaload, 1) := by decide +kernel
theorem own_d5_110 : decode prog_26_method_4_code 110 = .ok (.aload_n 0, 1) := by decide +kernel
theorem own_d5_111 : decode prog_26_method_4_code 111 = .ok (.getfield 13, 3) := by decide +kernel
theorem own_d5_114 : decode prog_26_method_4_code 114 = .ok (.iload 5, 2) := by decide +kernel
theorem own_d5_116 : decode prog_26_method_4_code 116 = .ok (.iaload, 1) := by decide +kernel
theorem own_d5_117 : decode prog_26_method_4_code 117 = .ok (.invokevirtual 30, 3) := by decide +kernel
theorem own_d5_120 : decode prog_26_method_4_code 120 = .ok (.ifCond .eq 6, 3) := by decide +kernel
theorem own_d5_123 : decode prog_26_method_4_code 123 = .ok (.iinc 5 1, 3) := by decide +kernel
theorem own_d5_126 : decode prog_26_method_4_code 126 = .ok (.aload_n 0, 1) := by decide +kernel
theorem own_d5_127 : decode prog_26_method_4_code 127 = .ok (.aload_n 0, 1) := by decide +kernel
theorem own_d5_128 : decode prog_26_method_4_code 128 = .ok (.getfield 13, 3) := by decide +kernel
theorem own_d5_131 : decode prog_26_method_4_code 131 = .ok (.iload 5, 2) := by decide +kernel
theorem own_d5_133 : decode prog_26_method_4_code 133 = .ok (.iaload, 1) := by decide +kernel
theorem own_d5_134 : decode prog_26_method_4_code 134 = .ok (.iload_n 1, 1) := by decide +kernel
theorem own_d5_135 : decode prog_26_method_4_code 135 = .ok (.invokevirtual 30, 3) := by decide +kernel
theorem own_d5_138 : decode prog_26_method_4_code 138 = .ok (.ifCond .ne 6, 3) := by decide +kernel
theorem own_d5_141 : decode prog_26_method_4_code 141 = .ok (.goto 23, 3) := by decide +kernel
theorem own_d5_144 : decode prog_26_method_4_code 144 = .ok (.aload_n 0, 1) := by decide +kernel
theorem own_d5_145 : decode prog_26_method_4_code 145 = .ok (.aload_n 0, 1) := by decide +kernel
theorem own_d5_146 : decode prog_26_method_4_code 146 = .ok (.getfield 13, 3) := by decide +kernel
theorem own_d5_149 : decode prog_26_method_4_code 149 = .ok (.iload 5, 2) := by decide +kernel
theorem own_d5_151 : decode prog_26_method_4_code 151 = .ok (.iaload, 1) := by decide +kernel
theorem own_d5_152 : decode prog_26_method_4_code 152 = .ok (.iload 4, 2) := by decide +kernel
theorem own_d5_154 : decode prog_26_method_4_code 154 = .ok (.invokevirtual 34, 3) := by decide +kernel
theorem own_d5_157 : decode prog_26_method_4_code 157 = .ok (.iload 5, 2) := by decide +kernel
theorem own_d5_159 : decode prog_26_method_4_code 159 = .ok (.istore 4, 2) := by decide +kernel
theorem own_d5_161 : decode prog_26_method_4_code 161 = .ok (.goto (-94), 3) := by decide +kernel
theorem own_d5_164 : decode prog_26_method_4_code 164 = .ok (.aload_n 0, 1) := by decide +kernel
theorem own_d5_165 : decode prog_26_method_4_code 165 = .ok (.iload_n 1, 1) := by decide +kernel
theorem own_d5_166 : decode prog_26_method_4_code 166 = .ok (.iload 4, 2) := by decide +kernel
theorem own_d5_168 : decode prog_26_method_4_code 168 = .ok (.invokevirtual 34, 3) := by decide +kernel
theorem own_d5_171 : decode prog_26_method_4_code 171 = .ok (.return_, 1) := by decide +kernel
theorem own_efT (m : MethodId) (x0 : Addr) (x1 : Int32) (x2 : UInt64) : entryFrame m #[(.ref x0), (.int x1), (.double x2)] 6 = mkF m 0 #[rv x0, iv x1, .val (.double x2), .second, uu, uu] [] := by first | (simp [entryFrame, mkF, argsToLocals, Value.category]; done) | rfl
def QT (Z : State) (aT : Addr) (sT : Int32) (wT : UInt64) (gT : Addr) (hT : Addr) (pT : Addr) (kt : ClassId) (kh : ClassId) (kp : ClassId) (tt : List Int32) (PP : List Int32) (eA : Int32) (eB : Int32) (eC : Int32) (eD : Int32) (eE : Int32) (eF : Int32) (yT : Int32) (h0 : Heap) (n0 : Nat) (v : Option Value) (h : Heap) (L : List Loc) : Prop := ∃ (fA : Int32) (fB : Int32) (fC : Int32) (fD : Int32) (fE : Int32) (fF : Int32) (PQ : List Int32), v = none ∧ Fr n0 L ∧ Keep h0 h [gT, hT, pT] ∧ (own_I1 (own_mv tt sT yT)) ∧ (own_I2 PQ fA fB fC fD fE fF) ∧ (own_I3 fA fB fC fD fE fF) ∧ (own_I4 (own_mv tt sT yT) fA fB fC fD fE fF) ∧ (Arv Z h gT kt .double (6 : Int32) ((own_mv tt sT yT).map own_tv) (.double (own_tw 0))) ∧ (Arv Z h hT kh .int (6 : Int32) [(.int fA), (.int fB), (.int fC), (.int fD), (.int fE), (.int fF)] (.int (0 : Int32))) ∧ (Arv Z h pT kp .int (6 : Int32) (PQ.map Value.int) (.int (0 : Int32)))
set_option maxRecDepth 65536 in
set_option maxHeartbeats 40000000 in
theorem rmT (l : Launch) (Z : State) (a0 : Array Value) (hw : ∀ d ∈ tables_1, d.before a0 Z = true) (ws : List Jvm.Cond) (aT : Addr) (sT : Int32) (wT : UInt64) (gT : Addr) (hT : Addr) (pT : Addr) (kt : ClassId) (kh : ClassId) (kp : ClassId) (tt : List Int32) (PP : List Int32) (eA : Int32) (eB : Int32) (eC : Int32) (eD : Int32) (eE : Int32) (eF : Int32) (yT : Int32) (h0 : Heap) (n0 : Nat) (Z0 : n0 ≤ h0.size) (Eo : Exa Z h0 aT "com/example/meerkat/meerkat/simulate/Completions") (Ft : Fld Z h0 aT "com/example/meerkat/meerkat/simulate/Completions" "times" "[D" (.ref gT)) (Fh : Fld Z h0 aT "com/example/meerkat/meerkat/simulate/Completions" "heap" "[I" (.ref hT)) (Fp : Fld Z h0 aT "com/example/meerkat/meerkat/simulate/Completions" "places" "[I" (.ref pT)) (Vt : Arv Z h0 gT kt .double (6 : Int32) (tt.map own_tv) (.double (own_tw 0))) (Vh : Arv Z h0 hT kh .int (6 : Int32) [(.int eA), (.int eB), (.int eC), (.int eD), (.int eE), (.int eF)] (.int (0 : Int32))) (Vp : Arv Z h0 pT kp .int (6 : Int32) (PP.map Value.int) (.int (0 : Int32))) (ngh : gT ≠ hT) (ngp : gT ≠ pT) (nhp : hT ≠ pT) (g_gT : n0 ≤ gT) (g_hT : n0 ≤ hT) (g_pT : n0 ≤ pT) (qI : own_I1 tt) (qP : own_I2 PP eA eB eC eD eE eF) (qS : own_I3 eA eB eC eD eE eF) (qO : own_I4 tt eA eB eC eD eE eF) (qR : own_R sT) (qY : own_T yT) (qW : wT = own_tw yT) :
    MetFree l (⟨"com/example/meerkat/meerkat/simulate/Completions", "set", "(ID)V"⟩ : MethodName) (head1 (Jvm.Cond.code (⟨"com/example/meerkat/meerkat/simulate/Completions", "set", "(ID)V"⟩ : MethodName) prog_26_method_4_code 6 none :: ws) (oR 1 0 0 24)) (fun a U => a = #[(.ref aT), (.int sT), (.double wT)] ∧ Z.Warmed39 U.vm ∧ U.heap = h0) (fun _ _ _ _ _ => True) (fun _ U o U' => ∃ v L, o = .returned v ∧ QT Z aT sT wT gT hT pT kt kh kp tt PP eA eB eC eD eE eF yT h0 n0 v U'.heap L ∧ FrameEnd U o U' L (oR 1 0 0 24).cells (oR 1 0 0 24).slots) := by
  refine MetFree.of_bodySF (plainFor_of_name own_pn1) hisR ?_
  intro p e s m args below meth c s₁ Bd hml0 hP hK
  obtain ⟨rfl, hZ, hh⟩ := hP
  have hx := Bd.exec
  have hby := Bd.bytes
  have hlk : meth.locks = false := Bd.notSynchronized
  have hml : c.maxLocals = 6 := hml0
  have hown : s.vm.findClass "com/example/meerkat/meerkat/simulate/Completions" = some m.cls := findClass_of_methodNamed Bd.named
  have hnm := (name_of_methodNamed Bd.named Bd.method).1
  have X0 : Stand p l e (oR 1 0 0 24) s m #[(.ref aT), (.int sT), (.double wT)] below meth c s₁ [] 0 0 := Stand.of_body Bd
  have e0 : s₁.heap = h0 := by rw [← hh, Bd.state]; rfl
  have N0 := Fr.nil n0
  refine own_body (A := s₁.setTop (mkF m 0 #[rv aT, iv sT, .val (.double wT), .second, uu, uu] [])) (Q := QT Z aT sT wT gT hT pT kt kh kp tt PP eA eB eC eD eE eF yT h0 n0) (fun t k => castTop (own_efT m aT sT wT) k) ?_
  obtain ⟨qL, reA, reB, reC, reD, reE, reF, peA, peB, peC, peD, peE, peF⟩ := id qP
  obtain ⟨o1, o2, o3, o4, o5⟩ := id qO
  refine oALN (n := 1) X0 hx (hb hby own_d5_0) rfl rfl rfl ?_
  obtain ⟨T1, X1, e1, st1⟩ := getF X0 hx hZ hown (host := "") (Or.inl (oW hw 10 rfl)) Via.refl e0 Ft (g := (mkF m 1 #[rv aT, iv sT, .val (.double wT), .second, uu, uu] [(.ref aT)])) rfl rfl (hb hby own_d5_1)
  refine ov (B := T1.setTop (mkF m 4 #[rv aT, iv sT, .val (.double wT), .second, uu, uu] [(.ref gT)])) (fun t k => st1 t k) ?_
  refine oILN (n := 5) X1 hx (hb hby own_d5_4) rfl rfl ?_
  refine ov (B := T1.setTop (mkF m 6 #[rv aT, iv sT, .val (.double wT), .second, uu, uu] [(.double wT), (.int sT), (.ref gT)])) (fun t k => XS.dloadN X1.here hx rfl (hb hby own_d5_5) rfl k) ?_
  obtain ⟨cl2, Ar2, q2, S2, M2, H2, G2⟩ := id Vt
  obtain ⟨T3, h3, X3, e3, W3, st3⟩ := stD X1 hx hZ e1 Ar2 (j := sT) (inb_of S2 (own_Rb qR)) (g := (mkF m 6 #[rv aT, iv sT, .val (.double wT), .second, uu, uu] [(.double wT), (.int sT), (.ref gT)])) rfl rfl (hb hby own_d5_6)
  have V3 : Arv Z h3 gT kt .double (6 : Int32) ((tt.set sT.toNatClampNeg yT).map own_tv) (.double (own_tw 0)) := by have q := Arv.set Ar2 q2 S2 M2 H2 G2 rfl W3 sT.toNatClampNeg rfl (by rw [List.length_map, qI.1]; exact own_Rn qR); rw [qW, own_msT] at q; exact q
  have N3 := Fr.snoc X3 N0 g_gT
  refine ov (B := T3.setTop (mkF m 7 #[rv aT, iv sT, .val (.double wT), .second, uu, uu] [])) (fun t k => st3 t k) ?_
  refine oALN (n := 8) X3 hx (hb hby own_d5_7) rfl rfl rfl ?_
  obtain ⟨T4, X4, e4, st4⟩ := getF X3 hx hZ hown (host := "") (Or.inl (oW hw 15 rfl)) Via.refl e3 (Fp.other W3 (Or.inl (Exa.neArv (Eo.wr W3) V3 (oW hw 1 rfl)))) (g := (mkF m 8 #[rv aT, iv sT, .val (.double wT), .second, uu, uu] [(.ref aT)])) rfl rfl (hb hby own_d5_8)
  refine ov (B := T4.setTop (mkF m 11 #[rv aT, iv sT, .val (.double wT), .second, uu, uu] [(.ref pT)])) (fun t k => st4 t k) ?_
  refine oILN (n := 12) X4 hx (hb hby own_d5_11) rfl rfl ?_
  obtain ⟨cl5, Ar5, q5, S5, M5, H5, G5⟩ := id (Vp.other W3 (Ne.symm ngp))
  have hin5 : ¬ (sT < 0 ∨ cl5.slots.size ≤ (sT).toNatClampNeg) := inb_of S5 (own_Rb qR)
  refine ov (B := T4.setTop (mkF m 13 #[rv aT, iv sT, .val (.double wT), .second, uu, uu] [(.int (PP.getD sT.toNatClampNeg 0))])) (fun t k => X4.iaload hx (j := sT) (v := (.int (PP.getD sT.toNatClampNeg 0))) (by rw [e4]; exact Ar5.1) (State.isArrayOf_alike hZ.alike Ar5.2.1) Ar5.2.2 hin5 (Has.at H5 hin5 (own_mgI _ _)) (g := (mkF m 12 #[rv aT, iv sT, .val (.double wT), .second, uu, uu] [(.int sT), (.ref pT)])) rfl rfl (hb hby own_d5_12) _ k) ?_
  refine ov (B := T4.setTop (mkF m 15 #[rv aT, iv sT, .val (.double wT), .second, iv (PP.getD sT.toNatClampNeg 0), uu] [])) (fun t k => XS.istore X4.here hx rfl (hb hby own_d5_13) rfl (l' := #[rv aT, iv sT, .val (.double wT), .second, iv (PP.getD sT.toNatClampNeg 0), uu]) rfl k) ?_
  rcases qS sT qR with hq | hq | hq | hq | hq | hq
  · have hk : PP.getD sT.toNatClampNeg 0 = (0 : Int32) := by rw [hq]; exact peA
    rw [hk]
    have neB : sT ≠ eB := own_ppne (l := PP) hk peB (by decide)
    have eeB : own_rk (own_mv tt sT yT) eB = own_rk tt eB := own_rkne neB qR reB
    have neC : sT ≠ eC := own_ppne (l := PP) hk peC (by decide)
    have eeC : own_rk (own_mv tt sT yT) eC = own_rk tt eC := own_rkne neC qR reC
    have neD : sT ≠ eD := own_ppne (l := PP) hk peD (by decide)
    have eeD : own_rk (own_mv tt sT yT) eD = own_rk tt eD := own_rkne neD qR reD
    have neE : sT ≠ eE := own_ppne (l := PP) hk peE (by decide)
    have eeE : own_rk (own_mv tt sT yT) eE = own_rk tt eE := own_rkne neE qR reE
    have neF : sT ≠ eF := own_ppne (l := PP) hk peF (by decide)
    have eeF : own_rk (own_mv tt sT yT) eF = own_rk tt eF := own_rkne neF qR reF
    refine oIL (n := 17) X4 hx (hb hby own_d5_15) rfl rfl ?_
    have hc17 : ¬ ((0 : Int32) < (0 : Int32)) := by decide
    refine ov (B := T4.setTop (mkF m 67 #[rv aT, iv sT, .val (.double wT), .second, iv (0 : Int32), uu] [])) (fun t k => XS.ifYes X4.here hx rfl (pc0 := 17) (pc' := 67) rfl (hb hby own_d5_17) rfl ((if0 _ _).trans (flt hc17).2.2.2) (by decide) (by decide) k) ?_
    refine oIC (n := 68) X4 hx (2 : Int32) (hb hby own_d5_67) (by decide) rfl ?_
    refine oIL (n := 70) X4 hx (hb hby own_d5_68) rfl rfl ?_
    refine ov (B := T4.setTop (mkF m 71 #[rv aT, iv sT, .val (.double wT), .second, iv (0 : Int32), uu] [(.int (0 : Int32))])) (fun t k => XS.imul X4.here hx rfl (hb hby own_d5_70) rfl k) ?_
    refine oIC (n := 72) X4 hx (1 : Int32) (hb hby own_d5_71) (by decide) rfl ?_
    refine ov (B := T4.setTop (mkF m 73 #[rv aT, iv sT, .val (.double wT), .second, iv (0 : Int32), uu] [(.int (1 : Int32))])) (fun t k => XS.iadd X4.here hx rfl (hb hby own_d5_72) rfl k) ?_
    refine ov (B := T4.setTop (mkF m 75 #[rv aT, iv sT, .val (.double wT), .second, iv (0 : Int32), iv (1 : Int32)] [])) (fun t k => XS.istore X4.here hx rfl (hb hby own_d5_73) rfl (l' := #[rv aT, iv sT, .val (.double wT), .second, iv (0 : Int32), iv (1 : Int32)]) rfl k) ?_
    refine oIL (n := 77) X4 hx (hb hby own_d5_75) rfl rfl ?_
    refine oALN (n := 78) X4 hx (hb hby own_d5_77) rfl rfl rfl ?_
    obtain ⟨T6, X6, e6, st6⟩ := getF X4 hx hZ hown (host := "") (Or.inl (oW hw 13 rfl)) Via.refl e4 (Fh.other W3 (Or.inl (Exa.neArv (Eo.wr W3) V3 (oW hw 1 rfl)))) (g := (mkF m 78 #[rv aT, iv sT, .val (.double wT), .second, iv (0 : Int32), iv (1 : Int32)] [(.ref aT), (.int (1 : Int32))])) rfl rfl (hb hby own_d5_78)
    refine ov (B := T6.setTop (mkF m 81 #[rv aT, iv sT, .val (.double wT), .second, iv (0 : Int32), iv (1 : Int32)] [(.ref hT), (.int (1 : Int32))])) (fun t k => st6 t k) ?_
    obtain ⟨cl7, Ar7, q7, S7, M7, H7, G7⟩ := id (Vh.other W3 (Ne.symm ngh))
    refine ov (B := T6.setTop (mkF m 82 #[rv aT, iv sT, .val (.double wT), .second, iv (0 : Int32), iv (1 : Int32)] [(.int (6 : Int32)), (.int (1 : Int32))])) (fun t k => X6.arraylength hx (by rw [e6]; exact Ar7.1) (State.isArrayOf_alike hZ.alike Ar7.2.1) (g := (mkF m 81 #[rv aT, iv sT, .val (.double wT), .second, iv (0 : Int32), iv (1 : Int32)] [(.ref hT), (.int (1 : Int32))])) rfl rfl (hb hby own_d5_81) _ (by rw [len_of S7 M7]; exact k)) ?_
    have hc82 : (1 : Int32) < (6 : Int32) := by decide
    refine ov (B := T6.setTop (mkF m 88 #[rv aT, iv sT, .val (.double wT), .second, iv (0 : Int32), iv (1 : Int32)] [])) (fun t k => XS.icmpYes X6.here hx rfl (pc0 := 82) (pc' := 88) rfl (hb hby own_d5_82) rfl (tlt hc82).1 (by decide) (by decide) k) ?_
    refine oIL (n := 90) X6 hx (hb hby own_d5_88) rfl rfl ?_
    refine oIC (n := 91) X6 hx (1 : Int32) (hb hby own_d5_90) (by decide) rfl ?_
    refine ov (B := T6.setTop (mkF m 92 #[rv aT, iv sT, .val (.double wT), .second, iv (0 : Int32), iv (1 : Int32)] [(.int (2 : Int32))])) (fun t k => XS.iadd X6.here hx rfl (hb hby own_d5_91) rfl k) ?_
    refine oALN (n := 93) X6 hx (hb hby own_d5_92) rfl rfl rfl ?_
    obtain ⟨T8, X8, e8, st8⟩ := getF X6 hx hZ hown (host := "") (Or.inl (oW hw 13 rfl)) Via.refl e6 (Fh.other W3 (Or.inl (Exa.neArv (Eo.wr W3) V3 (oW hw 1 rfl)))) (g := (mkF m 93 #[rv aT, iv sT, .val (.double wT), .second, iv (0 : Int32), iv (1 : Int32)] [(.ref aT), (.int (2 : Int32))])) rfl rfl (hb hby own_d5_93)
    refine ov (B := T8.setTop (mkF m 96 #[rv aT, iv sT, .val (.double wT), .second, iv (0 : Int32), iv (1 : Int32)] [(.ref hT), (.int (2 : Int32))])) (fun t k => st8 t k) ?_
    obtain ⟨cl9, Ar9, q9, S9, M9, H9, G9⟩ := id (Vh.other W3 (Ne.symm ngh))
    refine ov (B := T8.setTop (mkF m 97 #[rv aT, iv sT, .val (.double wT), .second, iv (0 : Int32), iv (1 : Int32)] [(.int (6 : Int32)), (.int (2 : Int32))])) (fun t k => X8.arraylength hx (by rw [e8]; exact Ar9.1) (State.isArrayOf_alike hZ.alike Ar9.2.1) (g := (mkF m 96 #[rv aT, iv sT, .val (.double wT), .second, iv (0 : Int32), iv (1 : Int32)] [(.ref hT), (.int (2 : Int32))])) rfl rfl (hb hby own_d5_96) _ (by rw [len_of S9 M9]; exact k)) ?_
    have hc97 : (2 : Int32) < (6 : Int32) := by decide
    refine ov (B := T8.setTop (mkF m 100 #[rv aT, iv sT, .val (.double wT), .second, iv (0 : Int32), iv (1 : Int32)] [])) (fun t k => XS.icmpNo X8.here hx rfl (hb hby own_d5_97) rfl (tlt hc97).2.1 k) ?_
    refine oALN (n := 101) X8 hx (hb hby own_d5_100) rfl rfl rfl ?_
    refine oALN (n := 102) X8 hx (hb hby own_d5_101) rfl rfl rfl ?_
    obtain ⟨T10, X10, e10, st10⟩ := getF X8 hx hZ hown (host := "") (Or.inl (oW hw 13 rfl)) Via.refl e8 (Fh.other W3 (Or.inl (Exa.neArv (Eo.wr W3) V3 (oW hw 1 rfl)))) (g := (mkF m 102 #[rv aT, iv sT, .val (.double wT), .second, iv (0 : Int32), iv (1 : Int32)] [(.ref aT), (.ref aT)])) rfl rfl (hb hby own_d5_102)
    refine ov (B := T10.setTop (mkF m 105 #[rv aT, iv sT, .val (.double wT), .second, iv (0 : Int32), iv (1 : Int32)] [(.ref hT), (.ref aT)])) (fun t k => st10 t k) ?_
    refine oIL (n := 107) X10 hx (hb hby own_d5_105) rfl rfl ?_
    refine oIC (n := 108) X10 hx (1 : Int32) (hb hby own_d5_107) (by decide) rfl ?_
    refine ov (B := T10.setTop (mkF m 109 #[rv aT, iv sT, .val (.double wT), .second, iv (0 : Int32), iv (1 : Int32)] [(.int (2 : Int32)), (.ref hT), (.ref aT)])) (fun t k => XS.iadd X10.here hx rfl (hb hby own_d5_108) rfl k) ?_
    obtain ⟨cl11, Ar11, q11, S11, M11, H11, G11⟩ := id (Vh.other W3 (Ne.symm ngh))
    have hin11 : ¬ ((2 : Int32) < 0 ∨ cl11.slots.size ≤ ((2 : Int32)).toNatClampNeg) := inb_of S11 ⟨by decide, by decide⟩
    refine ov (B := T10.setTop (mkF m 110 #[rv aT, iv sT, .val (.double wT), .second, iv (0 : Int32), iv (1 : Int32)] [(.int eC), (.ref aT)])) (fun t k => X10.iaload hx (j := (2 : Int32)) (v := (.int eC)) (by rw [e10]; exact Ar11.1) (State.isArrayOf_alike hZ.alike Ar11.2.1) Ar11.2.2 hin11 (Has.at H11 hin11 rfl) (g := (mkF m 109 #[rv aT, iv sT, .val (.double wT), .second, iv (0 : Int32), iv (1 : Int32)] [(.int (2 : Int32)), (.ref hT), (.ref aT)])) rfl rfl (hb hby own_d5_109) _ k) ?_
    refine oALN (n := 111) X10 hx (hb hby own_d5_110) rfl rfl rfl ?_
    obtain ⟨T12, X12, e12, st12⟩ := getF X10 hx hZ hown (host := "") (Or.inl (oW hw 13 rfl)) Via.refl e10 (Fh.other W3 (Or.inl (Exa.neArv (Eo.wr W3) V3 (oW hw 1 rfl)))) (g := (mkF m 111 #[rv aT, iv sT, .val (.double wT), .second, iv (0 : Int32), iv (1 : Int32)] [(.ref aT), (.int eC), (.ref aT)])) rfl rfl (hb hby own_d5_111)
    refine ov (B := T12.setTop (mkF m 114 #[rv aT, iv sT, .val (.double wT), .second, iv (0 : Int32), iv (1 : Int32)] [(.ref hT), (.int eC), (.ref aT)])) (fun t k => st12 t k) ?_
    refine oIL (n := 116) X12 hx (hb hby own_d5_114) rfl rfl ?_
    obtain ⟨cl13, Ar13, q13, S13, M13, H13, G13⟩ := id (Vh.other W3 (Ne.symm ngh))
    have hin13 : ¬ ((1 : Int32) < 0 ∨ cl13.slots.size ≤ ((1 : Int32)).toNatClampNeg) := inb_of S13 ⟨by decide, by decide⟩
    refine ov (B := T12.setTop (mkF m 117 #[rv aT, iv sT, .val (.double wT), .second, iv (0 : Int32), iv (1 : Int32)] [(.int eB), (.int eC), (.ref aT)])) (fun t k => X12.iaload hx (j := (1 : Int32)) (v := (.int eB)) (by rw [e12]; exact Ar13.1) (State.isArrayOf_alike hZ.alike Ar13.2.1) Ar13.2.2 hin13 (Has.at H13 hin13 rfl) (g := (mkF m 116 #[rv aT, iv sT, .val (.double wT), .second, iv (0 : Int32), iv (1 : Int32)] [(.int (1 : Int32)), (.ref hT), (.int eC), (.ref aT)])) rfl rfl (hb hby own_d5_116) _ k) ?_
    obtain ⟨cq14, q14, q14'⟩ := (Eo.wr W3).cell
    obtain ⟨_, _, ⟨T14, L14, k14, n14⟩, -, X14, ⟨Lc14, hQ14, l14, y14, z14⟩, st14⟩ := X12.privateBack hx (y := (⟨"com/example/meerkat/meerkat/simulate/Completions", "before", "(II)Z"⟩ : MethodName)) hown (mvT hZ (oW hw 32 rfl)) (mvT hZ (oW hw 33 rfl)) (own_selP (y' := (⟨"com/example/meerkat/meerkat/simulate/Completions", "set", "(ID)V"⟩ : MethodName)) rfl (mvT hZ (oW hw 30 rfl)) (Cond.privateMethod_at (mvP hZ (oW hw 34 rfl) (args := #[]))) (mvT hZ (oW hw 33 rfl)) (by decide)) (Cond.privateMethod_at (mvP hZ (oW hw 34 rfl) (args := #[]))) (mvT hZ (oW hw 35 rfl)) (by decide) (backOf (W := 0) (rmB l Z a0 hw [] aT eC eB gT kt (own_mv tt sT yT) h3 n0 (Nat.le_trans Z0 (Keep.of_wr W3).1) (Ft.other W3 (Or.inl (Exa.neArv (Eo.wr W3) V3 (oW hw 1 rfl)))) V3 (own_I1mv qI qR qY) reC reB) hZ (oW hw 35 rfl) (oW hw 2 rfl) (by decide) (by decide)) (g := (mkF m 117 #[rv aT, iv sT, .val (.double wT), .second, iv (0 : Int32), iv (1 : Int32)] [(.int eB), (.int eC), (.ref aT)])) rfl (by rw [hml]; rfl) (Steps.refl _) (a := aT) (by rw [e12]; exact q14) q14' (argsL := [(.int eC), (.int eB)]) (rest := []) (lenOf own_pd0 rfl) rfl (by show 2 * 0 + _ ≤ _; exact Nat.le_of_eq rfl) (hb hby own_d5_117) (fun _ _ => ⟨rfl, e12, (by decide : 0 + 0 ≤ _), (by decide : 0 + 0 ≤ _)⟩)
    dsimp only [Pt.U, Pt.locs, Pt.cells, Pt.slots] at X14 l14 y14 z14 st14 hQ14
    subst l14 y14 z14
    obtain ⟨rfl, Nq14, eq14⟩ := hQ14
    have N14 := Fr.app N3 Nq14
    refine ov (B := T14.setTop (mkF m 120 #[rv aT, iv sT, .val (.double wT), .second, iv (0 : Int32), iv (1 : Int32)] [(.int (own_bit (own_rk (own_mv tt sT yT) eC < own_rk (own_mv tt sT yT) eB)))])) (fun t k => st14.trans k) ?_
    by_cases hc120 : own_rk (own_mv tt sT yT) eC < own_rk (own_mv tt sT yT) eB
    · refine ov (B := T14.setTop (mkF m 123 #[rv aT, iv sT, .val (.double wT), .second, iv (0 : Int32), iv (1 : Int32)] [])) (fun t k => XS.ifNo X14.here hx rfl (hb hby own_d5_120) rfl ((if0 _ _).trans (feq (own_bitne hc120)).1) k) ?_
      refine ov (B := T14.setTop (mkF m 126 #[rv aT, iv sT, .val (.double wT), .second, iv (0 : Int32), iv (2 : Int32)] [])) (fun t k => XS.iinc X14.here hx rfl (hb hby own_d5_123) rfl (l' := #[rv aT, iv sT, .val (.double wT), .second, iv (0 : Int32), iv (2 : Int32)]) rfl k) ?_
      refine oALN (n := 127) X14 hx (hb hby own_d5_126) rfl rfl rfl ?_
      refine oALN (n := 128) X14 hx (hb hby own_d5_127) rfl rfl rfl ?_
      obtain ⟨T15, X15, e15, st15⟩ := getF X14 hx hZ hown (host := "") (Or.inl (oW hw 13 rfl)) Via.refl eq14 (Fh.other W3 (Or.inl (Exa.neArv (Eo.wr W3) V3 (oW hw 1 rfl)))) (g := (mkF m 128 #[rv aT, iv sT, .val (.double wT), .second, iv (0 : Int32), iv (2 : Int32)] [(.ref aT), (.ref aT)])) rfl rfl (hb hby own_d5_128)
      refine ov (B := T15.setTop (mkF m 131 #[rv aT, iv sT, .val (.double wT), .second, iv (0 : Int32), iv (2 : Int32)] [(.ref hT), (.ref aT)])) (fun t k => st15 t k) ?_
      refine oIL (n := 133) X15 hx (hb hby own_d5_131) rfl rfl ?_
      obtain ⟨cl16, Ar16, q16, S16, M16, H16, G16⟩ := id (Vh.other W3 (Ne.symm ngh))
      have hin16 : ¬ ((2 : Int32) < 0 ∨ cl16.slots.size ≤ ((2 : Int32)).toNatClampNeg) := inb_of S16 ⟨by decide, by decide⟩
      refine ov (B := T15.setTop (mkF m 134 #[rv aT, iv sT, .val (.double wT), .second, iv (0 : Int32), iv (2 : Int32)] [(.int eC), (.ref aT)])) (fun t k => X15.iaload hx (j := (2 : Int32)) (v := (.int eC)) (by rw [e15]; exact Ar16.1) (State.isArrayOf_alike hZ.alike Ar16.2.1) Ar16.2.2 hin16 (Has.at H16 hin16 rfl) (g := (mkF m 133 #[rv aT, iv sT, .val (.double wT), .second, iv (0 : Int32), iv (2 : Int32)] [(.int (2 : Int32)), (.ref hT), (.ref aT)])) rfl rfl (hb hby own_d5_133) _ k) ?_
      refine oILN (n := 135) X15 hx (hb hby own_d5_134) rfl rfl ?_
      obtain ⟨cq17, q17, q17'⟩ := (Eo.wr W3).cell
      obtain ⟨_, _, ⟨T17, L17, k17, n17⟩, -, X17, ⟨Lc17, hQ17, l17, y17, z17⟩, st17⟩ := X15.privateBack hx (y := (⟨"com/example/meerkat/meerkat/simulate/Completions", "before", "(II)Z"⟩ : MethodName)) hown (mvT hZ (oW hw 32 rfl)) (mvT hZ (oW hw 33 rfl)) (own_selP (y' := (⟨"com/example/meerkat/meerkat/simulate/Completions", "set", "(ID)V"⟩ : MethodName)) rfl (mvT hZ (oW hw 30 rfl)) (Cond.privateMethod_at (mvP hZ (oW hw 34 rfl) (args := #[]))) (mvT hZ (oW hw 33 rfl)) (by decide)) (Cond.privateMethod_at (mvP hZ (oW hw 34 rfl) (args := #[]))) (mvT hZ (oW hw 35 rfl)) (by decide) (backOf (W := 0) (rmB l Z a0 hw [] aT eC sT gT kt (own_mv tt sT yT) h3 n0 (Nat.le_trans Z0 (Keep.of_wr W3).1) (Ft.other W3 (Or.inl (Exa.neArv (Eo.wr W3) V3 (oW hw 1 rfl)))) V3 (own_I1mv qI qR qY) reC qR) hZ (oW hw 35 rfl) (oW hw 2 rfl) (by decide) (by decide)) (g := (mkF m 135 #[rv aT, iv sT, .val (.double wT), .second, iv (0 : Int32), iv (2 : Int32)] [(.int sT), (.int eC), (.ref aT)])) rfl (by rw [hml]; rfl) (Steps.refl _) (a := aT) (by rw [e15]; exact q17) q17' (argsL := [(.int eC), (.int sT)]) (rest := []) (lenOf own_pd0 rfl) rfl (by show 2 * 0 + _ ≤ _; exact Nat.le_of_eq rfl) (hb hby own_d5_135) (fun _ _ => ⟨rfl, e15, (by decide : (0 + 0) + 0 ≤ _), (by decide : (0 + 0) + 0 ≤ _)⟩)
      dsimp only [Pt.U, Pt.locs, Pt.cells, Pt.slots] at X17 l17 y17 z17 st17 hQ17
      subst l17 y17 z17
      obtain ⟨rfl, Nq17, eq17⟩ := hQ17
      have N17 := Fr.app N14 Nq17
      refine ov (B := T17.setTop (mkF m 138 #[rv aT, iv sT, .val (.double wT), .second, iv (0 : Int32), iv (2 : Int32)] [(.int (own_bit (own_rk (own_mv tt sT yT) eC < own_rk (own_mv tt sT yT) sT)))])) (fun t k => st17.trans k) ?_
      by_cases hc138 : own_rk (own_mv tt sT yT) eC < own_rk (own_mv tt sT yT) sT
      · refine ov (B := T17.setTop (mkF m 144 #[rv aT, iv sT, .val (.double wT), .second, iv (0 : Int32), iv (2 : Int32)] [])) (fun t k => XS.ifYes X17.here hx rfl (pc0 := 138) (pc' := 144) rfl (hb hby own_d5_138) rfl ((if0 _ _).trans (feq (own_bitne hc138)).2) (by decide) (by decide) k) ?_
        refine oALN (n := 145) X17 hx (hb hby own_d5_144) rfl rfl rfl ?_
        refine oALN (n := 146) X17 hx (hb hby own_d5_145) rfl rfl rfl ?_
        obtain ⟨T18, X18, e18, st18⟩ := getF X17 hx hZ hown (host := "") (Or.inl (oW hw 13 rfl)) Via.refl eq17 (Fh.other W3 (Or.inl (Exa.neArv (Eo.wr W3) V3 (oW hw 1 rfl)))) (g := (mkF m 146 #[rv aT, iv sT, .val (.double wT), .second, iv (0 : Int32), iv (2 : Int32)] [(.ref aT), (.ref aT)])) rfl rfl (hb hby own_d5_146)
        refine ov (B := T18.setTop (mkF m 149 #[rv aT, iv sT, .val (.double wT), .second, iv (0 : Int32), iv (2 : Int32)] [(.ref hT), (.ref aT)])) (fun t k => st18 t k) ?_
        refine oIL (n := 151) X18 hx (hb hby own_d5_149) rfl rfl ?_
        obtain ⟨cl19, Ar19, q19, S19, M19, H19, G19⟩ := id (Vh.other W3 (Ne.symm ngh))
        have hin19 : ¬ ((2 : Int32) < 0 ∨ cl19.slots.size ≤ ((2 : Int32)).toNatClampNeg) := inb_of S19 ⟨by decide, by decide⟩
        refine ov (B := T18.setTop (mkF m 152 #[rv aT, iv sT, .val (.double wT), .second, iv (0 : Int32), iv (2 : Int32)] [(.int eC), (.ref aT)])) (fun t k => X18.iaload hx (j := (2 : Int32)) (v := (.int eC)) (by rw [e18]; exact Ar19.1) (State.isArrayOf_alike hZ.alike Ar19.2.1) Ar19.2.2 hin19 (Has.at H19 hin19 rfl) (g := (mkF m 151 #[rv aT, iv sT, .val (.double wT), .second, iv (0 : Int32), iv (2 : Int32)] [(.int (2 : Int32)), (.ref hT), (.ref aT)])) rfl rfl (hb hby own_d5_151) _ k) ?_
        refine oIL (n := 154) X18 hx (hb hby own_d5_152) rfl rfl ?_
        obtain ⟨cq20, q20, q20'⟩ := (Eo.wr W3).cell
        obtain ⟨_, _, ⟨T20, L20, k20, n20⟩, -, X20, ⟨Lc20, hQ20, l20, y20, z20⟩, st20⟩ := X18.privateBack hx (y := (⟨"com/example/meerkat/meerkat/simulate/Completions", "move", "(II)V"⟩ : MethodName)) hown (mvT hZ (oW hw 36 rfl)) (mvT hZ (oW hw 37 rfl)) (own_selP (y' := (⟨"com/example/meerkat/meerkat/simulate/Completions", "set", "(ID)V"⟩ : MethodName)) rfl (mvT hZ (oW hw 30 rfl)) (Cond.privateMethod_at (mvP hZ (oW hw 38 rfl) (args := #[]))) (mvT hZ (oW hw 37 rfl)) (by decide)) (Cond.privateMethod_at (mvP hZ (oW hw 38 rfl) (args := #[]))) (mvT hZ (oW hw 39 rfl)) (by decide) (backOf (W := 0) (rmM l Z a0 hw [] aT eC (0 : Int32) hT pT kh kp [eA, eB, eC, eD, eE, eF] PP h3 n0 (Nat.le_trans Z0 (Keep.of_wr W3).1) (Eo.wr W3) (Fh.other W3 (Or.inl (Exa.neArv (Eo.wr W3) V3 (oW hw 1 rfl)))) (Fp.other W3 (Or.inl (Exa.neArv (Eo.wr W3) V3 (oW hw 1 rfl)))) (Vh.other W3 (Ne.symm ngh)) (Vp.other W3 (Ne.symm ngp)) nhp g_hT g_pT rfl qL reC ⟨by decide, by decide⟩) hZ (oW hw 39 rfl) (oW hw 2 rfl) (by decide) (by decide)) (g := (mkF m 154 #[rv aT, iv sT, .val (.double wT), .second, iv (0 : Int32), iv (2 : Int32)] [(.int (0 : Int32)), (.int eC), (.ref aT)])) rfl (by rw [hml]; rfl) (Steps.refl _) (a := aT) (by rw [e18]; exact q20) q20' (argsL := [(.int eC), (.int (0 : Int32))]) (rest := []) (lenOf own_pd1 rfl) rfl (by show 2 * 0 + _ ≤ _; exact Nat.le_of_eq rfl) (hb hby own_d5_154) (fun _ _ => ⟨rfl, e18, (by decide : ((0 + 0) + 0) + 0 ≤ _), (by decide : ((0 + 0) + 0) + 0 ≤ _)⟩)
        dsimp only [Pt.U, Pt.locs, Pt.cells, Pt.slots] at X20 l20 y20 z20 st20 hQ20
        subst l20 y20 z20
        obtain ⟨rfl, Nq20, Kq20, f20_0, f20_1⟩ := hQ20
        have N20 := Fr.app N17 Nq20
        have Vh20 : Arv Z T20.heap hT kh .int (6 : Int32) [(.int eC), (.int eB), (.int eC), (.int eD), (.int eE), (.int eF)] (.int (0 : Int32)) := f20_0
        refine ov (B := T20.setTop (mkF m 157 #[rv aT, iv sT, .val (.double wT), .second, iv (0 : Int32), iv (2 : Int32)] [])) (fun t k => st20.trans k) ?_
        refine oIL (n := 159) X20 hx (hb hby own_d5_157) rfl rfl ?_
        refine ov (B := T20.setTop (mkF m 161 #[rv aT, iv sT, .val (.double wT), .second, iv (2 : Int32), iv (2 : Int32)] [])) (fun t k => XS.istore X20.here hx rfl (hb hby own_d5_159) rfl (l' := #[rv aT, iv sT, .val (.double wT), .second, iv (2 : Int32), iv (2 : Int32)]) rfl k) ?_
        refine oGO (n := 67) X20 hx (hb hby own_d5_161) (by decide) (by decide) ?_
        refine oIC (n := 68) X20 hx (2 : Int32) (hb hby own_d5_67) (by decide) rfl ?_
        refine oIL (n := 70) X20 hx (hb hby own_d5_68) rfl rfl ?_
        refine ov (B := T20.setTop (mkF m 71 #[rv aT, iv sT, .val (.double wT), .second, iv (2 : Int32), iv (2 : Int32)] [(.int (4 : Int32))])) (fun t k => XS.imul X20.here hx rfl (hb hby own_d5_70) rfl k) ?_
        refine oIC (n := 72) X20 hx (1 : Int32) (hb hby own_d5_71) (by decide) rfl ?_
        refine ov (B := T20.setTop (mkF m 73 #[rv aT, iv sT, .val (.double wT), .second, iv (2 : Int32), iv (2 : Int32)] [(.int (5 : Int32))])) (fun t k => XS.iadd X20.here hx rfl (hb hby own_d5_72) rfl k) ?_
        refine ov (B := T20.setTop (mkF m 75 #[rv aT, iv sT, .val (.double wT), .second, iv (2 : Int32), iv (5 : Int32)] [])) (fun t k => XS.istore X20.here hx rfl (hb hby own_d5_73) rfl (l' := #[rv aT, iv sT, .val (.double wT), .second, iv (2 : Int32), iv (5 : Int32)]) rfl k) ?_
        refine oIL (n := 77) X20 hx (hb hby own_d5_75) rfl rfl ?_
        refine oALN (n := 78) X20 hx (hb hby own_d5_77) rfl rfl rfl ?_
        obtain ⟨T21, X21, e21, st21⟩ := getF X20 hx hZ hown (host := "") (Or.inl (oW hw 13 rfl)) Via.refl rfl ((Fh.other W3 (Or.inl (Exa.neArv (Eo.wr W3) V3 (oW hw 1 rfl)))).keep Kq20 (ninS (Exa.neArv ((Eo.wr W3).keep Kq20) Vh20 (oW hw 1 rfl)) (ninS (Exa.neArv ((Eo.wr W3).keep Kq20) f20_1 (oW hw 1 rfl)) nin0))) (g := (mkF m 78 #[rv aT, iv sT, .val (.double wT), .second, iv (2 : Int32), iv (5 : Int32)] [(.ref aT), (.int (5 : Int32))])) rfl rfl (hb hby own_d5_78)
        refine ov (B := T21.setTop (mkF m 81 #[rv aT, iv sT, .val (.double wT), .second, iv (2 : Int32), iv (5 : Int32)] [(.ref hT), (.int (5 : Int32))])) (fun t k => st21 t k) ?_
        obtain ⟨cl22, Ar22, q22, S22, M22, H22, G22⟩ := id Vh20
        refine ov (B := T21.setTop (mkF m 82 #[rv aT, iv sT, .val (.double wT), .second, iv (2 : Int32), iv (5 : Int32)] [(.int (6 : Int32)), (.int (5 : Int32))])) (fun t k => X21.arraylength hx (by rw [e21]; exact Ar22.1) (State.isArrayOf_alike hZ.alike Ar22.2.1) (g := (mkF m 81 #[rv aT, iv sT, .val (.double wT), .second, iv (2 : Int32), iv (5 : Int32)] [(.ref hT), (.int (5 : Int32))])) rfl rfl (hb hby own_d5_81) _ (by rw [len_of S22 M22]; exact k)) ?_
        have hc82 : (5 : Int32) < (6 : Int32) := by decide
        refine ov (B := T21.setTop (mkF m 88 #[rv aT, iv sT, .val (.double wT), .second, iv (2 : Int32), iv (5 : Int32)] [])) (fun t k => XS.icmpYes X21.here hx rfl (pc0 := 82) (pc' := 88) rfl (hb hby own_d5_82) rfl (tlt hc82).1 (by decide) (by decide) k) ?_
        refine oIL (n := 90) X21 hx (hb hby own_d5_88) rfl rfl ?_
        refine oIC (n := 91) X21 hx (1 : Int32) (hb hby own_d5_90) (by decide) rfl ?_
        refine ov (B := T21.setTop (mkF m 92 #[rv aT, iv sT, .val (.double wT), .second, iv (2 : Int32), iv (5 : Int32)] [(.int (6 : Int32))])) (fun t k => XS.iadd X21.here hx rfl (hb hby own_d5_91) rfl k) ?_
        refine oALN (n := 93) X21 hx (hb hby own_d5_92) rfl rfl rfl ?_
        obtain ⟨T23, X23, e23, st23⟩ := getF X21 hx hZ hown (host := "") (Or.inl (oW hw 13 rfl)) Via.refl e21 ((Fh.other W3 (Or.inl (Exa.neArv (Eo.wr W3) V3 (oW hw 1 rfl)))).keep Kq20 (ninS (Exa.neArv ((Eo.wr W3).keep Kq20) Vh20 (oW hw 1 rfl)) (ninS (Exa.neArv ((Eo.wr W3).keep Kq20) f20_1 (oW hw 1 rfl)) nin0))) (g := (mkF m 93 #[rv aT, iv sT, .val (.double wT), .second, iv (2 : Int32), iv (5 : Int32)] [(.ref aT), (.int (6 : Int32))])) rfl rfl (hb hby own_d5_93)
        refine ov (B := T23.setTop (mkF m 96 #[rv aT, iv sT, .val (.double wT), .second, iv (2 : Int32), iv (5 : Int32)] [(.ref hT), (.int (6 : Int32))])) (fun t k => st23 t k) ?_
        obtain ⟨cl24, Ar24, q24, S24, M24, H24, G24⟩ := id Vh20
        refine ov (B := T23.setTop (mkF m 97 #[rv aT, iv sT, .val (.double wT), .second, iv (2 : Int32), iv (5 : Int32)] [(.int (6 : Int32)), (.int (6 : Int32))])) (fun t k => X23.arraylength hx (by rw [e23]; exact Ar24.1) (State.isArrayOf_alike hZ.alike Ar24.2.1) (g := (mkF m 96 #[rv aT, iv sT, .val (.double wT), .second, iv (2 : Int32), iv (5 : Int32)] [(.ref hT), (.int (6 : Int32))])) rfl rfl (hb hby own_d5_96) _ (by rw [len_of S24 M24]; exact k)) ?_
        have hc97 : ¬ ((6 : Int32) < (6 : Int32)) := by decide
        refine ov (B := T23.setTop (mkF m 126 #[rv aT, iv sT, .val (.double wT), .second, iv (2 : Int32), iv (5 : Int32)] [])) (fun t k => XS.icmpYes X23.here hx rfl (pc0 := 97) (pc' := 126) rfl (hb hby own_d5_97) rfl (flt hc97).2.1 (by decide) (by decide) k) ?_
        refine oALN (n := 127) X23 hx (hb hby own_d5_126) rfl rfl rfl ?_
        refine oALN (n := 128) X23 hx (hb hby own_d5_127) rfl rfl rfl ?_
        obtain ⟨T25, X25, e25, st25⟩ := getF X23 hx hZ hown (host := "") (Or.inl (oW hw 13 rfl)) Via.refl e23 ((Fh.other W3 (Or.inl (Exa.neArv (Eo.wr W3) V3 (oW hw 1 rfl)))).keep Kq20 (ninS (Exa.neArv ((Eo.wr W3).keep Kq20) Vh20 (oW hw 1 rfl)) (ninS (Exa.neArv ((Eo.wr W3).keep Kq20) f20_1 (oW hw 1 rfl)) nin0))) (g := (mkF m 128 #[rv aT, iv sT, .val (.double wT), .second, iv (2 : Int32), iv (5 : Int32)] [(.ref aT), (.ref aT)])) rfl rfl (hb hby own_d5_128)
        refine ov (B := T25.setTop (mkF m 131 #[rv aT, iv sT, .val (.double wT), .second, iv (2 : Int32), iv (5 : Int32)] [(.ref hT), (.ref aT)])) (fun t k => st25 t k) ?_
        refine oIL (n := 133) X25 hx (hb hby own_d5_131) rfl rfl ?_
        obtain ⟨cl26, Ar26, q26, S26, M26, H26, G26⟩ := id Vh20
        have hin26 : ¬ ((5 : Int32) < 0 ∨ cl26.slots.size ≤ ((5 : Int32)).toNatClampNeg) := inb_of S26 ⟨by decide, by decide⟩
        refine ov (B := T25.setTop (mkF m 134 #[rv aT, iv sT, .val (.double wT), .second, iv (2 : Int32), iv (5 : Int32)] [(.int eF), (.ref aT)])) (fun t k => X25.iaload hx (j := (5 : Int32)) (v := (.int eF)) (by rw [e25]; exact Ar26.1) (State.isArrayOf_alike hZ.alike Ar26.2.1) Ar26.2.2 hin26 (Has.at H26 hin26 rfl) (g := (mkF m 133 #[rv aT, iv sT, .val (.double wT), .second, iv (2 : Int32), iv (5 : Int32)] [(.int (5 : Int32)), (.ref hT), (.ref aT)])) rfl rfl (hb hby own_d5_133) _ k) ?_
        refine oILN (n := 135) X25 hx (hb hby own_d5_134) rfl rfl ?_
        obtain ⟨cq27, q27, q27'⟩ := ((Eo.wr W3).keep Kq20).cell
        obtain ⟨_, _, ⟨T27, L27, k27, n27⟩, -, X27, ⟨Lc27, hQ27, l27, y27, z27⟩, st27⟩ := X25.privateBack hx (y := (⟨"com/example/meerkat/meerkat/simulate/Completions", "before", "(II)Z"⟩ : MethodName)) hown (mvT hZ (oW hw 32 rfl)) (mvT hZ (oW hw 33 rfl)) (own_selP (y' := (⟨"com/example/meerkat/meerkat/simulate/Completions", "set", "(ID)V"⟩ : MethodName)) rfl (mvT hZ (oW hw 30 rfl)) (Cond.privateMethod_at (mvP hZ (oW hw 34 rfl) (args := #[]))) (mvT hZ (oW hw 33 rfl)) (by decide)) (Cond.privateMethod_at (mvP hZ (oW hw 34 rfl) (args := #[]))) (mvT hZ (oW hw 35 rfl)) (by decide) (backOf (W := 0) (rmB l Z a0 hw [] aT eF sT gT kt (own_mv tt sT yT) T20.heap n0 (Nat.le_trans (Nat.le_trans Z0 (Keep.of_wr W3).1) Kq20.1) ((Ft.other W3 (Or.inl (Exa.neArv (Eo.wr W3) V3 (oW hw 1 rfl)))).keep Kq20 (ninS (Exa.neArv ((Eo.wr W3).keep Kq20) Vh20 (oW hw 1 rfl)) (ninS (Exa.neArv ((Eo.wr W3).keep Kq20) f20_1 (oW hw 1 rfl)) nin0))) (V3.keep Kq20 (ninS ngh (ninS ngp nin0))) (own_I1mv qI qR qY) reF qR) hZ (oW hw 35 rfl) (oW hw 2 rfl) (by decide) (by decide)) (g := (mkF m 135 #[rv aT, iv sT, .val (.double wT), .second, iv (2 : Int32), iv (5 : Int32)] [(.int sT), (.int eF), (.ref aT)])) rfl (by rw [hml]; rfl) (Steps.refl _) (a := aT) (by rw [e25]; exact q27) q27' (argsL := [(.int eF), (.int sT)]) (rest := []) (lenOf own_pd0 rfl) rfl (by show 2 * 0 + _ ≤ _; exact Nat.le_of_eq rfl) (hb hby own_d5_135) (fun _ _ => ⟨rfl, e25, (by decide : (((0 + 0) + 0) + 0) + 0 ≤ _), (by decide : (((0 + 0) + 0) + 0) + 0 ≤ _)⟩)
        dsimp only [Pt.U, Pt.locs, Pt.cells, Pt.slots] at X27 l27 y27 z27 st27 hQ27
        subst l27 y27 z27
        obtain ⟨rfl, Nq27, eq27⟩ := hQ27
        have N27 := Fr.app N20 Nq27
        refine ov (B := T27.setTop (mkF m 138 #[rv aT, iv sT, .val (.double wT), .second, iv (2 : Int32), iv (5 : Int32)] [(.int (own_bit (own_rk (own_mv tt sT yT) eF < own_rk (own_mv tt sT yT) sT)))])) (fun t k => st27.trans k) ?_
        by_cases hc138 : own_rk (own_mv tt sT yT) eF < own_rk (own_mv tt sT yT) sT
        · refine ov (B := T27.setTop (mkF m 144 #[rv aT, iv sT, .val (.double wT), .second, iv (2 : Int32), iv (5 : Int32)] [])) (fun t k => XS.ifYes X27.here hx rfl (pc0 := 138) (pc' := 144) rfl (hb hby own_d5_138) rfl ((if0 _ _).trans (feq (own_bitne hc138)).2) (by decide) (by decide) k) ?_
          refine oALN (n := 145) X27 hx (hb hby own_d5_144) rfl rfl rfl ?_
          refine oALN (n := 146) X27 hx (hb hby own_d5_145) rfl rfl rfl ?_
          obtain ⟨T28, X28, e28, st28⟩ := getF X27 hx hZ hown (host := "") (Or.inl (oW hw 13 rfl)) Via.refl eq27 ((Fh.other W3 (Or.inl (Exa.neArv (Eo.wr W3) V3 (oW hw 1 rfl)))).keep Kq20 (ninS (Exa.neArv ((Eo.wr W3).keep Kq20) Vh20 (oW hw 1 rfl)) (ninS (Exa.neArv ((Eo.wr W3).keep Kq20) f20_1 (oW hw 1 rfl)) nin0))) (g := (mkF m 146 #[rv aT, iv sT, .val (.double wT), .second, iv (2 : Int32), iv (5 : Int32)] [(.ref aT), (.ref aT)])) rfl rfl (hb hby own_d5_146)
          refine ov (B := T28.setTop (mkF m 149 #[rv aT, iv sT, .val (.double wT), .second, iv (2 : Int32), iv (5 : Int32)] [(.ref hT), (.ref aT)])) (fun t k => st28 t k) ?_
          refine oIL (n := 151) X28 hx (hb hby own_d5_149) rfl rfl ?_
          obtain ⟨cl29, Ar29, q29, S29, M29, H29, G29⟩ := id Vh20
          have hin29 : ¬ ((5 : Int32) < 0 ∨ cl29.slots.size ≤ ((5 : Int32)).toNatClampNeg) := inb_of S29 ⟨by decide, by decide⟩
          refine ov (B := T28.setTop (mkF m 152 #[rv aT, iv sT, .val (.double wT), .second, iv (2 : Int32), iv (5 : Int32)] [(.int eF), (.ref aT)])) (fun t k => X28.iaload hx (j := (5 : Int32)) (v := (.int eF)) (by rw [e28]; exact Ar29.1) (State.isArrayOf_alike hZ.alike Ar29.2.1) Ar29.2.2 hin29 (Has.at H29 hin29 rfl) (g := (mkF m 151 #[rv aT, iv sT, .val (.double wT), .second, iv (2 : Int32), iv (5 : Int32)] [(.int (5 : Int32)), (.ref hT), (.ref aT)])) rfl rfl (hb hby own_d5_151) _ k) ?_
          refine oIL (n := 154) X28 hx (hb hby own_d5_152) rfl rfl ?_
          obtain ⟨cq30, q30, q30'⟩ := ((Eo.wr W3).keep Kq20).cell
          obtain ⟨_, _, ⟨T30, L30, k30, n30⟩, -, X30, ⟨Lc30, hQ30, l30, y30, z30⟩, st30⟩ := X28.privateBack hx (y := (⟨"com/example/meerkat/meerkat/simulate/Completions", "move", "(II)V"⟩ : MethodName)) hown (mvT hZ (oW hw 36 rfl)) (mvT hZ (oW hw 37 rfl)) (own_selP (y' := (⟨"com/example/meerkat/meerkat/simulate/Completions", "set", "(ID)V"⟩ : MethodName)) rfl (mvT hZ (oW hw 30 rfl)) (Cond.privateMethod_at (mvP hZ (oW hw 38 rfl) (args := #[]))) (mvT hZ (oW hw 37 rfl)) (by decide)) (Cond.privateMethod_at (mvP hZ (oW hw 38 rfl) (args := #[]))) (mvT hZ (oW hw 39 rfl)) (by decide) (backOf (W := 0) (rmM l Z a0 hw [] aT eF (2 : Int32) hT pT kh kp [eC, eB, eC, eD, eE, eF] (own_mv PP eC (0 : Int32)) T20.heap n0 (Nat.le_trans (Nat.le_trans Z0 (Keep.of_wr W3).1) Kq20.1) ((Eo.wr W3).keep Kq20) ((Fh.other W3 (Or.inl (Exa.neArv (Eo.wr W3) V3 (oW hw 1 rfl)))).keep Kq20 (ninS (Exa.neArv ((Eo.wr W3).keep Kq20) Vh20 (oW hw 1 rfl)) (ninS (Exa.neArv ((Eo.wr W3).keep Kq20) f20_1 (oW hw 1 rfl)) nin0))) ((Fp.other W3 (Or.inl (Exa.neArv (Eo.wr W3) V3 (oW hw 1 rfl)))).keep Kq20 (ninS (Exa.neArv ((Eo.wr W3).keep Kq20) Vh20 (oW hw 1 rfl)) (ninS (Exa.neArv ((Eo.wr W3).keep Kq20) f20_1 (oW hw 1 rfl)) nin0))) Vh20 f20_1 nhp g_hT g_pT rfl (own_mvl qL) reF ⟨by decide, by decide⟩) hZ (oW hw 39 rfl) (oW hw 2 rfl) (by decide) (by decide)) (g := (mkF m 154 #[rv aT, iv sT, .val (.double wT), .second, iv (2 : Int32), iv (5 : Int32)] [(.int (2 : Int32)), (.int eF), (.ref aT)])) rfl (by rw [hml]; rfl) (Steps.refl _) (a := aT) (by rw [e28]; exact q30) q30' (argsL := [(.int eF), (.int (2 : Int32))]) (rest := []) (lenOf own_pd1 rfl) rfl (by show 2 * 0 + _ ≤ _; exact Nat.le_of_eq rfl) (hb hby own_d5_154) (fun _ _ => ⟨rfl, e28, (by decide : ((((0 + 0) + 0) + 0) + 0) + 0 ≤ _), (by decide : ((((0 + 0) + 0) + 0) + 0) + 0 ≤ _)⟩)
          dsimp only [Pt.U, Pt.locs, Pt.cells, Pt.slots] at X30 l30 y30 z30 st30 hQ30
          subst l30 y30 z30
          obtain ⟨rfl, Nq30, Kq30, f30_0, f30_1⟩ := hQ30
          have N30 := Fr.app N27 Nq30
          have Vh30 : Arv Z T30.heap hT kh .int (6 : Int32) [(.int eC), (.int eB), (.int eF), (.int eD), (.int eE), (.int eF)] (.int (0 : Int32)) := f30_0
          refine ov (B := T30.setTop (mkF m 157 #[rv aT, iv sT, .val (.double wT), .second, iv (2 : Int32), iv (5 : Int32)] [])) (fun t k => st30.trans k) ?_
          refine oIL (n := 159) X30 hx (hb hby own_d5_157) rfl rfl ?_
          refine ov (B := T30.setTop (mkF m 161 #[rv aT, iv sT, .val (.double wT), .second, iv (5 : Int32), iv (5 : Int32)] [])) (fun t k => XS.istore X30.here hx rfl (hb hby own_d5_159) rfl (l' := #[rv aT, iv sT, .val (.double wT), .second, iv (5 : Int32), iv (5 : Int32)]) rfl k) ?_
          refine oGO (n := 67) X30 hx (hb hby own_d5_161) (by decide) (by decide) ?_
          refine oIC (n := 68) X30 hx (2 : Int32) (hb hby own_d5_67) (by decide) rfl ?_
          refine oIL (n := 70) X30 hx (hb hby own_d5_68) rfl rfl ?_
          refine ov (B := T30.setTop (mkF m 71 #[rv aT, iv sT, .val (.double wT), .second, iv (5 : Int32), iv (5 : Int32)] [(.int (10 : Int32))])) (fun t k => XS.imul X30.here hx rfl (hb hby own_d5_70) rfl k) ?_
          refine oIC (n := 72) X30 hx (1 : Int32) (hb hby own_d5_71) (by decide) rfl ?_
          refine ov (B := T30.setTop (mkF m 73 #[rv aT, iv sT, .val (.double wT), .second, iv (5 : Int32), iv (5 : Int32)] [(.int (11 : Int32))])) (fun t k => XS.iadd X30.here hx rfl (hb hby own_d5_72) rfl k) ?_
          refine ov (B := T30.setTop (mkF m 75 #[rv aT, iv sT, .val (.double wT), .second, iv (5 : Int32), iv (11 : Int32)] [])) (fun t k => XS.istore X30.here hx rfl (hb hby own_d5_73) rfl (l' := #[rv aT, iv sT, .val (.double wT), .second, iv (5 : Int32), iv (11 : Int32)]) rfl k) ?_
          refine oIL (n := 77) X30 hx (hb hby own_d5_75) rfl rfl ?_
          refine oALN (n := 78) X30 hx (hb hby own_d5_77) rfl rfl rfl ?_
          obtain ⟨T31, X31, e31, st31⟩ := getF X30 hx hZ hown (host := "") (Or.inl (oW hw 13 rfl)) Via.refl rfl (((Fh.other W3 (Or.inl (Exa.neArv (Eo.wr W3) V3 (oW hw 1 rfl)))).keep Kq20 (ninS (Exa.neArv (((Eo.wr W3).keep Kq20).keep Kq30) Vh30 (oW hw 1 rfl)) (ninS (Exa.neArv (((Eo.wr W3).keep Kq20).keep Kq30) f30_1 (oW hw 1 rfl)) nin0))).keep Kq30 (ninS (Exa.neArv (((Eo.wr W3).keep Kq20).keep Kq30) Vh30 (oW hw 1 rfl)) (ninS (Exa.neArv (((Eo.wr W3).keep Kq20).keep Kq30) f30_1 (oW hw 1 rfl)) nin0))) (g := (mkF m 78 #[rv aT, iv sT, .val (.double wT), .second, iv (5 : Int32), iv (11 : Int32)] [(.ref aT), (.int (11 : Int32))])) rfl rfl (hb hby own_d5_78)
          refine ov (B := T31.setTop (mkF m 81 #[rv aT, iv sT, .val (.double wT), .second, iv (5 : Int32), iv (11 : Int32)] [(.ref hT), (.int (11 : Int32))])) (fun t k => st31 t k) ?_
          obtain ⟨cl32, Ar32, q32, S32, M32, H32, G32⟩ := id Vh30
          refine ov (B := T31.setTop (mkF m 82 #[rv aT, iv sT, .val (.double wT), .second, iv (5 : Int32), iv (11 : Int32)] [(.int (6 : Int32)), (.int (11 : Int32))])) (fun t k => X31.arraylength hx (by rw [e31]; exact Ar32.1) (State.isArrayOf_alike hZ.alike Ar32.2.1) (g := (mkF m 81 #[rv aT, iv sT, .val (.double wT), .second, iv (5 : Int32), iv (11 : Int32)] [(.ref hT), (.int (11 : Int32))])) rfl rfl (hb hby own_d5_81) _ (by rw [len_of S32 M32]; exact k)) ?_
          have hc82 : ¬ ((11 : Int32) < (6 : Int32)) := by decide
          refine ov (B := T31.setTop (mkF m 85 #[rv aT, iv sT, .val (.double wT), .second, iv (5 : Int32), iv (11 : Int32)] [])) (fun t k => XS.icmpNo X31.here hx rfl (hb hby own_d5_82) rfl (flt hc82).1 k) ?_
          refine oGO (n := 164) X31 hx (hb hby own_d5_85) (by decide) (by decide) ?_
          refine oALN (n := 165) X31 hx (hb hby own_d5_164) rfl rfl rfl ?_
          refine oILN (n := 166) X31 hx (hb hby own_d5_165) rfl rfl ?_
          refine oIL (n := 168) X31 hx (hb hby own_d5_166) rfl rfl ?_
          obtain ⟨cq33, q33, q33'⟩ := (((Eo.wr W3).keep Kq20).keep Kq30).cell
          obtain ⟨_, _, ⟨T33, L33, k33, n33⟩, -, X33, ⟨Lc33, hQ33, l33, y33, z33⟩, st33⟩ := X31.privateBack hx (y := (⟨"com/example/meerkat/meerkat/simulate/Completions", "move", "(II)V"⟩ : MethodName)) hown (mvT hZ (oW hw 36 rfl)) (mvT hZ (oW hw 37 rfl)) (own_selP (y' := (⟨"com/example/meerkat/meerkat/simulate/Completions", "set", "(ID)V"⟩ : MethodName)) rfl (mvT hZ (oW hw 30 rfl)) (Cond.privateMethod_at (mvP hZ (oW hw 38 rfl) (args := #[]))) (mvT hZ (oW hw 37 rfl)) (by decide)) (Cond.privateMethod_at (mvP hZ (oW hw 38 rfl) (args := #[]))) (mvT hZ (oW hw 39 rfl)) (by decide) (backOf (W := 0) (rmM l Z a0 hw [] aT sT (5 : Int32) hT pT kh kp [eC, eB, eF, eD, eE, eF] (own_mv (own_mv PP eC (0 : Int32)) eF (2 : Int32)) T30.heap n0 (Nat.le_trans (Nat.le_trans (Nat.le_trans Z0 (Keep.of_wr W3).1) Kq20.1) Kq30.1) (((Eo.wr W3).keep Kq20).keep Kq30) (((Fh.other W3 (Or.inl (Exa.neArv (Eo.wr W3) V3 (oW hw 1 rfl)))).keep Kq20 (ninS (Exa.neArv (((Eo.wr W3).keep Kq20).keep Kq30) Vh30 (oW hw 1 rfl)) (ninS (Exa.neArv (((Eo.wr W3).keep Kq20).keep Kq30) f30_1 (oW hw 1 rfl)) nin0))).keep Kq30 (ninS (Exa.neArv (((Eo.wr W3).keep Kq20).keep Kq30) Vh30 (oW hw 1 rfl)) (ninS (Exa.neArv (((Eo.wr W3).keep Kq20).keep Kq30) f30_1 (oW hw 1 rfl)) nin0))) (((Fp.other W3 (Or.inl (Exa.neArv (Eo.wr W3) V3 (oW hw 1 rfl)))).keep Kq20 (ninS (Exa.neArv (((Eo.wr W3).keep Kq20).keep Kq30) Vh30 (oW hw 1 rfl)) (ninS (Exa.neArv (((Eo.wr W3).keep Kq20).keep Kq30) f30_1 (oW hw 1 rfl)) nin0))).keep Kq30 (ninS (Exa.neArv (((Eo.wr W3).keep Kq20).keep Kq30) Vh30 (oW hw 1 rfl)) (ninS (Exa.neArv (((Eo.wr W3).keep Kq20).keep Kq30) f30_1 (oW hw 1 rfl)) nin0))) Vh30 f30_1 nhp g_hT g_pT rfl (own_mvl (own_mvl qL)) qR ⟨by decide, by decide⟩) hZ (oW hw 39 rfl) (oW hw 2 rfl) (by decide) (by decide)) (g := (mkF m 168 #[rv aT, iv sT, .val (.double wT), .second, iv (5 : Int32), iv (11 : Int32)] [(.int (5 : Int32)), (.int sT), (.ref aT)])) rfl (by rw [hml]; rfl) (Steps.refl _) (a := aT) (by rw [e31]; exact q33) q33' (argsL := [(.int sT), (.int (5 : Int32))]) (rest := []) (lenOf own_pd1 rfl) rfl (by show 2 * 0 + _ ≤ _; exact Nat.le_of_eq rfl) (hb hby own_d5_168) (fun _ _ => ⟨rfl, e31, (by decide : (((((0 + 0) + 0) + 0) + 0) + 0) + 0 ≤ _), (by decide : (((((0 + 0) + 0) + 0) + 0) + 0) + 0 ≤ _)⟩)
          dsimp only [Pt.U, Pt.locs, Pt.cells, Pt.slots] at X33 l33 y33 z33 st33 hQ33
          subst l33 y33 z33
          obtain ⟨rfl, Nq33, Kq33, f33_0, f33_1⟩ := hQ33
          have N33 := Fr.app N30 Nq33
          have Vh33 : Arv Z T33.heap hT kh .int (6 : Int32) [(.int eC), (.int eB), (.int eF), (.int eD), (.int eE), (.int sT)] (.int (0 : Int32)) := f33_0
          refine ov (B := T33.setTop (mkF m 171 #[rv aT, iv sT, .val (.double wT), .second, iv (5 : Int32), iv (11 : Int32)] [])) (fun t k => st33.trans k) ?_
          refine own_leafV X33 hx hlk Bd.returns (hb hby own_d5_171) (by decide) (by decide) ?_
          show QT Z aT sT wT gT hT pT kt kh kp tt PP eA eB eC eD eE eF yT h0 n0 _ T33.heap _
          refine ⟨eC, eB, eF, eD, eE, sT, (own_mv (own_mv (own_mv PP eC (0 : Int32)) eF (2 : Int32)) sT (5 : Int32)), ?_, N33, (((((Keep.refl h0 [gT, hT, pT]).wr W3 (Or.inl (List.mem_of_getElem? (i := 0) rfl))).trans Kq20 (allS (Or.inl (List.mem_of_getElem? (i := 1) rfl)) (allS (Or.inl (List.mem_of_getElem? (i := 2) rfl)) all0))).trans Kq30 (allS (Or.inl (List.mem_of_getElem? (i := 1) rfl)) (allS (Or.inl (List.mem_of_getElem? (i := 2) rfl)) all0))).trans Kq33 (allS (Or.inl (List.mem_of_getElem? (i := 1) rfl)) (allS (Or.inl (List.mem_of_getElem? (i := 2) rfl)) all0))), ?_, ?_, ?_, ?_, (((V3.keep Kq20 (ninS ngh (ninS ngp nin0))).keep Kq30 (ninS ngh (ninS ngp nin0))).keep Kq33 (ninS ngh (ninS ngp nin0))), Vh33, f33_1⟩
          · rfl
          · exact own_I1mv qI qR qY
          · exact ⟨(own_mvl (own_mvl (own_mvl qL))), reC, reB, reF, reD, reE, qR, ((own_mvN neC qR reC).trans ((own_mvN (own_ppne peF peC (by decide)) reF reC).trans (own_mvS qL reC))), ((own_mvN neB qR reB).trans ((own_mvN (own_ppne peF peB (by decide)) reF reB).trans ((own_mvN (own_ppne peC peB (by decide)) reC reB).trans peB))), ((own_mvN neF qR reF).trans (own_mvS (own_mvl qL) reF)), ((own_mvN neD qR reD).trans ((own_mvN (own_ppne peF peD (by decide)) reF reD).trans ((own_mvN (own_ppne peC peD (by decide)) reC reD).trans peD))), ((own_mvN neE qR reE).trans ((own_mvN (own_ppne peF peE (by decide)) reF reE).trans ((own_mvN (own_ppne peC peE (by decide)) reC reE).trans peE))), (own_mvS (own_mvl (own_mvl qL)) qR)⟩
          · intro q hq'
            rcases qS q hq' with h | h | h | h | h | h
            · exact Or.inr (Or.inr (Or.inr (Or.inr (Or.inr ((h.trans hq.symm))))))
            · exact Or.inr (Or.inl (h))
            · exact Or.inl (h)
            · exact Or.inr (Or.inr (Or.inr (Or.inl (h))))
            · exact Or.inr (Or.inr (Or.inr (Or.inr (Or.inl (h)))))
            · exact Or.inr (Or.inr (Or.inl (h)))
          · exact ⟨by omega, by omega, by omega, by omega, by omega⟩
        · refine ov (B := T27.setTop (mkF m 141 #[rv aT, iv sT, .val (.double wT), .second, iv (2 : Int32), iv (5 : Int32)] [])) (fun t k => XS.ifNo X27.here hx rfl (hb hby own_d5_138) rfl ((if0 _ _).trans (teq (own_bit0.mpr hc138)).2) k) ?_
          refine oGO (n := 164) X27 hx (hb hby own_d5_141) (by decide) (by decide) ?_
          refine oALN (n := 165) X27 hx (hb hby own_d5_164) rfl rfl rfl ?_
          refine oILN (n := 166) X27 hx (hb hby own_d5_165) rfl rfl ?_
          refine oIL (n := 168) X27 hx (hb hby own_d5_166) rfl rfl ?_
          obtain ⟨cq34, q34, q34'⟩ := ((Eo.wr W3).keep Kq20).cell
          obtain ⟨_, _, ⟨T34, L34, k34, n34⟩, -, X34, ⟨Lc34, hQ34, l34, y34, z34⟩, st34⟩ := X27.privateBack hx (y := (⟨"com/example/meerkat/meerkat/simulate/Completions", "move", "(II)V"⟩ : MethodName)) hown (mvT hZ (oW hw 36 rfl)) (mvT hZ (oW hw 37 rfl)) (own_selP (y' := (⟨"com/example/meerkat/meerkat/simulate/Completions", "set", "(ID)V"⟩ : MethodName)) rfl (mvT hZ (oW hw 30 rfl)) (Cond.privateMethod_at (mvP hZ (oW hw 38 rfl) (args := #[]))) (mvT hZ (oW hw 37 rfl)) (by decide)) (Cond.privateMethod_at (mvP hZ (oW hw 38 rfl) (args := #[]))) (mvT hZ (oW hw 39 rfl)) (by decide) (backOf (W := 0) (rmM l Z a0 hw [] aT sT (2 : Int32) hT pT kh kp [eC, eB, eC, eD, eE, eF] (own_mv PP eC (0 : Int32)) T20.heap n0 (Nat.le_trans (Nat.le_trans Z0 (Keep.of_wr W3).1) Kq20.1) ((Eo.wr W3).keep Kq20) ((Fh.other W3 (Or.inl (Exa.neArv (Eo.wr W3) V3 (oW hw 1 rfl)))).keep Kq20 (ninS (Exa.neArv ((Eo.wr W3).keep Kq20) Vh20 (oW hw 1 rfl)) (ninS (Exa.neArv ((Eo.wr W3).keep Kq20) f20_1 (oW hw 1 rfl)) nin0))) ((Fp.other W3 (Or.inl (Exa.neArv (Eo.wr W3) V3 (oW hw 1 rfl)))).keep Kq20 (ninS (Exa.neArv ((Eo.wr W3).keep Kq20) Vh20 (oW hw 1 rfl)) (ninS (Exa.neArv ((Eo.wr W3).keep Kq20) f20_1 (oW hw 1 rfl)) nin0))) Vh20 f20_1 nhp g_hT g_pT rfl (own_mvl qL) qR ⟨by decide, by decide⟩) hZ (oW hw 39 rfl) (oW hw 2 rfl) (by decide) (by decide)) (g := (mkF m 168 #[rv aT, iv sT, .val (.double wT), .second, iv (2 : Int32), iv (5 : Int32)] [(.int (2 : Int32)), (.int sT), (.ref aT)])) rfl (by rw [hml]; rfl) (Steps.refl _) (a := aT) (by rw [eq27]; exact q34) q34' (argsL := [(.int sT), (.int (2 : Int32))]) (rest := []) (lenOf own_pd1 rfl) rfl (by show 2 * 0 + _ ≤ _; exact Nat.le_of_eq rfl) (hb hby own_d5_168) (fun _ _ => ⟨rfl, eq27, (by decide : ((((0 + 0) + 0) + 0) + 0) + 0 ≤ _), (by decide : ((((0 + 0) + 0) + 0) + 0) + 0 ≤ _)⟩)
          dsimp only [Pt.U, Pt.locs, Pt.cells, Pt.slots] at X34 l34 y34 z34 st34 hQ34
          subst l34 y34 z34
          obtain ⟨rfl, Nq34, Kq34, f34_0, f34_1⟩ := hQ34
          have N34 := Fr.app N27 Nq34
          have Vh34 : Arv Z T34.heap hT kh .int (6 : Int32) [(.int eC), (.int eB), (.int sT), (.int eD), (.int eE), (.int eF)] (.int (0 : Int32)) := f34_0
          refine ov (B := T34.setTop (mkF m 171 #[rv aT, iv sT, .val (.double wT), .second, iv (2 : Int32), iv (5 : Int32)] [])) (fun t k => st34.trans k) ?_
          refine own_leafV X34 hx hlk Bd.returns (hb hby own_d5_171) (by decide) (by decide) ?_
          show QT Z aT sT wT gT hT pT kt kh kp tt PP eA eB eC eD eE eF yT h0 n0 _ T34.heap _
          refine ⟨eC, eB, sT, eD, eE, eF, (own_mv (own_mv PP eC (0 : Int32)) sT (2 : Int32)), ?_, N34, ((((Keep.refl h0 [gT, hT, pT]).wr W3 (Or.inl (List.mem_of_getElem? (i := 0) rfl))).trans Kq20 (allS (Or.inl (List.mem_of_getElem? (i := 1) rfl)) (allS (Or.inl (List.mem_of_getElem? (i := 2) rfl)) all0))).trans Kq34 (allS (Or.inl (List.mem_of_getElem? (i := 1) rfl)) (allS (Or.inl (List.mem_of_getElem? (i := 2) rfl)) all0))), ?_, ?_, ?_, ?_, ((V3.keep Kq20 (ninS ngh (ninS ngp nin0))).keep Kq34 (ninS ngh (ninS ngp nin0))), Vh34, f34_1⟩
          · rfl
          · exact own_I1mv qI qR qY
          · exact ⟨(own_mvl (own_mvl qL)), reC, reB, qR, reD, reE, reF, ((own_mvN neC qR reC).trans (own_mvS qL reC)), ((own_mvN neB qR reB).trans ((own_mvN (own_ppne peC peB (by decide)) reC reB).trans peB)), (own_mvS (own_mvl qL) qR), ((own_mvN neD qR reD).trans ((own_mvN (own_ppne peC peD (by decide)) reC reD).trans peD)), ((own_mvN neE qR reE).trans ((own_mvN (own_ppne peC peE (by decide)) reC reE).trans peE)), ((own_mvN neF qR reF).trans ((own_mvN (own_ppne peC peF (by decide)) reC reF).trans peF))⟩
          · intro q hq'
            rcases qS q hq' with h | h | h | h | h | h
            · exact Or.inr (Or.inr (Or.inl (h.trans hq.symm)))
            · exact Or.inr (Or.inl (h))
            · exact Or.inl (h)
            · exact Or.inr (Or.inr (Or.inr (Or.inl (h))))
            · exact Or.inr (Or.inr (Or.inr (Or.inr (Or.inl (h)))))
            · exact Or.inr (Or.inr (Or.inr (Or.inr (Or.inr ((h))))))
          · exact ⟨by omega, by omega, by omega, by omega, by omega⟩
      · refine ov (B := T17.setTop (mkF m 141 #[rv aT, iv sT, .val (.double wT), .second, iv (0 : Int32), iv (2 : Int32)] [])) (fun t k => XS.ifNo X17.here hx rfl (hb hby own_d5_138) rfl ((if0 _ _).trans (teq (own_bit0.mpr hc138)).2) k) ?_
        refine oGO (n := 164) X17 hx (hb hby own_d5_141) (by decide) (by decide) ?_
        refine oALN (n := 165) X17 hx (hb hby own_d5_164) rfl rfl rfl ?_
        refine oILN (n := 166) X17 hx (hb hby own_d5_165) rfl rfl ?_
        refine oIL (n := 168) X17 hx (hb hby own_d5_166) rfl rfl ?_
        obtain ⟨cq35, q35, q35'⟩ := (Eo.wr W3).cell
        obtain ⟨_, _, ⟨T35, L35, k35, n35⟩, -, X35, ⟨Lc35, hQ35, l35, y35, z35⟩, st35⟩ := X17.privateBack hx (y := (⟨"com/example/meerkat/meerkat/simulate/Completions", "move", "(II)V"⟩ : MethodName)) hown (mvT hZ (oW hw 36 rfl)) (mvT hZ (oW hw 37 rfl)) (own_selP (y' := (⟨"com/example/meerkat/meerkat/simulate/Completions", "set", "(ID)V"⟩ : MethodName)) rfl (mvT hZ (oW hw 30 rfl)) (Cond.privateMethod_at (mvP hZ (oW hw 38 rfl) (args := #[]))) (mvT hZ (oW hw 37 rfl)) (by decide)) (Cond.privateMethod_at (mvP hZ (oW hw 38 rfl) (args := #[]))) (mvT hZ (oW hw 39 rfl)) (by decide) (backOf (W := 0) (rmM l Z a0 hw [] aT sT (0 : Int32) hT pT kh kp [eA, eB, eC, eD, eE, eF] PP h3 n0 (Nat.le_trans Z0 (Keep.of_wr W3).1) (Eo.wr W3) (Fh.other W3 (Or.inl (Exa.neArv (Eo.wr W3) V3 (oW hw 1 rfl)))) (Fp.other W3 (Or.inl (Exa.neArv (Eo.wr W3) V3 (oW hw 1 rfl)))) (Vh.other W3 (Ne.symm ngh)) (Vp.other W3 (Ne.symm ngp)) nhp g_hT g_pT rfl qL qR ⟨by decide, by decide⟩) hZ (oW hw 39 rfl) (oW hw 2 rfl) (by decide) (by decide)) (g := (mkF m 168 #[rv aT, iv sT, .val (.double wT), .second, iv (0 : Int32), iv (2 : Int32)] [(.int (0 : Int32)), (.int sT), (.ref aT)])) rfl (by rw [hml]; rfl) (Steps.refl _) (a := aT) (by rw [eq17]; exact q35) q35' (argsL := [(.int sT), (.int (0 : Int32))]) (rest := []) (lenOf own_pd1 rfl) rfl (by show 2 * 0 + _ ≤ _; exact Nat.le_of_eq rfl) (hb hby own_d5_168) (fun _ _ => ⟨rfl, eq17, (by decide : ((0 + 0) + 0) + 0 ≤ _), (by decide : ((0 + 0) + 0) + 0 ≤ _)⟩)
        dsimp only [Pt.U, Pt.locs, Pt.cells, Pt.slots] at X35 l35 y35 z35 st35 hQ35
        subst l35 y35 z35
        obtain ⟨rfl, Nq35, Kq35, f35_0, f35_1⟩ := hQ35
        have N35 := Fr.app N17 Nq35
        have Vh35 : Arv Z T35.heap hT kh .int (6 : Int32) [(.int sT), (.int eB), (.int eC), (.int eD), (.int eE), (.int eF)] (.int (0 : Int32)) := f35_0
        refine ov (B := T35.setTop (mkF m 171 #[rv aT, iv sT, .val (.double wT), .second, iv (0 : Int32), iv (2 : Int32)] [])) (fun t k => st35.trans k) ?_
        refine own_leafV X35 hx hlk Bd.returns (hb hby own_d5_171) (by decide) (by decide) ?_
        show QT Z aT sT wT gT hT pT kt kh kp tt PP eA eB eC eD eE eF yT h0 n0 _ T35.heap _
        refine ⟨sT, eB, eC, eD, eE, eF, (own_mv PP sT (0 : Int32)), ?_, N35, (((Keep.refl h0 [gT, hT, pT]).wr W3 (Or.inl (List.mem_of_getElem? (i := 0) rfl))).trans Kq35 (allS (Or.inl (List.mem_of_getElem? (i := 1) rfl)) (allS (Or.inl (List.mem_of_getElem? (i := 2) rfl)) all0))), ?_, ?_, ?_, ?_, (V3.keep Kq35 (ninS ngh (ninS ngp nin0))), Vh35, f35_1⟩
        · rfl
        · exact own_I1mv qI qR qY
        · exact ⟨(own_mvl qL), qR, reB, reC, reD, reE, reF, (own_mvS qL qR), ((own_mvN neB qR reB).trans peB), ((own_mvN neC qR reC).trans peC), ((own_mvN neD qR reD).trans peD), ((own_mvN neE qR reE).trans peE), ((own_mvN neF qR reF).trans peF)⟩
        · intro q hq'
          rcases qS q hq' with h | h | h | h | h | h
          · exact Or.inl (h.trans hq.symm)
          · exact Or.inr (Or.inl (h))
          · exact Or.inr (Or.inr (Or.inl (h)))
          · exact Or.inr (Or.inr (Or.inr (Or.inl (h))))
          · exact Or.inr (Or.inr (Or.inr (Or.inr (Or.inl (h)))))
          · exact Or.inr (Or.inr (Or.inr (Or.inr (Or.inr ((h))))))
        · exact ⟨by omega, by omega, by omega, by omega, by omega⟩
    · refine ov (B := T14.setTop (mkF m 126 #[rv aT, iv sT, .val (.double wT), .second, iv (0 : Int32), iv (1 : Int32)] [])) (fun t k => XS.ifYes X14.here hx rfl (pc0 := 120) (pc' := 126) rfl (hb hby own_d5_120) rfl ((if0 _ _).trans (teq (own_bit0.mpr hc120)).1) (by decide) (by decide) k) ?_
      refine oALN (n := 127) X14 hx (hb hby own_d5_126) rfl rfl rfl ?_
      refine oALN (n := 128) X14 hx (hb hby own_d5_127) rfl rfl rfl ?_
      obtain ⟨T36, X36, e36, st36⟩ := getF X14 hx hZ hown (host := "") (Or.inl (oW hw 13 rfl)) Via.refl eq14 (Fh.other W3 (Or.inl (Exa.neArv (Eo.wr W3) V3 (oW hw 1 rfl)))) (g := (mkF m 128 #[rv aT, iv sT, .val (.double wT), .second, iv (0 : Int32), iv (1 : Int32)] [(.ref aT), (.ref aT)])) rfl rfl (hb hby own_d5_128)
      refine ov (B := T36.setTop (mkF m 131 #[rv aT, iv sT, .val (.double wT), .second, iv (0 : Int32), iv (1 : Int32)] [(.ref hT), (.ref aT)])) (fun t k => st36 t k) ?_
      refine oIL (n := 133) X36 hx (hb hby own_d5_131) rfl rfl ?_
      obtain ⟨cl37, Ar37, q37, S37, M37, H37, G37⟩ := id (Vh.other W3 (Ne.symm ngh))
      have hin37 : ¬ ((1 : Int32) < 0 ∨ cl37.slots.size ≤ ((1 : Int32)).toNatClampNeg) := inb_of S37 ⟨by decide, by decide⟩
      refine ov (B := T36.setTop (mkF m 134 #[rv aT, iv sT, .val (.double wT), .second, iv (0 : Int32), iv (1 : Int32)] [(.int eB), (.ref aT)])) (fun t k => X36.iaload hx (j := (1 : Int32)) (v := (.int eB)) (by rw [e36]; exact Ar37.1) (State.isArrayOf_alike hZ.alike Ar37.2.1) Ar37.2.2 hin37 (Has.at H37 hin37 rfl) (g := (mkF m 133 #[rv aT, iv sT, .val (.double wT), .second, iv (0 : Int32), iv (1 : Int32)] [(.int (1 : Int32)), (.ref hT), (.ref aT)])) rfl rfl (hb hby own_d5_133) _ k) ?_
      refine oILN (n := 135) X36 hx (hb hby own_d5_134) rfl rfl ?_
      obtain ⟨cq38, q38, q38'⟩ := (Eo.wr W3).cell
      obtain ⟨_, _, ⟨T38, L38, k38, n38⟩, -, X38, ⟨Lc38, hQ38, l38, y38, z38⟩, st38⟩ := X36.privateBack hx (y := (⟨"com/example/meerkat/meerkat/simulate/Completions", "before", "(II)Z"⟩ : MethodName)) hown (mvT hZ (oW hw 32 rfl)) (mvT hZ (oW hw 33 rfl)) (own_selP (y' := (⟨"com/example/meerkat/meerkat/simulate/Completions", "set", "(ID)V"⟩ : MethodName)) rfl (mvT hZ (oW hw 30 rfl)) (Cond.privateMethod_at (mvP hZ (oW hw 34 rfl) (args := #[]))) (mvT hZ (oW hw 33 rfl)) (by decide)) (Cond.privateMethod_at (mvP hZ (oW hw 34 rfl) (args := #[]))) (mvT hZ (oW hw 35 rfl)) (by decide) (backOf (W := 0) (rmB l Z a0 hw [] aT eB sT gT kt (own_mv tt sT yT) h3 n0 (Nat.le_trans Z0 (Keep.of_wr W3).1) (Ft.other W3 (Or.inl (Exa.neArv (Eo.wr W3) V3 (oW hw 1 rfl)))) V3 (own_I1mv qI qR qY) reB qR) hZ (oW hw 35 rfl) (oW hw 2 rfl) (by decide) (by decide)) (g := (mkF m 135 #[rv aT, iv sT, .val (.double wT), .second, iv (0 : Int32), iv (1 : Int32)] [(.int sT), (.int eB), (.ref aT)])) rfl (by rw [hml]; rfl) (Steps.refl _) (a := aT) (by rw [e36]; exact q38) q38' (argsL := [(.int eB), (.int sT)]) (rest := []) (lenOf own_pd0 rfl) rfl (by show 2 * 0 + _ ≤ _; exact Nat.le_of_eq rfl) (hb hby own_d5_135) (fun _ _ => ⟨rfl, e36, (by decide : (0 + 0) + 0 ≤ _), (by decide : (0 + 0) + 0 ≤ _)⟩)
      dsimp only [Pt.U, Pt.locs, Pt.cells, Pt.slots] at X38 l38 y38 z38 st38 hQ38
      subst l38 y38 z38
      obtain ⟨rfl, Nq38, eq38⟩ := hQ38
      have N38 := Fr.app N14 Nq38
      refine ov (B := T38.setTop (mkF m 138 #[rv aT, iv sT, .val (.double wT), .second, iv (0 : Int32), iv (1 : Int32)] [(.int (own_bit (own_rk (own_mv tt sT yT) eB < own_rk (own_mv tt sT yT) sT)))])) (fun t k => st38.trans k) ?_
      by_cases hc138 : own_rk (own_mv tt sT yT) eB < own_rk (own_mv tt sT yT) sT
      · refine ov (B := T38.setTop (mkF m 144 #[rv aT, iv sT, .val (.double wT), .second, iv (0 : Int32), iv (1 : Int32)] [])) (fun t k => XS.ifYes X38.here hx rfl (pc0 := 138) (pc' := 144) rfl (hb hby own_d5_138) rfl ((if0 _ _).trans (feq (own_bitne hc138)).2) (by decide) (by decide) k) ?_
        refine oALN (n := 145) X38 hx (hb hby own_d5_144) rfl rfl rfl ?_
        refine oALN (n := 146) X38 hx (hb hby own_d5_145) rfl rfl rfl ?_
        obtain ⟨T39, X39, e39, st39⟩ := getF X38 hx hZ hown (host := "") (Or.inl (oW hw 13 rfl)) Via.refl eq38 (Fh.other W3 (Or.inl (Exa.neArv (Eo.wr W3) V3 (oW hw 1 rfl)))) (g := (mkF m 146 #[rv aT, iv sT, .val (.double wT), .second, iv (0 : Int32), iv (1 : Int32)] [(.ref aT), (.ref aT)])) rfl rfl (hb hby own_d5_146)
        refine ov (B := T39.setTop (mkF m 149 #[rv aT, iv sT, .val (.double wT), .second, iv (0 : Int32), iv (1 : Int32)] [(.ref hT), (.ref aT)])) (fun t k => st39 t k) ?_
        refine oIL (n := 151) X39 hx (hb hby own_d5_149) rfl rfl ?_
        obtain ⟨cl40, Ar40, q40, S40, M40, H40, G40⟩ := id (Vh.other W3 (Ne.symm ngh))
        have hin40 : ¬ ((1 : Int32) < 0 ∨ cl40.slots.size ≤ ((1 : Int32)).toNatClampNeg) := inb_of S40 ⟨by decide, by decide⟩
        refine ov (B := T39.setTop (mkF m 152 #[rv aT, iv sT, .val (.double wT), .second, iv (0 : Int32), iv (1 : Int32)] [(.int eB), (.ref aT)])) (fun t k => X39.iaload hx (j := (1 : Int32)) (v := (.int eB)) (by rw [e39]; exact Ar40.1) (State.isArrayOf_alike hZ.alike Ar40.2.1) Ar40.2.2 hin40 (Has.at H40 hin40 rfl) (g := (mkF m 151 #[rv aT, iv sT, .val (.double wT), .second, iv (0 : Int32), iv (1 : Int32)] [(.int (1 : Int32)), (.ref hT), (.ref aT)])) rfl rfl (hb hby own_d5_151) _ k) ?_
        refine oIL (n := 154) X39 hx (hb hby own_d5_152) rfl rfl ?_
        obtain ⟨cq41, q41, q41'⟩ := (Eo.wr W3).cell
        obtain ⟨_, _, ⟨T41, L41, k41, n41⟩, -, X41, ⟨Lc41, hQ41, l41, y41, z41⟩, st41⟩ := X39.privateBack hx (y := (⟨"com/example/meerkat/meerkat/simulate/Completions", "move", "(II)V"⟩ : MethodName)) hown (mvT hZ (oW hw 36 rfl)) (mvT hZ (oW hw 37 rfl)) (own_selP (y' := (⟨"com/example/meerkat/meerkat/simulate/Completions", "set", "(ID)V"⟩ : MethodName)) rfl (mvT hZ (oW hw 30 rfl)) (Cond.privateMethod_at (mvP hZ (oW hw 38 rfl) (args := #[]))) (mvT hZ (oW hw 37 rfl)) (by decide)) (Cond.privateMethod_at (mvP hZ (oW hw 38 rfl) (args := #[]))) (mvT hZ (oW hw 39 rfl)) (by decide) (backOf (W := 0) (rmM l Z a0 hw [] aT eB (0 : Int32) hT pT kh kp [eA, eB, eC, eD, eE, eF] PP h3 n0 (Nat.le_trans Z0 (Keep.of_wr W3).1) (Eo.wr W3) (Fh.other W3 (Or.inl (Exa.neArv (Eo.wr W3) V3 (oW hw 1 rfl)))) (Fp.other W3 (Or.inl (Exa.neArv (Eo.wr W3) V3 (oW hw 1 rfl)))) (Vh.other W3 (Ne.symm ngh)) (Vp.other W3 (Ne.symm ngp)) nhp g_hT g_pT rfl qL reB ⟨by decide, by decide⟩) hZ (oW hw 39 rfl) (oW hw 2 rfl) (by decide) (by decide)) (g := (mkF m 154 #[rv aT, iv sT, .val (.double wT), .second, iv (0 : Int32), iv (1 : Int32)] [(.int (0 : Int32)), (.int eB), (.ref aT)])) rfl (by rw [hml]; rfl) (Steps.refl _) (a := aT) (by rw [e39]; exact q41) q41' (argsL := [(.int eB), (.int (0 : Int32))]) (rest := []) (lenOf own_pd1 rfl) rfl (by show 2 * 0 + _ ≤ _; exact Nat.le_of_eq rfl) (hb hby own_d5_154) (fun _ _ => ⟨rfl, e39, (by decide : ((0 + 0) + 0) + 0 ≤ _), (by decide : ((0 + 0) + 0) + 0 ≤ _)⟩)
        dsimp only [Pt.U, Pt.locs, Pt.cells, Pt.slots] at X41 l41 y41 z41 st41 hQ41
        subst l41 y41 z41
        obtain ⟨rfl, Nq41, Kq41, f41_0, f41_1⟩ := hQ41
        have N41 := Fr.app N38 Nq41
        have Vh41 : Arv Z T41.heap hT kh .int (6 : Int32) [(.int eB), (.int eB), (.int eC), (.int eD), (.int eE), (.int eF)] (.int (0 : Int32)) := f41_0
        refine ov (B := T41.setTop (mkF m 157 #[rv aT, iv sT, .val (.double wT), .second, iv (0 : Int32), iv (1 : Int32)] [])) (fun t k => st41.trans k) ?_
        refine oIL (n := 159) X41 hx (hb hby own_d5_157) rfl rfl ?_
        refine ov (B := T41.setTop (mkF m 161 #[rv aT, iv sT, .val (.double wT), .second, iv (1 : Int32), iv (1 : Int32)] [])) (fun t k => XS.istore X41.here hx rfl (hb hby own_d5_159) rfl (l' := #[rv aT, iv sT, .val (.double wT), .second, iv (1 : Int32), iv (1 : Int32)]) rfl k) ?_
        refine oGO (n := 67) X41 hx (hb hby own_d5_161) (by decide) (by decide) ?_
        refine oIC (n := 68) X41 hx (2 : Int32) (hb hby own_d5_67) (by decide) rfl ?_
        refine oIL (n := 70) X41 hx (hb hby own_d5_68) rfl rfl ?_
        refine ov (B := T41.setTop (mkF m 71 #[rv aT, iv sT, .val (.double wT), .second, iv (1 : Int32), iv (1 : Int32)] [(.int (2 : Int32))])) (fun t k => XS.imul X41.here hx rfl (hb hby own_d5_70) rfl k) ?_
        refine oIC (n := 72) X41 hx (1 : Int32) (hb hby own_d5_71) (by decide) rfl ?_
        refine ov (B := T41.setTop (mkF m 73 #[rv aT, iv sT, .val (.double wT), .second, iv (1 : Int32), iv (1 : Int32)] [(.int (3 : Int32))])) (fun t k => XS.iadd X41.here hx rfl (hb hby own_d5_72) rfl k) ?_
        refine ov (B := T41.setTop (mkF m 75 #[rv aT, iv sT, .val (.double wT), .second, iv (1 : Int32), iv (3 : Int32)] [])) (fun t k => XS.istore X41.here hx rfl (hb hby own_d5_73) rfl (l' := #[rv aT, iv sT, .val (.double wT), .second, iv (1 : Int32), iv (3 : Int32)]) rfl k) ?_
        refine oIL (n := 77) X41 hx (hb hby own_d5_75) rfl rfl ?_
        refine oALN (n := 78) X41 hx (hb hby own_d5_77) rfl rfl rfl ?_
        obtain ⟨T42, X42, e42, st42⟩ := getF X41 hx hZ hown (host := "") (Or.inl (oW hw 13 rfl)) Via.refl rfl ((Fh.other W3 (Or.inl (Exa.neArv (Eo.wr W3) V3 (oW hw 1 rfl)))).keep Kq41 (ninS (Exa.neArv ((Eo.wr W3).keep Kq41) Vh41 (oW hw 1 rfl)) (ninS (Exa.neArv ((Eo.wr W3).keep Kq41) f41_1 (oW hw 1 rfl)) nin0))) (g := (mkF m 78 #[rv aT, iv sT, .val (.double wT), .second, iv (1 : Int32), iv (3 : Int32)] [(.ref aT), (.int (3 : Int32))])) rfl rfl (hb hby own_d5_78)
        refine ov (B := T42.setTop (mkF m 81 #[rv aT, iv sT, .val (.double wT), .second, iv (1 : Int32), iv (3 : Int32)] [(.ref hT), (.int (3 : Int32))])) (fun t k => st42 t k) ?_
        obtain ⟨cl43, Ar43, q43, S43, M43, H43, G43⟩ := id Vh41
        refine ov (B := T42.setTop (mkF m 82 #[rv aT, iv sT, .val (.double wT), .second, iv (1 : Int32), iv (3 : Int32)] [(.int (6 : Int32)), (.int (3 : Int32))])) (fun t k => X42.arraylength hx (by rw [e42]; exact Ar43.1) (State.isArrayOf_alike hZ.alike Ar43.2.1) (g := (mkF m 81 #[rv aT, iv sT, .val (.double wT), .second, iv (1 : Int32), iv (3 : Int32)] [(.ref hT), (.int (3 : Int32))])) rfl rfl (hb hby own_d5_81) _ (by rw [len_of S43 M43]; exact k)) ?_
        have hc82 : (3 : Int32) < (6 : Int32) := by decide
        refine ov (B := T42.setTop (mkF m 88 #[rv aT, iv sT, .val (.double wT), .second, iv (1 : Int32), iv (3 : Int32)] [])) (fun t k => XS.icmpYes X42.here hx rfl (pc0 := 82) (pc' := 88) rfl (hb hby own_d5_82) rfl (tlt hc82).1 (by decide) (by decide) k) ?_
        refine oIL (n := 90) X42 hx (hb hby own_d5_88) rfl rfl ?_
        refine oIC (n := 91) X42 hx (1 : Int32) (hb hby own_d5_90) (by decide) rfl ?_
        refine ov (B := T42.setTop (mkF m 92 #[rv aT, iv sT, .val (.double wT), .second, iv (1 : Int32), iv (3 : Int32)] [(.int (4 : Int32))])) (fun t k => XS.iadd X42.here hx rfl (hb hby own_d5_91) rfl k) ?_
        refine oALN (n := 93) X42 hx (hb hby own_d5_92) rfl rfl rfl ?_
        obtain ⟨T44, X44, e44, st44⟩ := getF X42 hx hZ hown (host := "") (Or.inl (oW hw 13 rfl)) Via.refl e42 ((Fh.other W3 (Or.inl (Exa.neArv (Eo.wr W3) V3 (oW hw 1 rfl)))).keep Kq41 (ninS (Exa.neArv ((Eo.wr W3).keep Kq41) Vh41 (oW hw 1 rfl)) (ninS (Exa.neArv ((Eo.wr W3).keep Kq41) f41_1 (oW hw 1 rfl)) nin0))) (g := (mkF m 93 #[rv aT, iv sT, .val (.double wT), .second, iv (1 : Int32), iv (3 : Int32)] [(.ref aT), (.int (4 : Int32))])) rfl rfl (hb hby own_d5_93)
        refine ov (B := T44.setTop (mkF m 96 #[rv aT, iv sT, .val (.double wT), .second, iv (1 : Int32), iv (3 : Int32)] [(.ref hT), (.int (4 : Int32))])) (fun t k => st44 t k) ?_
        obtain ⟨cl45, Ar45, q45, S45, M45, H45, G45⟩ := id Vh41
        refine ov (B := T44.setTop (mkF m 97 #[rv aT, iv sT, .val (.double wT), .second, iv (1 : Int32), iv (3 : Int32)] [(.int (6 : Int32)), (.int (4 : Int32))])) (fun t k => X44.arraylength hx (by rw [e44]; exact Ar45.1) (State.isArrayOf_alike hZ.alike Ar45.2.1) (g := (mkF m 96 #[rv aT, iv sT, .val (.double wT), .second, iv (1 : Int32), iv (3 : Int32)] [(.ref hT), (.int (4 : Int32))])) rfl rfl (hb hby own_d5_96) _ (by rw [len_of S45 M45]; exact k)) ?_
        have hc97 : (4 : Int32) < (6 : Int32) := by decide
        refine ov (B := T44.setTop (mkF m 100 #[rv aT, iv sT, .val (.double wT), .second, iv (1 : Int32), iv (3 : Int32)] [])) (fun t k => XS.icmpNo X44.here hx rfl (hb hby own_d5_97) rfl (tlt hc97).2.1 k) ?_
        refine oALN (n := 101) X44 hx (hb hby own_d5_100) rfl rfl rfl ?_
        refine oALN (n := 102) X44 hx (hb hby own_d5_101) rfl rfl rfl ?_
        obtain ⟨T46, X46, e46, st46⟩ := getF X44 hx hZ hown (host := "") (Or.inl (oW hw 13 rfl)) Via.refl e44 ((Fh.other W3 (Or.inl (Exa.neArv (Eo.wr W3) V3 (oW hw 1 rfl)))).keep Kq41 (ninS (Exa.neArv ((Eo.wr W3).keep Kq41) Vh41 (oW hw 1 rfl)) (ninS (Exa.neArv ((Eo.wr W3).keep Kq41) f41_1 (oW hw 1 rfl)) nin0))) (g := (mkF m 102 #[rv aT, iv sT, .val (.double wT), .second, iv (1 : Int32), iv (3 : Int32)] [(.ref aT), (.ref aT)])) rfl rfl (hb hby own_d5_102)
        refine ov (B := T46.setTop (mkF m 105 #[rv aT, iv sT, .val (.double wT), .second, iv (1 : Int32), iv (3 : Int32)] [(.ref hT), (.ref aT)])) (fun t k => st46 t k) ?_
        refine oIL (n := 107) X46 hx (hb hby own_d5_105) rfl rfl ?_
        refine oIC (n := 108) X46 hx (1 : Int32) (hb hby own_d5_107) (by decide) rfl ?_
        refine ov (B := T46.setTop (mkF m 109 #[rv aT, iv sT, .val (.double wT), .second, iv (1 : Int32), iv (3 : Int32)] [(.int (4 : Int32)), (.ref hT), (.ref aT)])) (fun t k => XS.iadd X46.here hx rfl (hb hby own_d5_108) rfl k) ?_
        obtain ⟨cl47, Ar47, q47, S47, M47, H47, G47⟩ := id Vh41
        have hin47 : ¬ ((4 : Int32) < 0 ∨ cl47.slots.size ≤ ((4 : Int32)).toNatClampNeg) := inb_of S47 ⟨by decide, by decide⟩
        refine ov (B := T46.setTop (mkF m 110 #[rv aT, iv sT, .val (.double wT), .second, iv (1 : Int32), iv (3 : Int32)] [(.int eE), (.ref aT)])) (fun t k => X46.iaload hx (j := (4 : Int32)) (v := (.int eE)) (by rw [e46]; exact Ar47.1) (State.isArrayOf_alike hZ.alike Ar47.2.1) Ar47.2.2 hin47 (Has.at H47 hin47 rfl) (g := (mkF m 109 #[rv aT, iv sT, .val (.double wT), .second, iv (1 : Int32), iv (3 : Int32)] [(.int (4 : Int32)), (.ref hT), (.ref aT)])) rfl rfl (hb hby own_d5_109) _ k) ?_
        refine oALN (n := 111) X46 hx (hb hby own_d5_110) rfl rfl rfl ?_
        obtain ⟨T48, X48, e48, st48⟩ := getF X46 hx hZ hown (host := "") (Or.inl (oW hw 13 rfl)) Via.refl e46 ((Fh.other W3 (Or.inl (Exa.neArv (Eo.wr W3) V3 (oW hw 1 rfl)))).keep Kq41 (ninS (Exa.neArv ((Eo.wr W3).keep Kq41) Vh41 (oW hw 1 rfl)) (ninS (Exa.neArv ((Eo.wr W3).keep Kq41) f41_1 (oW hw 1 rfl)) nin0))) (g := (mkF m 111 #[rv aT, iv sT, .val (.double wT), .second, iv (1 : Int32), iv (3 : Int32)] [(.ref aT), (.int eE), (.ref aT)])) rfl rfl (hb hby own_d5_111)
        refine ov (B := T48.setTop (mkF m 114 #[rv aT, iv sT, .val (.double wT), .second, iv (1 : Int32), iv (3 : Int32)] [(.ref hT), (.int eE), (.ref aT)])) (fun t k => st48 t k) ?_
        refine oIL (n := 116) X48 hx (hb hby own_d5_114) rfl rfl ?_
        obtain ⟨cl49, Ar49, q49, S49, M49, H49, G49⟩ := id Vh41
        have hin49 : ¬ ((3 : Int32) < 0 ∨ cl49.slots.size ≤ ((3 : Int32)).toNatClampNeg) := inb_of S49 ⟨by decide, by decide⟩
        refine ov (B := T48.setTop (mkF m 117 #[rv aT, iv sT, .val (.double wT), .second, iv (1 : Int32), iv (3 : Int32)] [(.int eD), (.int eE), (.ref aT)])) (fun t k => X48.iaload hx (j := (3 : Int32)) (v := (.int eD)) (by rw [e48]; exact Ar49.1) (State.isArrayOf_alike hZ.alike Ar49.2.1) Ar49.2.2 hin49 (Has.at H49 hin49 rfl) (g := (mkF m 116 #[rv aT, iv sT, .val (.double wT), .second, iv (1 : Int32), iv (3 : Int32)] [(.int (3 : Int32)), (.ref hT), (.int eE), (.ref aT)])) rfl rfl (hb hby own_d5_116) _ k) ?_
        obtain ⟨cq50, q50, q50'⟩ := ((Eo.wr W3).keep Kq41).cell
        obtain ⟨_, _, ⟨T50, L50, k50, n50⟩, -, X50, ⟨Lc50, hQ50, l50, y50, z50⟩, st50⟩ := X48.privateBack hx (y := (⟨"com/example/meerkat/meerkat/simulate/Completions", "before", "(II)Z"⟩ : MethodName)) hown (mvT hZ (oW hw 32 rfl)) (mvT hZ (oW hw 33 rfl)) (own_selP (y' := (⟨"com/example/meerkat/meerkat/simulate/Completions", "set", "(ID)V"⟩ : MethodName)) rfl (mvT hZ (oW hw 30 rfl)) (Cond.privateMethod_at (mvP hZ (oW hw 34 rfl) (args := #[]))) (mvT hZ (oW hw 33 rfl)) (by decide)) (Cond.privateMethod_at (mvP hZ (oW hw 34 rfl) (args := #[]))) (mvT hZ (oW hw 35 rfl)) (by decide) (backOf (W := 0) (rmB l Z a0 hw [] aT eE eD gT kt (own_mv tt sT yT) T41.heap n0 (Nat.le_trans (Nat.le_trans Z0 (Keep.of_wr W3).1) Kq41.1) ((Ft.other W3 (Or.inl (Exa.neArv (Eo.wr W3) V3 (oW hw 1 rfl)))).keep Kq41 (ninS (Exa.neArv ((Eo.wr W3).keep Kq41) Vh41 (oW hw 1 rfl)) (ninS (Exa.neArv ((Eo.wr W3).keep Kq41) f41_1 (oW hw 1 rfl)) nin0))) (V3.keep Kq41 (ninS ngh (ninS ngp nin0))) (own_I1mv qI qR qY) reE reD) hZ (oW hw 35 rfl) (oW hw 2 rfl) (by decide) (by decide)) (g := (mkF m 117 #[rv aT, iv sT, .val (.double wT), .second, iv (1 : Int32), iv (3 : Int32)] [(.int eD), (.int eE), (.ref aT)])) rfl (by rw [hml]; rfl) (Steps.refl _) (a := aT) (by rw [e48]; exact q50) q50' (argsL := [(.int eE), (.int eD)]) (rest := []) (lenOf own_pd0 rfl) rfl (by show 2 * 0 + _ ≤ _; exact Nat.le_of_eq rfl) (hb hby own_d5_117) (fun _ _ => ⟨rfl, e48, (by decide : (((0 + 0) + 0) + 0) + 0 ≤ _), (by decide : (((0 + 0) + 0) + 0) + 0 ≤ _)⟩)
        dsimp only [Pt.U, Pt.locs, Pt.cells, Pt.slots] at X50 l50 y50 z50 st50 hQ50
        subst l50 y50 z50
        obtain ⟨rfl, Nq50, eq50⟩ := hQ50
        have N50 := Fr.app N41 Nq50
        refine ov (B := T50.setTop (mkF m 120 #[rv aT, iv sT, .val (.double wT), .second, iv (1 : Int32), iv (3 : Int32)] [(.int (own_bit (own_rk (own_mv tt sT yT) eE < own_rk (own_mv tt sT yT) eD)))])) (fun t k => st50.trans k) ?_
        by_cases hc120 : own_rk (own_mv tt sT yT) eE < own_rk (own_mv tt sT yT) eD
        · refine ov (B := T50.setTop (mkF m 123 #[rv aT, iv sT, .val (.double wT), .second, iv (1 : Int32), iv (3 : Int32)] [])) (fun t k => XS.ifNo X50.here hx rfl (hb hby own_d5_120) rfl ((if0 _ _).trans (feq (own_bitne hc120)).1) k) ?_
          refine ov (B := T50.setTop (mkF m 126 #[rv aT, iv sT, .val (.double wT), .second, iv (1 : Int32), iv (4 : Int32)] [])) (fun t k => XS.iinc X50.here hx rfl (hb hby own_d5_123) rfl (l' := #[rv aT, iv sT, .val (.double wT), .second, iv (1 : Int32), iv (4 : Int32)]) rfl k) ?_
          refine oALN (n := 127) X50 hx (hb hby own_d5_126) rfl rfl rfl ?_
          refine oALN (n := 128) X50 hx (hb hby own_d5_127) rfl rfl rfl ?_
          obtain ⟨T51, X51, e51, st51⟩ := getF X50 hx hZ hown (host := "") (Or.inl (oW hw 13 rfl)) Via.refl eq50 ((Fh.other W3 (Or.inl (Exa.neArv (Eo.wr W3) V3 (oW hw 1 rfl)))).keep Kq41 (ninS (Exa.neArv ((Eo.wr W3).keep Kq41) Vh41 (oW hw 1 rfl)) (ninS (Exa.neArv ((Eo.wr W3).keep Kq41) f41_1 (oW hw 1 rfl)) nin0))) (g := (mkF m 128 #[rv aT, iv sT, .val (.double wT), .second, iv (1 : Int32), iv (4 : Int32)] [(.ref aT), (.ref aT)])) rfl rfl (hb hby own_d5_128)
          refine ov (B := T51.setTop (mkF m 131 #[rv aT, iv sT, .val (.double wT), .second, iv (1 : Int32), iv (4 : Int32)] [(.ref hT), (.ref aT)])) (fun t k => st51 t k) ?_
          refine oIL (n := 133) X51 hx (hb hby own_d5_131) rfl rfl ?_
          obtain ⟨cl52, Ar52, q52, S52, M52, H52, G52⟩ := id Vh41
          have hin52 : ¬ ((4 : Int32) < 0 ∨ cl52.slots.size ≤ ((4 : Int32)).toNatClampNeg) := inb_of S52 ⟨by decide, by decide⟩
          refine ov (B := T51.setTop (mkF m 134 #[rv aT, iv sT, .val (.double wT), .second, iv (1 : Int32), iv (4 : Int32)] [(.int eE), (.ref aT)])) (fun t k => X51.iaload hx (j := (4 : Int32)) (v := (.int eE)) (by rw [e51]; exact Ar52.1) (State.isArrayOf_alike hZ.alike Ar52.2.1) Ar52.2.2 hin52 (Has.at H52 hin52 rfl) (g := (mkF m 133 #[rv aT, iv sT, .val (.double wT), .second, iv (1 : Int32), iv (4 : Int32)] [(.int (4 : Int32)), (.ref hT), (.ref aT)])) rfl rfl (hb hby own_d5_133) _ k) ?_
          refine oILN (n := 135) X51 hx (hb hby own_d5_134) rfl rfl ?_
          obtain ⟨cq53, q53, q53'⟩ := ((Eo.wr W3).keep Kq41).cell
          obtain ⟨_, _, ⟨T53, L53, k53, n53⟩, -, X53, ⟨Lc53, hQ53, l53, y53, z53⟩, st53⟩ := X51.privateBack hx (y := (⟨"com/example/meerkat/meerkat/simulate/Completions", "before", "(II)Z"⟩ : MethodName)) hown (mvT hZ (oW hw 32 rfl)) (mvT hZ (oW hw 33 rfl)) (own_selP (y' := (⟨"com/example/meerkat/meerkat/simulate/Completions", "set", "(ID)V"⟩ : MethodName)) rfl (mvT hZ (oW hw 30 rfl)) (Cond.privateMethod_at (mvP hZ (oW hw 34 rfl) (args := #[]))) (mvT hZ (oW hw 33 rfl)) (by decide)) (Cond.privateMethod_at (mvP hZ (oW hw 34 rfl) (args := #[]))) (mvT hZ (oW hw 35 rfl)) (by decide) (backOf (W := 0) (rmB l Z a0 hw [] aT eE sT gT kt (own_mv tt sT yT) T41.heap n0 (Nat.le_trans (Nat.le_trans Z0 (Keep.of_wr W3).1) Kq41.1) ((Ft.other W3 (Or.inl (Exa.neArv (Eo.wr W3) V3 (oW hw 1 rfl)))).keep Kq41 (ninS (Exa.neArv ((Eo.wr W3).keep Kq41) Vh41 (oW hw 1 rfl)) (ninS (Exa.neArv ((Eo.wr W3).keep Kq41) f41_1 (oW hw 1 rfl)) nin0))) (V3.keep Kq41 (ninS ngh (ninS ngp nin0))) (own_I1mv qI qR qY) reE qR) hZ (oW hw 35 rfl) (oW hw 2 rfl) (by decide) (by decide)) (g := (mkF m 135 #[rv aT, iv sT, .val (.double wT), .second, iv (1 : Int32), iv (4 : Int32)] [(.int sT), (.int eE), (.ref aT)])) rfl (by rw [hml]; rfl) (Steps.refl _) (a := aT) (by rw [e51]; exact q53) q53' (argsL := [(.int eE), (.int sT)]) (rest := []) (lenOf own_pd0 rfl) rfl (by show 2 * 0 + _ ≤ _; exact Nat.le_of_eq rfl) (hb hby own_d5_135) (fun _ _ => ⟨rfl, e51, (by decide : ((((0 + 0) + 0) + 0) + 0) + 0 ≤ _), (by decide : ((((0 + 0) + 0) + 0) + 0) + 0 ≤ _)⟩)
          dsimp only [Pt.U, Pt.locs, Pt.cells, Pt.slots] at X53 l53 y53 z53 st53 hQ53
          subst l53 y53 z53
          obtain ⟨rfl, Nq53, eq53⟩ := hQ53
          have N53 := Fr.app N50 Nq53
          refine ov (B := T53.setTop (mkF m 138 #[rv aT, iv sT, .val (.double wT), .second, iv (1 : Int32), iv (4 : Int32)] [(.int (own_bit (own_rk (own_mv tt sT yT) eE < own_rk (own_mv tt sT yT) sT)))])) (fun t k => st53.trans k) ?_
          by_cases hc138 : own_rk (own_mv tt sT yT) eE < own_rk (own_mv tt sT yT) sT
          · refine ov (B := T53.setTop (mkF m 144 #[rv aT, iv sT, .val (.double wT), .second, iv (1 : Int32), iv (4 : Int32)] [])) (fun t k => XS.ifYes X53.here hx rfl (pc0 := 138) (pc' := 144) rfl (hb hby own_d5_138) rfl ((if0 _ _).trans (feq (own_bitne hc138)).2) (by decide) (by decide) k) ?_
            refine oALN (n := 145) X53 hx (hb hby own_d5_144) rfl rfl rfl ?_
            refine oALN (n := 146) X53 hx (hb hby own_d5_145) rfl rfl rfl ?_
            obtain ⟨T54, X54, e54, st54⟩ := getF X53 hx hZ hown (host := "") (Or.inl (oW hw 13 rfl)) Via.refl eq53 ((Fh.other W3 (Or.inl (Exa.neArv (Eo.wr W3) V3 (oW hw 1 rfl)))).keep Kq41 (ninS (Exa.neArv ((Eo.wr W3).keep Kq41) Vh41 (oW hw 1 rfl)) (ninS (Exa.neArv ((Eo.wr W3).keep Kq41) f41_1 (oW hw 1 rfl)) nin0))) (g := (mkF m 146 #[rv aT, iv sT, .val (.double wT), .second, iv (1 : Int32), iv (4 : Int32)] [(.ref aT), (.ref aT)])) rfl rfl (hb hby own_d5_146)
            refine ov (B := T54.setTop (mkF m 149 #[rv aT, iv sT, .val (.double wT), .second, iv (1 : Int32), iv (4 : Int32)] [(.ref hT), (.ref aT)])) (fun t k => st54 t k) ?_
            refine oIL (n := 151) X54 hx (hb hby own_d5_149) rfl rfl ?_
            obtain ⟨cl55, Ar55, q55, S55, M55, H55, G55⟩ := id Vh41
            have hin55 : ¬ ((4 : Int32) < 0 ∨ cl55.slots.size ≤ ((4 : Int32)).toNatClampNeg) := inb_of S55 ⟨by decide, by decide⟩
            refine ov (B := T54.setTop (mkF m 152 #[rv aT, iv sT, .val (.double wT), .second, iv (1 : Int32), iv (4 : Int32)] [(.int eE), (.ref aT)])) (fun t k => X54.iaload hx (j := (4 : Int32)) (v := (.int eE)) (by rw [e54]; exact Ar55.1) (State.isArrayOf_alike hZ.alike Ar55.2.1) Ar55.2.2 hin55 (Has.at H55 hin55 rfl) (g := (mkF m 151 #[rv aT, iv sT, .val (.double wT), .second, iv (1 : Int32), iv (4 : Int32)] [(.int (4 : Int32)), (.ref hT), (.ref aT)])) rfl rfl (hb hby own_d5_151) _ k) ?_
            refine oIL (n := 154) X54 hx (hb hby own_d5_152) rfl rfl ?_
            obtain ⟨cq56, q56, q56'⟩ := ((Eo.wr W3).keep Kq41).cell
            obtain ⟨_, _, ⟨T56, L56, k56, n56⟩, -, X56, ⟨Lc56, hQ56, l56, y56, z56⟩, st56⟩ := X54.privateBack hx (y := (⟨"com/example/meerkat/meerkat/simulate/Completions", "move", "(II)V"⟩ : MethodName)) hown (mvT hZ (oW hw 36 rfl)) (mvT hZ (oW hw 37 rfl)) (own_selP (y' := (⟨"com/example/meerkat/meerkat/simulate/Completions", "set", "(ID)V"⟩ : MethodName)) rfl (mvT hZ (oW hw 30 rfl)) (Cond.privateMethod_at (mvP hZ (oW hw 38 rfl) (args := #[]))) (mvT hZ (oW hw 37 rfl)) (by decide)) (Cond.privateMethod_at (mvP hZ (oW hw 38 rfl) (args := #[]))) (mvT hZ (oW hw 39 rfl)) (by decide) (backOf (W := 0) (rmM l Z a0 hw [] aT eE (1 : Int32) hT pT kh kp [eB, eB, eC, eD, eE, eF] (own_mv PP eB (0 : Int32)) T41.heap n0 (Nat.le_trans (Nat.le_trans Z0 (Keep.of_wr W3).1) Kq41.1) ((Eo.wr W3).keep Kq41) ((Fh.other W3 (Or.inl (Exa.neArv (Eo.wr W3) V3 (oW hw 1 rfl)))).keep Kq41 (ninS (Exa.neArv ((Eo.wr W3).keep Kq41) Vh41 (oW hw 1 rfl)) (ninS (Exa.neArv ((Eo.wr W3).keep Kq41) f41_1 (oW hw 1 rfl)) nin0))) ((Fp.other W3 (Or.inl (Exa.neArv (Eo.wr W3) V3 (oW hw 1 rfl)))).keep Kq41 (ninS (Exa.neArv ((Eo.wr W3).keep Kq41) Vh41 (oW hw 1 rfl)) (ninS (Exa.neArv ((Eo.wr W3).keep Kq41) f41_1 (oW hw 1 rfl)) nin0))) Vh41 f41_1 nhp g_hT g_pT rfl (own_mvl qL) reE ⟨by decide, by decide⟩) hZ (oW hw 39 rfl) (oW hw 2 rfl) (by decide) (by decide)) (g := (mkF m 154 #[rv aT, iv sT, .val (.double wT), .second, iv (1 : Int32), iv (4 : Int32)] [(.int (1 : Int32)), (.int eE), (.ref aT)])) rfl (by rw [hml]; rfl) (Steps.refl _) (a := aT) (by rw [e54]; exact q56) q56' (argsL := [(.int eE), (.int (1 : Int32))]) (rest := []) (lenOf own_pd1 rfl) rfl (by show 2 * 0 + _ ≤ _; exact Nat.le_of_eq rfl) (hb hby own_d5_154) (fun _ _ => ⟨rfl, e54, (by decide : (((((0 + 0) + 0) + 0) + 0) + 0) + 0 ≤ _), (by decide : (((((0 + 0) + 0) + 0) + 0) + 0) + 0 ≤ _)⟩)
            dsimp only [Pt.U, Pt.locs, Pt.cells, Pt.slots] at X56 l56 y56 z56 st56 hQ56
            subst l56 y56 z56
            obtain ⟨rfl, Nq56, Kq56, f56_0, f56_1⟩ := hQ56
            have N56 := Fr.app N53 Nq56
            have Vh56 : Arv Z T56.heap hT kh .int (6 : Int32) [(.int eB), (.int eE), (.int eC), (.int eD), (.int eE), (.int eF)] (.int (0 : Int32)) := f56_0
            refine ov (B := T56.setTop (mkF m 157 #[rv aT, iv sT, .val (.double wT), .second, iv (1 : Int32), iv (4 : Int32)] [])) (fun t k => st56.trans k) ?_
            refine oIL (n := 159) X56 hx (hb hby own_d5_157) rfl rfl ?_
            refine ov (B := T56.setTop (mkF m 161 #[rv aT, iv sT, .val (.double wT), .second, iv (4 : Int32), iv (4 : Int32)] [])) (fun t k => XS.istore X56.here hx rfl (hb hby own_d5_159) rfl (l' := #[rv aT, iv sT, .val (.double wT), .second, iv (4 : Int32), iv (4 : Int32)]) rfl k) ?_
            refine oGO (n := 67) X56 hx (hb hby own_d5_161) (by decide) (by decide) ?_
            refine oIC (n := 68) X56 hx (2 : Int32) (hb hby own_d5_67) (by decide) rfl ?_
            refine oIL (n := 70) X56 hx (hb hby own_d5_68) rfl rfl ?_
            refine ov (B := T56.setTop (mkF m 71 #[rv aT, iv sT, .val (.double wT), .second, iv (4 : Int32), iv (4 : Int32)] [(.int (8 : Int32))])) (fun t k => XS.imul X56.here hx rfl (hb hby own_d5_70) rfl k) ?_
            refine oIC (n := 72) X56 hx (1 : Int32) (hb hby own_d5_71) (by decide) rfl ?_
            refine ov (B := T56.setTop (mkF m 73 #[rv aT, iv sT, .val (.double wT), .second, iv (4 : Int32), iv (4 : Int32)] [(.int (9 : Int32))])) (fun t k => XS.iadd X56.here hx rfl (hb hby own_d5_72) rfl k) ?_
            refine ov (B := T56.setTop (mkF m 75 #[rv aT, iv sT, .val (.double wT), .second, iv (4 : Int32), iv (9 : Int32)] [])) (fun t k => XS.istore X56.here hx rfl (hb hby own_d5_73) rfl (l' := #[rv aT, iv sT, .val (.double wT), .second, iv (4 : Int32), iv (9 : Int32)]) rfl k) ?_
            refine oIL (n := 77) X56 hx (hb hby own_d5_75) rfl rfl ?_
            refine oALN (n := 78) X56 hx (hb hby own_d5_77) rfl rfl rfl ?_
            obtain ⟨T57, X57, e57, st57⟩ := getF X56 hx hZ hown (host := "") (Or.inl (oW hw 13 rfl)) Via.refl rfl (((Fh.other W3 (Or.inl (Exa.neArv (Eo.wr W3) V3 (oW hw 1 rfl)))).keep Kq41 (ninS (Exa.neArv (((Eo.wr W3).keep Kq41).keep Kq56) Vh56 (oW hw 1 rfl)) (ninS (Exa.neArv (((Eo.wr W3).keep Kq41).keep Kq56) f56_1 (oW hw 1 rfl)) nin0))).keep Kq56 (ninS (Exa.neArv (((Eo.wr W3).keep Kq41).keep Kq56) Vh56 (oW hw 1 rfl)) (ninS (Exa.neArv (((Eo.wr W3).keep Kq41).keep Kq56) f56_1 (oW hw 1 rfl)) nin0))) (g := (mkF m 78 #[rv aT, iv sT, .val (.double wT), .second, iv (4 : Int32), iv (9 : Int32)] [(.ref aT), (.int (9 : Int32))])) rfl rfl (hb hby own_d5_78)
            refine ov (B := T57.setTop (mkF m 81 #[rv aT, iv sT, .val (.double wT), .second, iv (4 : Int32), iv (9 : Int32)] [(.ref hT), (.int (9 : Int32))])) (fun t k => st57 t k) ?_
            obtain ⟨cl58, Ar58, q58, S58, M58, H58, G58⟩ := id Vh56
            refine ov (B := T57.setTop (mkF m 82 #[rv aT, iv sT, .val (.double wT), .second, iv (4 : Int32), iv (9 : Int32)] [(.int (6 : Int32)), (.int (9 : Int32))])) (fun t k => X57.arraylength hx (by rw [e57]; exact Ar58.1) (State.isArrayOf_alike hZ.alike Ar58.2.1) (g := (mkF m 81 #[rv aT, iv sT, .val (.double wT), .second, iv (4 : Int32), iv (9 : Int32)] [(.ref hT), (.int (9 : Int32))])) rfl rfl (hb hby own_d5_81) _ (by rw [len_of S58 M58]; exact k)) ?_
            have hc82 : ¬ ((9 : Int32) < (6 : Int32)) := by decide
            refine ov (B := T57.setTop (mkF m 85 #[rv aT, iv sT, .val (.double wT), .second, iv (4 : Int32), iv (9 : Int32)] [])) (fun t k => XS.icmpNo X57.here hx rfl (hb hby own_d5_82) rfl (flt hc82).1 k) ?_
            refine oGO (n := 164) X57 hx (hb hby own_d5_85) (by decide) (by decide) ?_
            refine oALN (n := 165) X57 hx (hb hby own_d5_164) rfl rfl rfl ?_
            refine oILN (n := 166) X57 hx (hb hby own_d5_165) rfl rfl ?_
            refine oIL (n := 168) X57 hx (hb hby own_d5_166) rfl rfl ?_
            obtain ⟨cq59, q59, q59'⟩ := (((Eo.wr W3).keep Kq41).keep Kq56).cell
            obtain ⟨_, _, ⟨T59, L59, k59, n59⟩, -, X59, ⟨Lc59, hQ59, l59, y59, z59⟩, st59⟩ := X57.privateBack hx (y := (⟨"com/example/meerkat/meerkat/simulate/Completions", "move", "(II)V"⟩ : MethodName)) hown (mvT hZ (oW hw 36 rfl)) (mvT hZ (oW hw 37 rfl)) (own_selP (y' := (⟨"com/example/meerkat/meerkat/simulate/Completions", "set", "(ID)V"⟩ : MethodName)) rfl (mvT hZ (oW hw 30 rfl)) (Cond.privateMethod_at (mvP hZ (oW hw 38 rfl) (args := #[]))) (mvT hZ (oW hw 37 rfl)) (by decide)) (Cond.privateMethod_at (mvP hZ (oW hw 38 rfl) (args := #[]))) (mvT hZ (oW hw 39 rfl)) (by decide) (backOf (W := 0) (rmM l Z a0 hw [] aT sT (4 : Int32) hT pT kh kp [eB, eE, eC, eD, eE, eF] (own_mv (own_mv PP eB (0 : Int32)) eE (1 : Int32)) T56.heap n0 (Nat.le_trans (Nat.le_trans (Nat.le_trans Z0 (Keep.of_wr W3).1) Kq41.1) Kq56.1) (((Eo.wr W3).keep Kq41).keep Kq56) (((Fh.other W3 (Or.inl (Exa.neArv (Eo.wr W3) V3 (oW hw 1 rfl)))).keep Kq41 (ninS (Exa.neArv (((Eo.wr W3).keep Kq41).keep Kq56) Vh56 (oW hw 1 rfl)) (ninS (Exa.neArv (((Eo.wr W3).keep Kq41).keep Kq56) f56_1 (oW hw 1 rfl)) nin0))).keep Kq56 (ninS (Exa.neArv (((Eo.wr W3).keep Kq41).keep Kq56) Vh56 (oW hw 1 rfl)) (ninS (Exa.neArv (((Eo.wr W3).keep Kq41).keep Kq56) f56_1 (oW hw 1 rfl)) nin0))) (((Fp.other W3 (Or.inl (Exa.neArv (Eo.wr W3) V3 (oW hw 1 rfl)))).keep Kq41 (ninS (Exa.neArv (((Eo.wr W3).keep Kq41).keep Kq56) Vh56 (oW hw 1 rfl)) (ninS (Exa.neArv (((Eo.wr W3).keep Kq41).keep Kq56) f56_1 (oW hw 1 rfl)) nin0))).keep Kq56 (ninS (Exa.neArv (((Eo.wr W3).keep Kq41).keep Kq56) Vh56 (oW hw 1 rfl)) (ninS (Exa.neArv (((Eo.wr W3).keep Kq41).keep Kq56) f56_1 (oW hw 1 rfl)) nin0))) Vh56 f56_1 nhp g_hT g_pT rfl (own_mvl (own_mvl qL)) qR ⟨by decide, by decide⟩) hZ (oW hw 39 rfl) (oW hw 2 rfl) (by decide) (by decide)) (g := (mkF m 168 #[rv aT, iv sT, .val (.double wT), .second, iv (4 : Int32), iv (9 : Int32)] [(.int (4 : Int32)), (.int sT), (.ref aT)])) rfl (by rw [hml]; rfl) (Steps.refl _) (a := aT) (by rw [e57]; exact q59) q59' (argsL := [(.int sT), (.int (4 : Int32))]) (rest := []) (lenOf own_pd1 rfl) rfl (by show 2 * 0 + _ ≤ _; exact Nat.le_of_eq rfl) (hb hby own_d5_168) (fun _ _ => ⟨rfl, e57, (by decide : ((((((0 + 0) + 0) + 0) + 0) + 0) + 0) + 0 ≤ _), (by decide : ((((((0 + 0) + 0) + 0) + 0) + 0) + 0) + 0 ≤ _)⟩)
            dsimp only [Pt.U, Pt.locs, Pt.cells, Pt.slots] at X59 l59 y59 z59 st59 hQ59
            subst l59 y59 z59
            obtain ⟨rfl, Nq59, Kq59, f59_0, f59_1⟩ := hQ59
            have N59 := Fr.app N56 Nq59
            have Vh59 : Arv Z T59.heap hT kh .int (6 : Int32) [(.int eB), (.int eE), (.int eC), (.int eD), (.int sT), (.int eF)] (.int (0 : Int32)) := f59_0
            refine ov (B := T59.setTop (mkF m 171 #[rv aT, iv sT, .val (.double wT), .second, iv (4 : Int32), iv (9 : Int32)] [])) (fun t k => st59.trans k) ?_
            refine own_leafV X59 hx hlk Bd.returns (hb hby own_d5_171) (by decide) (by decide) ?_
            show QT Z aT sT wT gT hT pT kt kh kp tt PP eA eB eC eD eE eF yT h0 n0 _ T59.heap _
            refine ⟨eB, eE, eC, eD, sT, eF, (own_mv (own_mv (own_mv PP eB (0 : Int32)) eE (1 : Int32)) sT (4 : Int32)), ?_, N59, (((((Keep.refl h0 [gT, hT, pT]).wr W3 (Or.inl (List.mem_of_getElem? (i := 0) rfl))).trans Kq41 (allS (Or.inl (List.mem_of_getElem? (i := 1) rfl)) (allS (Or.inl (List.mem_of_getElem? (i := 2) rfl)) all0))).trans Kq56 (allS (Or.inl (List.mem_of_getElem? (i := 1) rfl)) (allS (Or.inl (List.mem_of_getElem? (i := 2) rfl)) all0))).trans Kq59 (allS (Or.inl (List.mem_of_getElem? (i := 1) rfl)) (allS (Or.inl (List.mem_of_getElem? (i := 2) rfl)) all0))), ?_, ?_, ?_, ?_, (((V3.keep Kq41 (ninS ngh (ninS ngp nin0))).keep Kq56 (ninS ngh (ninS ngp nin0))).keep Kq59 (ninS ngh (ninS ngp nin0))), Vh59, f59_1⟩
            · rfl
            · exact own_I1mv qI qR qY
            · exact ⟨(own_mvl (own_mvl (own_mvl qL))), reB, reE, reC, reD, qR, reF, ((own_mvN neB qR reB).trans ((own_mvN (own_ppne peE peB (by decide)) reE reB).trans (own_mvS qL reB))), ((own_mvN neE qR reE).trans (own_mvS (own_mvl qL) reE)), ((own_mvN neC qR reC).trans ((own_mvN (own_ppne peE peC (by decide)) reE reC).trans ((own_mvN (own_ppne peB peC (by decide)) reB reC).trans peC))), ((own_mvN neD qR reD).trans ((own_mvN (own_ppne peE peD (by decide)) reE reD).trans ((own_mvN (own_ppne peB peD (by decide)) reB reD).trans peD))), (own_mvS (own_mvl (own_mvl qL)) qR), ((own_mvN neF qR reF).trans ((own_mvN (own_ppne peE peF (by decide)) reE reF).trans ((own_mvN (own_ppne peB peF (by decide)) reB reF).trans peF)))⟩
            · intro q hq'
              rcases qS q hq' with h | h | h | h | h | h
              · exact Or.inr (Or.inr (Or.inr (Or.inr (Or.inl (h.trans hq.symm)))))
              · exact Or.inl (h)
              · exact Or.inr (Or.inr (Or.inl (h)))
              · exact Or.inr (Or.inr (Or.inr (Or.inl (h))))
              · exact Or.inr (Or.inl (h))
              · exact Or.inr (Or.inr (Or.inr (Or.inr (Or.inr ((h))))))
            · exact ⟨by omega, by omega, by omega, by omega, by omega⟩
          · refine ov (B := T53.setTop (mkF m 141 #[rv aT, iv sT, .val (.double wT), .second, iv (1 : Int32), iv (4 : Int32)] [])) (fun t k => XS.ifNo X53.here hx rfl (hb hby own_d5_138) rfl ((if0 _ _).trans (teq (own_bit0.mpr hc138)).2) k) ?_
            refine oGO (n := 164) X53 hx (hb hby own_d5_141) (by decide) (by decide) ?_
            refine oALN (n := 165) X53 hx (hb hby own_d5_164) rfl rfl rfl ?_
            refine oILN (n := 166) X53 hx (hb hby own_d5_165) rfl rfl ?_
            refine oIL (n := 168) X53 hx (hb hby own_d5_166) rfl rfl ?_
            obtain ⟨cq60, q60, q60'⟩ := ((Eo.wr W3).keep Kq41).cell
            obtain ⟨_, _, ⟨T60, L60, k60, n60⟩, -, X60, ⟨Lc60, hQ60, l60, y60, z60⟩, st60⟩ := X53.privateBack hx (y := (⟨"com/example/meerkat/meerkat/simulate/Completions", "move", "(II)V"⟩ : MethodName)) hown (mvT hZ (oW hw 36 rfl)) (mvT hZ (oW hw 37 rfl)) (own_selP (y' := (⟨"com/example/meerkat/meerkat/simulate/Completions", "set", "(ID)V"⟩ : MethodName)) rfl (mvT hZ (oW hw 30 rfl)) (Cond.privateMethod_at (mvP hZ (oW hw 38 rfl) (args := #[]))) (mvT hZ (oW hw 37 rfl)) (by decide)) (Cond.privateMethod_at (mvP hZ (oW hw 38 rfl) (args := #[]))) (mvT hZ (oW hw 39 rfl)) (by decide) (backOf (W := 0) (rmM l Z a0 hw [] aT sT (1 : Int32) hT pT kh kp [eB, eB, eC, eD, eE, eF] (own_mv PP eB (0 : Int32)) T41.heap n0 (Nat.le_trans (Nat.le_trans Z0 (Keep.of_wr W3).1) Kq41.1) ((Eo.wr W3).keep Kq41) ((Fh.other W3 (Or.inl (Exa.neArv (Eo.wr W3) V3 (oW hw 1 rfl)))).keep Kq41 (ninS (Exa.neArv ((Eo.wr W3).keep Kq41) Vh41 (oW hw 1 rfl)) (ninS (Exa.neArv ((Eo.wr W3).keep Kq41) f41_1 (oW hw 1 rfl)) nin0))) ((Fp.other W3 (Or.inl (Exa.neArv (Eo.wr W3) V3 (oW hw 1 rfl)))).keep Kq41 (ninS (Exa.neArv ((Eo.wr W3).keep Kq41) Vh41 (oW hw 1 rfl)) (ninS (Exa.neArv ((Eo.wr W3).keep Kq41) f41_1 (oW hw 1 rfl)) nin0))) Vh41 f41_1 nhp g_hT g_pT rfl (own_mvl qL) qR ⟨by decide, by decide⟩) hZ (oW hw 39 rfl) (oW hw 2 rfl) (by decide) (by decide)) (g := (mkF m 168 #[rv aT, iv sT, .val (.double wT), .second, iv (1 : Int32), iv (4 : Int32)] [(.int (1 : Int32)), (.int sT), (.ref aT)])) rfl (by rw [hml]; rfl) (Steps.refl _) (a := aT) (by rw [eq53]; exact q60) q60' (argsL := [(.int sT), (.int (1 : Int32))]) (rest := []) (lenOf own_pd1 rfl) rfl (by show 2 * 0 + _ ≤ _; exact Nat.le_of_eq rfl) (hb hby own_d5_168) (fun _ _ => ⟨rfl, eq53, (by decide : (((((0 + 0) + 0) + 0) + 0) + 0) + 0 ≤ _), (by decide : (((((0 + 0) + 0) + 0) + 0) + 0) + 0 ≤ _)⟩)
            dsimp only [Pt.U, Pt.locs, Pt.cells, Pt.slots] at X60 l60 y60 z60 st60 hQ60
            subst l60 y60 z60
            obtain ⟨rfl, Nq60, Kq60, f60_0, f60_1⟩ := hQ60
            have N60 := Fr.app N53 Nq60
            have Vh60 : Arv Z T60.heap hT kh .int (6 : Int32) [(.int eB), (.int sT), (.int eC), (.int eD), (.int eE), (.int eF)] (.int (0 : Int32)) := f60_0
            refine ov (B := T60.setTop (mkF m 171 #[rv aT, iv sT, .val (.double wT), .second, iv (1 : Int32), iv (4 : Int32)] [])) (fun t k => st60.trans k) ?_
            refine own_leafV X60 hx hlk Bd.returns (hb hby own_d5_171) (by decide) (by decide) ?_
            show QT Z aT sT wT gT hT pT kt kh kp tt PP eA eB eC eD eE eF yT h0 n0 _ T60.heap _
            refine ⟨eB, sT, eC, eD, eE, eF, (own_mv (own_mv PP eB (0 : Int32)) sT (1 : Int32)), ?_, N60, ((((Keep.refl h0 [gT, hT, pT]).wr W3 (Or.inl (List.mem_of_getElem? (i := 0) rfl))).trans Kq41 (allS (Or.inl (List.mem_of_getElem? (i := 1) rfl)) (allS (Or.inl (List.mem_of_getElem? (i := 2) rfl)) all0))).trans Kq60 (allS (Or.inl (List.mem_of_getElem? (i := 1) rfl)) (allS (Or.inl (List.mem_of_getElem? (i := 2) rfl)) all0))), ?_, ?_, ?_, ?_, ((V3.keep Kq41 (ninS ngh (ninS ngp nin0))).keep Kq60 (ninS ngh (ninS ngp nin0))), Vh60, f60_1⟩
            · rfl
            · exact own_I1mv qI qR qY
            · exact ⟨(own_mvl (own_mvl qL)), reB, qR, reC, reD, reE, reF, ((own_mvN neB qR reB).trans (own_mvS qL reB)), (own_mvS (own_mvl qL) qR), ((own_mvN neC qR reC).trans ((own_mvN (own_ppne peB peC (by decide)) reB reC).trans peC)), ((own_mvN neD qR reD).trans ((own_mvN (own_ppne peB peD (by decide)) reB reD).trans peD)), ((own_mvN neE qR reE).trans ((own_mvN (own_ppne peB peE (by decide)) reB reE).trans peE)), ((own_mvN neF qR reF).trans ((own_mvN (own_ppne peB peF (by decide)) reB reF).trans peF))⟩
            · intro q hq'
              rcases qS q hq' with h | h | h | h | h | h
              · exact Or.inr (Or.inl (h.trans hq.symm))
              · exact Or.inl (h)
              · exact Or.inr (Or.inr (Or.inl (h)))
              · exact Or.inr (Or.inr (Or.inr (Or.inl (h))))
              · exact Or.inr (Or.inr (Or.inr (Or.inr (Or.inl (h)))))
              · exact Or.inr (Or.inr (Or.inr (Or.inr (Or.inr ((h))))))
            · exact ⟨by omega, by omega, by omega, by omega, by omega⟩
        · refine ov (B := T50.setTop (mkF m 126 #[rv aT, iv sT, .val (.double wT), .second, iv (1 : Int32), iv (3 : Int32)] [])) (fun t k => XS.ifYes X50.here hx rfl (pc0 := 120) (pc' := 126) rfl (hb hby own_d5_120) rfl ((if0 _ _).trans (teq (own_bit0.mpr hc120)).1) (by decide) (by decide) k) ?_
          refine oALN (n := 127) X50 hx (hb hby own_d5_126) rfl rfl rfl ?_
          refine oALN (n := 128) X50 hx (hb hby own_d5_127) rfl rfl rfl ?_
          obtain ⟨T61, X61, e61, st61⟩ := getF X50 hx hZ hown (host := "") (Or.inl (oW hw 13 rfl)) Via.refl eq50 ((Fh.other W3 (Or.inl (Exa.neArv (Eo.wr W3) V3 (oW hw 1 rfl)))).keep Kq41 (ninS (Exa.neArv ((Eo.wr W3).keep Kq41) Vh41 (oW hw 1 rfl)) (ninS (Exa.neArv ((Eo.wr W3).keep Kq41) f41_1 (oW hw 1 rfl)) nin0))) (g := (mkF m 128 #[rv aT, iv sT, .val (.double wT), .second, iv (1 : Int32), iv (3 : Int32)] [(.ref aT), (.ref aT)])) rfl rfl (hb hby own_d5_128)
          refine ov (B := T61.setTop (mkF m 131 #[rv aT, iv sT, .val (.double wT), .second, iv (1 : Int32), iv (3 : Int32)] [(.ref hT), (.ref aT)])) (fun t k => st61 t k) ?_
          refine oIL (n := 133) X61 hx (hb hby own_d5_131) rfl rfl ?_
          obtain ⟨cl62, Ar62, q62, S62, M62, H62, G62⟩ := id Vh41
          have hin62 : ¬ ((3 : Int32) < 0 ∨ cl62.slots.size ≤ ((3 : Int32)).toNatClampNeg) := inb_of S62 ⟨by decide, by decide⟩
          refine ov (B := T61.setTop (mkF m 134 #[rv aT, iv sT, .val (.double wT), .second, iv (1 : Int32), iv (3 : Int32)] [(.int eD), (.ref aT)])) (fun t k => X61.iaload hx (j := (3 : Int32)) (v := (.int eD)) (by rw [e61]; exact Ar62.1) (State.isArrayOf_alike hZ.alike Ar62.2.1) Ar62.2.2 hin62 (Has.at H62 hin62 rfl) (g := (mkF m 133 #[rv aT, iv sT, .val (.double wT), .second, iv (1 : Int32), iv (3 : Int32)] [(.int (3 : Int32)), (.ref hT), (.ref aT)])) rfl rfl (hb hby own_d5_133) _ k) ?_
          refine oILN (n := 135) X61 hx (hb hby own_d5_134) rfl rfl ?_
          obtain ⟨cq63, q63, q63'⟩ := ((Eo.wr W3).keep Kq41).cell
          obtain ⟨_, _, ⟨T63, L63, k63, n63⟩, -, X63, ⟨Lc63, hQ63, l63, y63, z63⟩, st63⟩ := X61.privateBack hx (y := (⟨"com/example/meerkat/meerkat/simulate/Completions", "before", "(II)Z"⟩ : MethodName)) hown (mvT hZ (oW hw 32 rfl)) (mvT hZ (oW hw 33 rfl)) (own_selP (y' := (⟨"com/example/meerkat/meerkat/simulate/Completions", "set", "(ID)V"⟩ : MethodName)) rfl (mvT hZ (oW hw 30 rfl)) (Cond.privateMethod_at (mvP hZ (oW hw 34 rfl) (args := #[]))) (mvT hZ (oW hw 33 rfl)) (by decide)) (Cond.privateMethod_at (mvP hZ (oW hw 34 rfl) (args := #[]))) (mvT hZ (oW hw 35 rfl)) (by decide) (backOf (W := 0) (rmB l Z a0 hw [] aT eD sT gT kt (own_mv tt sT yT) T41.heap n0 (Nat.le_trans (Nat.le_trans Z0 (Keep.of_wr W3).1) Kq41.1) ((Ft.other W3 (Or.inl (Exa.neArv (Eo.wr W3) V3 (oW hw 1 rfl)))).keep Kq41 (ninS (Exa.neArv ((Eo.wr W3).keep Kq41) Vh41 (oW hw 1 rfl)) (ninS (Exa.neArv ((Eo.wr W3).keep Kq41) f41_1 (oW hw 1 rfl)) nin0))) (V3.keep Kq41 (ninS ngh (ninS ngp nin0))) (own_I1mv qI qR qY) reD qR) hZ (oW hw 35 rfl) (oW hw 2 rfl) (by decide) (by decide)) (g := (mkF m 135 #[rv aT, iv sT, .val (.double wT), .second, iv (1 : Int32), iv (3 : Int32)] [(.int sT), (.int eD), (.ref aT)])) rfl (by rw [hml]; rfl) (Steps.refl _) (a := aT) (by rw [e61]; exact q63) q63' (argsL := [(.int eD), (.int sT)]) (rest := []) (lenOf own_pd0 rfl) rfl (by show 2 * 0 + _ ≤ _; exact Nat.le_of_eq rfl) (hb hby own_d5_135) (fun _ _ => ⟨rfl, e61, (by decide : ((((0 + 0) + 0) + 0) + 0) + 0 ≤ _), (by decide : ((((0 + 0) + 0) + 0) + 0) + 0 ≤ _)⟩)
          dsimp only [Pt.U, Pt.locs, Pt.cells, Pt.slots] at X63 l63 y63 z63 st63 hQ63
          subst l63 y63 z63
          obtain ⟨rfl, Nq63, eq63⟩ := hQ63
          have N63 := Fr.app N50 Nq63
          refine ov (B := T63.setTop (mkF m 138 #[rv aT, iv sT, .val (.double wT), .second, iv (1 : Int32), iv (3 : Int32)] [(.int (own_bit (own_rk (own_mv tt sT yT) eD < own_rk (own_mv tt sT yT) sT)))])) (fun t k => st63.trans k) ?_
          by_cases hc138 : own_rk (own_mv tt sT yT) eD < own_rk (own_mv tt sT yT) sT
          · refine ov (B := T63.setTop (mkF m 144 #[rv aT, iv sT, .val (.double wT), .second, iv (1 : Int32), iv (3 : Int32)] [])) (fun t k => XS.ifYes X63.here hx rfl (pc0 := 138) (pc' := 144) rfl (hb hby own_d5_138) rfl ((if0 _ _).trans (feq (own_bitne hc138)).2) (by decide) (by decide) k) ?_
            refine oALN (n := 145) X63 hx (hb hby own_d5_144) rfl rfl rfl ?_
            refine oALN (n := 146) X63 hx (hb hby own_d5_145) rfl rfl rfl ?_
            obtain ⟨T64, X64, e64, st64⟩ := getF X63 hx hZ hown (host := "") (Or.inl (oW hw 13 rfl)) Via.refl eq63 ((Fh.other W3 (Or.inl (Exa.neArv (Eo.wr W3) V3 (oW hw 1 rfl)))).keep Kq41 (ninS (Exa.neArv ((Eo.wr W3).keep Kq41) Vh41 (oW hw 1 rfl)) (ninS (Exa.neArv ((Eo.wr W3).keep Kq41) f41_1 (oW hw 1 rfl)) nin0))) (g := (mkF m 146 #[rv aT, iv sT, .val (.double wT), .second, iv (1 : Int32), iv (3 : Int32)] [(.ref aT), (.ref aT)])) rfl rfl (hb hby own_d5_146)
            refine ov (B := T64.setTop (mkF m 149 #[rv aT, iv sT, .val (.double wT), .second, iv (1 : Int32), iv (3 : Int32)] [(.ref hT), (.ref aT)])) (fun t k => st64 t k) ?_
            refine oIL (n := 151) X64 hx (hb hby own_d5_149) rfl rfl ?_
            obtain ⟨cl65, Ar65, q65, S65, M65, H65, G65⟩ := id Vh41
            have hin65 : ¬ ((3 : Int32) < 0 ∨ cl65.slots.size ≤ ((3 : Int32)).toNatClampNeg) := inb_of S65 ⟨by decide, by decide⟩
            refine ov (B := T64.setTop (mkF m 152 #[rv aT, iv sT, .val (.double wT), .second, iv (1 : Int32), iv (3 : Int32)] [(.int eD), (.ref aT)])) (fun t k => X64.iaload hx (j := (3 : Int32)) (v := (.int eD)) (by rw [e64]; exact Ar65.1) (State.isArrayOf_alike hZ.alike Ar65.2.1) Ar65.2.2 hin65 (Has.at H65 hin65 rfl) (g := (mkF m 151 #[rv aT, iv sT, .val (.double wT), .second, iv (1 : Int32), iv (3 : Int32)] [(.int (3 : Int32)), (.ref hT), (.ref aT)])) rfl rfl (hb hby own_d5_151) _ k) ?_
            refine oIL (n := 154) X64 hx (hb hby own_d5_152) rfl rfl ?_
            obtain ⟨cq66, q66, q66'⟩ := ((Eo.wr W3).keep Kq41).cell
            obtain ⟨_, _, ⟨T66, L66, k66, n66⟩, -, X66, ⟨Lc66, hQ66, l66, y66, z66⟩, st66⟩ := X64.privateBack hx (y := (⟨"com/example/meerkat/meerkat/simulate/Completions", "move", "(II)V"⟩ : MethodName)) hown (mvT hZ (oW hw 36 rfl)) (mvT hZ (oW hw 37 rfl)) (own_selP (y' := (⟨"com/example/meerkat/meerkat/simulate/Completions", "set", "(ID)V"⟩ : MethodName)) rfl (mvT hZ (oW hw 30 rfl)) (Cond.privateMethod_at (mvP hZ (oW hw 38 rfl) (args := #[]))) (mvT hZ (oW hw 37 rfl)) (by decide)) (Cond.privateMethod_at (mvP hZ (oW hw 38 rfl) (args := #[]))) (mvT hZ (oW hw 39 rfl)) (by decide) (backOf (W := 0) (rmM l Z a0 hw [] aT eD (1 : Int32) hT pT kh kp [eB, eB, eC, eD, eE, eF] (own_mv PP eB (0 : Int32)) T41.heap n0 (Nat.le_trans (Nat.le_trans Z0 (Keep.of_wr W3).1) Kq41.1) ((Eo.wr W3).keep Kq41) ((Fh.other W3 (Or.inl (Exa.neArv (Eo.wr W3) V3 (oW hw 1 rfl)))).keep Kq41 (ninS (Exa.neArv ((Eo.wr W3).keep Kq41) Vh41 (oW hw 1 rfl)) (ninS (Exa.neArv ((Eo.wr W3).keep Kq41) f41_1 (oW hw 1 rfl)) nin0))) ((Fp.other W3 (Or.inl (Exa.neArv (Eo.wr W3) V3 (oW hw 1 rfl)))).keep Kq41 (ninS (Exa.neArv ((Eo.wr W3).keep Kq41) Vh41 (oW hw 1 rfl)) (ninS (Exa.neArv ((Eo.wr W3).keep Kq41) f41_1 (oW hw 1 rfl)) nin0))) Vh41 f41_1 nhp g_hT g_pT rfl (own_mvl qL) reD ⟨by decide, by decide⟩) hZ (oW hw 39 rfl) (oW hw 2 rfl) (by decide) (by decide)) (g := (mkF m 154 #[rv aT, iv sT, .val (.double wT), .second, iv (1 : Int32), iv (3 : Int32)] [(.int (1 : Int32)), (.int eD), (.ref aT)])) rfl (by rw [hml]; rfl) (Steps.refl _) (a := aT) (by rw [e64]; exact q66) q66' (argsL := [(.int eD), (.int (1 : Int32))]) (rest := []) (lenOf own_pd1 rfl) rfl (by show 2 * 0 + _ ≤ _; exact Nat.le_of_eq rfl) (hb hby own_d5_154) (fun _ _ => ⟨rfl, e64, (by decide : (((((0 + 0) + 0) + 0) + 0) + 0) + 0 ≤ _), (by decide : (((((0 + 0) + 0) + 0) + 0) + 0) + 0 ≤ _)⟩)
            dsimp only [Pt.U, Pt.locs, Pt.cells, Pt.slots] at X66 l66 y66 z66 st66 hQ66
            subst l66 y66 z66
            obtain ⟨rfl, Nq66, Kq66, f66_0, f66_1⟩ := hQ66
            have N66 := Fr.app N63 Nq66
            have Vh66 : Arv Z T66.heap hT kh .int (6 : Int32) [(.int eB), (.int eD), (.int eC), (.int eD), (.int eE), (.int eF)] (.int (0 : Int32)) := f66_0
            refine ov (B := T66.setTop (mkF m 157 #[rv aT, iv sT, .val (.double wT), .second, iv (1 : Int32), iv (3 : Int32)] [])) (fun t k => st66.trans k) ?_
            refine oIL (n := 159) X66 hx (hb hby own_d5_157) rfl rfl ?_
            refine ov (B := T66.setTop (mkF m 161 #[rv aT, iv sT, .val (.double wT), .second, iv (3 : Int32), iv (3 : Int32)] [])) (fun t k => XS.istore X66.here hx rfl (hb hby own_d5_159) rfl (l' := #[rv aT, iv sT, .val (.double wT), .second, iv (3 : Int32), iv (3 : Int32)]) rfl k) ?_
            refine oGO (n := 67) X66 hx (hb hby own_d5_161) (by decide) (by decide) ?_
            refine oIC (n := 68) X66 hx (2 : Int32) (hb hby own_d5_67) (by decide) rfl ?_
            refine oIL (n := 70) X66 hx (hb hby own_d5_68) rfl rfl ?_
            refine ov (B := T66.setTop (mkF m 71 #[rv aT, iv sT, .val (.double wT), .second, iv (3 : Int32), iv (3 : Int32)] [(.int (6 : Int32))])) (fun t k => XS.imul X66.here hx rfl (hb hby own_d5_70) rfl k) ?_
            refine oIC (n := 72) X66 hx (1 : Int32) (hb hby own_d5_71) (by decide) rfl ?_
            refine ov (B := T66.setTop (mkF m 73 #[rv aT, iv sT, .val (.double wT), .second, iv (3 : Int32), iv (3 : Int32)] [(.int (7 : Int32))])) (fun t k => XS.iadd X66.here hx rfl (hb hby own_d5_72) rfl k) ?_
            refine ov (B := T66.setTop (mkF m 75 #[rv aT, iv sT, .val (.double wT), .second, iv (3 : Int32), iv (7 : Int32)] [])) (fun t k => XS.istore X66.here hx rfl (hb hby own_d5_73) rfl (l' := #[rv aT, iv sT, .val (.double wT), .second, iv (3 : Int32), iv (7 : Int32)]) rfl k) ?_
            refine oIL (n := 77) X66 hx (hb hby own_d5_75) rfl rfl ?_
            refine oALN (n := 78) X66 hx (hb hby own_d5_77) rfl rfl rfl ?_
            obtain ⟨T67, X67, e67, st67⟩ := getF X66 hx hZ hown (host := "") (Or.inl (oW hw 13 rfl)) Via.refl rfl (((Fh.other W3 (Or.inl (Exa.neArv (Eo.wr W3) V3 (oW hw 1 rfl)))).keep Kq41 (ninS (Exa.neArv (((Eo.wr W3).keep Kq41).keep Kq66) Vh66 (oW hw 1 rfl)) (ninS (Exa.neArv (((Eo.wr W3).keep Kq41).keep Kq66) f66_1 (oW hw 1 rfl)) nin0))).keep Kq66 (ninS (Exa.neArv (((Eo.wr W3).keep Kq41).keep Kq66) Vh66 (oW hw 1 rfl)) (ninS (Exa.neArv (((Eo.wr W3).keep Kq41).keep Kq66) f66_1 (oW hw 1 rfl)) nin0))) (g := (mkF m 78 #[rv aT, iv sT, .val (.double wT), .second, iv (3 : Int32), iv (7 : Int32)] [(.ref aT), (.int (7 : Int32))])) rfl rfl (hb hby own_d5_78)
            refine ov (B := T67.setTop (mkF m 81 #[rv aT, iv sT, .val (.double wT), .second, iv (3 : Int32), iv (7 : Int32)] [(.ref hT), (.int (7 : Int32))])) (fun t k => st67 t k) ?_
            obtain ⟨cl68, Ar68, q68, S68, M68, H68, G68⟩ := id Vh66
            refine ov (B := T67.setTop (mkF m 82 #[rv aT, iv sT, .val (.double wT), .second, iv (3 : Int32), iv (7 : Int32)] [(.int (6 : Int32)), (.int (7 : Int32))])) (fun t k => X67.arraylength hx (by rw [e67]; exact Ar68.1) (State.isArrayOf_alike hZ.alike Ar68.2.1) (g := (mkF m 81 #[rv aT, iv sT, .val (.double wT), .second, iv (3 : Int32), iv (7 : Int32)] [(.ref hT), (.int (7 : Int32))])) rfl rfl (hb hby own_d5_81) _ (by rw [len_of S68 M68]; exact k)) ?_
            have hc82 : ¬ ((7 : Int32) < (6 : Int32)) := by decide
            refine ov (B := T67.setTop (mkF m 85 #[rv aT, iv sT, .val (.double wT), .second, iv (3 : Int32), iv (7 : Int32)] [])) (fun t k => XS.icmpNo X67.here hx rfl (hb hby own_d5_82) rfl (flt hc82).1 k) ?_
            refine oGO (n := 164) X67 hx (hb hby own_d5_85) (by decide) (by decide) ?_
            refine oALN (n := 165) X67 hx (hb hby own_d5_164) rfl rfl rfl ?_
            refine oILN (n := 166) X67 hx (hb hby own_d5_165) rfl rfl ?_
            refine oIL (n := 168) X67 hx (hb hby own_d5_166) rfl rfl ?_
            obtain ⟨cq69, q69, q69'⟩ := (((Eo.wr W3).keep Kq41).keep Kq66).cell
            obtain ⟨_, _, ⟨T69, L69, k69, n69⟩, -, X69, ⟨Lc69, hQ69, l69, y69, z69⟩, st69⟩ := X67.privateBack hx (y := (⟨"com/example/meerkat/meerkat/simulate/Completions", "move", "(II)V"⟩ : MethodName)) hown (mvT hZ (oW hw 36 rfl)) (mvT hZ (oW hw 37 rfl)) (own_selP (y' := (⟨"com/example/meerkat/meerkat/simulate/Completions", "set", "(ID)V"⟩ : MethodName)) rfl (mvT hZ (oW hw 30 rfl)) (Cond.privateMethod_at (mvP hZ (oW hw 38 rfl) (args := #[]))) (mvT hZ (oW hw 37 rfl)) (by decide)) (Cond.privateMethod_at (mvP hZ (oW hw 38 rfl) (args := #[]))) (mvT hZ (oW hw 39 rfl)) (by decide) (backOf (W := 0) (rmM l Z a0 hw [] aT sT (3 : Int32) hT pT kh kp [eB, eD, eC, eD, eE, eF] (own_mv (own_mv PP eB (0 : Int32)) eD (1 : Int32)) T66.heap n0 (Nat.le_trans (Nat.le_trans (Nat.le_trans Z0 (Keep.of_wr W3).1) Kq41.1) Kq66.1) (((Eo.wr W3).keep Kq41).keep Kq66) (((Fh.other W3 (Or.inl (Exa.neArv (Eo.wr W3) V3 (oW hw 1 rfl)))).keep Kq41 (ninS (Exa.neArv (((Eo.wr W3).keep Kq41).keep Kq66) Vh66 (oW hw 1 rfl)) (ninS (Exa.neArv (((Eo.wr W3).keep Kq41).keep Kq66) f66_1 (oW hw 1 rfl)) nin0))).keep Kq66 (ninS (Exa.neArv (((Eo.wr W3).keep Kq41).keep Kq66) Vh66 (oW hw 1 rfl)) (ninS (Exa.neArv (((Eo.wr W3).keep Kq41).keep Kq66) f66_1 (oW hw 1 rfl)) nin0))) (((Fp.other W3 (Or.inl (Exa.neArv (Eo.wr W3) V3 (oW hw 1 rfl)))).keep Kq41 (ninS (Exa.neArv (((Eo.wr W3).keep Kq41).keep Kq66) Vh66 (oW hw 1 rfl)) (ninS (Exa.neArv (((Eo.wr W3).keep Kq41).keep Kq66) f66_1 (oW hw 1 rfl)) nin0))).keep Kq66 (ninS (Exa.neArv (((Eo.wr W3).keep Kq41).keep Kq66) Vh66 (oW hw 1 rfl)) (ninS (Exa.neArv (((Eo.wr W3).keep Kq41).keep Kq66) f66_1 (oW hw 1 rfl)) nin0))) Vh66 f66_1 nhp g_hT g_pT rfl (own_mvl (own_mvl qL)) qR ⟨by decide, by decide⟩) hZ (oW hw 39 rfl) (oW hw 2 rfl) (by decide) (by decide)) (g := (mkF m 168 #[rv aT, iv sT, .val (.double wT), .second, iv (3 : Int32), iv (7 : Int32)] [(.int (3 : Int32)), (.int sT), (.ref aT)])) rfl (by rw [hml]; rfl) (Steps.refl _) (a := aT) (by rw [e67]; exact q69) q69' (argsL := [(.int sT), (.int (3 : Int32))]) (rest := []) (lenOf own_pd1 rfl) rfl (by show 2 * 0 + _ ≤ _; exact Nat.le_of_eq rfl) (hb hby own_d5_168) (fun _ _ => ⟨rfl, e67, (by decide : ((((((0 + 0) + 0) + 0) + 0) + 0) + 0) + 0 ≤ _), (by decide : ((((((0 + 0) + 0) + 0) + 0) + 0) + 0) + 0 ≤ _)⟩)
            dsimp only [Pt.U, Pt.locs, Pt.cells, Pt.slots] at X69 l69 y69 z69 st69 hQ69
            subst l69 y69 z69
            obtain ⟨rfl, Nq69, Kq69, f69_0, f69_1⟩ := hQ69
            have N69 := Fr.app N66 Nq69
            have Vh69 : Arv Z T69.heap hT kh .int (6 : Int32) [(.int eB), (.int eD), (.int eC), (.int sT), (.int eE), (.int eF)] (.int (0 : Int32)) := f69_0
            refine ov (B := T69.setTop (mkF m 171 #[rv aT, iv sT, .val (.double wT), .second, iv (3 : Int32), iv (7 : Int32)] [])) (fun t k => st69.trans k) ?_
            refine own_leafV X69 hx hlk Bd.returns (hb hby own_d5_171) (by decide) (by decide) ?_
            show QT Z aT sT wT gT hT pT kt kh kp tt PP eA eB eC eD eE eF yT h0 n0 _ T69.heap _
            refine ⟨eB, eD, eC, sT, eE, eF, (own_mv (own_mv (own_mv PP eB (0 : Int32)) eD (1 : Int32)) sT (3 : Int32)), ?_, N69, (((((Keep.refl h0 [gT, hT, pT]).wr W3 (Or.inl (List.mem_of_getElem? (i := 0) rfl))).trans Kq41 (allS (Or.inl (List.mem_of_getElem? (i := 1) rfl)) (allS (Or.inl (List.mem_of_getElem? (i := 2) rfl)) all0))).trans Kq66 (allS (Or.inl (List.mem_of_getElem? (i := 1) rfl)) (allS (Or.inl (List.mem_of_getElem? (i := 2) rfl)) all0))).trans Kq69 (allS (Or.inl (List.mem_of_getElem? (i := 1) rfl)) (allS (Or.inl (List.mem_of_getElem? (i := 2) rfl)) all0))), ?_, ?_, ?_, ?_, (((V3.keep Kq41 (ninS ngh (ninS ngp nin0))).keep Kq66 (ninS ngh (ninS ngp nin0))).keep Kq69 (ninS ngh (ninS ngp nin0))), Vh69, f69_1⟩
            · rfl
            · exact own_I1mv qI qR qY
            · exact ⟨(own_mvl (own_mvl (own_mvl qL))), reB, reD, reC, qR, reE, reF, ((own_mvN neB qR reB).trans ((own_mvN (own_ppne peD peB (by decide)) reD reB).trans (own_mvS qL reB))), ((own_mvN neD qR reD).trans (own_mvS (own_mvl qL) reD)), ((own_mvN neC qR reC).trans ((own_mvN (own_ppne peD peC (by decide)) reD reC).trans ((own_mvN (own_ppne peB peC (by decide)) reB reC).trans peC))), (own_mvS (own_mvl (own_mvl qL)) qR), ((own_mvN neE qR reE).trans ((own_mvN (own_ppne peD peE (by decide)) reD reE).trans ((own_mvN (own_ppne peB peE (by decide)) reB reE).trans peE))), ((own_mvN neF qR reF).trans ((own_mvN (own_ppne peD peF (by decide)) reD reF).trans ((own_mvN (own_ppne peB peF (by decide)) reB reF).trans peF)))⟩
            · intro q hq'
              rcases qS q hq' with h | h | h | h | h | h
              · exact Or.inr (Or.inr (Or.inr (Or.inl (h.trans hq.symm))))
              · exact Or.inl (h)
              · exact Or.inr (Or.inr (Or.inl (h)))
              · exact Or.inr (Or.inl (h))
              · exact Or.inr (Or.inr (Or.inr (Or.inr (Or.inl (h)))))
              · exact Or.inr (Or.inr (Or.inr (Or.inr (Or.inr ((h))))))
            · exact ⟨by omega, by omega, by omega, by omega, by omega⟩
          · refine ov (B := T63.setTop (mkF m 141 #[rv aT, iv sT, .val (.double wT), .second, iv (1 : Int32), iv (3 : Int32)] [])) (fun t k => XS.ifNo X63.here hx rfl (hb hby own_d5_138) rfl ((if0 _ _).trans (teq (own_bit0.mpr hc138)).2) k) ?_
            refine oGO (n := 164) X63 hx (hb hby own_d5_141) (by decide) (by decide) ?_
            refine oALN (n := 165) X63 hx (hb hby own_d5_164) rfl rfl rfl ?_
            refine oILN (n := 166) X63 hx (hb hby own_d5_165) rfl rfl ?_
            refine oIL (n := 168) X63 hx (hb hby own_d5_166) rfl rfl ?_
            obtain ⟨cq70, q70, q70'⟩ := ((Eo.wr W3).keep Kq41).cell
            obtain ⟨_, _, ⟨T70, L70, k70, n70⟩, -, X70, ⟨Lc70, hQ70, l70, y70, z70⟩, st70⟩ := X63.privateBack hx (y := (⟨"com/example/meerkat/meerkat/simulate/Completions", "move", "(II)V"⟩ : MethodName)) hown (mvT hZ (oW hw 36 rfl)) (mvT hZ (oW hw 37 rfl)) (own_selP (y' := (⟨"com/example/meerkat/meerkat/simulate/Completions", "set", "(ID)V"⟩ : MethodName)) rfl (mvT hZ (oW hw 30 rfl)) (Cond.privateMethod_at (mvP hZ (oW hw 38 rfl) (args := #[]))) (mvT hZ (oW hw 37 rfl)) (by decide)) (Cond.privateMethod_at (mvP hZ (oW hw 38 rfl) (args := #[]))) (mvT hZ (oW hw 39 rfl)) (by decide) (backOf (W := 0) (rmM l Z a0 hw [] aT sT (1 : Int32) hT pT kh kp [eB, eB, eC, eD, eE, eF] (own_mv PP eB (0 : Int32)) T41.heap n0 (Nat.le_trans (Nat.le_trans Z0 (Keep.of_wr W3).1) Kq41.1) ((Eo.wr W3).keep Kq41) ((Fh.other W3 (Or.inl (Exa.neArv (Eo.wr W3) V3 (oW hw 1 rfl)))).keep Kq41 (ninS (Exa.neArv ((Eo.wr W3).keep Kq41) Vh41 (oW hw 1 rfl)) (ninS (Exa.neArv ((Eo.wr W3).keep Kq41) f41_1 (oW hw 1 rfl)) nin0))) ((Fp.other W3 (Or.inl (Exa.neArv (Eo.wr W3) V3 (oW hw 1 rfl)))).keep Kq41 (ninS (Exa.neArv ((Eo.wr W3).keep Kq41) Vh41 (oW hw 1 rfl)) (ninS (Exa.neArv ((Eo.wr W3).keep Kq41) f41_1 (oW hw 1 rfl)) nin0))) Vh41 f41_1 nhp g_hT g_pT rfl (own_mvl qL) qR ⟨by decide, by decide⟩) hZ (oW hw 39 rfl) (oW hw 2 rfl) (by decide) (by decide)) (g := (mkF m 168 #[rv aT, iv sT, .val (.double wT), .second, iv (1 : Int32), iv (3 : Int32)] [(.int (1 : Int32)), (.int sT), (.ref aT)])) rfl (by rw [hml]; rfl) (Steps.refl _) (a := aT) (by rw [eq63]; exact q70) q70' (argsL := [(.int sT), (.int (1 : Int32))]) (rest := []) (lenOf own_pd1 rfl) rfl (by show 2 * 0 + _ ≤ _; exact Nat.le_of_eq rfl) (hb hby own_d5_168) (fun _ _ => ⟨rfl, eq63, (by decide : (((((0 + 0) + 0) + 0) + 0) + 0) + 0 ≤ _), (by decide : (((((0 + 0) + 0) + 0) + 0) + 0) + 0 ≤ _)⟩)
            dsimp only [Pt.U, Pt.locs, Pt.cells, Pt.slots] at X70 l70 y70 z70 st70 hQ70
            subst l70 y70 z70
            obtain ⟨rfl, Nq70, Kq70, f70_0, f70_1⟩ := hQ70
            have N70 := Fr.app N63 Nq70
            have Vh70 : Arv Z T70.heap hT kh .int (6 : Int32) [(.int eB), (.int sT), (.int eC), (.int eD), (.int eE), (.int eF)] (.int (0 : Int32)) := f70_0
            refine ov (B := T70.setTop (mkF m 171 #[rv aT, iv sT, .val (.double wT), .second, iv (1 : Int32), iv (3 : Int32)] [])) (fun t k => st70.trans k) ?_
            refine own_leafV X70 hx hlk Bd.returns (hb hby own_d5_171) (by decide) (by decide) ?_
            show QT Z aT sT wT gT hT pT kt kh kp tt PP eA eB eC eD eE eF yT h0 n0 _ T70.heap _
            refine ⟨eB, sT, eC, eD, eE, eF, (own_mv (own_mv PP eB (0 : Int32)) sT (1 : Int32)), ?_, N70, ((((Keep.refl h0 [gT, hT, pT]).wr W3 (Or.inl (List.mem_of_getElem? (i := 0) rfl))).trans Kq41 (allS (Or.inl (List.mem_of_getElem? (i := 1) rfl)) (allS (Or.inl (List.mem_of_getElem? (i := 2) rfl)) all0))).trans Kq70 (allS (Or.inl (List.mem_of_getElem? (i := 1) rfl)) (allS (Or.inl (List.mem_of_getElem? (i := 2) rfl)) all0))), ?_, ?_, ?_, ?_, ((V3.keep Kq41 (ninS ngh (ninS ngp nin0))).keep Kq70 (ninS ngh (ninS ngp nin0))), Vh70, f70_1⟩
            · rfl
            · exact own_I1mv qI qR qY
            · exact ⟨(own_mvl (own_mvl qL)), reB, qR, reC, reD, reE, reF, ((own_mvN neB qR reB).trans (own_mvS qL reB)), (own_mvS (own_mvl qL) qR), ((own_mvN neC qR reC).trans ((own_mvN (own_ppne peB peC (by decide)) reB reC).trans peC)), ((own_mvN neD qR reD).trans ((own_mvN (own_ppne peB peD (by decide)) reB reD).trans peD)), ((own_mvN neE qR reE).trans ((own_mvN (own_ppne peB peE (by decide)) reB reE).trans peE)), ((own_mvN neF qR reF).trans ((own_mvN (own_ppne peB peF (by decide)) reB reF).trans peF))⟩
            · intro q hq'
              rcases qS q hq' with h | h | h | h | h | h
              · exact Or.inr (Or.inl (h.trans hq.symm))
              · exact Or.inl (h)
              · exact Or.inr (Or.inr (Or.inl (h)))
              · exact Or.inr (Or.inr (Or.inr (Or.inl (h))))
              · exact Or.inr (Or.inr (Or.inr (Or.inr (Or.inl (h)))))
              · exact Or.inr (Or.inr (Or.inr (Or.inr (Or.inr ((h))))))
            · exact ⟨by omega, by omega, by omega, by omega, by omega⟩
      · refine ov (B := T38.setTop (mkF m 141 #[rv aT, iv sT, .val (.double wT), .second, iv (0 : Int32), iv (1 : Int32)] [])) (fun t k => XS.ifNo X38.here hx rfl (hb hby own_d5_138) rfl ((if0 _ _).trans (teq (own_bit0.mpr hc138)).2) k) ?_
        refine oGO (n := 164) X38 hx (hb hby own_d5_141) (by decide) (by decide) ?_
        refine oALN (n := 165) X38 hx (hb hby own_d5_164) rfl rfl rfl ?_
        refine oILN (n := 166) X38 hx (hb hby own_d5_165) rfl rfl ?_
        refine oIL (n := 168) X38 hx (hb hby own_d5_166) rfl rfl ?_
        obtain ⟨cq71, q71, q71'⟩ := (Eo.wr W3).cell
        obtain ⟨_, _, ⟨T71, L71, k71, n71⟩, -, X71, ⟨Lc71, hQ71, l71, y71, z71⟩, st71⟩ := X38.privateBack hx (y := (⟨"com/example/meerkat/meerkat/simulate/Completions", "move", "(II)V"⟩ : MethodName)) hown (mvT hZ (oW hw 36 rfl)) (mvT hZ (oW hw 37 rfl)) (own_selP (y' := (⟨"com/example/meerkat/meerkat/simulate/Completions", "set", "(ID)V"⟩ : MethodName)) rfl (mvT hZ (oW hw 30 rfl)) (Cond.privateMethod_at (mvP hZ (oW hw 38 rfl) (args := #[]))) (mvT hZ (oW hw 37 rfl)) (by decide)) (Cond.privateMethod_at (mvP hZ (oW hw 38 rfl) (args := #[]))) (mvT hZ (oW hw 39 rfl)) (by decide) (backOf (W := 0) (rmM l Z a0 hw [] aT sT (0 : Int32) hT pT kh kp [eA, eB, eC, eD, eE, eF] PP h3 n0 (Nat.le_trans Z0 (Keep.of_wr W3).1) (Eo.wr W3) (Fh.other W3 (Or.inl (Exa.neArv (Eo.wr W3) V3 (oW hw 1 rfl)))) (Fp.other W3 (Or.inl (Exa.neArv (Eo.wr W3) V3 (oW hw 1 rfl)))) (Vh.other W3 (Ne.symm ngh)) (Vp.other W3 (Ne.symm ngp)) nhp g_hT g_pT rfl qL qR ⟨by decide, by decide⟩) hZ (oW hw 39 rfl) (oW hw 2 rfl) (by decide) (by decide)) (g := (mkF m 168 #[rv aT, iv sT, .val (.double wT), .second, iv (0 : Int32), iv (1 : Int32)] [(.int (0 : Int32)), (.int sT), (.ref aT)])) rfl (by rw [hml]; rfl) (Steps.refl _) (a := aT) (by rw [eq38]; exact q71) q71' (argsL := [(.int sT), (.int (0 : Int32))]) (rest := []) (lenOf own_pd1 rfl) rfl (by show 2 * 0 + _ ≤ _; exact Nat.le_of_eq rfl) (hb hby own_d5_168) (fun _ _ => ⟨rfl, eq38, (by decide : ((0 + 0) + 0) + 0 ≤ _), (by decide : ((0 + 0) + 0) + 0 ≤ _)⟩)
        dsimp only [Pt.U, Pt.locs, Pt.cells, Pt.slots] at X71 l71 y71 z71 st71 hQ71
        subst l71 y71 z71
        obtain ⟨rfl, Nq71, Kq71, f71_0, f71_1⟩ := hQ71
        have N71 := Fr.app N38 Nq71
        have Vh71 : Arv Z T71.heap hT kh .int (6 : Int32) [(.int sT), (.int eB), (.int eC), (.int eD), (.int eE), (.int eF)] (.int (0 : Int32)) := f71_0
        refine ov (B := T71.setTop (mkF m 171 #[rv aT, iv sT, .val (.double wT), .second, iv (0 : Int32), iv (1 : Int32)] [])) (fun t k => st71.trans k) ?_
        refine own_leafV X71 hx hlk Bd.returns (hb hby own_d5_171) (by decide) (by decide) ?_
        show QT Z aT sT wT gT hT pT kt kh kp tt PP eA eB eC eD eE eF yT h0 n0 _ T71.heap _
        refine ⟨sT, eB, eC, eD, eE, eF, (own_mv PP sT (0 : Int32)), ?_, N71, (((Keep.refl h0 [gT, hT, pT]).wr W3 (Or.inl (List.mem_of_getElem? (i := 0) rfl))).trans Kq71 (allS (Or.inl (List.mem_of_getElem? (i := 1) rfl)) (allS (Or.inl (List.mem_of_getElem? (i := 2) rfl)) all0))), ?_, ?_, ?_, ?_, (V3.keep Kq71 (ninS ngh (ninS ngp nin0))), Vh71, f71_1⟩
        · rfl
        · exact own_I1mv qI qR qY
        · exact ⟨(own_mvl qL), qR, reB, reC, reD, reE, reF, (own_mvS qL qR), ((own_mvN neB qR reB).trans peB), ((own_mvN neC qR reC).trans peC), ((own_mvN neD qR reD).trans peD), ((own_mvN neE qR reE).trans peE), ((own_mvN neF qR reF).trans peF)⟩
        · intro q hq'
          rcases qS q hq' with h | h | h | h | h | h
          · exact Or.inl (h.trans hq.symm)
          · exact Or.inr (Or.inl (h))
          · exact Or.inr (Or.inr (Or.inl (h)))
          · exact Or.inr (Or.inr (Or.inr (Or.inl (h))))
          · exact Or.inr (Or.inr (Or.inr (Or.inr (Or.inl (h)))))
          · exact Or.inr (Or.inr (Or.inr (Or.inr (Or.inr ((h))))))
        · exact ⟨by omega, by omega, by omega, by omega, by omega⟩
  · have hk : PP.getD sT.toNatClampNeg 0 = (1 : Int32) := by rw [hq]; exact peB
    rw [hk]
    have neA : sT ≠ eA := own_ppne (l := PP) hk peA (by decide)
    have eeA : own_rk (own_mv tt sT yT) eA = own_rk tt eA := own_rkne neA qR reA
    have neC : sT ≠ eC := own_ppne (l := PP) hk peC (by decide)
    have eeC : own_rk (own_mv tt sT yT) eC = own_rk tt eC := own_rkne neC qR reC
    have neD : sT ≠ eD := own_ppne (l := PP) hk peD (by decide)
    have eeD : own_rk (own_mv tt sT yT) eD = own_rk tt eD := own_rkne neD qR reD
    have neE : sT ≠ eE := own_ppne (l := PP) hk peE (by decide)
    have eeE : own_rk (own_mv tt sT yT) eE = own_rk tt eE := own_rkne neE qR reE
    have neF : sT ≠ eF := own_ppne (l := PP) hk peF (by decide)
    have eeF : own_rk (own_mv tt sT yT) eF = own_rk tt eF := own_rkne neF qR reF
    refine oIL (n := 17) X4 hx (hb hby own_d5_15) rfl rfl ?_
    have hc17 : (0 : Int32) < (1 : Int32) := by decide
    refine ov (B := T4.setTop (mkF m 20 #[rv aT, iv sT, .val (.double wT), .second, iv (1 : Int32), uu] [])) (fun t k => XS.ifNo X4.here hx rfl (hb hby own_d5_17) rfl ((if0 _ _).trans (tlt hc17).2.2.2) k) ?_
    refine oALN (n := 21) X4 hx (hb hby own_d5_20) rfl rfl rfl ?_
    refine oILN (n := 22) X4 hx (hb hby own_d5_21) rfl rfl ?_
    refine oALN (n := 23) X4 hx (hb hby own_d5_22) rfl rfl rfl ?_
    obtain ⟨T72, X72, e72, st72⟩ := getF X4 hx hZ hown (host := "") (Or.inl (oW hw 13 rfl)) Via.refl e4 (Fh.other W3 (Or.inl (Exa.neArv (Eo.wr W3) V3 (oW hw 1 rfl)))) (g := (mkF m 23 #[rv aT, iv sT, .val (.double wT), .second, iv (1 : Int32), uu] [(.ref aT), (.int sT), (.ref aT)])) rfl rfl (hb hby own_d5_23)
    refine ov (B := T72.setTop (mkF m 26 #[rv aT, iv sT, .val (.double wT), .second, iv (1 : Int32), uu] [(.ref hT), (.int sT), (.ref aT)])) (fun t k => st72 t k) ?_
    refine oIL (n := 28) X72 hx (hb hby own_d5_26) rfl rfl ?_
    refine oIC (n := 29) X72 hx (1 : Int32) (hb hby own_d5_28) (by decide) rfl ?_
    refine ov (B := T72.setTop (mkF m 30 #[rv aT, iv sT, .val (.double wT), .second, iv (1 : Int32), uu] [(.int (0 : Int32)), (.ref hT), (.int sT), (.ref aT)])) (fun t k => XS.isub X72.here hx rfl (hb hby own_d5_29) rfl k) ?_
    refine oIC (n := 31) X72 hx (2 : Int32) (hb hby own_d5_30) (by decide) rfl ?_
    refine ov (B := T72.setTop (mkF m 32 #[rv aT, iv sT, .val (.double wT), .second, iv (1 : Int32), uu] [(.int (0 : Int32)), (.ref hT), (.int sT), (.ref aT)])) (fun t k => XS.idiv X72.here hx rfl (hb hby own_d5_31) rfl (by decide) (by rw [(by decide : (0 : Int32) / (2 : Int32) = (0 : Int32))]; exact k)) ?_
    obtain ⟨cl73, Ar73, q73, S73, M73, H73, G73⟩ := id (Vh.other W3 (Ne.symm ngh))
    have hin73 : ¬ ((0 : Int32) < 0 ∨ cl73.slots.size ≤ ((0 : Int32)).toNatClampNeg) := inb_of S73 ⟨by decide, by decide⟩
    refine ov (B := T72.setTop (mkF m 33 #[rv aT, iv sT, .val (.double wT), .second, iv (1 : Int32), uu] [(.int eA), (.int sT), (.ref aT)])) (fun t k => X72.iaload hx (j := (0 : Int32)) (v := (.int eA)) (by rw [e72]; exact Ar73.1) (State.isArrayOf_alike hZ.alike Ar73.2.1) Ar73.2.2 hin73 (Has.at H73 hin73 rfl) (g := (mkF m 32 #[rv aT, iv sT, .val (.double wT), .second, iv (1 : Int32), uu] [(.int (0 : Int32)), (.ref hT), (.int sT), (.ref aT)])) rfl rfl (hb hby own_d5_32) _ k) ?_
    obtain ⟨cq74, q74, q74'⟩ := (Eo.wr W3).cell
    obtain ⟨_, _, ⟨T74, L74, k74, n74⟩, -, X74, ⟨Lc74, hQ74, l74, y74, z74⟩, st74⟩ := X72.privateBack hx (y := (⟨"com/example/meerkat/meerkat/simulate/Completions", "before", "(II)Z"⟩ : MethodName)) hown (mvT hZ (oW hw 32 rfl)) (mvT hZ (oW hw 33 rfl)) (own_selP (y' := (⟨"com/example/meerkat/meerkat/simulate/Completions", "set", "(ID)V"⟩ : MethodName)) rfl (mvT hZ (oW hw 30 rfl)) (Cond.privateMethod_at (mvP hZ (oW hw 34 rfl) (args := #[]))) (mvT hZ (oW hw 33 rfl)) (by decide)) (Cond.privateMethod_at (mvP hZ (oW hw 34 rfl) (args := #[]))) (mvT hZ (oW hw 35 rfl)) (by decide) (backOf (W := 0) (rmB l Z a0 hw [] aT sT eA gT kt (own_mv tt sT yT) h3 n0 (Nat.le_trans Z0 (Keep.of_wr W3).1) (Ft.other W3 (Or.inl (Exa.neArv (Eo.wr W3) V3 (oW hw 1 rfl)))) V3 (own_I1mv qI qR qY) qR reA) hZ (oW hw 35 rfl) (oW hw 2 rfl) (by decide) (by decide)) (g := (mkF m 33 #[rv aT, iv sT, .val (.double wT), .second, iv (1 : Int32), uu] [(.int eA), (.int sT), (.ref aT)])) rfl (by rw [hml]; rfl) (Steps.refl _) (a := aT) (by rw [e72]; exact q74) q74' (argsL := [(.int sT), (.int eA)]) (rest := []) (lenOf own_pd0 rfl) rfl (by show 2 * 0 + _ ≤ _; exact Nat.le_of_eq rfl) (hb hby own_d5_33) (fun _ _ => ⟨rfl, e72, (by decide : 0 + 0 ≤ _), (by decide : 0 + 0 ≤ _)⟩)
    dsimp only [Pt.U, Pt.locs, Pt.cells, Pt.slots] at X74 l74 y74 z74 st74 hQ74
    subst l74 y74 z74
    obtain ⟨rfl, Nq74, eq74⟩ := hQ74
    have N74 := Fr.app N3 Nq74
    refine ov (B := T74.setTop (mkF m 36 #[rv aT, iv sT, .val (.double wT), .second, iv (1 : Int32), uu] [(.int (own_bit (own_rk (own_mv tt sT yT) sT < own_rk (own_mv tt sT yT) eA)))])) (fun t k => st74.trans k) ?_
    by_cases hc36 : own_rk (own_mv tt sT yT) sT < own_rk (own_mv tt sT yT) eA
    · refine ov (B := T74.setTop (mkF m 39 #[rv aT, iv sT, .val (.double wT), .second, iv (1 : Int32), uu] [])) (fun t k => XS.ifNo X74.here hx rfl (hb hby own_d5_36) rfl ((if0 _ _).trans (feq (own_bitne hc36)).1) k) ?_
      refine oALN (n := 40) X74 hx (hb hby own_d5_39) rfl rfl rfl ?_
      refine oALN (n := 41) X74 hx (hb hby own_d5_40) rfl rfl rfl ?_
      obtain ⟨T75, X75, e75, st75⟩ := getF X74 hx hZ hown (host := "") (Or.inl (oW hw 13 rfl)) Via.refl eq74 (Fh.other W3 (Or.inl (Exa.neArv (Eo.wr W3) V3 (oW hw 1 rfl)))) (g := (mkF m 41 #[rv aT, iv sT, .val (.double wT), .second, iv (1 : Int32), uu] [(.ref aT), (.ref aT)])) rfl rfl (hb hby own_d5_41)
      refine ov (B := T75.setTop (mkF m 44 #[rv aT, iv sT, .val (.double wT), .second, iv (1 : Int32), uu] [(.ref hT), (.ref aT)])) (fun t k => st75 t k) ?_
      refine oIL (n := 46) X75 hx (hb hby own_d5_44) rfl rfl ?_
      refine oIC (n := 47) X75 hx (1 : Int32) (hb hby own_d5_46) (by decide) rfl ?_
      refine ov (B := T75.setTop (mkF m 48 #[rv aT, iv sT, .val (.double wT), .second, iv (1 : Int32), uu] [(.int (0 : Int32)), (.ref hT), (.ref aT)])) (fun t k => XS.isub X75.here hx rfl (hb hby own_d5_47) rfl k) ?_
      refine oIC (n := 49) X75 hx (2 : Int32) (hb hby own_d5_48) (by decide) rfl ?_
      refine ov (B := T75.setTop (mkF m 50 #[rv aT, iv sT, .val (.double wT), .second, iv (1 : Int32), uu] [(.int (0 : Int32)), (.ref hT), (.ref aT)])) (fun t k => XS.idiv X75.here hx rfl (hb hby own_d5_49) rfl (by decide) (by rw [(by decide : (0 : Int32) / (2 : Int32) = (0 : Int32))]; exact k)) ?_
      obtain ⟨cl76, Ar76, q76, S76, M76, H76, G76⟩ := id (Vh.other W3 (Ne.symm ngh))
      have hin76 : ¬ ((0 : Int32) < 0 ∨ cl76.slots.size ≤ ((0 : Int32)).toNatClampNeg) := inb_of S76 ⟨by decide, by decide⟩
      refine ov (B := T75.setTop (mkF m 51 #[rv aT, iv sT, .val (.double wT), .second, iv (1 : Int32), uu] [(.int eA), (.ref aT)])) (fun t k => X75.iaload hx (j := (0 : Int32)) (v := (.int eA)) (by rw [e75]; exact Ar76.1) (State.isArrayOf_alike hZ.alike Ar76.2.1) Ar76.2.2 hin76 (Has.at H76 hin76 rfl) (g := (mkF m 50 #[rv aT, iv sT, .val (.double wT), .second, iv (1 : Int32), uu] [(.int (0 : Int32)), (.ref hT), (.ref aT)])) rfl rfl (hb hby own_d5_50) _ k) ?_
      refine oIL (n := 53) X75 hx (hb hby own_d5_51) rfl rfl ?_
      obtain ⟨cq77, q77, q77'⟩ := (Eo.wr W3).cell
      obtain ⟨_, _, ⟨T77, L77, k77, n77⟩, -, X77, ⟨Lc77, hQ77, l77, y77, z77⟩, st77⟩ := X75.privateBack hx (y := (⟨"com/example/meerkat/meerkat/simulate/Completions", "move", "(II)V"⟩ : MethodName)) hown (mvT hZ (oW hw 36 rfl)) (mvT hZ (oW hw 37 rfl)) (own_selP (y' := (⟨"com/example/meerkat/meerkat/simulate/Completions", "set", "(ID)V"⟩ : MethodName)) rfl (mvT hZ (oW hw 30 rfl)) (Cond.privateMethod_at (mvP hZ (oW hw 38 rfl) (args := #[]))) (mvT hZ (oW hw 37 rfl)) (by decide)) (Cond.privateMethod_at (mvP hZ (oW hw 38 rfl) (args := #[]))) (mvT hZ (oW hw 39 rfl)) (by decide) (backOf (W := 0) (rmM l Z a0 hw [] aT eA (1 : Int32) hT pT kh kp [eA, eB, eC, eD, eE, eF] PP h3 n0 (Nat.le_trans Z0 (Keep.of_wr W3).1) (Eo.wr W3) (Fh.other W3 (Or.inl (Exa.neArv (Eo.wr W3) V3 (oW hw 1 rfl)))) (Fp.other W3 (Or.inl (Exa.neArv (Eo.wr W3) V3 (oW hw 1 rfl)))) (Vh.other W3 (Ne.symm ngh)) (Vp.other W3 (Ne.symm ngp)) nhp g_hT g_pT rfl qL reA ⟨by decide, by decide⟩) hZ (oW hw 39 rfl) (oW hw 2 rfl) (by decide) (by decide)) (g := (mkF m 53 #[rv aT, iv sT, .val (.double wT), .second, iv (1 : Int32), uu] [(.int (1 : Int32)), (.int eA), (.ref aT)])) rfl (by rw [hml]; rfl) (Steps.refl _) (a := aT) (by rw [e75]; exact q77) q77' (argsL := [(.int eA), (.int (1 : Int32))]) (rest := []) (lenOf own_pd1 rfl) rfl (by show 2 * 0 + _ ≤ _; exact Nat.le_of_eq rfl) (hb hby own_d5_53) (fun _ _ => ⟨rfl, e75, (by decide : (0 + 0) + 0 ≤ _), (by decide : (0 + 0) + 0 ≤ _)⟩)
      dsimp only [Pt.U, Pt.locs, Pt.cells, Pt.slots] at X77 l77 y77 z77 st77 hQ77
      subst l77 y77 z77
      obtain ⟨rfl, Nq77, Kq77, f77_0, f77_1⟩ := hQ77
      have N77 := Fr.app N74 Nq77
      have Vh77 : Arv Z T77.heap hT kh .int (6 : Int32) [(.int eA), (.int eA), (.int eC), (.int eD), (.int eE), (.int eF)] (.int (0 : Int32)) := f77_0
      refine ov (B := T77.setTop (mkF m 56 #[rv aT, iv sT, .val (.double wT), .second, iv (1 : Int32), uu] [])) (fun t k => st77.trans k) ?_
      refine oIL (n := 58) X77 hx (hb hby own_d5_56) rfl rfl ?_
      refine oIC (n := 59) X77 hx (1 : Int32) (hb hby own_d5_58) (by decide) rfl ?_
      refine ov (B := T77.setTop (mkF m 60 #[rv aT, iv sT, .val (.double wT), .second, iv (1 : Int32), uu] [(.int (0 : Int32))])) (fun t k => XS.isub X77.here hx rfl (hb hby own_d5_59) rfl k) ?_
      refine oIC (n := 61) X77 hx (2 : Int32) (hb hby own_d5_60) (by decide) rfl ?_
      refine ov (B := T77.setTop (mkF m 62 #[rv aT, iv sT, .val (.double wT), .second, iv (1 : Int32), uu] [(.int (0 : Int32))])) (fun t k => XS.idiv X77.here hx rfl (hb hby own_d5_61) rfl (by decide) (by rw [(by decide : (0 : Int32) / (2 : Int32) = (0 : Int32))]; exact k)) ?_
      refine ov (B := T77.setTop (mkF m 64 #[rv aT, iv sT, .val (.double wT), .second, iv (0 : Int32), uu] [])) (fun t k => XS.istore X77.here hx rfl (hb hby own_d5_62) rfl (l' := #[rv aT, iv sT, .val (.double wT), .second, iv (0 : Int32), uu]) rfl k) ?_
      refine oGO (n := 15) X77 hx (hb hby own_d5_64) (by decide) (by decide) ?_
      refine oIL (n := 17) X77 hx (hb hby own_d5_15) rfl rfl ?_
      have hc17 : ¬ ((0 : Int32) < (0 : Int32)) := by decide
      refine ov (B := T77.setTop (mkF m 67 #[rv aT, iv sT, .val (.double wT), .second, iv (0 : Int32), uu] [])) (fun t k => XS.ifYes X77.here hx rfl (pc0 := 17) (pc' := 67) rfl (hb hby own_d5_17) rfl ((if0 _ _).trans (flt hc17).2.2.2) (by decide) (by decide) k) ?_
      refine oIC (n := 68) X77 hx (2 : Int32) (hb hby own_d5_67) (by decide) rfl ?_
      refine oIL (n := 70) X77 hx (hb hby own_d5_68) rfl rfl ?_
      refine ov (B := T77.setTop (mkF m 71 #[rv aT, iv sT, .val (.double wT), .second, iv (0 : Int32), uu] [(.int (0 : Int32))])) (fun t k => XS.imul X77.here hx rfl (hb hby own_d5_70) rfl k) ?_
      refine oIC (n := 72) X77 hx (1 : Int32) (hb hby own_d5_71) (by decide) rfl ?_
      refine ov (B := T77.setTop (mkF m 73 #[rv aT, iv sT, .val (.double wT), .second, iv (0 : Int32), uu] [(.int (1 : Int32))])) (fun t k => XS.iadd X77.here hx rfl (hb hby own_d5_72) rfl k) ?_
      refine ov (B := T77.setTop (mkF m 75 #[rv aT, iv sT, .val (.double wT), .second, iv (0 : Int32), iv (1 : Int32)] [])) (fun t k => XS.istore X77.here hx rfl (hb hby own_d5_73) rfl (l' := #[rv aT, iv sT, .val (.double wT), .second, iv (0 : Int32), iv (1 : Int32)]) rfl k) ?_
      refine oIL (n := 77) X77 hx (hb hby own_d5_75) rfl rfl ?_
      refine oALN (n := 78) X77 hx (hb hby own_d5_77) rfl rfl rfl ?_
      obtain ⟨T78, X78, e78, st78⟩ := getF X77 hx hZ hown (host := "") (Or.inl (oW hw 13 rfl)) Via.refl rfl ((Fh.other W3 (Or.inl (Exa.neArv (Eo.wr W3) V3 (oW hw 1 rfl)))).keep Kq77 (ninS (Exa.neArv ((Eo.wr W3).keep Kq77) Vh77 (oW hw 1 rfl)) (ninS (Exa.neArv ((Eo.wr W3).keep Kq77) f77_1 (oW hw 1 rfl)) nin0))) (g := (mkF m 78 #[rv aT, iv sT, .val (.double wT), .second, iv (0 : Int32), iv (1 : Int32)] [(.ref aT), (.int (1 : Int32))])) rfl rfl (hb hby own_d5_78)
      refine ov (B := T78.setTop (mkF m 81 #[rv aT, iv sT, .val (.double wT), .second, iv (0 : Int32), iv (1 : Int32)] [(.ref hT), (.int (1 : Int32))])) (fun t k => st78 t k) ?_
      obtain ⟨cl79, Ar79, q79, S79, M79, H79, G79⟩ := id Vh77
      refine ov (B := T78.setTop (mkF m 82 #[rv aT, iv sT, .val (.double wT), .second, iv (0 : Int32), iv (1 : Int32)] [(.int (6 : Int32)), (.int (1 : Int32))])) (fun t k => X78.arraylength hx (by rw [e78]; exact Ar79.1) (State.isArrayOf_alike hZ.alike Ar79.2.1) (g := (mkF m 81 #[rv aT, iv sT, .val (.double wT), .second, iv (0 : Int32), iv (1 : Int32)] [(.ref hT), (.int (1 : Int32))])) rfl rfl (hb hby own_d5_81) _ (by rw [len_of S79 M79]; exact k)) ?_
      have hc82 : (1 : Int32) < (6 : Int32) := by decide
      refine ov (B := T78.setTop (mkF m 88 #[rv aT, iv sT, .val (.double wT), .second, iv (0 : Int32), iv (1 : Int32)] [])) (fun t k => XS.icmpYes X78.here hx rfl (pc0 := 82) (pc' := 88) rfl (hb hby own_d5_82) rfl (tlt hc82).1 (by decide) (by decide) k) ?_
      refine oIL (n := 90) X78 hx (hb hby own_d5_88) rfl rfl ?_
      refine oIC (n := 91) X78 hx (1 : Int32) (hb hby own_d5_90) (by decide) rfl ?_
      refine ov (B := T78.setTop (mkF m 92 #[rv aT, iv sT, .val (.double wT), .second, iv (0 : Int32), iv (1 : Int32)] [(.int (2 : Int32))])) (fun t k => XS.iadd X78.here hx rfl (hb hby own_d5_91) rfl k) ?_
      refine oALN (n := 93) X78 hx (hb hby own_d5_92) rfl rfl rfl ?_
      obtain ⟨T80, X80, e80, st80⟩ := getF X78 hx hZ hown (host := "") (Or.inl (oW hw 13 rfl)) Via.refl e78 ((Fh.other W3 (Or.inl (Exa.neArv (Eo.wr W3) V3 (oW hw 1 rfl)))).keep Kq77 (ninS (Exa.neArv ((Eo.wr W3).keep Kq77) Vh77 (oW hw 1 rfl)) (ninS (Exa.neArv ((Eo.wr W3).keep Kq77) f77_1 (oW hw 1 rfl)) nin0))) (g := (mkF m 93 #[rv aT, iv sT, .val (.double wT), .second, iv (0 : Int32), iv (1 : Int32)] [(.ref aT), (.int (2 : Int32))])) rfl rfl (hb hby own_d5_93)
      refine ov (B := T80.setTop (mkF m 96 #[rv aT, iv sT, .val (.double wT), .second, iv (0 : Int32), iv (1 : Int32)] [(.ref hT), (.int (2 : Int32))])) (fun t k => st80 t k) ?_
      obtain ⟨cl81, Ar81, q81, S81, M81, H81, G81⟩ := id Vh77
      refine ov (B := T80.setTop (mkF m 97 #[rv aT, iv sT, .val (.double wT), .second, iv (0 : Int32), iv (1 : Int32)] [(.int (6 : Int32)), (.int (2 : Int32))])) (fun t k => X80.arraylength hx (by rw [e80]; exact Ar81.1) (State.isArrayOf_alike hZ.alike Ar81.2.1) (g := (mkF m 96 #[rv aT, iv sT, .val (.double wT), .second, iv (0 : Int32), iv (1 : Int32)] [(.ref hT), (.int (2 : Int32))])) rfl rfl (hb hby own_d5_96) _ (by rw [len_of S81 M81]; exact k)) ?_
      have hc97 : (2 : Int32) < (6 : Int32) := by decide
      refine ov (B := T80.setTop (mkF m 100 #[rv aT, iv sT, .val (.double wT), .second, iv (0 : Int32), iv (1 : Int32)] [])) (fun t k => XS.icmpNo X80.here hx rfl (hb hby own_d5_97) rfl (tlt hc97).2.1 k) ?_
      refine oALN (n := 101) X80 hx (hb hby own_d5_100) rfl rfl rfl ?_
      refine oALN (n := 102) X80 hx (hb hby own_d5_101) rfl rfl rfl ?_
      obtain ⟨T82, X82, e82, st82⟩ := getF X80 hx hZ hown (host := "") (Or.inl (oW hw 13 rfl)) Via.refl e80 ((Fh.other W3 (Or.inl (Exa.neArv (Eo.wr W3) V3 (oW hw 1 rfl)))).keep Kq77 (ninS (Exa.neArv ((Eo.wr W3).keep Kq77) Vh77 (oW hw 1 rfl)) (ninS (Exa.neArv ((Eo.wr W3).keep Kq77) f77_1 (oW hw 1 rfl)) nin0))) (g := (mkF m 102 #[rv aT, iv sT, .val (.double wT), .second, iv (0 : Int32), iv (1 : Int32)] [(.ref aT), (.ref aT)])) rfl rfl (hb hby own_d5_102)
      refine ov (B := T82.setTop (mkF m 105 #[rv aT, iv sT, .val (.double wT), .second, iv (0 : Int32), iv (1 : Int32)] [(.ref hT), (.ref aT)])) (fun t k => st82 t k) ?_
      refine oIL (n := 107) X82 hx (hb hby own_d5_105) rfl rfl ?_
      refine oIC (n := 108) X82 hx (1 : Int32) (hb hby own_d5_107) (by decide) rfl ?_
      refine ov (B := T82.setTop (mkF m 109 #[rv aT, iv sT, .val (.double wT), .second, iv (0 : Int32), iv (1 : Int32)] [(.int (2 : Int32)), (.ref hT), (.ref aT)])) (fun t k => XS.iadd X82.here hx rfl (hb hby own_d5_108) rfl k) ?_
      obtain ⟨cl83, Ar83, q83, S83, M83, H83, G83⟩ := id Vh77
      have hin83 : ¬ ((2 : Int32) < 0 ∨ cl83.slots.size ≤ ((2 : Int32)).toNatClampNeg) := inb_of S83 ⟨by decide, by decide⟩
      refine ov (B := T82.setTop (mkF m 110 #[rv aT, iv sT, .val (.double wT), .second, iv (0 : Int32), iv (1 : Int32)] [(.int eC), (.ref aT)])) (fun t k => X82.iaload hx (j := (2 : Int32)) (v := (.int eC)) (by rw [e82]; exact Ar83.1) (State.isArrayOf_alike hZ.alike Ar83.2.1) Ar83.2.2 hin83 (Has.at H83 hin83 rfl) (g := (mkF m 109 #[rv aT, iv sT, .val (.double wT), .second, iv (0 : Int32), iv (1 : Int32)] [(.int (2 : Int32)), (.ref hT), (.ref aT)])) rfl rfl (hb hby own_d5_109) _ k) ?_
      refine oALN (n := 111) X82 hx (hb hby own_d5_110) rfl rfl rfl ?_
      obtain ⟨T84, X84, e84, st84⟩ := getF X82 hx hZ hown (host := "") (Or.inl (oW hw 13 rfl)) Via.refl e82 ((Fh.other W3 (Or.inl (Exa.neArv (Eo.wr W3) V3 (oW hw 1 rfl)))).keep Kq77 (ninS (Exa.neArv ((Eo.wr W3).keep Kq77) Vh77 (oW hw 1 rfl)) (ninS (Exa.neArv ((Eo.wr W3).keep Kq77) f77_1 (oW hw 1 rfl)) nin0))) (g := (mkF m 111 #[rv aT, iv sT, .val (.double wT), .second, iv (0 : Int32), iv (1 : Int32)] [(.ref aT), (.int eC), (.ref aT)])) rfl rfl (hb hby own_d5_111)
      refine ov (B := T84.setTop (mkF m 114 #[rv aT, iv sT, .val (.double wT), .second, iv (0 : Int32), iv (1 : Int32)] [(.ref hT), (.int eC), (.ref aT)])) (fun t k => st84 t k) ?_
      refine oIL (n := 116) X84 hx (hb hby own_d5_114) rfl rfl ?_
      obtain ⟨cl85, Ar85, q85, S85, M85, H85, G85⟩ := id Vh77
      have hin85 : ¬ ((1 : Int32) < 0 ∨ cl85.slots.size ≤ ((1 : Int32)).toNatClampNeg) := inb_of S85 ⟨by decide, by decide⟩
      refine ov (B := T84.setTop (mkF m 117 #[rv aT, iv sT, .val (.double wT), .second, iv (0 : Int32), iv (1 : Int32)] [(.int eA), (.int eC), (.ref aT)])) (fun t k => X84.iaload hx (j := (1 : Int32)) (v := (.int eA)) (by rw [e84]; exact Ar85.1) (State.isArrayOf_alike hZ.alike Ar85.2.1) Ar85.2.2 hin85 (Has.at H85 hin85 rfl) (g := (mkF m 116 #[rv aT, iv sT, .val (.double wT), .second, iv (0 : Int32), iv (1 : Int32)] [(.int (1 : Int32)), (.ref hT), (.int eC), (.ref aT)])) rfl rfl (hb hby own_d5_116) _ k) ?_
      obtain ⟨cq86, q86, q86'⟩ := ((Eo.wr W3).keep Kq77).cell
      obtain ⟨_, _, ⟨T86, L86, k86, n86⟩, -, X86, ⟨Lc86, hQ86, l86, y86, z86⟩, st86⟩ := X84.privateBack hx (y := (⟨"com/example/meerkat/meerkat/simulate/Completions", "before", "(II)Z"⟩ : MethodName)) hown (mvT hZ (oW hw 32 rfl)) (mvT hZ (oW hw 33 rfl)) (own_selP (y' := (⟨"com/example/meerkat/meerkat/simulate/Completions", "set", "(ID)V"⟩ : MethodName)) rfl (mvT hZ (oW hw 30 rfl)) (Cond.privateMethod_at (mvP hZ (oW hw 34 rfl) (args := #[]))) (mvT hZ (oW hw 33 rfl)) (by decide)) (Cond.privateMethod_at (mvP hZ (oW hw 34 rfl) (args := #[]))) (mvT hZ (oW hw 35 rfl)) (by decide) (backOf (W := 0) (rmB l Z a0 hw [] aT eC eA gT kt (own_mv tt sT yT) T77.heap n0 (Nat.le_trans (Nat.le_trans Z0 (Keep.of_wr W3).1) Kq77.1) ((Ft.other W3 (Or.inl (Exa.neArv (Eo.wr W3) V3 (oW hw 1 rfl)))).keep Kq77 (ninS (Exa.neArv ((Eo.wr W3).keep Kq77) Vh77 (oW hw 1 rfl)) (ninS (Exa.neArv ((Eo.wr W3).keep Kq77) f77_1 (oW hw 1 rfl)) nin0))) (V3.keep Kq77 (ninS ngh (ninS ngp nin0))) (own_I1mv qI qR qY) reC reA) hZ (oW hw 35 rfl) (oW hw 2 rfl) (by decide) (by decide)) (g := (mkF m 117 #[rv aT, iv sT, .val (.double wT), .second, iv (0 : Int32), iv (1 : Int32)] [(.int eA), (.int eC), (.ref aT)])) rfl (by rw [hml]; rfl) (Steps.refl _) (a := aT) (by rw [e84]; exact q86) q86' (argsL := [(.int eC), (.int eA)]) (rest := []) (lenOf own_pd0 rfl) rfl (by show 2 * 0 + _ ≤ _; exact Nat.le_of_eq rfl) (hb hby own_d5_117) (fun _ _ => ⟨rfl, e84, (by decide : ((0 + 0) + 0) + 0 ≤ _), (by decide : ((0 + 0) + 0) + 0 ≤ _)⟩)
      dsimp only [Pt.U, Pt.locs, Pt.cells, Pt.slots] at X86 l86 y86 z86 st86 hQ86
      subst l86 y86 z86
      obtain ⟨rfl, Nq86, eq86⟩ := hQ86
      have N86 := Fr.app N77 Nq86
      refine ov (B := T86.setTop (mkF m 120 #[rv aT, iv sT, .val (.double wT), .second, iv (0 : Int32), iv (1 : Int32)] [(.int (own_bit (own_rk (own_mv tt sT yT) eC < own_rk (own_mv tt sT yT) eA)))])) (fun t k => st86.trans k) ?_
      by_cases hc120 : own_rk (own_mv tt sT yT) eC < own_rk (own_mv tt sT yT) eA
      · refine ov (B := T86.setTop (mkF m 123 #[rv aT, iv sT, .val (.double wT), .second, iv (0 : Int32), iv (1 : Int32)] [])) (fun t k => XS.ifNo X86.here hx rfl (hb hby own_d5_120) rfl ((if0 _ _).trans (feq (own_bitne hc120)).1) k) ?_
        refine ov (B := T86.setTop (mkF m 126 #[rv aT, iv sT, .val (.double wT), .second, iv (0 : Int32), iv (2 : Int32)] [])) (fun t k => XS.iinc X86.here hx rfl (hb hby own_d5_123) rfl (l' := #[rv aT, iv sT, .val (.double wT), .second, iv (0 : Int32), iv (2 : Int32)]) rfl k) ?_
        refine oALN (n := 127) X86 hx (hb hby own_d5_126) rfl rfl rfl ?_
        refine oALN (n := 128) X86 hx (hb hby own_d5_127) rfl rfl rfl ?_
        obtain ⟨T87, X87, e87, st87⟩ := getF X86 hx hZ hown (host := "") (Or.inl (oW hw 13 rfl)) Via.refl eq86 ((Fh.other W3 (Or.inl (Exa.neArv (Eo.wr W3) V3 (oW hw 1 rfl)))).keep Kq77 (ninS (Exa.neArv ((Eo.wr W3).keep Kq77) Vh77 (oW hw 1 rfl)) (ninS (Exa.neArv ((Eo.wr W3).keep Kq77) f77_1 (oW hw 1 rfl)) nin0))) (g := (mkF m 128 #[rv aT, iv sT, .val (.double wT), .second, iv (0 : Int32), iv (2 : Int32)] [(.ref aT), (.ref aT)])) rfl rfl (hb hby own_d5_128)
        refine ov (B := T87.setTop (mkF m 131 #[rv aT, iv sT, .val (.double wT), .second, iv (0 : Int32), iv (2 : Int32)] [(.ref hT), (.ref aT)])) (fun t k => st87 t k) ?_
        refine oIL (n := 133) X87 hx (hb hby own_d5_131) rfl rfl ?_
        obtain ⟨cl88, Ar88, q88, S88, M88, H88, G88⟩ := id Vh77
        have hin88 : ¬ ((2 : Int32) < 0 ∨ cl88.slots.size ≤ ((2 : Int32)).toNatClampNeg) := inb_of S88 ⟨by decide, by decide⟩
        refine ov (B := T87.setTop (mkF m 134 #[rv aT, iv sT, .val (.double wT), .second, iv (0 : Int32), iv (2 : Int32)] [(.int eC), (.ref aT)])) (fun t k => X87.iaload hx (j := (2 : Int32)) (v := (.int eC)) (by rw [e87]; exact Ar88.1) (State.isArrayOf_alike hZ.alike Ar88.2.1) Ar88.2.2 hin88 (Has.at H88 hin88 rfl) (g := (mkF m 133 #[rv aT, iv sT, .val (.double wT), .second, iv (0 : Int32), iv (2 : Int32)] [(.int (2 : Int32)), (.ref hT), (.ref aT)])) rfl rfl (hb hby own_d5_133) _ k) ?_
        refine oILN (n := 135) X87 hx (hb hby own_d5_134) rfl rfl ?_
        obtain ⟨cq89, q89, q89'⟩ := ((Eo.wr W3).keep Kq77).cell
        obtain ⟨_, _, ⟨T89, L89, k89, n89⟩, -, X89, ⟨Lc89, hQ89, l89, y89, z89⟩, st89⟩ := X87.privateBack hx (y := (⟨"com/example/meerkat/meerkat/simulate/Completions", "before", "(II)Z"⟩ : MethodName)) hown (mvT hZ (oW hw 32 rfl)) (mvT hZ (oW hw 33 rfl)) (own_selP (y' := (⟨"com/example/meerkat/meerkat/simulate/Completions", "set", "(ID)V"⟩ : MethodName)) rfl (mvT hZ (oW hw 30 rfl)) (Cond.privateMethod_at (mvP hZ (oW hw 34 rfl) (args := #[]))) (mvT hZ (oW hw 33 rfl)) (by decide)) (Cond.privateMethod_at (mvP hZ (oW hw 34 rfl) (args := #[]))) (mvT hZ (oW hw 35 rfl)) (by decide) (backOf (W := 0) (rmB l Z a0 hw [] aT eC sT gT kt (own_mv tt sT yT) T77.heap n0 (Nat.le_trans (Nat.le_trans Z0 (Keep.of_wr W3).1) Kq77.1) ((Ft.other W3 (Or.inl (Exa.neArv (Eo.wr W3) V3 (oW hw 1 rfl)))).keep Kq77 (ninS (Exa.neArv ((Eo.wr W3).keep Kq77) Vh77 (oW hw 1 rfl)) (ninS (Exa.neArv ((Eo.wr W3).keep Kq77) f77_1 (oW hw 1 rfl)) nin0))) (V3.keep Kq77 (ninS ngh (ninS ngp nin0))) (own_I1mv qI qR qY) reC qR) hZ (oW hw 35 rfl) (oW hw 2 rfl) (by decide) (by decide)) (g := (mkF m 135 #[rv aT, iv sT, .val (.double wT), .second, iv (0 : Int32), iv (2 : Int32)] [(.int sT), (.int eC), (.ref aT)])) rfl (by rw [hml]; rfl) (Steps.refl _) (a := aT) (by rw [e87]; exact q89) q89' (argsL := [(.int eC), (.int sT)]) (rest := []) (lenOf own_pd0 rfl) rfl (by show 2 * 0 + _ ≤ _; exact Nat.le_of_eq rfl) (hb hby own_d5_135) (fun _ _ => ⟨rfl, e87, (by decide : (((0 + 0) + 0) + 0) + 0 ≤ _), (by decide : (((0 + 0) + 0) + 0) + 0 ≤ _)⟩)
        dsimp only [Pt.U, Pt.locs, Pt.cells, Pt.slots] at X89 l89 y89 z89 st89 hQ89
        subst l89 y89 z89
        obtain ⟨rfl, Nq89, eq89⟩ := hQ89
        have N89 := Fr.app N86 Nq89
        refine ov (B := T89.setTop (mkF m 138 #[rv aT, iv sT, .val (.double wT), .second, iv (0 : Int32), iv (2 : Int32)] [(.int (own_bit (own_rk (own_mv tt sT yT) eC < own_rk (own_mv tt sT yT) sT)))])) (fun t k => st89.trans k) ?_
        have hc138 : ¬ (own_rk (own_mv tt sT yT) eC < own_rk (own_mv tt sT yT) sT) := by omega
        refine ov (B := T89.setTop (mkF m 141 #[rv aT, iv sT, .val (.double wT), .second, iv (0 : Int32), iv (2 : Int32)] [])) (fun t k => XS.ifNo X89.here hx rfl (hb hby own_d5_138) rfl ((if0 _ _).trans (teq (own_bit0.mpr hc138)).2) k) ?_
        refine oGO (n := 164) X89 hx (hb hby own_d5_141) (by decide) (by decide) ?_
        refine oALN (n := 165) X89 hx (hb hby own_d5_164) rfl rfl rfl ?_
        refine oILN (n := 166) X89 hx (hb hby own_d5_165) rfl rfl ?_
        refine oIL (n := 168) X89 hx (hb hby own_d5_166) rfl rfl ?_
        obtain ⟨cq90, q90, q90'⟩ := ((Eo.wr W3).keep Kq77).cell
        obtain ⟨_, _, ⟨T90, L90, k90, n90⟩, -, X90, ⟨Lc90, hQ90, l90, y90, z90⟩, st90⟩ := X89.privateBack hx (y := (⟨"com/example/meerkat/meerkat/simulate/Completions", "move", "(II)V"⟩ : MethodName)) hown (mvT hZ (oW hw 36 rfl)) (mvT hZ (oW hw 37 rfl)) (own_selP (y' := (⟨"com/example/meerkat/meerkat/simulate/Completions", "set", "(ID)V"⟩ : MethodName)) rfl (mvT hZ (oW hw 30 rfl)) (Cond.privateMethod_at (mvP hZ (oW hw 38 rfl) (args := #[]))) (mvT hZ (oW hw 37 rfl)) (by decide)) (Cond.privateMethod_at (mvP hZ (oW hw 38 rfl) (args := #[]))) (mvT hZ (oW hw 39 rfl)) (by decide) (backOf (W := 0) (rmM l Z a0 hw [] aT sT (0 : Int32) hT pT kh kp [eA, eA, eC, eD, eE, eF] (own_mv PP eA (1 : Int32)) T77.heap n0 (Nat.le_trans (Nat.le_trans Z0 (Keep.of_wr W3).1) Kq77.1) ((Eo.wr W3).keep Kq77) ((Fh.other W3 (Or.inl (Exa.neArv (Eo.wr W3) V3 (oW hw 1 rfl)))).keep Kq77 (ninS (Exa.neArv ((Eo.wr W3).keep Kq77) Vh77 (oW hw 1 rfl)) (ninS (Exa.neArv ((Eo.wr W3).keep Kq77) f77_1 (oW hw 1 rfl)) nin0))) ((Fp.other W3 (Or.inl (Exa.neArv (Eo.wr W3) V3 (oW hw 1 rfl)))).keep Kq77 (ninS (Exa.neArv ((Eo.wr W3).keep Kq77) Vh77 (oW hw 1 rfl)) (ninS (Exa.neArv ((Eo.wr W3).keep Kq77) f77_1 (oW hw 1 rfl)) nin0))) Vh77 f77_1 nhp g_hT g_pT rfl (own_mvl qL) qR ⟨by decide, by decide⟩) hZ (oW hw 39 rfl) (oW hw 2 rfl) (by decide) (by decide)) (g := (mkF m 168 #[rv aT, iv sT, .val (.double wT), .second, iv (0 : Int32), iv (2 : Int32)] [(.int (0 : Int32)), (.int sT), (.ref aT)])) rfl (by rw [hml]; rfl) (Steps.refl _) (a := aT) (by rw [eq89]; exact q90) q90' (argsL := [(.int sT), (.int (0 : Int32))]) (rest := []) (lenOf own_pd1 rfl) rfl (by show 2 * 0 + _ ≤ _; exact Nat.le_of_eq rfl) (hb hby own_d5_168) (fun _ _ => ⟨rfl, eq89, (by decide : ((((0 + 0) + 0) + 0) + 0) + 0 ≤ _), (by decide : ((((0 + 0) + 0) + 0) + 0) + 0 ≤ _)⟩)
        dsimp only [Pt.U, Pt.locs, Pt.cells, Pt.slots] at X90 l90 y90 z90 st90 hQ90
        subst l90 y90 z90
        obtain ⟨rfl, Nq90, Kq90, f90_0, f90_1⟩ := hQ90
        have N90 := Fr.app N89 Nq90
        have Vh90 : Arv Z T90.heap hT kh .int (6 : Int32) [(.int sT), (.int eA), (.int eC), (.int eD), (.int eE), (.int eF)] (.int (0 : Int32)) := f90_0
        refine ov (B := T90.setTop (mkF m 171 #[rv aT, iv sT, .val (.double wT), .second, iv (0 : Int32), iv (2 : Int32)] [])) (fun t k => st90.trans k) ?_
        refine own_leafV X90 hx hlk Bd.returns (hb hby own_d5_171) (by decide) (by decide) ?_
        show QT Z aT sT wT gT hT pT kt kh kp tt PP eA eB eC eD eE eF yT h0 n0 _ T90.heap _
        refine ⟨sT, eA, eC, eD, eE, eF, (own_mv (own_mv PP eA (1 : Int32)) sT (0 : Int32)), ?_, N90, ((((Keep.refl h0 [gT, hT, pT]).wr W3 (Or.inl (List.mem_of_getElem? (i := 0) rfl))).trans Kq77 (allS (Or.inl (List.mem_of_getElem? (i := 1) rfl)) (allS (Or.inl (List.mem_of_getElem? (i := 2) rfl)) all0))).trans Kq90 (allS (Or.inl (List.mem_of_getElem? (i := 1) rfl)) (allS (Or.inl (List.mem_of_getElem? (i := 2) rfl)) all0))), ?_, ?_, ?_, ?_, ((V3.keep Kq77 (ninS ngh (ninS ngp nin0))).keep Kq90 (ninS ngh (ninS ngp nin0))), Vh90, f90_1⟩
        · rfl
        · exact own_I1mv qI qR qY
        · exact ⟨(own_mvl (own_mvl qL)), qR, reA, reC, reD, reE, reF, (own_mvS (own_mvl qL) qR), ((own_mvN neA qR reA).trans (own_mvS qL reA)), ((own_mvN neC qR reC).trans ((own_mvN (own_ppne peA peC (by decide)) reA reC).trans peC)), ((own_mvN neD qR reD).trans ((own_mvN (own_ppne peA peD (by decide)) reA reD).trans peD)), ((own_mvN neE qR reE).trans ((own_mvN (own_ppne peA peE (by decide)) reA reE).trans peE)), ((own_mvN neF qR reF).trans ((own_mvN (own_ppne peA peF (by decide)) reA reF).trans peF))⟩
        · intro q hq'
          rcases qS q hq' with h | h | h | h | h | h
          · exact Or.inr (Or.inl (h))
          · exact Or.inl (h.trans hq.symm)
          · exact Or.inr (Or.inr (Or.inl (h)))
          · exact Or.inr (Or.inr (Or.inr (Or.inl (h))))
          · exact Or.inr (Or.inr (Or.inr (Or.inr (Or.inl (h)))))
          · exact Or.inr (Or.inr (Or.inr (Or.inr (Or.inr ((h))))))
        · exact ⟨by omega, by omega, by omega, by omega, by omega⟩
      · refine ov (B := T86.setTop (mkF m 126 #[rv aT, iv sT, .val (.double wT), .second, iv (0 : Int32), iv (1 : Int32)] [])) (fun t k => XS.ifYes X86.here hx rfl (pc0 := 120) (pc' := 126) rfl (hb hby own_d5_120) rfl ((if0 _ _).trans (teq (own_bit0.mpr hc120)).1) (by decide) (by decide) k) ?_
        refine oALN (n := 127) X86 hx (hb hby own_d5_126) rfl rfl rfl ?_
        refine oALN (n := 128) X86 hx (hb hby own_d5_127) rfl rfl rfl ?_
        obtain ⟨T91, X91, e91, st91⟩ := getF X86 hx hZ hown (host := "") (Or.inl (oW hw 13 rfl)) Via.refl eq86 ((Fh.other W3 (Or.inl (Exa.neArv (Eo.wr W3) V3 (oW hw 1 rfl)))).keep Kq77 (ninS (Exa.neArv ((Eo.wr W3).keep Kq77) Vh77 (oW hw 1 rfl)) (ninS (Exa.neArv ((Eo.wr W3).keep Kq77) f77_1 (oW hw 1 rfl)) nin0))) (g := (mkF m 128 #[rv aT, iv sT, .val (.double wT), .second, iv (0 : Int32), iv (1 : Int32)] [(.ref aT), (.ref aT)])) rfl rfl (hb hby own_d5_128)
        refine ov (B := T91.setTop (mkF m 131 #[rv aT, iv sT, .val (.double wT), .second, iv (0 : Int32), iv (1 : Int32)] [(.ref hT), (.ref aT)])) (fun t k => st91 t k) ?_
        refine oIL (n := 133) X91 hx (hb hby own_d5_131) rfl rfl ?_
        obtain ⟨cl92, Ar92, q92, S92, M92, H92, G92⟩ := id Vh77
        have hin92 : ¬ ((1 : Int32) < 0 ∨ cl92.slots.size ≤ ((1 : Int32)).toNatClampNeg) := inb_of S92 ⟨by decide, by decide⟩
        refine ov (B := T91.setTop (mkF m 134 #[rv aT, iv sT, .val (.double wT), .second, iv (0 : Int32), iv (1 : Int32)] [(.int eA), (.ref aT)])) (fun t k => X91.iaload hx (j := (1 : Int32)) (v := (.int eA)) (by rw [e91]; exact Ar92.1) (State.isArrayOf_alike hZ.alike Ar92.2.1) Ar92.2.2 hin92 (Has.at H92 hin92 rfl) (g := (mkF m 133 #[rv aT, iv sT, .val (.double wT), .second, iv (0 : Int32), iv (1 : Int32)] [(.int (1 : Int32)), (.ref hT), (.ref aT)])) rfl rfl (hb hby own_d5_133) _ k) ?_
        refine oILN (n := 135) X91 hx (hb hby own_d5_134) rfl rfl ?_
        obtain ⟨cq93, q93, q93'⟩ := ((Eo.wr W3).keep Kq77).cell
        obtain ⟨_, _, ⟨T93, L93, k93, n93⟩, -, X93, ⟨Lc93, hQ93, l93, y93, z93⟩, st93⟩ := X91.privateBack hx (y := (⟨"com/example/meerkat/meerkat/simulate/Completions", "before", "(II)Z"⟩ : MethodName)) hown (mvT hZ (oW hw 32 rfl)) (mvT hZ (oW hw 33 rfl)) (own_selP (y' := (⟨"com/example/meerkat/meerkat/simulate/Completions", "set", "(ID)V"⟩ : MethodName)) rfl (mvT hZ (oW hw 30 rfl)) (Cond.privateMethod_at (mvP hZ (oW hw 34 rfl) (args := #[]))) (mvT hZ (oW hw 33 rfl)) (by decide)) (Cond.privateMethod_at (mvP hZ (oW hw 34 rfl) (args := #[]))) (mvT hZ (oW hw 35 rfl)) (by decide) (backOf (W := 0) (rmB l Z a0 hw [] aT eA sT gT kt (own_mv tt sT yT) T77.heap n0 (Nat.le_trans (Nat.le_trans Z0 (Keep.of_wr W3).1) Kq77.1) ((Ft.other W3 (Or.inl (Exa.neArv (Eo.wr W3) V3 (oW hw 1 rfl)))).keep Kq77 (ninS (Exa.neArv ((Eo.wr W3).keep Kq77) Vh77 (oW hw 1 rfl)) (ninS (Exa.neArv ((Eo.wr W3).keep Kq77) f77_1 (oW hw 1 rfl)) nin0))) (V3.keep Kq77 (ninS ngh (ninS ngp nin0))) (own_I1mv qI qR qY) reA qR) hZ (oW hw 35 rfl) (oW hw 2 rfl) (by decide) (by decide)) (g := (mkF m 135 #[rv aT, iv sT, .val (.double wT), .second, iv (0 : Int32), iv (1 : Int32)] [(.int sT), (.int eA), (.ref aT)])) rfl (by rw [hml]; rfl) (Steps.refl _) (a := aT) (by rw [e91]; exact q93) q93' (argsL := [(.int eA), (.int sT)]) (rest := []) (lenOf own_pd0 rfl) rfl (by show 2 * 0 + _ ≤ _; exact Nat.le_of_eq rfl) (hb hby own_d5_135) (fun _ _ => ⟨rfl, e91, (by decide : (((0 + 0) + 0) + 0) + 0 ≤ _), (by decide : (((0 + 0) + 0) + 0) + 0 ≤ _)⟩)
        dsimp only [Pt.U, Pt.locs, Pt.cells, Pt.slots] at X93 l93 y93 z93 st93 hQ93
        subst l93 y93 z93
        obtain ⟨rfl, Nq93, eq93⟩ := hQ93
        have N93 := Fr.app N86 Nq93
        refine ov (B := T93.setTop (mkF m 138 #[rv aT, iv sT, .val (.double wT), .second, iv (0 : Int32), iv (1 : Int32)] [(.int (own_bit (own_rk (own_mv tt sT yT) eA < own_rk (own_mv tt sT yT) sT)))])) (fun t k => st93.trans k) ?_
        have hc138 : ¬ (own_rk (own_mv tt sT yT) eA < own_rk (own_mv tt sT yT) sT) := by omega
        refine ov (B := T93.setTop (mkF m 141 #[rv aT, iv sT, .val (.double wT), .second, iv (0 : Int32), iv (1 : Int32)] [])) (fun t k => XS.ifNo X93.here hx rfl (hb hby own_d5_138) rfl ((if0 _ _).trans (teq (own_bit0.mpr hc138)).2) k) ?_
        refine oGO (n := 164) X93 hx (hb hby own_d5_141) (by decide) (by decide) ?_
        refine oALN (n := 165) X93 hx (hb hby own_d5_164) rfl rfl rfl ?_
        refine oILN (n := 166) X93 hx (hb hby own_d5_165) rfl rfl ?_
        refine oIL (n := 168) X93 hx (hb hby own_d5_166) rfl rfl ?_
        obtain ⟨cq94, q94, q94'⟩ := ((Eo.wr W3).keep Kq77).cell
        obtain ⟨_, _, ⟨T94, L94, k94, n94⟩, -, X94, ⟨Lc94, hQ94, l94, y94, z94⟩, st94⟩ := X93.privateBack hx (y := (⟨"com/example/meerkat/meerkat/simulate/Completions", "move", "(II)V"⟩ : MethodName)) hown (mvT hZ (oW hw 36 rfl)) (mvT hZ (oW hw 37 rfl)) (own_selP (y' := (⟨"com/example/meerkat/meerkat/simulate/Completions", "set", "(ID)V"⟩ : MethodName)) rfl (mvT hZ (oW hw 30 rfl)) (Cond.privateMethod_at (mvP hZ (oW hw 38 rfl) (args := #[]))) (mvT hZ (oW hw 37 rfl)) (by decide)) (Cond.privateMethod_at (mvP hZ (oW hw 38 rfl) (args := #[]))) (mvT hZ (oW hw 39 rfl)) (by decide) (backOf (W := 0) (rmM l Z a0 hw [] aT sT (0 : Int32) hT pT kh kp [eA, eA, eC, eD, eE, eF] (own_mv PP eA (1 : Int32)) T77.heap n0 (Nat.le_trans (Nat.le_trans Z0 (Keep.of_wr W3).1) Kq77.1) ((Eo.wr W3).keep Kq77) ((Fh.other W3 (Or.inl (Exa.neArv (Eo.wr W3) V3 (oW hw 1 rfl)))).keep Kq77 (ninS (Exa.neArv ((Eo.wr W3).keep Kq77) Vh77 (oW hw 1 rfl)) (ninS (Exa.neArv ((Eo.wr W3).keep Kq77) f77_1 (oW hw 1 rfl)) nin0))) ((Fp.other W3 (Or.inl (Exa.neArv (Eo.wr W3) V3 (oW hw 1 rfl)))).keep Kq77 (ninS (Exa.neArv ((Eo.wr W3).keep Kq77) Vh77 (oW hw 1 rfl)) (ninS (Exa.neArv ((Eo.wr W3).keep Kq77) f77_1 (oW hw 1 rfl)) nin0))) Vh77 f77_1 nhp g_hT g_pT rfl (own_mvl qL) qR ⟨by decide, by decide⟩) hZ (oW hw 39 rfl) (oW hw 2 rfl) (by decide) (by decide)) (g := (mkF m 168 #[rv aT, iv sT, .val (.double wT), .second, iv (0 : Int32), iv (1 : Int32)] [(.int (0 : Int32)), (.int sT), (.ref aT)])) rfl (by rw [hml]; rfl) (Steps.refl _) (a := aT) (by rw [eq93]; exact q94) q94' (argsL := [(.int sT), (.int (0 : Int32))]) (rest := []) (lenOf own_pd1 rfl) rfl (by show 2 * 0 + _ ≤ _; exact Nat.le_of_eq rfl) (hb hby own_d5_168) (fun _ _ => ⟨rfl, eq93, (by decide : ((((0 + 0) + 0) + 0) + 0) + 0 ≤ _), (by decide : ((((0 + 0) + 0) + 0) + 0) + 0 ≤ _)⟩)
        dsimp only [Pt.U, Pt.locs, Pt.cells, Pt.slots] at X94 l94 y94 z94 st94 hQ94
        subst l94 y94 z94
        obtain ⟨rfl, Nq94, Kq94, f94_0, f94_1⟩ := hQ94
        have N94 := Fr.app N93 Nq94
        have Vh94 : Arv Z T94.heap hT kh .int (6 : Int32) [(.int sT), (.int eA), (.int eC), (.int eD), (.int eE), (.int eF)] (.int (0 : Int32)) := f94_0
        refine ov (B := T94.setTop (mkF m 171 #[rv aT, iv sT, .val (.double wT), .second, iv (0 : Int32), iv (1 : Int32)] [])) (fun t k => st94.trans k) ?_
        refine own_leafV X94 hx hlk Bd.returns (hb hby own_d5_171) (by decide) (by decide) ?_
        show QT Z aT sT wT gT hT pT kt kh kp tt PP eA eB eC eD eE eF yT h0 n0 _ T94.heap _
        refine ⟨sT, eA, eC, eD, eE, eF, (own_mv (own_mv PP eA (1 : Int32)) sT (0 : Int32)), ?_, N94, ((((Keep.refl h0 [gT, hT, pT]).wr W3 (Or.inl (List.mem_of_getElem? (i := 0) rfl))).trans Kq77 (allS (Or.inl (List.mem_of_getElem? (i := 1) rfl)) (allS (Or.inl (List.mem_of_getElem? (i := 2) rfl)) all0))).trans Kq94 (allS (Or.inl (List.mem_of_getElem? (i := 1) rfl)) (allS (Or.inl (List.mem_of_getElem? (i := 2) rfl)) all0))), ?_, ?_, ?_, ?_, ((V3.keep Kq77 (ninS ngh (ninS ngp nin0))).keep Kq94 (ninS ngh (ninS ngp nin0))), Vh94, f94_1⟩
        · rfl
        · exact own_I1mv qI qR qY
        · exact ⟨(own_mvl (own_mvl qL)), qR, reA, reC, reD, reE, reF, (own_mvS (own_mvl qL) qR), ((own_mvN neA qR reA).trans (own_mvS qL reA)), ((own_mvN neC qR reC).trans ((own_mvN (own_ppne peA peC (by decide)) reA reC).trans peC)), ((own_mvN neD qR reD).trans ((own_mvN (own_ppne peA peD (by decide)) reA reD).trans peD)), ((own_mvN neE qR reE).trans ((own_mvN (own_ppne peA peE (by decide)) reA reE).trans peE)), ((own_mvN neF qR reF).trans ((own_mvN (own_ppne peA peF (by decide)) reA reF).trans peF))⟩
        · intro q hq'
          rcases qS q hq' with h | h | h | h | h | h
          · exact Or.inr (Or.inl (h))
          · exact Or.inl (h.trans hq.symm)
          · exact Or.inr (Or.inr (Or.inl (h)))
          · exact Or.inr (Or.inr (Or.inr (Or.inl (h))))
          · exact Or.inr (Or.inr (Or.inr (Or.inr (Or.inl (h)))))
          · exact Or.inr (Or.inr (Or.inr (Or.inr (Or.inr ((h))))))
        · exact ⟨by omega, by omega, by omega, by omega, by omega⟩
    · refine ov (B := T74.setTop (mkF m 67 #[rv aT, iv sT, .val (.double wT), .second, iv (1 : Int32), uu] [])) (fun t k => XS.ifYes X74.here hx rfl (pc0 := 36) (pc' := 67) rfl (hb hby own_d5_36) rfl ((if0 _ _).trans (teq (own_bit0.mpr hc36)).1) (by decide) (by decide) k) ?_
      refine oIC (n := 68) X74 hx (2 : Int32) (hb hby own_d5_67) (by decide) rfl ?_
      refine oIL (n := 70) X74 hx (hb hby own_d5_68) rfl rfl ?_
      refine ov (B := T74.setTop (mkF m 71 #[rv aT, iv sT, .val (.double wT), .second, iv (1 : Int32), uu] [(.int (2 : Int32))])) (fun t k => XS.imul X74.here hx rfl (hb hby own_d5_70) rfl k) ?_
      refine oIC (n := 72) X74 hx (1 : Int32) (hb hby own_d5_71) (by decide) rfl ?_
      refine ov (B := T74.setTop (mkF m 73 #[rv aT, iv sT, .val (.double wT), .second, iv (1 : Int32), uu] [(.int (3 : Int32))])) (fun t k => XS.iadd X74.here hx rfl (hb hby own_d5_72) rfl k) ?_
      refine ov (B := T74.setTop (mkF m 75 #[rv aT, iv sT, .val (.double wT), .second, iv (1 : Int32), iv (3 : Int32)] [])) (fun t k => XS.istore X74.here hx rfl (hb hby own_d5_73) rfl (l' := #[rv aT, iv sT, .val (.double wT), .second, iv (1 : Int32), iv (3 : Int32)]) rfl k) ?_
      refine oIL (n := 77) X74 hx (hb hby own_d5_75) rfl rfl ?_
      refine oALN (n := 78) X74 hx (hb hby own_d5_77) rfl rfl rfl ?_
      obtain ⟨T95, X95, e95, st95⟩ := getF X74 hx hZ hown (host := "") (Or.inl (oW hw 13 rfl)) Via.refl eq74 (Fh.other W3 (Or.inl (Exa.neArv (Eo.wr W3) V3 (oW hw 1 rfl)))) (g := (mkF m 78 #[rv aT, iv sT, .val (.double wT), .second, iv (1 : Int32), iv (3 : Int32)] [(.ref aT), (.int (3 : Int32))])) rfl rfl (hb hby own_d5_78)
      refine ov (B := T95.setTop (mkF m 81 #[rv aT, iv sT, .val (.double wT), .second, iv (1 : Int32), iv (3 : Int32)] [(.ref hT), (.int (3 : Int32))])) (fun t k => st95 t k) ?_
      obtain ⟨cl96, Ar96, q96, S96, M96, H96, G96⟩ := id (Vh.other W3 (Ne.symm ngh))
      refine ov (B := T95.setTop (mkF m 82 #[rv aT, iv sT, .val (.double wT), .second, iv (1 : Int32), iv (3 : Int32)] [(.int (6 : Int32)), (.int (3 : Int32))])) (fun t k => X95.arraylength hx (by rw [e95]; exact Ar96.1) (State.isArrayOf_alike hZ.alike Ar96.2.1) (g := (mkF m 81 #[rv aT, iv sT, .val (.double wT), .second, iv (1 : Int32), iv (3 : Int32)] [(.ref hT), (.int (3 : Int32))])) rfl rfl (hb hby own_d5_81) _ (by rw [len_of S96 M96]; exact k)) ?_
      have hc82 : (3 : Int32) < (6 : Int32) := by decide
      refine ov (B := T95.setTop (mkF m 88 #[rv aT, iv sT, .val (.double wT), .second, iv (1 : Int32), iv (3 : Int32)] [])) (fun t k => XS.icmpYes X95.here hx rfl (pc0 := 82) (pc' := 88) rfl (hb hby own_d5_82) rfl (tlt hc82).1 (by decide) (by decide) k) ?_
      refine oIL (n := 90) X95 hx (hb hby own_d5_88) rfl rfl ?_
      refine oIC (n := 91) X95 hx (1 : Int32) (hb hby own_d5_90) (by decide) rfl ?_
      refine ov (B := T95.setTop (mkF m 92 #[rv aT, iv sT, .val (.double wT), .second, iv (1 : Int32), iv (3 : Int32)] [(.int (4 : Int32))])) (fun t k => XS.iadd X95.here hx rfl (hb hby own_d5_91) rfl k) ?_
      refine oALN (n := 93) X95 hx (hb hby own_d5_92) rfl rfl rfl ?_
      obtain ⟨T97, X97, e97, st97⟩ := getF X95 hx hZ hown (host := "") (Or.inl (oW hw 13 rfl)) Via.refl e95 (Fh.other W3 (Or.inl (Exa.neArv (Eo.wr W3) V3 (oW hw 1 rfl)))) (g := (mkF m 93 #[rv aT, iv sT, .val (.double wT), .second, iv (1 : Int32), iv (3 : Int32)] [(.ref aT), (.int (4 : Int32))])) rfl rfl (hb hby own_d5_93)
      refine ov (B := T97.setTop (mkF m 96 #[rv aT, iv sT, .val (.double wT), .second, iv (1 : Int32), iv (3 : Int32)] [(.ref hT), (.int (4 : Int32))])) (fun t k => st97 t k) ?_
      obtain ⟨cl98, Ar98, q98, S98, M98, H98, G98⟩ := id (Vh.other W3 (Ne.symm ngh))
      refine ov (B := T97.setTop (mkF m 97 #[rv aT, iv sT, .val (.double wT), .second, iv (1 : Int32), iv (3 : Int32)] [(.int (6 : Int32)), (.int (4 : Int32))])) (fun t k => X97.arraylength hx (by rw [e97]; exact Ar98.1) (State.isArrayOf_alike hZ.alike Ar98.2.1) (g := (mkF m 96 #[rv aT, iv sT, .val (.double wT), .second, iv (1 : Int32), iv (3 : Int32)] [(.ref hT), (.int (4 : Int32))])) rfl rfl (hb hby own_d5_96) _ (by rw [len_of S98 M98]; exact k)) ?_
      have hc97 : (4 : Int32) < (6 : Int32) := by decide
      refine ov (B := T97.setTop (mkF m 100 #[rv aT, iv sT, .val (.double wT), .second, iv (1 : Int32), iv (3 : Int32)] [])) (fun t k => XS.icmpNo X97.here hx rfl (hb hby own_d5_97) rfl (tlt hc97).2.1 k) ?_
      refine oALN (n := 101) X97 hx (hb hby own_d5_100) rfl rfl rfl ?_
      refine oALN (n := 102) X97 hx (hb hby own_d5_101) rfl rfl rfl ?_
      obtain ⟨T99, X99, e99, st99⟩ := getF X97 hx hZ hown (host := "") (Or.inl (oW hw 13 rfl)) Via.refl e97 (Fh.other W3 (Or.inl (Exa.neArv (Eo.wr W3) V3 (oW hw 1 rfl)))) (g := (mkF m 102 #[rv aT, iv sT, .val (.double wT), .second, iv (1 : Int32), iv (3 : Int32)] [(.ref aT), (.ref aT)])) rfl rfl (hb hby own_d5_102)
      refine ov (B := T99.setTop (mkF m 105 #[rv aT, iv sT, .val (.double wT), .second, iv (1 : Int32), iv (3 : Int32)] [(.ref hT), (.ref aT)])) (fun t k => st99 t k) ?_
      refine oIL (n := 107) X99 hx (hb hby own_d5_105) rfl rfl ?_
      refine oIC (n := 108) X99 hx (1 : Int32) (hb hby own_d5_107) (by decide) rfl ?_
      refine ov (B := T99.setTop (mkF m 109 #[rv aT, iv sT, .val (.double wT), .second, iv (1 : Int32), iv (3 : Int32)] [(.int (4 : Int32)), (.ref hT), (.ref aT)])) (fun t k => XS.iadd X99.here hx rfl (hb hby own_d5_108) rfl k) ?_
      obtain ⟨cl100, Ar100, q100, S100, M100, H100, G100⟩ := id (Vh.other W3 (Ne.symm ngh))
      have hin100 : ¬ ((4 : Int32) < 0 ∨ cl100.slots.size ≤ ((4 : Int32)).toNatClampNeg) := inb_of S100 ⟨by decide, by decide⟩
      refine ov (B := T99.setTop (mkF m 110 #[rv aT, iv sT, .val (.double wT), .second, iv (1 : Int32), iv (3 : Int32)] [(.int eE), (.ref aT)])) (fun t k => X99.iaload hx (j := (4 : Int32)) (v := (.int eE)) (by rw [e99]; exact Ar100.1) (State.isArrayOf_alike hZ.alike Ar100.2.1) Ar100.2.2 hin100 (Has.at H100 hin100 rfl) (g := (mkF m 109 #[rv aT, iv sT, .val (.double wT), .second, iv (1 : Int32), iv (3 : Int32)] [(.int (4 : Int32)), (.ref hT), (.ref aT)])) rfl rfl (hb hby own_d5_109) _ k) ?_
      refine oALN (n := 111) X99 hx (hb hby own_d5_110) rfl rfl rfl ?_
      obtain ⟨T101, X101, e101, st101⟩ := getF X99 hx hZ hown (host := "") (Or.inl (oW hw 13 rfl)) Via.refl e99 (Fh.other W3 (Or.inl (Exa.neArv (Eo.wr W3) V3 (oW hw 1 rfl)))) (g := (mkF m 111 #[rv aT, iv sT, .val (.double wT), .second, iv (1 : Int32), iv (3 : Int32)] [(.ref aT), (.int eE), (.ref aT)])) rfl rfl (hb hby own_d5_111)
      refine ov (B := T101.setTop (mkF m 114 #[rv aT, iv sT, .val (.double wT), .second, iv (1 : Int32), iv (3 : Int32)] [(.ref hT), (.int eE), (.ref aT)])) (fun t k => st101 t k) ?_
      refine oIL (n := 116) X101 hx (hb hby own_d5_114) rfl rfl ?_
      obtain ⟨cl102, Ar102, q102, S102, M102, H102, G102⟩ := id (Vh.other W3 (Ne.symm ngh))
      have hin102 : ¬ ((3 : Int32) < 0 ∨ cl102.slots.size ≤ ((3 : Int32)).toNatClampNeg) := inb_of S102 ⟨by decide, by decide⟩
      refine ov (B := T101.setTop (mkF m 117 #[rv aT, iv sT, .val (.double wT), .second, iv (1 : Int32), iv (3 : Int32)] [(.int eD), (.int eE), (.ref aT)])) (fun t k => X101.iaload hx (j := (3 : Int32)) (v := (.int eD)) (by rw [e101]; exact Ar102.1) (State.isArrayOf_alike hZ.alike Ar102.2.1) Ar102.2.2 hin102 (Has.at H102 hin102 rfl) (g := (mkF m 116 #[rv aT, iv sT, .val (.double wT), .second, iv (1 : Int32), iv (3 : Int32)] [(.int (3 : Int32)), (.ref hT), (.int eE), (.ref aT)])) rfl rfl (hb hby own_d5_116) _ k) ?_
      obtain ⟨cq103, q103, q103'⟩ := (Eo.wr W3).cell
      obtain ⟨_, _, ⟨T103, L103, k103, n103⟩, -, X103, ⟨Lc103, hQ103, l103, y103, z103⟩, st103⟩ := X101.privateBack hx (y := (⟨"com/example/meerkat/meerkat/simulate/Completions", "before", "(II)Z"⟩ : MethodName)) hown (mvT hZ (oW hw 32 rfl)) (mvT hZ (oW hw 33 rfl)) (own_selP (y' := (⟨"com/example/meerkat/meerkat/simulate/Completions", "set", "(ID)V"⟩ : MethodName)) rfl (mvT hZ (oW hw 30 rfl)) (Cond.privateMethod_at (mvP hZ (oW hw 34 rfl) (args := #[]))) (mvT hZ (oW hw 33 rfl)) (by decide)) (Cond.privateMethod_at (mvP hZ (oW hw 34 rfl) (args := #[]))) (mvT hZ (oW hw 35 rfl)) (by decide) (backOf (W := 0) (rmB l Z a0 hw [] aT eE eD gT kt (own_mv tt sT yT) h3 n0 (Nat.le_trans Z0 (Keep.of_wr W3).1) (Ft.other W3 (Or.inl (Exa.neArv (Eo.wr W3) V3 (oW hw 1 rfl)))) V3 (own_I1mv qI qR qY) reE reD) hZ (oW hw 35 rfl) (oW hw 2 rfl) (by decide) (by decide)) (g := (mkF m 117 #[rv aT, iv sT, .val (.double wT), .second, iv (1 : Int32), iv (3 : Int32)] [(.int eD), (.int eE), (.ref aT)])) rfl (by rw [hml]; rfl) (Steps.refl _) (a := aT) (by rw [e101]; exact q103) q103' (argsL := [(.int eE), (.int eD)]) (rest := []) (lenOf own_pd0 rfl) rfl (by show 2 * 0 + _ ≤ _; exact Nat.le_of_eq rfl) (hb hby own_d5_117) (fun _ _ => ⟨rfl, e101, (by decide : (0 + 0) + 0 ≤ _), (by decide : (0 + 0) + 0 ≤ _)⟩)
      dsimp only [Pt.U, Pt.locs, Pt.cells, Pt.slots] at X103 l103 y103 z103 st103 hQ103
      subst l103 y103 z103
      obtain ⟨rfl, Nq103, eq103⟩ := hQ103
      have N103 := Fr.app N74 Nq103
      refine ov (B := T103.setTop (mkF m 120 #[rv aT, iv sT, .val (.double wT), .second, iv (1 : Int32), iv (3 : Int32)] [(.int (own_bit (own_rk (own_mv tt sT yT) eE < own_rk (own_mv tt sT yT) eD)))])) (fun t k => st103.trans k) ?_
      by_cases hc120 : own_rk (own_mv tt sT yT) eE < own_rk (own_mv tt sT yT) eD
      · refine ov (B := T103.setTop (mkF m 123 #[rv aT, iv sT, .val (.double wT), .second, iv (1 : Int32), iv (3 : Int32)] [])) (fun t k => XS.ifNo X103.here hx rfl (hb hby own_d5_120) rfl ((if0 _ _).trans (feq (own_bitne hc120)).1) k) ?_
        refine ov (B := T103.setTop (mkF m 126 #[rv aT, iv sT, .val (.double wT), .second, iv (1 : Int32), iv (4 : Int32)] [])) (fun t k => XS.iinc X103.here hx rfl (hb hby own_d5_123) rfl (l' := #[rv aT, iv sT, .val (.double wT), .second, iv (1 : Int32), iv (4 : Int32)]) rfl k) ?_
        refine oALN (n := 127) X103 hx (hb hby own_d5_126) rfl rfl rfl ?_
        refine oALN (n := 128) X103 hx (hb hby own_d5_127) rfl rfl rfl ?_
        obtain ⟨T104, X104, e104, st104⟩ := getF X103 hx hZ hown (host := "") (Or.inl (oW hw 13 rfl)) Via.refl eq103 (Fh.other W3 (Or.inl (Exa.neArv (Eo.wr W3) V3 (oW hw 1 rfl)))) (g := (mkF m 128 #[rv aT, iv sT, .val (.double wT), .second, iv (1 : Int32), iv (4 : Int32)] [(.ref aT), (.ref aT)])) rfl rfl (hb hby own_d5_128)
        refine ov (B := T104.setTop (mkF m 131 #[rv aT, iv sT, .val (.double wT), .second, iv (1 : Int32), iv (4 : Int32)] [(.ref hT), (.ref aT)])) (fun t k => st104 t k) ?_
        refine oIL (n := 133) X104 hx (hb hby own_d5_131) rfl rfl ?_
        obtain ⟨cl105, Ar105, q105, S105, M105, H105, G105⟩ := id (Vh.other W3 (Ne.symm ngh))
        have hin105 : ¬ ((4 : Int32) < 0 ∨ cl105.slots.size ≤ ((4 : Int32)).toNatClampNeg) := inb_of S105 ⟨by decide, by decide⟩
        refine ov (B := T104.setTop (mkF m 134 #[rv aT, iv sT, .val (.double wT), .second, iv (1 : Int32), iv (4 : Int32)] [(.int eE), (.ref aT)])) (fun t k => X104.iaload hx (j := (4 : Int32)) (v := (.int eE)) (by rw [e104]; exact Ar105.1) (State.isArrayOf_alike hZ.alike Ar105.2.1) Ar105.2.2 hin105 (Has.at H105 hin105 rfl) (g := (mkF m 133 #[rv aT, iv sT, .val (.double wT), .second, iv (1 : Int32), iv (4 : Int32)] [(.int (4 : Int32)), (.ref hT), (.ref aT)])) rfl rfl (hb hby own_d5_133) _ k) ?_
        refine oILN (n := 135) X104 hx (hb hby own_d5_134) rfl rfl ?_
        obtain ⟨cq106, q106, q106'⟩ := (Eo.wr W3).cell
        obtain ⟨_, _, ⟨T106, L106, k106, n106⟩, -, X106, ⟨Lc106, hQ106, l106, y106, z106⟩, st106⟩ := X104.privateBack hx (y := (⟨"com/example/meerkat/meerkat/simulate/Completions", "before", "(II)Z"⟩ : MethodName)) hown (mvT hZ (oW hw 32 rfl)) (mvT hZ (oW hw 33 rfl)) (own_selP (y' := (⟨"com/example/meerkat/meerkat/simulate/Completions", "set", "(ID)V"⟩ : MethodName)) rfl (mvT hZ (oW hw 30 rfl)) (Cond.privateMethod_at (mvP hZ (oW hw 34 rfl) (args := #[]))) (mvT hZ (oW hw 33 rfl)) (by decide)) (Cond.privateMethod_at (mvP hZ (oW hw 34 rfl) (args := #[]))) (mvT hZ (oW hw 35 rfl)) (by decide) (backOf (W := 0) (rmB l Z a0 hw [] aT eE sT gT kt (own_mv tt sT yT) h3 n0 (Nat.le_trans Z0 (Keep.of_wr W3).1) (Ft.other W3 (Or.inl (Exa.neArv (Eo.wr W3) V3 (oW hw 1 rfl)))) V3 (own_I1mv qI qR qY) reE qR) hZ (oW hw 35 rfl) (oW hw 2 rfl) (by decide) (by decide)) (g := (mkF m 135 #[rv aT, iv sT, .val (.double wT), .second, iv (1 : Int32), iv (4 : Int32)] [(.int sT), (.int eE), (.ref aT)])) rfl (by rw [hml]; rfl) (Steps.refl _) (a := aT) (by rw [e104]; exact q106) q106' (argsL := [(.int eE), (.int sT)]) (rest := []) (lenOf own_pd0 rfl) rfl (by show 2 * 0 + _ ≤ _; exact Nat.le_of_eq rfl) (hb hby own_d5_135) (fun _ _ => ⟨rfl, e104, (by decide : ((0 + 0) + 0) + 0 ≤ _), (by decide : ((0 + 0) + 0) + 0 ≤ _)⟩)
        dsimp only [Pt.U, Pt.locs, Pt.cells, Pt.slots] at X106 l106 y106 z106 st106 hQ106
        subst l106 y106 z106
        obtain ⟨rfl, Nq106, eq106⟩ := hQ106
        have N106 := Fr.app N103 Nq106
        refine ov (B := T106.setTop (mkF m 138 #[rv aT, iv sT, .val (.double wT), .second, iv (1 : Int32), iv (4 : Int32)] [(.int (own_bit (own_rk (own_mv tt sT yT) eE < own_rk (own_mv tt sT yT) sT)))])) (fun t k => st106.trans k) ?_
        by_cases hc138 : own_rk (own_mv tt sT yT) eE < own_rk (own_mv tt sT yT) sT
        · refine ov (B := T106.setTop (mkF m 144 #[rv aT, iv sT, .val (.double wT), .second, iv (1 : Int32), iv (4 : Int32)] [])) (fun t k => XS.ifYes X106.here hx rfl (pc0 := 138) (pc' := 144) rfl (hb hby own_d5_138) rfl ((if0 _ _).trans (feq (own_bitne hc138)).2) (by decide) (by decide) k) ?_
          refine oALN (n := 145) X106 hx (hb hby own_d5_144) rfl rfl rfl ?_
          refine oALN (n := 146) X106 hx (hb hby own_d5_145) rfl rfl rfl ?_
          obtain ⟨T107, X107, e107, st107⟩ := getF X106 hx hZ hown (host := "") (Or.inl (oW hw 13 rfl)) Via.refl eq106 (Fh.other W3 (Or.inl (Exa.neArv (Eo.wr W3) V3 (oW hw 1 rfl)))) (g := (mkF m 146 #[rv aT, iv sT, .val (.double wT), .second, iv (1 : Int32), iv (4 : Int32)] [(.ref aT), (.ref aT)])) rfl rfl (hb hby own_d5_146)
          refine ov (B := T107.setTop (mkF m 149 #[rv aT, iv sT, .val (.double wT), .second, iv (1 : Int32), iv (4 : Int32)] [(.ref hT), (.ref aT)])) (fun t k => st107 t k) ?_
          refine oIL (n := 151) X107 hx (hb hby own_d5_149) rfl rfl ?_
          obtain ⟨cl108, Ar108, q108, S108, M108, H108, G108⟩ := id (Vh.other W3 (Ne.symm ngh))
          have hin108 : ¬ ((4 : Int32) < 0 ∨ cl108.slots.size ≤ ((4 : Int32)).toNatClampNeg) := inb_of S108 ⟨by decide, by decide⟩
          refine ov (B := T107.setTop (mkF m 152 #[rv aT, iv sT, .val (.double wT), .second, iv (1 : Int32), iv (4 : Int32)] [(.int eE), (.ref aT)])) (fun t k => X107.iaload hx (j := (4 : Int32)) (v := (.int eE)) (by rw [e107]; exact Ar108.1) (State.isArrayOf_alike hZ.alike Ar108.2.1) Ar108.2.2 hin108 (Has.at H108 hin108 rfl) (g := (mkF m 151 #[rv aT, iv sT, .val (.double wT), .second, iv (1 : Int32), iv (4 : Int32)] [(.int (4 : Int32)), (.ref hT), (.ref aT)])) rfl rfl (hb hby own_d5_151) _ k) ?_
          refine oIL (n := 154) X107 hx (hb hby own_d5_152) rfl rfl ?_
          obtain ⟨cq109, q109, q109'⟩ := (Eo.wr W3).cell
          obtain ⟨_, _, ⟨T109, L109, k109, n109⟩, -, X109, ⟨Lc109, hQ109, l109, y109, z109⟩, st109⟩ := X107.privateBack hx (y := (⟨"com/example/meerkat/meerkat/simulate/Completions", "move", "(II)V"⟩ : MethodName)) hown (mvT hZ (oW hw 36 rfl)) (mvT hZ (oW hw 37 rfl)) (own_selP (y' := (⟨"com/example/meerkat/meerkat/simulate/Completions", "set", "(ID)V"⟩ : MethodName)) rfl (mvT hZ (oW hw 30 rfl)) (Cond.privateMethod_at (mvP hZ (oW hw 38 rfl) (args := #[]))) (mvT hZ (oW hw 37 rfl)) (by decide)) (Cond.privateMethod_at (mvP hZ (oW hw 38 rfl) (args := #[]))) (mvT hZ (oW hw 39 rfl)) (by decide) (backOf (W := 0) (rmM l Z a0 hw [] aT eE (1 : Int32) hT pT kh kp [eA, eB, eC, eD, eE, eF] PP h3 n0 (Nat.le_trans Z0 (Keep.of_wr W3).1) (Eo.wr W3) (Fh.other W3 (Or.inl (Exa.neArv (Eo.wr W3) V3 (oW hw 1 rfl)))) (Fp.other W3 (Or.inl (Exa.neArv (Eo.wr W3) V3 (oW hw 1 rfl)))) (Vh.other W3 (Ne.symm ngh)) (Vp.other W3 (Ne.symm ngp)) nhp g_hT g_pT rfl qL reE ⟨by decide, by decide⟩) hZ (oW hw 39 rfl) (oW hw 2 rfl) (by decide) (by decide)) (g := (mkF m 154 #[rv aT, iv sT, .val (.double wT), .second, iv (1 : Int32), iv (4 : Int32)] [(.int (1 : Int32)), (.int eE), (.ref aT)])) rfl (by rw [hml]; rfl) (Steps.refl _) (a := aT) (by rw [e107]; exact q109) q109' (argsL := [(.int eE), (.int (1 : Int32))]) (rest := []) (lenOf own_pd1 rfl) rfl (by show 2 * 0 + _ ≤ _; exact Nat.le_of_eq rfl) (hb hby own_d5_154) (fun _ _ => ⟨rfl, e107, (by decide : (((0 + 0) + 0) + 0) + 0 ≤ _), (by decide : (((0 + 0) + 0) + 0) + 0 ≤ _)⟩)
          dsimp only [Pt.U, Pt.locs, Pt.cells, Pt.slots] at X109 l109 y109 z109 st109 hQ109
          subst l109 y109 z109
          obtain ⟨rfl, Nq109, Kq109, f109_0, f109_1⟩ := hQ109
          have N109 := Fr.app N106 Nq109
          have Vh109 : Arv Z T109.heap hT kh .int (6 : Int32) [(.int eA), (.int eE), (.int eC), (.int eD), (.int eE), (.int eF)] (.int (0 : Int32)) := f109_0
          refine ov (B := T109.setTop (mkF m 157 #[rv aT, iv sT, .val (.double wT), .second, iv (1 : Int32), iv (4 : Int32)] [])) (fun t k => st109.trans k) ?_
          refine oIL (n := 159) X109 hx (hb hby own_d5_157) rfl rfl ?_
          refine ov (B := T109.setTop (mkF m 161 #[rv aT, iv sT, .val (.double wT), .second, iv (4 : Int32), iv (4 : Int32)] [])) (fun t k => XS.istore X109.here hx rfl (hb hby own_d5_159) rfl (l' := #[rv aT, iv sT, .val (.double wT), .second, iv (4 : Int32), iv (4 : Int32)]) rfl k) ?_
          refine oGO (n := 67) X109 hx (hb hby own_d5_161) (by decide) (by decide) ?_
          refine oIC (n := 68) X109 hx (2 : Int32) (hb hby own_d5_67) (by decide) rfl ?_
          refine oIL (n := 70) X109 hx (hb hby own_d5_68) rfl rfl ?_
          refine ov (B := T109.setTop (mkF m 71 #[rv aT, iv sT, .val (.double wT), .second, iv (4 : Int32), iv (4 : Int32)] [(.int (8 : Int32))])) (fun t k => XS.imul X109.here hx rfl (hb hby own_d5_70) rfl k) ?_
          refine oIC (n := 72) X109 hx (1 : Int32) (hb hby own_d5_71) (by decide) rfl ?_
          refine ov (B := T109.setTop (mkF m 73 #[rv aT, iv sT, .val (.double wT), .second, iv (4 : Int32), iv (4 : Int32)] [(.int (9 : Int32))])) (fun t k => XS.iadd X109.here hx rfl (hb hby own_d5_72) rfl k) ?_
          refine ov (B := T109.setTop (mkF m 75 #[rv aT, iv sT, .val (.double wT), .second, iv (4 : Int32), iv (9 : Int32)] [])) (fun t k => XS.istore X109.here hx rfl (hb hby own_d5_73) rfl (l' := #[rv aT, iv sT, .val (.double wT), .second, iv (4 : Int32), iv (9 : Int32)]) rfl k) ?_
          refine oIL (n := 77) X109 hx (hb hby own_d5_75) rfl rfl ?_
          refine oALN (n := 78) X109 hx (hb hby own_d5_77) rfl rfl rfl ?_
          obtain ⟨T110, X110, e110, st110⟩ := getF X109 hx hZ hown (host := "") (Or.inl (oW hw 13 rfl)) Via.refl rfl ((Fh.other W3 (Or.inl (Exa.neArv (Eo.wr W3) V3 (oW hw 1 rfl)))).keep Kq109 (ninS (Exa.neArv ((Eo.wr W3).keep Kq109) Vh109 (oW hw 1 rfl)) (ninS (Exa.neArv ((Eo.wr W3).keep Kq109) f109_1 (oW hw 1 rfl)) nin0))) (g := (mkF m 78 #[rv aT, iv sT, .val (.double wT), .second, iv (4 : Int32), iv (9 : Int32)] [(.ref aT), (.int (9 : Int32))])) rfl rfl (hb hby own_d5_78)
          refine ov (B := T110.setTop (mkF m 81 #[rv aT, iv sT, .val (.double wT), .second, iv (4 : Int32), iv (9 : Int32)] [(.ref hT), (.int (9 : Int32))])) (fun t k => st110 t k) ?_
          obtain ⟨cl111, Ar111, q111, S111, M111, H111, G111⟩ := id Vh109
          refine ov (B := T110.setTop (mkF m 82 #[rv aT, iv sT, .val (.double wT), .second, iv (4 : Int32), iv (9 : Int32)] [(.int (6 : Int32)), (.int (9 : Int32))])) (fun t k => X110.arraylength hx (by rw [e110]; exact Ar111.1) (State.isArrayOf_alike hZ.alike Ar111.2.1) (g := (mkF m 81 #[rv aT, iv sT, .val (.double wT), .second, iv (4 : Int32), iv (9 : Int32)] [(.ref hT), (.int (9 : Int32))])) rfl rfl (hb hby own_d5_81) _ (by rw [len_of S111 M111]; exact k)) ?_
          have hc82 : ¬ ((9 : Int32) < (6 : Int32)) := by decide
          refine ov (B := T110.setTop (mkF m 85 #[rv aT, iv sT, .val (.double wT), .second, iv (4 : Int32), iv (9 : Int32)] [])) (fun t k => XS.icmpNo X110.here hx rfl (hb hby own_d5_82) rfl (flt hc82).1 k) ?_
          refine oGO (n := 164) X110 hx (hb hby own_d5_85) (by decide) (by decide) ?_
          refine oALN (n := 165) X110 hx (hb hby own_d5_164) rfl rfl rfl ?_
          refine oILN (n := 166) X110 hx (hb hby own_d5_165) rfl rfl ?_
          refine oIL (n := 168) X110 hx (hb hby own_d5_166) rfl rfl ?_
          obtain ⟨cq112, q112, q112'⟩ := ((Eo.wr W3).keep Kq109).cell
          obtain ⟨_, _, ⟨T112, L112, k112, n112⟩, -, X112, ⟨Lc112, hQ112, l112, y112, z112⟩, st112⟩ := X110.privateBack hx (y := (⟨"com/example/meerkat/meerkat/simulate/Completions", "move", "(II)V"⟩ : MethodName)) hown (mvT hZ (oW hw 36 rfl)) (mvT hZ (oW hw 37 rfl)) (own_selP (y' := (⟨"com/example/meerkat/meerkat/simulate/Completions", "set", "(ID)V"⟩ : MethodName)) rfl (mvT hZ (oW hw 30 rfl)) (Cond.privateMethod_at (mvP hZ (oW hw 38 rfl) (args := #[]))) (mvT hZ (oW hw 37 rfl)) (by decide)) (Cond.privateMethod_at (mvP hZ (oW hw 38 rfl) (args := #[]))) (mvT hZ (oW hw 39 rfl)) (by decide) (backOf (W := 0) (rmM l Z a0 hw [] aT sT (4 : Int32) hT pT kh kp [eA, eE, eC, eD, eE, eF] (own_mv PP eE (1 : Int32)) T109.heap n0 (Nat.le_trans (Nat.le_trans Z0 (Keep.of_wr W3).1) Kq109.1) ((Eo.wr W3).keep Kq109) ((Fh.other W3 (Or.inl (Exa.neArv (Eo.wr W3) V3 (oW hw 1 rfl)))).keep Kq109 (ninS (Exa.neArv ((Eo.wr W3).keep Kq109) Vh109 (oW hw 1 rfl)) (ninS (Exa.neArv ((Eo.wr W3).keep Kq109) f109_1 (oW hw 1 rfl)) nin0))) ((Fp.other W3 (Or.inl (Exa.neArv (Eo.wr W3) V3 (oW hw 1 rfl)))).keep Kq109 (ninS (Exa.neArv ((Eo.wr W3).keep Kq109) Vh109 (oW hw 1 rfl)) (ninS (Exa.neArv ((Eo.wr W3).keep Kq109) f109_1 (oW hw 1 rfl)) nin0))) Vh109 f109_1 nhp g_hT g_pT rfl (own_mvl qL) qR ⟨by decide, by decide⟩) hZ (oW hw 39 rfl) (oW hw 2 rfl) (by decide) (by decide)) (g := (mkF m 168 #[rv aT, iv sT, .val (.double wT), .second, iv (4 : Int32), iv (9 : Int32)] [(.int (4 : Int32)), (.int sT), (.ref aT)])) rfl (by rw [hml]; rfl) (Steps.refl _) (a := aT) (by rw [e110]; exact q112) q112' (argsL := [(.int sT), (.int (4 : Int32))]) (rest := []) (lenOf own_pd1 rfl) rfl (by show 2 * 0 + _ ≤ _; exact Nat.le_of_eq rfl) (hb hby own_d5_168) (fun _ _ => ⟨rfl, e110, (by decide : ((((0 + 0) + 0) + 0) + 0) + 0 ≤ _), (by decide : ((((0 + 0) + 0) + 0) + 0) + 0 ≤ _)⟩)
          dsimp only [Pt.U, Pt.locs, Pt.cells, Pt.slots] at X112 l112 y112 z112 st112 hQ112
          subst l112 y112 z112
          obtain ⟨rfl, Nq112, Kq112, f112_0, f112_1⟩ := hQ112
          have N112 := Fr.app N109 Nq112
          have Vh112 : Arv Z T112.heap hT kh .int (6 : Int32) [(.int eA), (.int eE), (.int eC), (.int eD), (.int sT), (.int eF)] (.int (0 : Int32)) := f112_0
          refine ov (B := T112.setTop (mkF m 171 #[rv aT, iv sT, .val (.double wT), .second, iv (4 : Int32), iv (9 : Int32)] [])) (fun t k => st112.trans k) ?_
          refine own_leafV X112 hx hlk Bd.returns (hb hby own_d5_171) (by decide) (by decide) ?_
          show QT Z aT sT wT gT hT pT kt kh kp tt PP eA eB eC eD eE eF yT h0 n0 _ T112.heap _
          refine ⟨eA, eE, eC, eD, sT, eF, (own_mv (own_mv PP eE (1 : Int32)) sT (4 : Int32)), ?_, N112, ((((Keep.refl h0 [gT, hT, pT]).wr W3 (Or.inl (List.mem_of_getElem? (i := 0) rfl))).trans Kq109 (allS (Or.inl (List.mem_of_getElem? (i := 1) rfl)) (allS (Or.inl (List.mem_of_getElem? (i := 2) rfl)) all0))).trans Kq112 (allS (Or.inl (List.mem_of_getElem? (i := 1) rfl)) (allS (Or.inl (List.mem_of_getElem? (i := 2) rfl)) all0))), ?_, ?_, ?_, ?_, ((V3.keep Kq109 (ninS ngh (ninS ngp nin0))).keep Kq112 (ninS ngh (ninS ngp nin0))), Vh112, f112_1⟩
          · rfl
          · exact own_I1mv qI qR qY
          · exact ⟨(own_mvl (own_mvl qL)), reA, reE, reC, reD, qR, reF, ((own_mvN neA qR reA).trans ((own_mvN (own_ppne peE peA (by decide)) reE reA).trans peA)), ((own_mvN neE qR reE).trans (own_mvS qL reE)), ((own_mvN neC qR reC).trans ((own_mvN (own_ppne peE peC (by decide)) reE reC).trans peC)), ((own_mvN neD qR reD).trans ((own_mvN (own_ppne peE peD (by decide)) reE reD).trans peD)), (own_mvS (own_mvl qL) qR), ((own_mvN neF qR reF).trans ((own_mvN (own_ppne peE peF (by decide)) reE reF).trans peF))⟩
          · intro q hq'
            rcases qS q hq' with h | h | h | h | h | h
            · exact Or.inl (h)
            · exact Or.inr (Or.inr (Or.inr (Or.inr (Or.inl (h.trans hq.symm)))))
            · exact Or.inr (Or.inr (Or.inl (h)))
            · exact Or.inr (Or.inr (Or.inr (Or.inl (h))))
            · exact Or.inr (Or.inl (h))
            · exact Or.inr (Or.inr (Or.inr (Or.inr (Or.inr ((h))))))
          · exact ⟨by omega, by omega, by omega, by omega, by omega⟩
        · refine ov (B := T106.setTop (mkF m 141 #[rv aT, iv sT, .val (.double wT), .second, iv (1 : Int32), iv (4 : Int32)] [])) (fun t k => XS.ifNo X106.here hx rfl (hb hby own_d5_138) rfl ((if0 _ _).trans (teq (own_bit0.mpr hc138)).2) k) ?_
          refine oGO (n := 164) X106 hx (hb hby own_d5_141) (by decide) (by decide) ?_
          refine oALN (n := 165) X106 hx (hb hby own_d5_164) rfl rfl rfl ?_
          refine oILN (n := 166) X106 hx (hb hby own_d5_165) rfl rfl ?_
          refine oIL (n := 168) X106 hx (hb hby own_d5_166) rfl rfl ?_
          obtain ⟨cq113, q113, q113'⟩ := (Eo.wr W3).cell
          obtain ⟨_, _, ⟨T113, L113, k113, n113⟩, -, X113, ⟨Lc113, hQ113, l113, y113, z113⟩, st113⟩ := X106.privateBack hx (y := (⟨"com/example/meerkat/meerkat/simulate/Completions", "move", "(II)V"⟩ : MethodName)) hown (mvT hZ (oW hw 36 rfl)) (mvT hZ (oW hw 37 rfl)) (own_selP (y' := (⟨"com/example/meerkat/meerkat/simulate/Completions", "set", "(ID)V"⟩ : MethodName)) rfl (mvT hZ (oW hw 30 rfl)) (Cond.privateMethod_at (mvP hZ (oW hw 38 rfl) (args := #[]))) (mvT hZ (oW hw 37 rfl)) (by decide)) (Cond.privateMethod_at (mvP hZ (oW hw 38 rfl) (args := #[]))) (mvT hZ (oW hw 39 rfl)) (by decide) (backOf (W := 0) (rmM l Z a0 hw [] aT sT (1 : Int32) hT pT kh kp [eA, eB, eC, eD, eE, eF] PP h3 n0 (Nat.le_trans Z0 (Keep.of_wr W3).1) (Eo.wr W3) (Fh.other W3 (Or.inl (Exa.neArv (Eo.wr W3) V3 (oW hw 1 rfl)))) (Fp.other W3 (Or.inl (Exa.neArv (Eo.wr W3) V3 (oW hw 1 rfl)))) (Vh.other W3 (Ne.symm ngh)) (Vp.other W3 (Ne.symm ngp)) nhp g_hT g_pT rfl qL qR ⟨by decide, by decide⟩) hZ (oW hw 39 rfl) (oW hw 2 rfl) (by decide) (by decide)) (g := (mkF m 168 #[rv aT, iv sT, .val (.double wT), .second, iv (1 : Int32), iv (4 : Int32)] [(.int (1 : Int32)), (.int sT), (.ref aT)])) rfl (by rw [hml]; rfl) (Steps.refl _) (a := aT) (by rw [eq106]; exact q113) q113' (argsL := [(.int sT), (.int (1 : Int32))]) (rest := []) (lenOf own_pd1 rfl) rfl (by show 2 * 0 + _ ≤ _; exact Nat.le_of_eq rfl) (hb hby own_d5_168) (fun _ _ => ⟨rfl, eq106, (by decide : (((0 + 0) + 0) + 0) + 0 ≤ _), (by decide : (((0 + 0) + 0) + 0) + 0 ≤ _)⟩)
          dsimp only [Pt.U, Pt.locs, Pt.cells, Pt.slots] at X113 l113 y113 z113 st113 hQ113
          subst l113 y113 z113
          obtain ⟨rfl, Nq113, Kq113, f113_0, f113_1⟩ := hQ113
          have N113 := Fr.app N106 Nq113
          have Vh113 : Arv Z T113.heap hT kh .int (6 : Int32) [(.int eA), (.int sT), (.int eC), (.int eD), (.int eE), (.int eF)] (.int (0 : Int32)) := f113_0
          refine ov (B := T113.setTop (mkF m 171 #[rv aT, iv sT, .val (.double wT), .second, iv (1 : Int32), iv (4 : Int32)] [])) (fun t k => st113.trans k) ?_
          refine own_leafV X113 hx hlk Bd.returns (hb hby own_d5_171) (by decide) (by decide) ?_
          show QT Z aT sT wT gT hT pT kt kh kp tt PP eA eB eC eD eE eF yT h0 n0 _ T113.heap _
          refine ⟨eA, sT, eC, eD, eE, eF, (own_mv PP sT (1 : Int32)), ?_, N113, (((Keep.refl h0 [gT, hT, pT]).wr W3 (Or.inl (List.mem_of_getElem? (i := 0) rfl))).trans Kq113 (allS (Or.inl (List.mem_of_getElem? (i := 1) rfl)) (allS (Or.inl (List.mem_of_getElem? (i := 2) rfl)) all0))), ?_, ?_, ?_, ?_, (V3.keep Kq113 (ninS ngh (ninS ngp nin0))), Vh113, f113_1⟩
          · rfl
          · exact own_I1mv qI qR qY
          · exact ⟨(own_mvl qL), reA, qR, reC, reD, reE, reF, ((own_mvN neA qR reA).trans peA), (own_mvS qL qR), ((own_mvN neC qR reC).trans peC), ((own_mvN neD qR reD).trans peD), ((own_mvN neE qR reE).trans peE), ((own_mvN neF qR reF).trans peF)⟩
          · intro q hq'
            rcases qS q hq' with h | h | h | h | h | h
            · exact Or.inl (h)
            · exact Or.inr (Or.inl (h.trans hq.symm))
            · exact Or.inr (Or.inr (Or.inl (h)))
            · exact Or.inr (Or.inr (Or.inr (Or.inl (h))))
            · exact Or.inr (Or.inr (Or.inr (Or.inr (Or.inl (h)))))
            · exact Or.inr (Or.inr (Or.inr (Or.inr (Or.inr ((h))))))
          · exact ⟨by omega, by omega, by omega, by omega, by omega⟩
      · refine ov (B := T103.setTop (mkF m 126 #[rv aT, iv sT, .val (.double wT), .second, iv (1 : Int32), iv (3 : Int32)] [])) (fun t k => XS.ifYes X103.here hx rfl (pc0 := 120) (pc' := 126) rfl (hb hby own_d5_120) rfl ((if0 _ _).trans (teq (own_bit0.mpr hc120)).1) (by decide) (by decide) k) ?_
        refine oALN (n := 127) X103 hx (hb hby own_d5_126) rfl rfl rfl ?_
        refine oALN (n := 128) X103 hx (hb hby own_d5_127) rfl rfl rfl ?_
        obtain ⟨T114, X114, e114, st114⟩ := getF X103 hx hZ hown (host := "") (Or.inl (oW hw 13 rfl)) Via.refl eq103 (Fh.other W3 (Or.inl (Exa.neArv (Eo.wr W3) V3 (oW hw 1 rfl)))) (g := (mkF m 128 #[rv aT, iv sT, .val (.double wT), .second, iv (1 : Int32), iv (3 : Int32)] [(.ref aT), (.ref aT)])) rfl rfl (hb hby own_d5_128)
        refine ov (B := T114.setTop (mkF m 131 #[rv aT, iv sT, .val (.double wT), .second, iv (1 : Int32), iv (3 : Int32)] [(.ref hT), (.ref aT)])) (fun t k => st114 t k) ?_
        refine oIL (n := 133) X114 hx (hb hby own_d5_131) rfl rfl ?_
        obtain ⟨cl115, Ar115, q115, S115, M115, H115, G115⟩ := id (Vh.other W3 (Ne.symm ngh))
        have hin115 : ¬ ((3 : Int32) < 0 ∨ cl115.slots.size ≤ ((3 : Int32)).toNatClampNeg) := inb_of S115 ⟨by decide, by decide⟩
        refine ov (B := T114.setTop (mkF m 134 #[rv aT, iv sT, .val (.double wT), .second, iv (1 : Int32), iv (3 : Int32)] [(.int eD), (.ref aT)])) (fun t k => X114.iaload hx (j := (3 : Int32)) (v := (.int eD)) (by rw [e114]; exact Ar115.1) (State.isArrayOf_alike hZ.alike Ar115.2.1) Ar115.2.2 hin115 (Has.at H115 hin115 rfl) (g := (mkF m 133 #[rv aT, iv sT, .val (.double wT), .second, iv (1 : Int32), iv (3 : Int32)] [(.int (3 : Int32)), (.ref hT), (.ref aT)])) rfl rfl (hb hby own_d5_133) _ k) ?_
        refine oILN (n := 135) X114 hx (hb hby own_d5_134) rfl rfl ?_
        obtain ⟨cq116, q116, q116'⟩ := (Eo.wr W3).cell
        obtain ⟨_, _, ⟨T116, L116, k116, n116⟩, -, X116, ⟨Lc116, hQ116, l116, y116, z116⟩, st116⟩ := X114.privateBack hx (y := (⟨"com/example/meerkat/meerkat/simulate/Completions", "before", "(II)Z"⟩ : MethodName)) hown (mvT hZ (oW hw 32 rfl)) (mvT hZ (oW hw 33 rfl)) (own_selP (y' := (⟨"com/example/meerkat/meerkat/simulate/Completions", "set", "(ID)V"⟩ : MethodName)) rfl (mvT hZ (oW hw 30 rfl)) (Cond.privateMethod_at (mvP hZ (oW hw 34 rfl) (args := #[]))) (mvT hZ (oW hw 33 rfl)) (by decide)) (Cond.privateMethod_at (mvP hZ (oW hw 34 rfl) (args := #[]))) (mvT hZ (oW hw 35 rfl)) (by decide) (backOf (W := 0) (rmB l Z a0 hw [] aT eD sT gT kt (own_mv tt sT yT) h3 n0 (Nat.le_trans Z0 (Keep.of_wr W3).1) (Ft.other W3 (Or.inl (Exa.neArv (Eo.wr W3) V3 (oW hw 1 rfl)))) V3 (own_I1mv qI qR qY) reD qR) hZ (oW hw 35 rfl) (oW hw 2 rfl) (by decide) (by decide)) (g := (mkF m 135 #[rv aT, iv sT, .val (.double wT), .second, iv (1 : Int32), iv (3 : Int32)] [(.int sT), (.int eD), (.ref aT)])) rfl (by rw [hml]; rfl) (Steps.refl _) (a := aT) (by rw [e114]; exact q116) q116' (argsL := [(.int eD), (.int sT)]) (rest := []) (lenOf own_pd0 rfl) rfl (by show 2 * 0 + _ ≤ _; exact Nat.le_of_eq rfl) (hb hby own_d5_135) (fun _ _ => ⟨rfl, e114, (by decide : ((0 + 0) + 0) + 0 ≤ _), (by decide : ((0 + 0) + 0) + 0 ≤ _)⟩)
        dsimp only [Pt.U, Pt.locs, Pt.cells, Pt.slots] at X116 l116 y116 z116 st116 hQ116
        subst l116 y116 z116
        obtain ⟨rfl, Nq116, eq116⟩ := hQ116
        have N116 := Fr.app N103 Nq116
        refine ov (B := T116.setTop (mkF m 138 #[rv aT, iv sT, .val (.double wT), .second, iv (1 : Int32), iv (3 : Int32)] [(.int (own_bit (own_rk (own_mv tt sT yT) eD < own_rk (own_mv tt sT yT) sT)))])) (fun t k => st116.trans k) ?_
        by_cases hc138 : own_rk (own_mv tt sT yT) eD < own_rk (own_mv tt sT yT) sT
        · refine ov (B := T116.setTop (mkF m 144 #[rv aT, iv sT, .val (.double wT), .second, iv (1 : Int32), iv (3 : Int32)] [])) (fun t k => XS.ifYes X116.here hx rfl (pc0 := 138) (pc' := 144) rfl (hb hby own_d5_138) rfl ((if0 _ _).trans (feq (own_bitne hc138)).2) (by decide) (by decide) k) ?_
          refine oALN (n := 145) X116 hx (hb hby own_d5_144) rfl rfl rfl ?_
          refine oALN (n := 146) X116 hx (hb hby own_d5_145) rfl rfl rfl ?_
          obtain ⟨T117, X117, e117, st117⟩ := getF X116 hx hZ hown (host := "") (Or.inl (oW hw 13 rfl)) Via.refl eq116 (Fh.other W3 (Or.inl (Exa.neArv (Eo.wr W3) V3 (oW hw 1 rfl)))) (g := (mkF m 146 #[rv aT, iv sT, .val (.double wT), .second, iv (1 : Int32), iv (3 : Int32)] [(.ref aT), (.ref aT)])) rfl rfl (hb hby own_d5_146)
          refine ov (B := T117.setTop (mkF m 149 #[rv aT, iv sT, .val (.double wT), .second, iv (1 : Int32), iv (3 : Int32)] [(.ref hT), (.ref aT)])) (fun t k => st117 t k) ?_
          refine oIL (n := 151) X117 hx (hb hby own_d5_149) rfl rfl ?_
          obtain ⟨cl118, Ar118, q118, S118, M118, H118, G118⟩ := id (Vh.other W3 (Ne.symm ngh))
          have hin118 : ¬ ((3 : Int32) < 0 ∨ cl118.slots.size ≤ ((3 : Int32)).toNatClampNeg) := inb_of S118 ⟨by decide, by decide⟩
          refine ov (B := T117.setTop (mkF m 152 #[rv aT, iv sT, .val (.double wT), .second, iv (1 : Int32), iv (3 : Int32)] [(.int eD), (.ref aT)])) (fun t k => X117.iaload hx (j := (3 : Int32)) (v := (.int eD)) (by rw [e117]; exact Ar118.1) (State.isArrayOf_alike hZ.alike Ar118.2.1) Ar118.2.2 hin118 (Has.at H118 hin118 rfl) (g := (mkF m 151 #[rv aT, iv sT, .val (.double wT), .second, iv (1 : Int32), iv (3 : Int32)] [(.int (3 : Int32)), (.ref hT), (.ref aT)])) rfl rfl (hb hby own_d5_151) _ k) ?_
          refine oIL (n := 154) X117 hx (hb hby own_d5_152) rfl rfl ?_
          obtain ⟨cq119, q119, q119'⟩ := (Eo.wr W3).cell
          obtain ⟨_, _, ⟨T119, L119, k119, n119⟩, -, X119, ⟨Lc119, hQ119, l119, y119, z119⟩, st119⟩ := X117.privateBack hx (y := (⟨"com/example/meerkat/meerkat/simulate/Completions", "move", "(II)V"⟩ : MethodName)) hown (mvT hZ (oW hw 36 rfl)) (mvT hZ (oW hw 37 rfl)) (own_selP (y' := (⟨"com/example/meerkat/meerkat/simulate/Completions", "set", "(ID)V"⟩ : MethodName)) rfl (mvT hZ (oW hw 30 rfl)) (Cond.privateMethod_at (mvP hZ (oW hw 38 rfl) (args := #[]))) (mvT hZ (oW hw 37 rfl)) (by decide)) (Cond.privateMethod_at (mvP hZ (oW hw 38 rfl) (args := #[]))) (mvT hZ (oW hw 39 rfl)) (by decide) (backOf (W := 0) (rmM l Z a0 hw [] aT eD (1 : Int32) hT pT kh kp [eA, eB, eC, eD, eE, eF] PP h3 n0 (Nat.le_trans Z0 (Keep.of_wr W3).1) (Eo.wr W3) (Fh.other W3 (Or.inl (Exa.neArv (Eo.wr W3) V3 (oW hw 1 rfl)))) (Fp.other W3 (Or.inl (Exa.neArv (Eo.wr W3) V3 (oW hw 1 rfl)))) (Vh.other W3 (Ne.symm ngh)) (Vp.other W3 (Ne.symm ngp)) nhp g_hT g_pT rfl qL reD ⟨by decide, by decide⟩) hZ (oW hw 39 rfl) (oW hw 2 rfl) (by decide) (by decide)) (g := (mkF m 154 #[rv aT, iv sT, .val (.double wT), .second, iv (1 : Int32), iv (3 : Int32)] [(.int (1 : Int32)), (.int eD), (.ref aT)])) rfl (by rw [hml]; rfl) (Steps.refl _) (a := aT) (by rw [e117]; exact q119) q119' (argsL := [(.int eD), (.int (1 : Int32))]) (rest := []) (lenOf own_pd1 rfl) rfl (by show 2 * 0 + _ ≤ _; exact Nat.le_of_eq rfl) (hb hby own_d5_154) (fun _ _ => ⟨rfl, e117, (by decide : (((0 + 0) + 0) + 0) + 0 ≤ _), (by decide : (((0 + 0) + 0) + 0) + 0 ≤ _)⟩)
          dsimp only [Pt.U, Pt.locs, Pt.cells, Pt.slots] at X119 l119 y119 z119 st119 hQ119
          subst l119 y119 z119
          obtain ⟨rfl, Nq119, Kq119, f119_0, f119_1⟩ := hQ119
          have N119 := Fr.app N116 Nq119
          have Vh119 : Arv Z T119.heap hT kh .int (6 : Int32) [(.int eA), (.int eD), (.int eC), (.int eD), (.int eE), (.int eF)] (.int (0 : Int32)) := f119_0
          refine ov (B := T119.setTop (mkF m 157 #[rv aT, iv sT, .val (.double wT), .second, iv (1 : Int32), iv (3 : Int32)] [])) (fun t k => st119.trans k) ?_
          refine oIL (n := 159) X119 hx (hb hby own_d5_157) rfl rfl ?_
          refine ov (B := T119.setTop (mkF m 161 #[rv aT, iv sT, .val (.double wT), .second, iv (3 : Int32), iv (3 : Int32)] [])) (fun t k => XS.istore X119.here hx rfl (hb hby own_d5_159) rfl (l' := #[rv aT, iv sT, .val (.double wT), .second, iv (3 : Int32), iv (3 : Int32)]) rfl k) ?_
          refine oGO (n := 67) X119 hx (hb hby own_d5_161) (by decide) (by decide) ?_
          refine oIC (n := 68) X119 hx (2 : Int32) (hb hby own_d5_67) (by decide) rfl ?_
          refine oIL (n := 70) X119 hx (hb hby own_d5_68) rfl rfl ?_
          refine ov (B := T119.setTop (mkF m 71 #[rv aT, iv sT, .val (.double wT), .second, iv (3 : Int32), iv (3 : Int32)] [(.int (6 : Int32))])) (fun t k => XS.imul X119.here hx rfl (hb hby own_d5_70) rfl k) ?_
          refine oIC (n := 72) X119 hx (1 : Int32) (hb hby own_d5_71) (by decide) rfl ?_
          refine ov (B := T119.setTop (mkF m 73 #[rv aT, iv sT, .val (.double wT), .second, iv (3 : Int32), iv (3 : Int32)] [(.int (7 : Int32))])) (fun t k => XS.iadd X119.here hx rfl (hb hby own_d5_72) rfl k) ?_
          refine ov (B := T119.setTop (mkF m 75 #[rv aT, iv sT, .val (.double wT), .second, iv (3 : Int32), iv (7 : Int32)] [])) (fun t k => XS.istore X119.here hx rfl (hb hby own_d5_73) rfl (l' := #[rv aT, iv sT, .val (.double wT), .second, iv (3 : Int32), iv (7 : Int32)]) rfl k) ?_
          refine oIL (n := 77) X119 hx (hb hby own_d5_75) rfl rfl ?_
          refine oALN (n := 78) X119 hx (hb hby own_d5_77) rfl rfl rfl ?_
          obtain ⟨T120, X120, e120, st120⟩ := getF X119 hx hZ hown (host := "") (Or.inl (oW hw 13 rfl)) Via.refl rfl ((Fh.other W3 (Or.inl (Exa.neArv (Eo.wr W3) V3 (oW hw 1 rfl)))).keep Kq119 (ninS (Exa.neArv ((Eo.wr W3).keep Kq119) Vh119 (oW hw 1 rfl)) (ninS (Exa.neArv ((Eo.wr W3).keep Kq119) f119_1 (oW hw 1 rfl)) nin0))) (g := (mkF m 78 #[rv aT, iv sT, .val (.double wT), .second, iv (3 : Int32), iv (7 : Int32)] [(.ref aT), (.int (7 : Int32))])) rfl rfl (hb hby own_d5_78)
          refine ov (B := T120.setTop (mkF m 81 #[rv aT, iv sT, .val (.double wT), .second, iv (3 : Int32), iv (7 : Int32)] [(.ref hT), (.int (7 : Int32))])) (fun t k => st120 t k) ?_
          obtain ⟨cl121, Ar121, q121, S121, M121, H121, G121⟩ := id Vh119
          refine ov (B := T120.setTop (mkF m 82 #[rv aT, iv sT, .val (.double wT), .second, iv (3 : Int32), iv (7 : Int32)] [(.int (6 : Int32)), (.int (7 : Int32))])) (fun t k => X120.arraylength hx (by rw [e120]; exact Ar121.1) (State.isArrayOf_alike hZ.alike Ar121.2.1) (g := (mkF m 81 #[rv aT, iv sT, .val (.double wT), .second, iv (3 : Int32), iv (7 : Int32)] [(.ref hT), (.int (7 : Int32))])) rfl rfl (hb hby own_d5_81) _ (by rw [len_of S121 M121]; exact k)) ?_
          have hc82 : ¬ ((7 : Int32) < (6 : Int32)) := by decide
          refine ov (B := T120.setTop (mkF m 85 #[rv aT, iv sT, .val (.double wT), .second, iv (3 : Int32), iv (7 : Int32)] [])) (fun t k => XS.icmpNo X120.here hx rfl (hb hby own_d5_82) rfl (flt hc82).1 k) ?_
          refine oGO (n := 164) X120 hx (hb hby own_d5_85) (by decide) (by decide) ?_
          refine oALN (n := 165) X120 hx (hb hby own_d5_164) rfl rfl rfl ?_
          refine oILN (n := 166) X120 hx (hb hby own_d5_165) rfl rfl ?_
          refine oIL (n := 168) X120 hx (hb hby own_d5_166) rfl rfl ?_
          obtain ⟨cq122, q122, q122'⟩ := ((Eo.wr W3).keep Kq119).cell
          obtain ⟨_, _, ⟨T122, L122, k122, n122⟩, -, X122, ⟨Lc122, hQ122, l122, y122, z122⟩, st122⟩ := X120.privateBack hx (y := (⟨"com/example/meerkat/meerkat/simulate/Completions", "move", "(II)V"⟩ : MethodName)) hown (mvT hZ (oW hw 36 rfl)) (mvT hZ (oW hw 37 rfl)) (own_selP (y' := (⟨"com/example/meerkat/meerkat/simulate/Completions", "set", "(ID)V"⟩ : MethodName)) rfl (mvT hZ (oW hw 30 rfl)) (Cond.privateMethod_at (mvP hZ (oW hw 38 rfl) (args := #[]))) (mvT hZ (oW hw 37 rfl)) (by decide)) (Cond.privateMethod_at (mvP hZ (oW hw 38 rfl) (args := #[]))) (mvT hZ (oW hw 39 rfl)) (by decide) (backOf (W := 0) (rmM l Z a0 hw [] aT sT (3 : Int32) hT pT kh kp [eA, eD, eC, eD, eE, eF] (own_mv PP eD (1 : Int32)) T119.heap n0 (Nat.le_trans (Nat.le_trans Z0 (Keep.of_wr W3).1) Kq119.1) ((Eo.wr W3).keep Kq119) ((Fh.other W3 (Or.inl (Exa.neArv (Eo.wr W3) V3 (oW hw 1 rfl)))).keep Kq119 (ninS (Exa.neArv ((Eo.wr W3).keep Kq119) Vh119 (oW hw 1 rfl)) (ninS (Exa.neArv ((Eo.wr W3).keep Kq119) f119_1 (oW hw 1 rfl)) nin0))) ((Fp.other W3 (Or.inl (Exa.neArv (Eo.wr W3) V3 (oW hw 1 rfl)))).keep Kq119 (ninS (Exa.neArv ((Eo.wr W3).keep Kq119) Vh119 (oW hw 1 rfl)) (ninS (Exa.neArv ((Eo.wr W3).keep Kq119) f119_1 (oW hw 1 rfl)) nin0))) Vh119 f119_1 nhp g_hT g_pT rfl (own_mvl qL) qR ⟨by decide, by decide⟩) hZ (oW hw 39 rfl) (oW hw 2 rfl) (by decide) (by decide)) (g := (mkF m 168 #[rv aT, iv sT, .val (.double wT), .second, iv (3 : Int32), iv (7 : Int32)] [(.int (3 : Int32)), (.int sT), (.ref aT)])) rfl (by rw [hml]; rfl) (Steps.refl _) (a := aT) (by rw [e120]; exact q122) q122' (argsL := [(.int sT), (.int (3 : Int32))]) (rest := []) (lenOf own_pd1 rfl) rfl (by show 2 * 0 + _ ≤ _; exact Nat.le_of_eq rfl) (hb hby own_d5_168) (fun _ _ => ⟨rfl, e120, (by decide : ((((0 + 0) + 0) + 0) + 0) + 0 ≤ _), (by decide : ((((0 + 0) + 0) + 0) + 0) + 0 ≤ _)⟩)
          dsimp only [Pt.U, Pt.locs, Pt.cells, Pt.slots] at X122 l122 y122 z122 st122 hQ122
          subst l122 y122 z122
          obtain ⟨rfl, Nq122, Kq122, f122_0, f122_1⟩ := hQ122
          have N122 := Fr.app N119 Nq122
          have Vh122 : Arv Z T122.heap hT kh .int (6 : Int32) [(.int eA), (.int eD), (.int eC), (.int sT), (.int eE), (.int eF)] (.int (0 : Int32)) := f122_0
          refine ov (B := T122.setTop (mkF m 171 #[rv aT, iv sT, .val (.double wT), .second, iv (3 : Int32), iv (7 : Int32)] [])) (fun t k => st122.trans k) ?_
          refine own_leafV X122 hx hlk Bd.returns (hb hby own_d5_171) (by decide) (by decide) ?_
          show QT Z aT sT wT gT hT pT kt kh kp tt PP eA eB eC eD eE eF yT h0 n0 _ T122.heap _
          refine ⟨eA, eD, eC, sT, eE, eF, (own_mv (own_mv PP eD (1 : Int32)) sT (3 : Int32)), ?_, N122, ((((Keep.refl h0 [gT, hT, pT]).wr W3 (Or.inl (List.mem_of_getElem? (i := 0) rfl))).trans Kq119 (allS (Or.inl (List.mem_of_getElem? (i := 1) rfl)) (allS (Or.inl (List.mem_of_getElem? (i := 2) rfl)) all0))).trans Kq122 (allS (Or.inl (List.mem_of_getElem? (i := 1) rfl)) (allS (Or.inl (List.mem_of_getElem? (i := 2) rfl)) all0))), ?_, ?_, ?_, ?_, ((V3.keep Kq119 (ninS ngh (ninS ngp nin0))).keep Kq122 (ninS ngh (ninS ngp nin0))), Vh122, f122_1⟩
          · rfl
          · exact own_I1mv qI qR qY
          · exact ⟨(own_mvl (own_mvl qL)), reA, reD, reC, qR, reE, reF, ((own_mvN neA qR reA).trans ((own_mvN (own_ppne peD peA (by decide)) reD reA).trans peA)), ((own_mvN neD qR reD).trans (own_mvS qL reD)), ((own_mvN neC qR reC).trans ((own_mvN (own_ppne peD peC (by decide)) reD reC).trans peC)), (own_mvS (own_mvl qL) qR), ((own_mvN neE qR reE).trans ((own_mvN (own_ppne peD peE (by decide)) reD reE).trans peE)), ((own_mvN neF qR reF).trans ((own_mvN (own_ppne peD peF (by decide)) reD reF).trans peF))⟩
          · intro q hq'
            rcases qS q hq' with h | h | h | h | h | h
            · exact Or.inl (h)
            · exact Or.inr (Or.inr (Or.inr (Or.inl (h.trans hq.symm))))
            · exact Or.inr (Or.inr (Or.inl (h)))
            · exact Or.inr (Or.inl (h))
            · exact Or.inr (Or.inr (Or.inr (Or.inr (Or.inl (h)))))
            · exact Or.inr (Or.inr (Or.inr (Or.inr (Or.inr ((h))))))
          · exact ⟨by omega, by omega, by omega, by omega, by omega⟩
        · refine ov (B := T116.setTop (mkF m 141 #[rv aT, iv sT, .val (.double wT), .second, iv (1 : Int32), iv (3 : Int32)] [])) (fun t k => XS.ifNo X116.here hx rfl (hb hby own_d5_138) rfl ((if0 _ _).trans (teq (own_bit0.mpr hc138)).2) k) ?_
          refine oGO (n := 164) X116 hx (hb hby own_d5_141) (by decide) (by decide) ?_
          refine oALN (n := 165) X116 hx (hb hby own_d5_164) rfl rfl rfl ?_
          refine oILN (n := 166) X116 hx (hb hby own_d5_165) rfl rfl ?_
          refine oIL (n := 168) X116 hx (hb hby own_d5_166) rfl rfl ?_
          obtain ⟨cq123, q123, q123'⟩ := (Eo.wr W3).cell
          obtain ⟨_, _, ⟨T123, L123, k123, n123⟩, -, X123, ⟨Lc123, hQ123, l123, y123, z123⟩, st123⟩ := X116.privateBack hx (y := (⟨"com/example/meerkat/meerkat/simulate/Completions", "move", "(II)V"⟩ : MethodName)) hown (mvT hZ (oW hw 36 rfl)) (mvT hZ (oW hw 37 rfl)) (own_selP (y' := (⟨"com/example/meerkat/meerkat/simulate/Completions", "set", "(ID)V"⟩ : MethodName)) rfl (mvT hZ (oW hw 30 rfl)) (Cond.privateMethod_at (mvP hZ (oW hw 38 rfl) (args := #[]))) (mvT hZ (oW hw 37 rfl)) (by decide)) (Cond.privateMethod_at (mvP hZ (oW hw 38 rfl) (args := #[]))) (mvT hZ (oW hw 39 rfl)) (by decide) (backOf (W := 0) (rmM l Z a0 hw [] aT sT (1 : Int32) hT pT kh kp [eA, eB, eC, eD, eE, eF] PP h3 n0 (Nat.le_trans Z0 (Keep.of_wr W3).1) (Eo.wr W3) (Fh.other W3 (Or.inl (Exa.neArv (Eo.wr W3) V3 (oW hw 1 rfl)))) (Fp.other W3 (Or.inl (Exa.neArv (Eo.wr W3) V3 (oW hw 1 rfl)))) (Vh.other W3 (Ne.symm ngh)) (Vp.other W3 (Ne.symm ngp)) nhp g_hT g_pT rfl qL qR ⟨by decide, by decide⟩) hZ (oW hw 39 rfl) (oW hw 2 rfl) (by decide) (by decide)) (g := (mkF m 168 #[rv aT, iv sT, .val (.double wT), .second, iv (1 : Int32), iv (3 : Int32)] [(.int (1 : Int32)), (.int sT), (.ref aT)])) rfl (by rw [hml]; rfl) (Steps.refl _) (a := aT) (by rw [eq116]; exact q123) q123' (argsL := [(.int sT), (.int (1 : Int32))]) (rest := []) (lenOf own_pd1 rfl) rfl (by show 2 * 0 + _ ≤ _; exact Nat.le_of_eq rfl) (hb hby own_d5_168) (fun _ _ => ⟨rfl, eq116, (by decide : (((0 + 0) + 0) + 0) + 0 ≤ _), (by decide : (((0 + 0) + 0) + 0) + 0 ≤ _)⟩)
          dsimp only [Pt.U, Pt.locs, Pt.cells, Pt.slots] at X123 l123 y123 z123 st123 hQ123
          subst l123 y123 z123
          obtain ⟨rfl, Nq123, Kq123, f123_0, f123_1⟩ := hQ123
          have N123 := Fr.app N116 Nq123
          have Vh123 : Arv Z T123.heap hT kh .int (6 : Int32) [(.int eA), (.int sT), (.int eC), (.int eD), (.int eE), (.int eF)] (.int (0 : Int32)) := f123_0
          refine ov (B := T123.setTop (mkF m 171 #[rv aT, iv sT, .val (.double wT), .second, iv (1 : Int32), iv (3 : Int32)] [])) (fun t k => st123.trans k) ?_
          refine own_leafV X123 hx hlk Bd.returns (hb hby own_d5_171) (by decide) (by decide) ?_
          show QT Z aT sT wT gT hT pT kt kh kp tt PP eA eB eC eD eE eF yT h0 n0 _ T123.heap _
          refine ⟨eA, sT, eC, eD, eE, eF, (own_mv PP sT (1 : Int32)), ?_, N123, (((Keep.refl h0 [gT, hT, pT]).wr W3 (Or.inl (List.mem_of_getElem? (i := 0) rfl))).trans Kq123 (allS (Or.inl (List.mem_of_getElem? (i := 1) rfl)) (allS (Or.inl (List.mem_of_getElem? (i := 2) rfl)) all0))), ?_, ?_, ?_, ?_, (V3.keep Kq123 (ninS ngh (ninS ngp nin0))), Vh123, f123_1⟩
          · rfl
          · exact own_I1mv qI qR qY
          · exact ⟨(own_mvl qL), reA, qR, reC, reD, reE, reF, ((own_mvN neA qR reA).trans peA), (own_mvS qL qR), ((own_mvN neC qR reC).trans peC), ((own_mvN neD qR reD).trans peD), ((own_mvN neE qR reE).trans peE), ((own_mvN neF qR reF).trans peF)⟩
          · intro q hq'
            rcases qS q hq' with h | h | h | h | h | h
            · exact Or.inl (h)
            · exact Or.inr (Or.inl (h.trans hq.symm))
            · exact Or.inr (Or.inr (Or.inl (h)))
            · exact Or.inr (Or.inr (Or.inr (Or.inl (h))))
            · exact Or.inr (Or.inr (Or.inr (Or.inr (Or.inl (h)))))
            · exact Or.inr (Or.inr (Or.inr (Or.inr (Or.inr ((h))))))
          · exact ⟨by omega, by omega, by omega, by omega, by omega⟩
  · have hk : PP.getD sT.toNatClampNeg 0 = (2 : Int32) := by rw [hq]; exact peC
    rw [hk]
    have neA : sT ≠ eA := own_ppne (l := PP) hk peA (by decide)
    have eeA : own_rk (own_mv tt sT yT) eA = own_rk tt eA := own_rkne neA qR reA
    have neB : sT ≠ eB := own_ppne (l := PP) hk peB (by decide)
    have eeB : own_rk (own_mv tt sT yT) eB = own_rk tt eB := own_rkne neB qR reB
    have neD : sT ≠ eD := own_ppne (l := PP) hk peD (by decide)
    have eeD : own_rk (own_mv tt sT yT) eD = own_rk tt eD := own_rkne neD qR reD
    have neE : sT ≠ eE := own_ppne (l := PP) hk peE (by decide)
    have eeE : own_rk (own_mv tt sT yT) eE = own_rk tt eE := own_rkne neE qR reE
    have neF : sT ≠ eF := own_ppne (l := PP) hk peF (by decide)
    have eeF : own_rk (own_mv tt sT yT) eF = own_rk tt eF := own_rkne neF qR reF
    refine oIL (n := 17) X4 hx (hb hby own_d5_15) rfl rfl ?_
    have hc17 : (0 : Int32) < (2 : Int32) := by decide
    refine ov (B := T4.setTop (mkF m 20 #[rv aT, iv sT, .val (.double wT), .second, iv (2 : Int32), uu] [])) (fun t k => XS.ifNo X4.here hx rfl (hb hby own_d5_17) rfl ((if0 _ _).trans (tlt hc17).2.2.2) k) ?_
    refine oALN (n := 21) X4 hx (hb hby own_d5_20) rfl rfl rfl ?_
    refine oILN (n := 22) X4 hx (hb hby own_d5_21) rfl rfl ?_
    refine oALN (n := 23) X4 hx (hb hby own_d5_22) rfl rfl rfl ?_
    obtain ⟨T124, X124, e124, st124⟩ := getF X4 hx hZ hown (host := "") (Or.inl (oW hw 13 rfl)) Via.refl e4 (Fh.other W3 (Or.inl (Exa.neArv (Eo.wr W3) V3 (oW hw 1 rfl)))) (g := (mkF m 23 #[rv aT, iv sT, .val (.double wT), .second, iv (2 : Int32), uu] [(.ref aT), (.int sT), (.ref aT)])) rfl rfl (hb hby own_d5_23)
    refine ov (B := T124.setTop (mkF m 26 #[rv aT, iv sT, .val (.double wT), .second, iv (2 : Int32), uu] [(.ref hT), (.int sT), (.ref aT)])) (fun t k => st124 t k) ?_
    refine oIL (n := 28) X124 hx (hb hby own_d5_26) rfl rfl ?_
    refine oIC (n := 29) X124 hx (1 : Int32) (hb hby own_d5_28) (by decide) rfl ?_
    refine ov (B := T124.setTop (mkF m 30 #[rv aT, iv sT, .val (.double wT), .second, iv (2 : Int32), uu] [(.int (1 : Int32)), (.ref hT), (.int sT), (.ref aT)])) (fun t k => XS.isub X124.here hx rfl (hb hby own_d5_29) rfl k) ?_
    refine oIC (n := 31) X124 hx (2 : Int32) (hb hby own_d5_30) (by decide) rfl ?_
    refine ov (B := T124.setTop (mkF m 32 #[rv aT, iv sT, .val (.double wT), .second, iv (2 : Int32), uu] [(.int (0 : Int32)), (.ref hT), (.int sT), (.ref aT)])) (fun t k => XS.idiv X124.here hx rfl (hb hby own_d5_31) rfl (by decide) (by rw [(by decide : (1 : Int32) / (2 : Int32) = (0 : Int32))]; exact k)) ?_
    obtain ⟨cl125, Ar125, q125, S125, M125, H125, G125⟩ := id (Vh.other W3 (Ne.symm ngh))
    have hin125 : ¬ ((0 : Int32) < 0 ∨ cl125.slots.size ≤ ((0 : Int32)).toNatClampNeg) := inb_of S125 ⟨by decide, by decide⟩
    refine ov (B := T124.setTop (mkF m 33 #[rv aT, iv sT, .val (.double wT), .second, iv (2 : Int32), uu] [(.int eA), (.int sT), (.ref aT)])) (fun t k => X124.iaload hx (j := (0 : Int32)) (v := (.int eA)) (by rw [e124]; exact Ar125.1) (State.isArrayOf_alike hZ.alike Ar125.2.1) Ar125.2.2 hin125 (Has.at H125 hin125 rfl) (g := (mkF m 32 #[rv aT, iv sT, .val (.double wT), .second, iv (2 : Int32), uu] [(.int (0 : Int32)), (.ref hT), (.int sT), (.ref aT)])) rfl rfl (hb hby own_d5_32) _ k) ?_
    obtain ⟨cq126, q126, q126'⟩ := (Eo.wr W3).cell
    obtain ⟨_, _, ⟨T126, L126, k126, n126⟩, -, X126, ⟨Lc126, hQ126, l126, y126, z126⟩, st126⟩ := X124.privateBack hx (y := (⟨"com/example/meerkat/meerkat/simulate/Completions", "before", "(II)Z"⟩ : MethodName)) hown (mvT hZ (oW hw 32 rfl)) (mvT hZ (oW hw 33 rfl)) (own_selP (y' := (⟨"com/example/meerkat/meerkat/simulate/Completions", "set", "(ID)V"⟩ : MethodName)) rfl (mvT hZ (oW hw 30 rfl)) (Cond.privateMethod_at (mvP hZ (oW hw 34 rfl) (args := #[]))) (mvT hZ (oW hw 33 rfl)) (by decide)) (Cond.privateMethod_at (mvP hZ (oW hw 34 rfl) (args := #[]))) (mvT hZ (oW hw 35 rfl)) (by decide) (backOf (W := 0) (rmB l Z a0 hw [] aT sT eA gT kt (own_mv tt sT yT) h3 n0 (Nat.le_trans Z0 (Keep.of_wr W3).1) (Ft.other W3 (Or.inl (Exa.neArv (Eo.wr W3) V3 (oW hw 1 rfl)))) V3 (own_I1mv qI qR qY) qR reA) hZ (oW hw 35 rfl) (oW hw 2 rfl) (by decide) (by decide)) (g := (mkF m 33 #[rv aT, iv sT, .val (.double wT), .second, iv (2 : Int32), uu] [(.int eA), (.int sT), (.ref aT)])) rfl (by rw [hml]; rfl) (Steps.refl _) (a := aT) (by rw [e124]; exact q126) q126' (argsL := [(.int sT), (.int eA)]) (rest := []) (lenOf own_pd0 rfl) rfl (by show 2 * 0 + _ ≤ _; exact Nat.le_of_eq rfl) (hb hby own_d5_33) (fun _ _ => ⟨rfl, e124, (by decide : 0 + 0 ≤ _), (by decide : 0 + 0 ≤ _)⟩)
    dsimp only [Pt.U, Pt.locs, Pt.cells, Pt.slots] at X126 l126 y126 z126 st126 hQ126
    subst l126 y126 z126
    obtain ⟨rfl, Nq126, eq126⟩ := hQ126
    have N126 := Fr.app N3 Nq126
    refine ov (B := T126.setTop (mkF m 36 #[rv aT, iv sT, .val (.double wT), .second, iv (2 : Int32), uu] [(.int (own_bit (own_rk (own_mv tt sT yT) sT < own_rk (own_mv tt sT yT) eA)))])) (fun t k => st126.trans k) ?_
    by_cases hc36 : own_rk (own_mv tt sT yT) sT < own_rk (own_mv tt sT yT) eA
    · refine ov (B := T126.setTop (mkF m 39 #[rv aT, iv sT, .val (.double wT), .second, iv (2 : Int32), uu] [])) (fun t k => XS.ifNo X126.here hx rfl (hb hby own_d5_36) rfl ((if0 _ _).trans (feq (own_bitne hc36)).1) k) ?_
      refine oALN (n := 40) X126 hx (hb hby own_d5_39) rfl rfl rfl ?_
      refine oALN (n := 41) X126 hx (hb hby own_d5_40) rfl rfl rfl ?_
      obtain ⟨T127, X127, e127, st127⟩ := getF X126 hx hZ hown (host := "") (Or.inl (oW hw 13 rfl)) Via.refl eq126 (Fh.other W3 (Or.inl (Exa.neArv (Eo.wr W3) V3 (oW hw 1 rfl)))) (g := (mkF m 41 #[rv aT, iv sT, .val (.double wT), .second, iv (2 : Int32), uu] [(.ref aT), (.ref aT)])) rfl rfl (hb hby own_d5_41)
      refine ov (B := T127.setTop (mkF m 44 #[rv aT, iv sT, .val (.double wT), .second, iv (2 : Int32), uu] [(.ref hT), (.ref aT)])) (fun t k => st127 t k) ?_
      refine oIL (n := 46) X127 hx (hb hby own_d5_44) rfl rfl ?_
      refine oIC (n := 47) X127 hx (1 : Int32) (hb hby own_d5_46) (by decide) rfl ?_
      refine ov (B := T127.setTop (mkF m 48 #[rv aT, iv sT, .val (.double wT), .second, iv (2 : Int32), uu] [(.int (1 : Int32)), (.ref hT), (.ref aT)])) (fun t k => XS.isub X127.here hx rfl (hb hby own_d5_47) rfl k) ?_
      refine oIC (n := 49) X127 hx (2 : Int32) (hb hby own_d5_48) (by decide) rfl ?_
      refine ov (B := T127.setTop (mkF m 50 #[rv aT, iv sT, .val (.double wT), .second, iv (2 : Int32), uu] [(.int (0 : Int32)), (.ref hT), (.ref aT)])) (fun t k => XS.idiv X127.here hx rfl (hb hby own_d5_49) rfl (by decide) (by rw [(by decide : (1 : Int32) / (2 : Int32) = (0 : Int32))]; exact k)) ?_
      obtain ⟨cl128, Ar128, q128, S128, M128, H128, G128⟩ := id (Vh.other W3 (Ne.symm ngh))
      have hin128 : ¬ ((0 : Int32) < 0 ∨ cl128.slots.size ≤ ((0 : Int32)).toNatClampNeg) := inb_of S128 ⟨by decide, by decide⟩
      refine ov (B := T127.setTop (mkF m 51 #[rv aT, iv sT, .val (.double wT), .second, iv (2 : Int32), uu] [(.int eA), (.ref aT)])) (fun t k => X127.iaload hx (j := (0 : Int32)) (v := (.int eA)) (by rw [e127]; exact Ar128.1) (State.isArrayOf_alike hZ.alike Ar128.2.1) Ar128.2.2 hin128 (Has.at H128 hin128 rfl) (g := (mkF m 50 #[rv aT, iv sT, .val (.double wT), .second, iv (2 : Int32), uu] [(.int (0 : Int32)), (.ref hT), (.ref aT)])) rfl rfl (hb hby own_d5_50) _ k) ?_
      refine oIL (n := 53) X127 hx (hb hby own_d5_51) rfl rfl ?_
      obtain ⟨cq129, q129, q129'⟩ := (Eo.wr W3).cell
      obtain ⟨_, _, ⟨T129, L129, k129, n129⟩, -, X129, ⟨Lc129, hQ129, l129, y129, z129⟩, st129⟩ := X127.privateBack hx (y := (⟨"com/example/meerkat/meerkat/simulate/Completions", "move", "(II)V"⟩ : MethodName)) hown (mvT hZ (oW hw 36 rfl)) (mvT hZ (oW hw 37 rfl)) (own_selP (y' := (⟨"com/example/meerkat/meerkat/simulate/Completions", "set", "(ID)V"⟩ : MethodName)) rfl (mvT hZ (oW hw 30 rfl)) (Cond.privateMethod_at (mvP hZ (oW hw 38 rfl) (args := #[]))) (mvT hZ (oW hw 37 rfl)) (by decide)) (Cond.privateMethod_at (mvP hZ (oW hw 38 rfl) (args := #[]))) (mvT hZ (oW hw 39 rfl)) (by decide) (backOf (W := 0) (rmM l Z a0 hw [] aT eA (2 : Int32) hT pT kh kp [eA, eB, eC, eD, eE, eF] PP h3 n0 (Nat.le_trans Z0 (Keep.of_wr W3).1) (Eo.wr W3) (Fh.other W3 (Or.inl (Exa.neArv (Eo.wr W3) V3 (oW hw 1 rfl)))) (Fp.other W3 (Or.inl (Exa.neArv (Eo.wr W3) V3 (oW hw 1 rfl)))) (Vh.other W3 (Ne.symm ngh)) (Vp.other W3 (Ne.symm ngp)) nhp g_hT g_pT rfl qL reA ⟨by decide, by decide⟩) hZ (oW hw 39 rfl) (oW hw 2 rfl) (by decide) (by decide)) (g := (mkF m 53 #[rv aT, iv sT, .val (.double wT), .second, iv (2 : Int32), uu] [(.int (2 : Int32)), (.int eA), (.ref aT)])) rfl (by rw [hml]; rfl) (Steps.refl _) (a := aT) (by rw [e127]; exact q129) q129' (argsL := [(.int eA), (.int (2 : Int32))]) (rest := []) (lenOf own_pd1 rfl) rfl (by show 2 * 0 + _ ≤ _; exact Nat.le_of_eq rfl) (hb hby own_d5_53) (fun _ _ => ⟨rfl, e127, (by decide : (0 + 0) + 0 ≤ _), (by decide : (0 + 0) + 0 ≤ _)⟩)
      dsimp only [Pt.U, Pt.locs, Pt.cells, Pt.slots] at X129 l129 y129 z129 st129 hQ129
      subst l129 y129 z129
      obtain ⟨rfl, Nq129, Kq129, f129_0, f129_1⟩ := hQ129
      have N129 := Fr.app N126 Nq129
      have Vh129 : Arv Z T129.heap hT kh .int (6 : Int32) [(.int eA), (.int eB), (.int eA), (.int eD), (.int eE), (.int eF)] (.int (0 : Int32)) := f129_0
      refine ov (B := T129.setTop (mkF m 56 #[rv aT, iv sT, .val (.double wT), .second, iv (2 : Int32), uu] [])) (fun t k => st129.trans k) ?_
      refine oIL (n := 58) X129 hx (hb hby own_d5_56) rfl rfl ?_
      refine oIC (n := 59) X129 hx (1 : Int32) (hb hby own_d5_58) (by decide) rfl ?_
      refine ov (B := T129.setTop (mkF m 60 #[rv aT, iv sT, .val (.double wT), .second, iv (2 : Int32), uu] [(.int (1 : Int32))])) (fun t k => XS.isub X129.here hx rfl (hb hby own_d5_59) rfl k) ?_
      refine oIC (n := 61) X129 hx (2 : Int32) (hb hby own_d5_60) (by decide) rfl ?_
      refine ov (B := T129.setTop (mkF m 62 #[rv aT, iv sT, .val (.double wT), .second, iv (2 : Int32), uu] [(.int (0 : Int32))])) (fun t k => XS.idiv X129.here hx rfl (hb hby own_d5_61) rfl (by decide) (by rw [(by decide : (1 : Int32) / (2 : Int32) = (0 : Int32))]; exact k)) ?_
      refine ov (B := T129.setTop (mkF m 64 #[rv aT, iv sT, .val (.double wT), .second, iv (0 : Int32), uu] [])) (fun t k => XS.istore X129.here hx rfl (hb hby own_d5_62) rfl (l' := #[rv aT, iv sT, .val (.double wT), .second, iv (0 : Int32), uu]) rfl k) ?_
      refine oGO (n := 15) X129 hx (hb hby own_d5_64) (by decide) (by decide) ?_
      refine oIL (n := 17) X129 hx (hb hby own_d5_15) rfl rfl ?_
      have hc17 : ¬ ((0 : Int32) < (0 : Int32)) := by decide
      refine ov (B := T129.setTop (mkF m 67 #[rv aT, iv sT, .val (.double wT), .second, iv (0 : Int32), uu] [])) (fun t k => XS.ifYes X129.here hx rfl (pc0 := 17) (pc' := 67) rfl (hb hby own_d5_17) rfl ((if0 _ _).trans (flt hc17).2.2.2) (by decide) (by decide) k) ?_
      refine oIC (n := 68) X129 hx (2 : Int32) (hb hby own_d5_67) (by decide) rfl ?_
      refine oIL (n := 70) X129 hx (hb hby own_d5_68) rfl rfl ?_
      refine ov (B := T129.setTop (mkF m 71 #[rv aT, iv sT, .val (.double wT), .second, iv (0 : Int32), uu] [(.int (0 : Int32))])) (fun t k => XS.imul X129.here hx rfl (hb hby own_d5_70) rfl k) ?_
      refine oIC (n := 72) X129 hx (1 : Int32) (hb hby own_d5_71) (by decide) rfl ?_
      refine ov (B := T129.setTop (mkF m 73 #[rv aT, iv sT, .val (.double wT), .second, iv (0 : Int32), uu] [(.int (1 : Int32))])) (fun t k => XS.iadd X129.here hx rfl (hb hby own_d5_72) rfl k) ?_
      refine ov (B := T129.setTop (mkF m 75 #[rv aT, iv sT, .val (.double wT), .second, iv (0 : Int32), iv (1 : Int32)] [])) (fun t k => XS.istore X129.here hx rfl (hb hby own_d5_73) rfl (l' := #[rv aT, iv sT, .val (.double wT), .second, iv (0 : Int32), iv (1 : Int32)]) rfl k) ?_
      refine oIL (n := 77) X129 hx (hb hby own_d5_75) rfl rfl ?_
      refine oALN (n := 78) X129 hx (hb hby own_d5_77) rfl rfl rfl ?_
      obtain ⟨T130, X130, e130, st130⟩ := getF X129 hx hZ hown (host := "") (Or.inl (oW hw 13 rfl)) Via.refl rfl ((Fh.other W3 (Or.inl (Exa.neArv (Eo.wr W3) V3 (oW hw 1 rfl)))).keep Kq129 (ninS (Exa.neArv ((Eo.wr W3).keep Kq129) Vh129 (oW hw 1 rfl)) (ninS (Exa.neArv ((Eo.wr W3).keep Kq129) f129_1 (oW hw 1 rfl)) nin0))) (g := (mkF m 78 #[rv aT, iv sT, .val (.double wT), .second, iv (0 : Int32), iv (1 : Int32)] [(.ref aT), (.int (1 : Int32))])) rfl rfl (hb hby own_d5_78)
      refine ov (B := T130.setTop (mkF m 81 #[rv aT, iv sT, .val (.double wT), .second, iv (0 : Int32), iv (1 : Int32)] [(.ref hT), (.int (1 : Int32))])) (fun t k => st130 t k) ?_
      obtain ⟨cl131, Ar131, q131, S131, M131, H131, G131⟩ := id Vh129
      refine ov (B := T130.setTop (mkF m 82 #[rv aT, iv sT, .val (.double wT), .second, iv (0 : Int32), iv (1 : Int32)] [(.int (6 : Int32)), (.int (1 : Int32))])) (fun t k => X130.arraylength hx (by rw [e130]; exact Ar131.1) (State.isArrayOf_alike hZ.alike Ar131.2.1) (g := (mkF m 81 #[rv aT, iv sT, .val (.double wT), .second, iv (0 : Int32), iv (1 : Int32)] [(.ref hT), (.int (1 : Int32))])) rfl rfl (hb hby own_d5_81) _ (by rw [len_of S131 M131]; exact k)) ?_
      have hc82 : (1 : Int32) < (6 : Int32) := by decide
      refine ov (B := T130.setTop (mkF m 88 #[rv aT, iv sT, .val (.double wT), .second, iv (0 : Int32), iv (1 : Int32)] [])) (fun t k => XS.icmpYes X130.here hx rfl (pc0 := 82) (pc' := 88) rfl (hb hby own_d5_82) rfl (tlt hc82).1 (by decide) (by decide) k) ?_
      refine oIL (n := 90) X130 hx (hb hby own_d5_88) rfl rfl ?_
      refine oIC (n := 91) X130 hx (1 : Int32) (hb hby own_d5_90) (by decide) rfl ?_
      refine ov (B := T130.setTop (mkF m 92 #[rv aT, iv sT, .val (.double wT), .second, iv (0 : Int32), iv (1 : Int32)] [(.int (2 : Int32))])) (fun t k => XS.iadd X130.here hx rfl (hb hby own_d5_91) rfl k) ?_
      refine oALN (n := 93) X130 hx (hb hby own_d5_92) rfl rfl rfl ?_
      obtain ⟨T132, X132, e132, st132⟩ := getF X130 hx hZ hown (host := "") (Or.inl (oW hw 13 rfl)) Via.refl e130 ((Fh.other W3 (Or.inl (Exa.neArv (Eo.wr W3) V3 (oW hw 1 rfl)))).keep Kq129 (ninS (Exa.neArv ((Eo.wr W3).keep Kq129) Vh129 (oW hw 1 rfl)) (ninS (Exa.neArv ((Eo.wr W3).keep Kq129) f129_1 (oW hw 1 rfl)) nin0))) (g := (mkF m 93 #[rv aT, iv sT, .val (.double wT), .second, iv (0 : Int32), iv (1 : Int32)] [(.ref aT), (.int (2 : Int32))])) rfl rfl (hb hby own_d5_93)
      refine ov (B := T132.setTop (mkF m 96 #[rv aT, iv sT, .val (.double wT), .second, iv (0 : Int32), iv (1 : Int32)] [(.ref hT), (.int (2 : Int32))])) (fun t k => st132 t k) ?_
      obtain ⟨cl133, Ar133, q133, S133, M133, H133, G133⟩ := id Vh129
      refine ov (B := T132.setTop (mkF m 97 #[rv aT, iv sT, .val (.double wT), .second, iv (0 : Int32), iv (1 : Int32)] [(.int (6 : Int32)), (.int (2 : Int32))])) (fun t k => X132.arraylength hx (by rw [e132]; exact Ar133.1) (State.isArrayOf_alike hZ.alike Ar133.2.1) (g := (mkF m 96 #[rv aT, iv sT, .val (.double wT), .second, iv (0 : Int32), iv (1 : Int32)] [(.ref hT), (.int (2 : Int32))])) rfl rfl (hb hby own_d5_96) _ (by rw [len_of S133 M133]; exact k)) ?_
      have hc97 : (2 : Int32) < (6 : Int32) := by decide
      refine ov (B := T132.setTop (mkF m 100 #[rv aT, iv sT, .val (.double wT), .second, iv (0 : Int32), iv (1 : Int32)] [])) (fun t k => XS.icmpNo X132.here hx rfl (hb hby own_d5_97) rfl (tlt hc97).2.1 k) ?_
      refine oALN (n := 101) X132 hx (hb hby own_d5_100) rfl rfl rfl ?_
      refine oALN (n := 102) X132 hx (hb hby own_d5_101) rfl rfl rfl ?_
      obtain ⟨T134, X134, e134, st134⟩ := getF X132 hx hZ hown (host := "") (Or.inl (oW hw 13 rfl)) Via.refl e132 ((Fh.other W3 (Or.inl (Exa.neArv (Eo.wr W3) V3 (oW hw 1 rfl)))).keep Kq129 (ninS (Exa.neArv ((Eo.wr W3).keep Kq129) Vh129 (oW hw 1 rfl)) (ninS (Exa.neArv ((Eo.wr W3).keep Kq129) f129_1 (oW hw 1 rfl)) nin0))) (g := (mkF m 102 #[rv aT, iv sT, .val (.double wT), .second, iv (0 : Int32), iv (1 : Int32)] [(.ref aT), (.ref aT)])) rfl rfl (hb hby own_d5_102)
      refine ov (B := T134.setTop (mkF m 105 #[rv aT, iv sT, .val (.double wT), .second, iv (0 : Int32), iv (1 : Int32)] [(.ref hT), (.ref aT)])) (fun t k => st134 t k) ?_
      refine oIL (n := 107) X134 hx (hb hby own_d5_105) rfl rfl ?_
      refine oIC (n := 108) X134 hx (1 : Int32) (hb hby own_d5_107) (by decide) rfl ?_
      refine ov (B := T134.setTop (mkF m 109 #[rv aT, iv sT, .val (.double wT), .second, iv (0 : Int32), iv (1 : Int32)] [(.int (2 : Int32)), (.ref hT), (.ref aT)])) (fun t k => XS.iadd X134.here hx rfl (hb hby own_d5_108) rfl k) ?_
      obtain ⟨cl135, Ar135, q135, S135, M135, H135, G135⟩ := id Vh129
      have hin135 : ¬ ((2 : Int32) < 0 ∨ cl135.slots.size ≤ ((2 : Int32)).toNatClampNeg) := inb_of S135 ⟨by decide, by decide⟩
      refine ov (B := T134.setTop (mkF m 110 #[rv aT, iv sT, .val (.double wT), .second, iv (0 : Int32), iv (1 : Int32)] [(.int eA), (.ref aT)])) (fun t k => X134.iaload hx (j := (2 : Int32)) (v := (.int eA)) (by rw [e134]; exact Ar135.1) (State.isArrayOf_alike hZ.alike Ar135.2.1) Ar135.2.2 hin135 (Has.at H135 hin135 rfl) (g := (mkF m 109 #[rv aT, iv sT, .val (.double wT), .second, iv (0 : Int32), iv (1 : Int32)] [(.int (2 : Int32)), (.ref hT), (.ref aT)])) rfl rfl (hb hby own_d5_109) _ k) ?_
      refine oALN (n := 111) X134 hx (hb hby own_d5_110) rfl rfl rfl ?_
      obtain ⟨T136, X136, e136, st136⟩ := getF X134 hx hZ hown (host := "") (Or.inl (oW hw 13 rfl)) Via.refl e134 ((Fh.other W3 (Or.inl (Exa.neArv (Eo.wr W3) V3 (oW hw 1 rfl)))).keep Kq129 (ninS (Exa.neArv ((Eo.wr W3).keep Kq129) Vh129 (oW hw 1 rfl)) (ninS (Exa.neArv ((Eo.wr W3).keep Kq129) f129_1 (oW hw 1 rfl)) nin0))) (g := (mkF m 111 #[rv aT, iv sT, .val (.double wT), .second, iv (0 : Int32), iv (1 : Int32)] [(.ref aT), (.int eA), (.ref aT)])) rfl rfl (hb hby own_d5_111)
      refine ov (B := T136.setTop (mkF m 114 #[rv aT, iv sT, .val (.double wT), .second, iv (0 : Int32), iv (1 : Int32)] [(.ref hT), (.int eA), (.ref aT)])) (fun t k => st136 t k) ?_
      refine oIL (n := 116) X136 hx (hb hby own_d5_114) rfl rfl ?_
      obtain ⟨cl137, Ar137, q137, S137, M137, H137, G137⟩ := id Vh129
      have hin137 : ¬ ((1 : Int32) < 0 ∨ cl137.slots.size ≤ ((1 : Int32)).toNatClampNeg) := inb_of S137 ⟨by decide, by decide⟩
      refine ov (B := T136.setTop (mkF m 117 #[rv aT, iv sT, .val (.double wT), .second, iv (0 : Int32), iv (1 : Int32)] [(.int eB), (.int eA), (.ref aT)])) (fun t k => X136.iaload hx (j := (1 : Int32)) (v := (.int eB)) (by rw [e136]; exact Ar137.1) (State.isArrayOf_alike hZ.alike Ar137.2.1) Ar137.2.2 hin137 (Has.at H137 hin137 rfl) (g := (mkF m 116 #[rv aT, iv sT, .val (.double wT), .second, iv (0 : Int32), iv (1 : Int32)] [(.int (1 : Int32)), (.ref hT), (.int eA), (.ref aT)])) rfl rfl (hb hby own_d5_116) _ k) ?_
      obtain ⟨cq138, q138, q138'⟩ := ((Eo.wr W3).keep Kq129).cell
      obtain ⟨_, _, ⟨T138, L138, k138, n138⟩, -, X138, ⟨Lc138, hQ138, l138, y138, z138⟩, st138⟩ := X136.privateBack hx (y := (⟨"com/example/meerkat/meerkat/simulate/Completions", "before", "(II)Z"⟩ : MethodName)) hown (mvT hZ (oW hw 32 rfl)) (mvT hZ (oW hw 33 rfl)) (own_selP (y' := (⟨"com/example/meerkat/meerkat/simulate/Completions", "set", "(ID)V"⟩ : MethodName)) rfl (mvT hZ (oW hw 30 rfl)) (Cond.privateMethod_at (mvP hZ (oW hw 34 rfl) (args := #[]))) (mvT hZ (oW hw 33 rfl)) (by decide)) (Cond.privateMethod_at (mvP hZ (oW hw 34 rfl) (args := #[]))) (mvT hZ (oW hw 35 rfl)) (by decide) (backOf (W := 0) (rmB l Z a0 hw [] aT eA eB gT kt (own_mv tt sT yT) T129.heap n0 (Nat.le_trans (Nat.le_trans Z0 (Keep.of_wr W3).1) Kq129.1) ((Ft.other W3 (Or.inl (Exa.neArv (Eo.wr W3) V3 (oW hw 1 rfl)))).keep Kq129 (ninS (Exa.neArv ((Eo.wr W3).keep Kq129) Vh129 (oW hw 1 rfl)) (ninS (Exa.neArv ((Eo.wr W3).keep Kq129) f129_1 (oW hw 1 rfl)) nin0))) (V3.keep Kq129 (ninS ngh (ninS ngp nin0))) (own_I1mv qI qR qY) reA reB) hZ (oW hw 35 rfl) (oW hw 2 rfl) (by decide) (by decide)) (g := (mkF m 117 #[rv aT, iv sT, .val (.double wT), .second, iv (0 : Int32), iv (1 : Int32)] [(.int eB), (.int eA), (.ref aT)])) rfl (by rw [hml]; rfl) (Steps.refl _) (a := aT) (by rw [e136]; exact q138) q138' (argsL := [(.int eA), (.int eB)]) (rest := []) (lenOf own_pd0 rfl) rfl (by show 2 * 0 + _ ≤ _; exact Nat.le_of_eq rfl) (hb hby own_d5_117) (fun _ _ => ⟨rfl, e136, (by decide : ((0 + 0) + 0) + 0 ≤ _), (by decide : ((0 + 0) + 0) + 0 ≤ _)⟩)
      dsimp only [Pt.U, Pt.locs, Pt.cells, Pt.slots] at X138 l138 y138 z138 st138 hQ138
      subst l138 y138 z138
      obtain ⟨rfl, Nq138, eq138⟩ := hQ138
      have N138 := Fr.app N129 Nq138
      refine ov (B := T138.setTop (mkF m 120 #[rv aT, iv sT, .val (.double wT), .second, iv (0 : Int32), iv (1 : Int32)] [(.int (own_bit (own_rk (own_mv tt sT yT) eA < own_rk (own_mv tt sT yT) eB)))])) (fun t k => st138.trans k) ?_
      by_cases hc120 : own_rk (own_mv tt sT yT) eA < own_rk (own_mv tt sT yT) eB
      · refine ov (B := T138.setTop (mkF m 123 #[rv aT, iv sT, .val (.double wT), .second, iv (0 : Int32), iv (1 : Int32)] [])) (fun t k => XS.ifNo X138.here hx rfl (hb hby own_d5_120) rfl ((if0 _ _).trans (feq (own_bitne hc120)).1) k) ?_
        refine ov (B := T138.setTop (mkF m 126 #[rv aT, iv sT, .val (.double wT), .second, iv (0 : Int32), iv (2 : Int32)] [])) (fun t k => XS.iinc X138.here hx rfl (hb hby own_d5_123) rfl (l' := #[rv aT, iv sT, .val (.double wT), .second, iv (0 : Int32), iv (2 : Int32)]) rfl k) ?_
        refine oALN (n := 127) X138 hx (hb hby own_d5_126) rfl rfl rfl ?_
        refine oALN (n := 128) X138 hx (hb hby own_d5_127) rfl rfl rfl ?_
        obtain ⟨T139, X139, e139, st139⟩ := getF X138 hx hZ hown (host := "") (Or.inl (oW hw 13 rfl)) Via.refl eq138 ((Fh.other W3 (Or.inl (Exa.neArv (Eo.wr W3) V3 (oW hw 1 rfl)))).keep Kq129 (ninS (Exa.neArv ((Eo.wr W3).keep Kq129) Vh129 (oW hw 1 rfl)) (ninS (Exa.neArv ((Eo.wr W3).keep Kq129) f129_1 (oW hw 1 rfl)) nin0))) (g := (mkF m 128 #[rv aT, iv sT, .val (.double wT), .second, iv (0 : Int32), iv (2 : Int32)] [(.ref aT), (.ref aT)])) rfl rfl (hb hby own_d5_128)
        refine ov (B := T139.setTop (mkF m 131 #[rv aT, iv sT, .val (.double wT), .second, iv (0 : Int32), iv (2 : Int32)] [(.ref hT), (.ref aT)])) (fun t k => st139 t k) ?_
        refine oIL (n := 133) X139 hx (hb hby own_d5_131) rfl rfl ?_
        obtain ⟨cl140, Ar140, q140, S140, M140, H140, G140⟩ := id Vh129
        have hin140 : ¬ ((2 : Int32) < 0 ∨ cl140.slots.size ≤ ((2 : Int32)).toNatClampNeg) := inb_of S140 ⟨by decide, by decide⟩
        refine ov (B := T139.setTop (mkF m 134 #[rv aT, iv sT, .val (.double wT), .second, iv (0 : Int32), iv (2 : Int32)] [(.int eA), (.ref aT)])) (fun t k => X139.iaload hx (j := (2 : Int32)) (v := (.int eA)) (by rw [e139]; exact Ar140.1) (State.isArrayOf_alike hZ.alike Ar140.2.1) Ar140.2.2 hin140 (Has.at H140 hin140 rfl) (g := (mkF m 133 #[rv aT, iv sT, .val (.double wT), .second, iv (0 : Int32), iv (2 : Int32)] [(.int (2 : Int32)), (.ref hT), (.ref aT)])) rfl rfl (hb hby own_d5_133) _ k) ?_
        refine oILN (n := 135) X139 hx (hb hby own_d5_134) rfl rfl ?_
        obtain ⟨cq141, q141, q141'⟩ := ((Eo.wr W3).keep Kq129).cell
        obtain ⟨_, _, ⟨T141, L141, k141, n141⟩, -, X141, ⟨Lc141, hQ141, l141, y141, z141⟩, st141⟩ := X139.privateBack hx (y := (⟨"com/example/meerkat/meerkat/simulate/Completions", "before", "(II)Z"⟩ : MethodName)) hown (mvT hZ (oW hw 32 rfl)) (mvT hZ (oW hw 33 rfl)) (own_selP (y' := (⟨"com/example/meerkat/meerkat/simulate/Completions", "set", "(ID)V"⟩ : MethodName)) rfl (mvT hZ (oW hw 30 rfl)) (Cond.privateMethod_at (mvP hZ (oW hw 34 rfl) (args := #[]))) (mvT hZ (oW hw 33 rfl)) (by decide)) (Cond.privateMethod_at (mvP hZ (oW hw 34 rfl) (args := #[]))) (mvT hZ (oW hw 35 rfl)) (by decide) (backOf (W := 0) (rmB l Z a0 hw [] aT eA sT gT kt (own_mv tt sT yT) T129.heap n0 (Nat.le_trans (Nat.le_trans Z0 (Keep.of_wr W3).1) Kq129.1) ((Ft.other W3 (Or.inl (Exa.neArv (Eo.wr W3) V3 (oW hw 1 rfl)))).keep Kq129 (ninS (Exa.neArv ((Eo.wr W3).keep Kq129) Vh129 (oW hw 1 rfl)) (ninS (Exa.neArv ((Eo.wr W3).keep Kq129) f129_1 (oW hw 1 rfl)) nin0))) (V3.keep Kq129 (ninS ngh (ninS ngp nin0))) (own_I1mv qI qR qY) reA qR) hZ (oW hw 35 rfl) (oW hw 2 rfl) (by decide) (by decide)) (g := (mkF m 135 #[rv aT, iv sT, .val (.double wT), .second, iv (0 : Int32), iv (2 : Int32)] [(.int sT), (.int eA), (.ref aT)])) rfl (by rw [hml]; rfl) (Steps.refl _) (a := aT) (by rw [e139]; exact q141) q141' (argsL := [(.int eA), (.int sT)]) (rest := []) (lenOf own_pd0 rfl) rfl (by show 2 * 0 + _ ≤ _; exact Nat.le_of_eq rfl) (hb hby own_d5_135) (fun _ _ => ⟨rfl, e139, (by decide : (((0 + 0) + 0) + 0) + 0 ≤ _), (by decide : (((0 + 0) + 0) + 0) + 0 ≤ _)⟩)
        dsimp only [Pt.U, Pt.locs, Pt.cells, Pt.slots] at X141 l141 y141 z141 st141 hQ141
        subst l141 y141 z141
        obtain ⟨rfl, Nq141, eq141⟩ := hQ141
        have N141 := Fr.app N138 Nq141
        refine ov (B := T141.setTop (mkF m 138 #[rv aT, iv sT, .val (.double wT), .second, iv (0 : Int32), iv (2 : Int32)] [(.int (own_bit (own_rk (own_mv tt sT yT) eA < own_rk (own_mv tt sT yT) sT)))])) (fun t k => st141.trans k) ?_
        have hc138 : ¬ (own_rk (own_mv tt sT yT) eA < own_rk (own_mv tt sT yT) sT) := by omega
        refine ov (B := T141.setTop (mkF m 141 #[rv aT, iv sT, .val (.double wT), .second, iv (0 : Int32), iv (2 : Int32)] [])) (fun t k => XS.ifNo X141.here hx rfl (hb hby own_d5_138) rfl ((if0 _ _).trans (teq (own_bit0.mpr hc138)).2) k) ?_
        refine oGO (n := 164) X141 hx (hb hby own_d5_141) (by decide) (by decide) ?_
        refine oALN (n := 165) X141 hx (hb hby own_d5_164) rfl rfl rfl ?_
        refine oILN (n := 166) X141 hx (hb hby own_d5_165) rfl rfl ?_
        refine oIL (n := 168) X141 hx (hb hby own_d5_166) rfl rfl ?_
        obtain ⟨cq142, q142, q142'⟩ := ((Eo.wr W3).keep Kq129).cell
        obtain ⟨_, _, ⟨T142, L142, k142, n142⟩, -, X142, ⟨Lc142, hQ142, l142, y142, z142⟩, st142⟩ := X141.privateBack hx (y := (⟨"com/example/meerkat/meerkat/simulate/Completions", "move", "(II)V"⟩ : MethodName)) hown (mvT hZ (oW hw 36 rfl)) (mvT hZ (oW hw 37 rfl)) (own_selP (y' := (⟨"com/example/meerkat/meerkat/simulate/Completions", "set", "(ID)V"⟩ : MethodName)) rfl (mvT hZ (oW hw 30 rfl)) (Cond.privateMethod_at (mvP hZ (oW hw 38 rfl) (args := #[]))) (mvT hZ (oW hw 37 rfl)) (by decide)) (Cond.privateMethod_at (mvP hZ (oW hw 38 rfl) (args := #[]))) (mvT hZ (oW hw 39 rfl)) (by decide) (backOf (W := 0) (rmM l Z a0 hw [] aT sT (0 : Int32) hT pT kh kp [eA, eB, eA, eD, eE, eF] (own_mv PP eA (2 : Int32)) T129.heap n0 (Nat.le_trans (Nat.le_trans Z0 (Keep.of_wr W3).1) Kq129.1) ((Eo.wr W3).keep Kq129) ((Fh.other W3 (Or.inl (Exa.neArv (Eo.wr W3) V3 (oW hw 1 rfl)))).keep Kq129 (ninS (Exa.neArv ((Eo.wr W3).keep Kq129) Vh129 (oW hw 1 rfl)) (ninS (Exa.neArv ((Eo.wr W3).keep Kq129) f129_1 (oW hw 1 rfl)) nin0))) ((Fp.other W3 (Or.inl (Exa.neArv (Eo.wr W3) V3 (oW hw 1 rfl)))).keep Kq129 (ninS (Exa.neArv ((Eo.wr W3).keep Kq129) Vh129 (oW hw 1 rfl)) (ninS (Exa.neArv ((Eo.wr W3).keep Kq129) f129_1 (oW hw 1 rfl)) nin0))) Vh129 f129_1 nhp g_hT g_pT rfl (own_mvl qL) qR ⟨by decide, by decide⟩) hZ (oW hw 39 rfl) (oW hw 2 rfl) (by decide) (by decide)) (g := (mkF m 168 #[rv aT, iv sT, .val (.double wT), .second, iv (0 : Int32), iv (2 : Int32)] [(.int (0 : Int32)), (.int sT), (.ref aT)])) rfl (by rw [hml]; rfl) (Steps.refl _) (a := aT) (by rw [eq141]; exact q142) q142' (argsL := [(.int sT), (.int (0 : Int32))]) (rest := []) (lenOf own_pd1 rfl) rfl (by show 2 * 0 + _ ≤ _; exact Nat.le_of_eq rfl) (hb hby own_d5_168) (fun _ _ => ⟨rfl, eq141, (by decide : ((((0 + 0) + 0) + 0) + 0) + 0 ≤ _), (by decide : ((((0 + 0) + 0) + 0) + 0) + 0 ≤ _)⟩)
        dsimp only [Pt.U, Pt.locs, Pt.cells, Pt.slots] at X142 l142 y142 z142 st142 hQ142
        subst l142 y142 z142
        obtain ⟨rfl, Nq142, Kq142, f142_0, f142_1⟩ := hQ142
        have N142 := Fr.app N141 Nq142
        have Vh142 : Arv Z T142.heap hT kh .int (6 : Int32) [(.int sT), (.int eB), (.int eA), (.int eD), (.int eE), (.int eF)] (.int (0 : Int32)) := f142_0
        refine ov (B := T142.setTop (mkF m 171 #[rv aT, iv sT, .val (.double wT), .second, iv (0 : Int32), iv (2 : Int32)] [])) (fun t k => st142.trans k) ?_
        refine own_leafV X142 hx hlk Bd.returns (hb hby own_d5_171) (by decide) (by decide) ?_
        show QT Z aT sT wT gT hT pT kt kh kp tt PP eA eB eC eD eE eF yT h0 n0 _ T142.heap _
        refine ⟨sT, eB, eA, eD, eE, eF, (own_mv (own_mv PP eA (2 : Int32)) sT (0 : Int32)), ?_, N142, ((((Keep.refl h0 [gT, hT, pT]).wr W3 (Or.inl (List.mem_of_getElem? (i := 0) rfl))).trans Kq129 (allS (Or.inl (List.mem_of_getElem? (i := 1) rfl)) (allS (Or.inl (List.mem_of_getElem? (i := 2) rfl)) all0))).trans Kq142 (allS (Or.inl (List.mem_of_getElem? (i := 1) rfl)) (allS (Or.inl (List.mem_of_getElem? (i := 2) rfl)) all0))), ?_, ?_, ?_, ?_, ((V3.keep Kq129 (ninS ngh (ninS ngp nin0))).keep Kq142 (ninS ngh (ninS ngp nin0))), Vh142, f142_1⟩
        · rfl
        · exact own_I1mv qI qR qY
        · exact ⟨(own_mvl (own_mvl qL)), qR, reB, reA, reD, reE, reF, (own_mvS (own_mvl qL) qR), ((own_mvN neB qR reB).trans ((own_mvN (own_ppne peA peB (by decide)) reA reB).trans peB)), ((own_mvN neA qR reA).trans (own_mvS qL reA)), ((own_mvN neD qR reD).trans ((own_mvN (own_ppne peA peD (by decide)) reA reD).trans peD)), ((own_mvN neE qR reE).trans ((own_mvN (own_ppne peA peE (by decide)) reA reE).trans peE)), ((own_mvN neF qR reF).trans ((own_mvN (own_ppne peA peF (by decide)) reA reF).trans peF))⟩
        · intro q hq'
          rcases qS q hq' with h | h | h | h | h | h
          · exact Or.inr (Or.inr (Or.inl (h)))
          · exact Or.inr (Or.inl (h))
          · exact Or.inl (h.trans hq.symm)
          · exact Or.inr (Or.inr (Or.inr (Or.inl (h))))
          · exact Or.inr (Or.inr (Or.inr (Or.inr (Or.inl (h)))))
          · exact Or.inr (Or.inr (Or.inr (Or.inr (Or.inr ((h))))))
        · exact ⟨by omega, by omega, by omega, by omega, by omega⟩
      · refine ov (B := T138.setTop (mkF m 126 #[rv aT, iv sT, .val (.double wT), .second, iv (0 : Int32), iv (1 : Int32)] [])) (fun t k => XS.ifYes X138.here hx rfl (pc0 := 120) (pc' := 126) rfl (hb hby own_d5_120) rfl ((if0 _ _).trans (teq (own_bit0.mpr hc120)).1) (by decide) (by decide) k) ?_
        refine oALN (n := 127) X138 hx (hb hby own_d5_126) rfl rfl rfl ?_
        refine oALN (n := 128) X138 hx (hb hby own_d5_127) rfl rfl rfl ?_
        obtain ⟨T143, X143, e143, st143⟩ := getF X138 hx hZ hown (host := "") (Or.inl (oW hw 13 rfl)) Via.refl eq138 ((Fh.other W3 (Or.inl (Exa.neArv (Eo.wr W3) V3 (oW hw 1 rfl)))).keep Kq129 (ninS (Exa.neArv ((Eo.wr W3).keep Kq129) Vh129 (oW hw 1 rfl)) (ninS (Exa.neArv ((Eo.wr W3).keep Kq129) f129_1 (oW hw 1 rfl)) nin0))) (g := (mkF m 128 #[rv aT, iv sT, .val (.double wT), .second, iv (0 : Int32), iv (1 : Int32)] [(.ref aT), (.ref aT)])) rfl rfl (hb hby own_d5_128)
        refine ov (B := T143.setTop (mkF m 131 #[rv aT, iv sT, .val (.double wT), .second, iv (0 : Int32), iv (1 : Int32)] [(.ref hT), (.ref aT)])) (fun t k => st143 t k) ?_
        refine oIL (n := 133) X143 hx (hb hby own_d5_131) rfl rfl ?_
        obtain ⟨cl144, Ar144, q144, S144, M144, H144, G144⟩ := id Vh129
        have hin144 : ¬ ((1 : Int32) < 0 ∨ cl144.slots.size ≤ ((1 : Int32)).toNatClampNeg) := inb_of S144 ⟨by decide, by decide⟩
        refine ov (B := T143.setTop (mkF m 134 #[rv aT, iv sT, .val (.double wT), .second, iv (0 : Int32), iv (1 : Int32)] [(.int eB), (.ref aT)])) (fun t k => X143.iaload hx (j := (1 : Int32)) (v := (.int eB)) (by rw [e143]; exact Ar144.1) (State.isArrayOf_alike hZ.alike Ar144.2.1) Ar144.2.2 hin144 (Has.at H144 hin144 rfl) (g := (mkF m 133 #[rv aT, iv sT, .val (.double wT), .second, iv (0 : Int32), iv (1 : Int32)] [(.int (1 : Int32)), (.ref hT), (.ref aT)])) rfl rfl (hb hby own_d5_133) _ k) ?_
        refine oILN (n := 135) X143 hx (hb hby own_d5_134) rfl rfl ?_
        obtain ⟨cq145, q145, q145'⟩ := ((Eo.wr W3).keep Kq129).cell
        obtain ⟨_, _, ⟨T145, L145, k145, n145⟩, -, X145, ⟨Lc145, hQ145, l145, y145, z145⟩, st145⟩ := X143.privateBack hx (y := (⟨"com/example/meerkat/meerkat/simulate/Completions", "before", "(II)Z"⟩ : MethodName)) hown (mvT hZ (oW hw 32 rfl)) (mvT hZ (oW hw 33 rfl)) (own_selP (y' := (⟨"com/example/meerkat/meerkat/simulate/Completions", "set", "(ID)V"⟩ : MethodName)) rfl (mvT hZ (oW hw 30 rfl)) (Cond.privateMethod_at (mvP hZ (oW hw 34 rfl) (args := #[]))) (mvT hZ (oW hw 33 rfl)) (by decide)) (Cond.privateMethod_at (mvP hZ (oW hw 34 rfl) (args := #[]))) (mvT hZ (oW hw 35 rfl)) (by decide) (backOf (W := 0) (rmB l Z a0 hw [] aT eB sT gT kt (own_mv tt sT yT) T129.heap n0 (Nat.le_trans (Nat.le_trans Z0 (Keep.of_wr W3).1) Kq129.1) ((Ft.other W3 (Or.inl (Exa.neArv (Eo.wr W3) V3 (oW hw 1 rfl)))).keep Kq129 (ninS (Exa.neArv ((Eo.wr W3).keep Kq129) Vh129 (oW hw 1 rfl)) (ninS (Exa.neArv ((Eo.wr W3).keep Kq129) f129_1 (oW hw 1 rfl)) nin0))) (V3.keep Kq129 (ninS ngh (ninS ngp nin0))) (own_I1mv qI qR qY) reB qR) hZ (oW hw 35 rfl) (oW hw 2 rfl) (by decide) (by decide)) (g := (mkF m 135 #[rv aT, iv sT, .val (.double wT), .second, iv (0 : Int32), iv (1 : Int32)] [(.int sT), (.int eB), (.ref aT)])) rfl (by rw [hml]; rfl) (Steps.refl _) (a := aT) (by rw [e143]; exact q145) q145' (argsL := [(.int eB), (.int sT)]) (rest := []) (lenOf own_pd0 rfl) rfl (by show 2 * 0 + _ ≤ _; exact Nat.le_of_eq rfl) (hb hby own_d5_135) (fun _ _ => ⟨rfl, e143, (by decide : (((0 + 0) + 0) + 0) + 0 ≤ _), (by decide : (((0 + 0) + 0) + 0) + 0 ≤ _)⟩)
        dsimp only [Pt.U, Pt.locs, Pt.cells, Pt.slots] at X145 l145 y145 z145 st145 hQ145
        subst l145 y145 z145
        obtain ⟨rfl, Nq145, eq145⟩ := hQ145
        have N145 := Fr.app N138 Nq145
        refine ov (B := T145.setTop (mkF m 138 #[rv aT, iv sT, .val (.double wT), .second, iv (0 : Int32), iv (1 : Int32)] [(.int (own_bit (own_rk (own_mv tt sT yT) eB < own_rk (own_mv tt sT yT) sT)))])) (fun t k => st145.trans k) ?_
        have hc138 : ¬ (own_rk (own_mv tt sT yT) eB < own_rk (own_mv tt sT yT) sT) := by omega
        refine ov (B := T145.setTop (mkF m 141 #[rv aT, iv sT, .val (.double wT), .second, iv (0 : Int32), iv (1 : Int32)] [])) (fun t k => XS.ifNo X145.here hx rfl (hb hby own_d5_138) rfl ((if0 _ _).trans (teq (own_bit0.mpr hc138)).2) k) ?_
        refine oGO (n := 164) X145 hx (hb hby own_d5_141) (by decide) (by decide) ?_
        refine oALN (n := 165) X145 hx (hb hby own_d5_164) rfl rfl rfl ?_
        refine oILN (n := 166) X145 hx (hb hby own_d5_165) rfl rfl ?_
        refine oIL (n := 168) X145 hx (hb hby own_d5_166) rfl rfl ?_
        obtain ⟨cq146, q146, q146'⟩ := ((Eo.wr W3).keep Kq129).cell
        obtain ⟨_, _, ⟨T146, L146, k146, n146⟩, -, X146, ⟨Lc146, hQ146, l146, y146, z146⟩, st146⟩ := X145.privateBack hx (y := (⟨"com/example/meerkat/meerkat/simulate/Completions", "move", "(II)V"⟩ : MethodName)) hown (mvT hZ (oW hw 36 rfl)) (mvT hZ (oW hw 37 rfl)) (own_selP (y' := (⟨"com/example/meerkat/meerkat/simulate/Completions", "set", "(ID)V"⟩ : MethodName)) rfl (mvT hZ (oW hw 30 rfl)) (Cond.privateMethod_at (mvP hZ (oW hw 38 rfl) (args := #[]))) (mvT hZ (oW hw 37 rfl)) (by decide)) (Cond.privateMethod_at (mvP hZ (oW hw 38 rfl) (args := #[]))) (mvT hZ (oW hw 39 rfl)) (by decide) (backOf (W := 0) (rmM l Z a0 hw [] aT sT (0 : Int32) hT pT kh kp [eA, eB, eA, eD, eE, eF] (own_mv PP eA (2 : Int32)) T129.heap n0 (Nat.le_trans (Nat.le_trans Z0 (Keep.of_wr W3).1) Kq129.1) ((Eo.wr W3).keep Kq129) ((Fh.other W3 (Or.inl (Exa.neArv (Eo.wr W3) V3 (oW hw 1 rfl)))).keep Kq129 (ninS (Exa.neArv ((Eo.wr W3).keep Kq129) Vh129 (oW hw 1 rfl)) (ninS (Exa.neArv ((Eo.wr W3).keep Kq129) f129_1 (oW hw 1 rfl)) nin0))) ((Fp.other W3 (Or.inl (Exa.neArv (Eo.wr W3) V3 (oW hw 1 rfl)))).keep Kq129 (ninS (Exa.neArv ((Eo.wr W3).keep Kq129) Vh129 (oW hw 1 rfl)) (ninS (Exa.neArv ((Eo.wr W3).keep Kq129) f129_1 (oW hw 1 rfl)) nin0))) Vh129 f129_1 nhp g_hT g_pT rfl (own_mvl qL) qR ⟨by decide, by decide⟩) hZ (oW hw 39 rfl) (oW hw 2 rfl) (by decide) (by decide)) (g := (mkF m 168 #[rv aT, iv sT, .val (.double wT), .second, iv (0 : Int32), iv (1 : Int32)] [(.int (0 : Int32)), (.int sT), (.ref aT)])) rfl (by rw [hml]; rfl) (Steps.refl _) (a := aT) (by rw [eq145]; exact q146) q146' (argsL := [(.int sT), (.int (0 : Int32))]) (rest := []) (lenOf own_pd1 rfl) rfl (by show 2 * 0 + _ ≤ _; exact Nat.le_of_eq rfl) (hb hby own_d5_168) (fun _ _ => ⟨rfl, eq145, (by decide : ((((0 + 0) + 0) + 0) + 0) + 0 ≤ _), (by decide : ((((0 + 0) + 0) + 0) + 0) + 0 ≤ _)⟩)
        dsimp only [Pt.U, Pt.locs, Pt.cells, Pt.slots] at X146 l146 y146 z146 st146 hQ146
        subst l146 y146 z146
        obtain ⟨rfl, Nq146, Kq146, f146_0, f146_1⟩ := hQ146
        have N146 := Fr.app N145 Nq146
        have Vh146 : Arv Z T146.heap hT kh .int (6 : Int32) [(.int sT), (.int eB), (.int eA), (.int eD), (.int eE), (.int eF)] (.int (0 : Int32)) := f146_0
        refine ov (B := T146.setTop (mkF m 171 #[rv aT, iv sT, .val (.double wT), .second, iv (0 : Int32), iv (1 : Int32)] [])) (fun t k => st146.trans k) ?_
        refine own_leafV X146 hx hlk Bd.returns (hb hby own_d5_171) (by decide) (by decide) ?_
        show QT Z aT sT wT gT hT pT kt kh kp tt PP eA eB eC eD eE eF yT h0 n0 _ T146.heap _
        refine ⟨sT, eB, eA, eD, eE, eF, (own_mv (own_mv PP eA (2 : Int32)) sT (0 : Int32)), ?_, N146, ((((Keep.refl h0 [gT, hT, pT]).wr W3 (Or.inl (List.mem_of_getElem? (i := 0) rfl))).trans Kq129 (allS (Or.inl (List.mem_of_getElem? (i := 1) rfl)) (allS (Or.inl (List.mem_of_getElem? (i := 2) rfl)) all0))).trans Kq146 (allS (Or.inl (List.mem_of_getElem? (i := 1) rfl)) (allS (Or.inl (List.mem_of_getElem? (i := 2) rfl)) all0))), ?_, ?_, ?_, ?_, ((V3.keep Kq129 (ninS ngh (ninS ngp nin0))).keep Kq146 (ninS ngh (ninS ngp nin0))), Vh146, f146_1⟩
        · rfl
        · exact own_I1mv qI qR qY
        · exact ⟨(own_mvl (own_mvl qL)), qR, reB, reA, reD, reE, reF, (own_mvS (own_mvl qL) qR), ((own_mvN neB qR reB).trans ((own_mvN (own_ppne peA peB (by decide)) reA reB).trans peB)), ((own_mvN neA qR reA).trans (own_mvS qL reA)), ((own_mvN neD qR reD).trans ((own_mvN (own_ppne peA peD (by decide)) reA reD).trans peD)), ((own_mvN neE qR reE).trans ((own_mvN (own_ppne peA peE (by decide)) reA reE).trans peE)), ((own_mvN neF qR reF).trans ((own_mvN (own_ppne peA peF (by decide)) reA reF).trans peF))⟩
        · intro q hq'
          rcases qS q hq' with h | h | h | h | h | h
          · exact Or.inr (Or.inr (Or.inl (h)))
          · exact Or.inr (Or.inl (h))
          · exact Or.inl (h.trans hq.symm)
          · exact Or.inr (Or.inr (Or.inr (Or.inl (h))))
          · exact Or.inr (Or.inr (Or.inr (Or.inr (Or.inl (h)))))
          · exact Or.inr (Or.inr (Or.inr (Or.inr (Or.inr ((h))))))
        · exact ⟨by omega, by omega, by omega, by omega, by omega⟩
    · refine ov (B := T126.setTop (mkF m 67 #[rv aT, iv sT, .val (.double wT), .second, iv (2 : Int32), uu] [])) (fun t k => XS.ifYes X126.here hx rfl (pc0 := 36) (pc' := 67) rfl (hb hby own_d5_36) rfl ((if0 _ _).trans (teq (own_bit0.mpr hc36)).1) (by decide) (by decide) k) ?_
      refine oIC (n := 68) X126 hx (2 : Int32) (hb hby own_d5_67) (by decide) rfl ?_
      refine oIL (n := 70) X126 hx (hb hby own_d5_68) rfl rfl ?_
      refine ov (B := T126.setTop (mkF m 71 #[rv aT, iv sT, .val (.double wT), .second, iv (2 : Int32), uu] [(.int (4 : Int32))])) (fun t k => XS.imul X126.here hx rfl (hb hby own_d5_70) rfl k) ?_
      refine oIC (n := 72) X126 hx (1 : Int32) (hb hby own_d5_71) (by decide) rfl ?_
      refine ov (B := T126.setTop (mkF m 73 #[rv aT, iv sT, .val (.double wT), .second, iv (2 : Int32), uu] [(.int (5 : Int32))])) (fun t k => XS.iadd X126.here hx rfl (hb hby own_d5_72) rfl k) ?_
      refine ov (B := T126.setTop (mkF m 75 #[rv aT, iv sT, .val (.double wT), .second, iv (2 : Int32), iv (5 : Int32)] [])) (fun t k => XS.istore X126.here hx rfl (hb hby own_d5_73) rfl (l' := #[rv aT, iv sT, .val (.double wT), .second, iv (2 : Int32), iv (5 : Int32)]) rfl k) ?_
      refine oIL (n := 77) X126 hx (hb hby own_d5_75) rfl rfl ?_
      refine oALN (n := 78) X126 hx (hb hby own_d5_77) rfl rfl rfl ?_
      obtain ⟨T147, X147, e147, st147⟩ := getF X126 hx hZ hown (host := "") (Or.inl (oW hw 13 rfl)) Via.refl eq126 (Fh.other W3 (Or.inl (Exa.neArv (Eo.wr W3) V3 (oW hw 1 rfl)))) (g := (mkF m 78 #[rv aT, iv sT, .val (.double wT), .second, iv (2 : Int32), iv (5 : Int32)] [(.ref aT), (.int (5 : Int32))])) rfl rfl (hb hby own_d5_78)
      refine ov (B := T147.setTop (mkF m 81 #[rv aT, iv sT, .val (.double wT), .second, iv (2 : Int32), iv (5 : Int32)] [(.ref hT), (.int (5 : Int32))])) (fun t k => st147 t k) ?_
      obtain ⟨cl148, Ar148, q148, S148, M148, H148, G148⟩ := id (Vh.other W3 (Ne.symm ngh))
      refine ov (B := T147.setTop (mkF m 82 #[rv aT, iv sT, .val (.double wT), .second, iv (2 : Int32), iv (5 : Int32)] [(.int (6 : Int32)), (.int (5 : Int32))])) (fun t k => X147.arraylength hx (by rw [e147]; exact Ar148.1) (State.isArrayOf_alike hZ.alike Ar148.2.1) (g := (mkF m 81 #[rv aT, iv sT, .val (.double wT), .second, iv (2 : Int32), iv (5 : Int32)] [(.ref hT), (.int (5 : Int32))])) rfl rfl (hb hby own_d5_81) _ (by rw [len_of S148 M148]; exact k)) ?_
      have hc82 : (5 : Int32) < (6 : Int32) := by decide
      refine ov (B := T147.setTop (mkF m 88 #[rv aT, iv sT, .val (.double wT), .second, iv (2 : Int32), iv (5 : Int32)] [])) (fun t k => XS.icmpYes X147.here hx rfl (pc0 := 82) (pc' := 88) rfl (hb hby own_d5_82) rfl (tlt hc82).1 (by decide) (by decide) k) ?_
      refine oIL (n := 90) X147 hx (hb hby own_d5_88) rfl rfl ?_
      refine oIC (n := 91) X147 hx (1 : Int32) (hb hby own_d5_90) (by decide) rfl ?_
      refine ov (B := T147.setTop (mkF m 92 #[rv aT, iv sT, .val (.double wT), .second, iv (2 : Int32), iv (5 : Int32)] [(.int (6 : Int32))])) (fun t k => XS.iadd X147.here hx rfl (hb hby own_d5_91) rfl k) ?_
      refine oALN (n := 93) X147 hx (hb hby own_d5_92) rfl rfl rfl ?_
      obtain ⟨T149, X149, e149, st149⟩ := getF X147 hx hZ hown (host := "") (Or.inl (oW hw 13 rfl)) Via.refl e147 (Fh.other W3 (Or.inl (Exa.neArv (Eo.wr W3) V3 (oW hw 1 rfl)))) (g := (mkF m 93 #[rv aT, iv sT, .val (.double wT), .second, iv (2 : Int32), iv (5 : Int32)] [(.ref aT), (.int (6 : Int32))])) rfl rfl (hb hby own_d5_93)
      refine ov (B := T149.setTop (mkF m 96 #[rv aT, iv sT, .val (.double wT), .second, iv (2 : Int32), iv (5 : Int32)] [(.ref hT), (.int (6 : Int32))])) (fun t k => st149 t k) ?_
      obtain ⟨cl150, Ar150, q150, S150, M150, H150, G150⟩ := id (Vh.other W3 (Ne.symm ngh))
      refine ov (B := T149.setTop (mkF m 97 #[rv aT, iv sT, .val (.double wT), .second, iv (2 : Int32), iv (5 : Int32)] [(.int (6 : Int32)), (.int (6 : Int32))])) (fun t k => X149.arraylength hx (by rw [e149]; exact Ar150.1) (State.isArrayOf_alike hZ.alike Ar150.2.1) (g := (mkF m 96 #[rv aT, iv sT, .val (.double wT), .second, iv (2 : Int32), iv (5 : Int32)] [(.ref hT), (.int (6 : Int32))])) rfl rfl (hb hby own_d5_96) _ (by rw [len_of S150 M150]; exact k)) ?_
      have hc97 : ¬ ((6 : Int32) < (6 : Int32)) := by decide
      refine ov (B := T149.setTop (mkF m 126 #[rv aT, iv sT, .val (.double wT), .second, iv (2 : Int32), iv (5 : Int32)] [])) (fun t k => XS.icmpYes X149.here hx rfl (pc0 := 97) (pc' := 126) rfl (hb hby own_d5_97) rfl (flt hc97).2.1 (by decide) (by decide) k) ?_
      refine oALN (n := 127) X149 hx (hb hby own_d5_126) rfl rfl rfl ?_
      refine oALN (n := 128) X149 hx (hb hby own_d5_127) rfl rfl rfl ?_
      obtain ⟨T151, X151, e151, st151⟩ := getF X149 hx hZ hown (host := "") (Or.inl (oW hw 13 rfl)) Via.refl e149 (Fh.other W3 (Or.inl (Exa.neArv (Eo.wr W3) V3 (oW hw 1 rfl)))) (g := (mkF m 128 #[rv aT, iv sT, .val (.double wT), .second, iv (2 : Int32), iv (5 : Int32)] [(.ref aT), (.ref aT)])) rfl rfl (hb hby own_d5_128)
      refine ov (B := T151.setTop (mkF m 131 #[rv aT, iv sT, .val (.double wT), .second, iv (2 : Int32), iv (5 : Int32)] [(.ref hT), (.ref aT)])) (fun t k => st151 t k) ?_
      refine oIL (n := 133) X151 hx (hb hby own_d5_131) rfl rfl ?_
      obtain ⟨cl152, Ar152, q152, S152, M152, H152, G152⟩ := id (Vh.other W3 (Ne.symm ngh))
      have hin152 : ¬ ((5 : Int32) < 0 ∨ cl152.slots.size ≤ ((5 : Int32)).toNatClampNeg) := inb_of S152 ⟨by decide, by decide⟩
      refine ov (B := T151.setTop (mkF m 134 #[rv aT, iv sT, .val (.double wT), .second, iv (2 : Int32), iv (5 : Int32)] [(.int eF), (.ref aT)])) (fun t k => X151.iaload hx (j := (5 : Int32)) (v := (.int eF)) (by rw [e151]; exact Ar152.1) (State.isArrayOf_alike hZ.alike Ar152.2.1) Ar152.2.2 hin152 (Has.at H152 hin152 rfl) (g := (mkF m 133 #[rv aT, iv sT, .val (.double wT), .second, iv (2 : Int32), iv (5 : Int32)] [(.int (5 : Int32)), (.ref hT), (.ref aT)])) rfl rfl (hb hby own_d5_133) _ k) ?_
      refine oILN (n := 135) X151 hx (hb hby own_d5_134) rfl rfl ?_
      obtain ⟨cq153, q153, q153'⟩ := (Eo.wr W3).cell
      obtain ⟨_, _, ⟨T153, L153, k153, n153⟩, -, X153, ⟨Lc153, hQ153, l153, y153, z153⟩, st153⟩ := X151.privateBack hx (y := (⟨"com/example/meerkat/meerkat/simulate/Completions", "before", "(II)Z"⟩ : MethodName)) hown (mvT hZ (oW hw 32 rfl)) (mvT hZ (oW hw 33 rfl)) (own_selP (y' := (⟨"com/example/meerkat/meerkat/simulate/Completions", "set", "(ID)V"⟩ : MethodName)) rfl (mvT hZ (oW hw 30 rfl)) (Cond.privateMethod_at (mvP hZ (oW hw 34 rfl) (args := #[]))) (mvT hZ (oW hw 33 rfl)) (by decide)) (Cond.privateMethod_at (mvP hZ (oW hw 34 rfl) (args := #[]))) (mvT hZ (oW hw 35 rfl)) (by decide) (backOf (W := 0) (rmB l Z a0 hw [] aT eF sT gT kt (own_mv tt sT yT) h3 n0 (Nat.le_trans Z0 (Keep.of_wr W3).1) (Ft.other W3 (Or.inl (Exa.neArv (Eo.wr W3) V3 (oW hw 1 rfl)))) V3 (own_I1mv qI qR qY) reF qR) hZ (oW hw 35 rfl) (oW hw 2 rfl) (by decide) (by decide)) (g := (mkF m 135 #[rv aT, iv sT, .val (.double wT), .second, iv (2 : Int32), iv (5 : Int32)] [(.int sT), (.int eF), (.ref aT)])) rfl (by rw [hml]; rfl) (Steps.refl _) (a := aT) (by rw [e151]; exact q153) q153' (argsL := [(.int eF), (.int sT)]) (rest := []) (lenOf own_pd0 rfl) rfl (by show 2 * 0 + _ ≤ _; exact Nat.le_of_eq rfl) (hb hby own_d5_135) (fun _ _ => ⟨rfl, e151, (by decide : (0 + 0) + 0 ≤ _), (by decide : (0 + 0) + 0 ≤ _)⟩)
      dsimp only [Pt.U, Pt.locs, Pt.cells, Pt.slots] at X153 l153 y153 z153 st153 hQ153
      subst l153 y153 z153
      obtain ⟨rfl, Nq153, eq153⟩ := hQ153
      have N153 := Fr.app N126 Nq153
      refine ov (B := T153.setTop (mkF m 138 #[rv aT, iv sT, .val (.double wT), .second, iv (2 : Int32), iv (5 : Int32)] [(.int (own_bit (own_rk (own_mv tt sT yT) eF < own_rk (own_mv tt sT yT) sT)))])) (fun t k => st153.trans k) ?_
      by_cases hc138 : own_rk (own_mv tt sT yT) eF < own_rk (own_mv tt sT yT) sT
      · refine ov (B := T153.setTop (mkF m 144 #[rv aT, iv sT, .val (.double wT), .second, iv (2 : Int32), iv (5 : Int32)] [])) (fun t k => XS.ifYes X153.here hx rfl (pc0 := 138) (pc' := 144) rfl (hb hby own_d5_138) rfl ((if0 _ _).trans (feq (own_bitne hc138)).2) (by decide) (by decide) k) ?_
        refine oALN (n := 145) X153 hx (hb hby own_d5_144) rfl rfl rfl ?_
        refine oALN (n := 146) X153 hx (hb hby own_d5_145) rfl rfl rfl ?_
        obtain ⟨T154, X154, e154, st154⟩ := getF X153 hx hZ hown (host := "") (Or.inl (oW hw 13 rfl)) Via.refl eq153 (Fh.other W3 (Or.inl (Exa.neArv (Eo.wr W3) V3 (oW hw 1 rfl)))) (g := (mkF m 146 #[rv aT, iv sT, .val (.double wT), .second, iv (2 : Int32), iv (5 : Int32)] [(.ref aT), (.ref aT)])) rfl rfl (hb hby own_d5_146)
        refine ov (B := T154.setTop (mkF m 149 #[rv aT, iv sT, .val (.double wT), .second, iv (2 : Int32), iv (5 : Int32)] [(.ref hT), (.ref aT)])) (fun t k => st154 t k) ?_
        refine oIL (n := 151) X154 hx (hb hby own_d5_149) rfl rfl ?_
        obtain ⟨cl155, Ar155, q155, S155, M155, H155, G155⟩ := id (Vh.other W3 (Ne.symm ngh))
        have hin155 : ¬ ((5 : Int32) < 0 ∨ cl155.slots.size ≤ ((5 : Int32)).toNatClampNeg) := inb_of S155 ⟨by decide, by decide⟩
        refine ov (B := T154.setTop (mkF m 152 #[rv aT, iv sT, .val (.double wT), .second, iv (2 : Int32), iv (5 : Int32)] [(.int eF), (.ref aT)])) (fun t k => X154.iaload hx (j := (5 : Int32)) (v := (.int eF)) (by rw [e154]; exact Ar155.1) (State.isArrayOf_alike hZ.alike Ar155.2.1) Ar155.2.2 hin155 (Has.at H155 hin155 rfl) (g := (mkF m 151 #[rv aT, iv sT, .val (.double wT), .second, iv (2 : Int32), iv (5 : Int32)] [(.int (5 : Int32)), (.ref hT), (.ref aT)])) rfl rfl (hb hby own_d5_151) _ k) ?_
        refine oIL (n := 154) X154 hx (hb hby own_d5_152) rfl rfl ?_
        obtain ⟨cq156, q156, q156'⟩ := (Eo.wr W3).cell
        obtain ⟨_, _, ⟨T156, L156, k156, n156⟩, -, X156, ⟨Lc156, hQ156, l156, y156, z156⟩, st156⟩ := X154.privateBack hx (y := (⟨"com/example/meerkat/meerkat/simulate/Completions", "move", "(II)V"⟩ : MethodName)) hown (mvT hZ (oW hw 36 rfl)) (mvT hZ (oW hw 37 rfl)) (own_selP (y' := (⟨"com/example/meerkat/meerkat/simulate/Completions", "set", "(ID)V"⟩ : MethodName)) rfl (mvT hZ (oW hw 30 rfl)) (Cond.privateMethod_at (mvP hZ (oW hw 38 rfl) (args := #[]))) (mvT hZ (oW hw 37 rfl)) (by decide)) (Cond.privateMethod_at (mvP hZ (oW hw 38 rfl) (args := #[]))) (mvT hZ (oW hw 39 rfl)) (by decide) (backOf (W := 0) (rmM l Z a0 hw [] aT eF (2 : Int32) hT pT kh kp [eA, eB, eC, eD, eE, eF] PP h3 n0 (Nat.le_trans Z0 (Keep.of_wr W3).1) (Eo.wr W3) (Fh.other W3 (Or.inl (Exa.neArv (Eo.wr W3) V3 (oW hw 1 rfl)))) (Fp.other W3 (Or.inl (Exa.neArv (Eo.wr W3) V3 (oW hw 1 rfl)))) (Vh.other W3 (Ne.symm ngh)) (Vp.other W3 (Ne.symm ngp)) nhp g_hT g_pT rfl qL reF ⟨by decide, by decide⟩) hZ (oW hw 39 rfl) (oW hw 2 rfl) (by decide) (by decide)) (g := (mkF m 154 #[rv aT, iv sT, .val (.double wT), .second, iv (2 : Int32), iv (5 : Int32)] [(.int (2 : Int32)), (.int eF), (.ref aT)])) rfl (by rw [hml]; rfl) (Steps.refl _) (a := aT) (by rw [e154]; exact q156) q156' (argsL := [(.int eF), (.int (2 : Int32))]) (rest := []) (lenOf own_pd1 rfl) rfl (by show 2 * 0 + _ ≤ _; exact Nat.le_of_eq rfl) (hb hby own_d5_154) (fun _ _ => ⟨rfl, e154, (by decide : ((0 + 0) + 0) + 0 ≤ _), (by decide : ((0 + 0) + 0) + 0 ≤ _)⟩)
        dsimp only [Pt.U, Pt.locs, Pt.cells, Pt.slots] at X156 l156 y156 z156 st156 hQ156
        subst l156 y156 z156
        obtain ⟨rfl, Nq156, Kq156, f156_0, f156_1⟩ := hQ156
        have N156 := Fr.app N153 Nq156
        have Vh156 : Arv Z T156.heap hT kh .int (6 : Int32) [(.int eA), (.int eB), (.int eF), (.int eD), (.int eE), (.int eF)] (.int (0 : Int32)) := f156_0
        refine ov (B := T156.setTop (mkF m 157 #[rv aT, iv sT, .val (.double wT), .second, iv (2 : Int32), iv (5 : Int32)] [])) (fun t k => st156.trans k) ?_
        refine oIL (n := 159) X156 hx (hb hby own_d5_157) rfl rfl ?_
        refine ov (B := T156.setTop (mkF m 161 #[rv aT, iv sT, .val (.double wT), .second, iv (5 : Int32), iv (5 : Int32)] [])) (fun t k => XS.istore X156.here hx rfl (hb hby own_d5_159) rfl (l' := #[rv aT, iv sT, .val (.double wT), .second, iv (5 : Int32), iv (5 : Int32)]) rfl k) ?_
        refine oGO (n := 67) X156 hx (hb hby own_d5_161) (by decide) (by decide) ?_
        refine oIC (n := 68) X156 hx (2 : Int32) (hb hby own_d5_67) (by decide) rfl ?_
        refine oIL (n := 70) X156 hx (hb hby own_d5_68) rfl rfl ?_
        refine ov (B := T156.setTop (mkF m 71 #[rv aT, iv sT, .val (.double wT), .second, iv (5 : Int32), iv (5 : Int32)] [(.int (10 : Int32))])) (fun t k => XS.imul X156.here hx rfl (hb hby own_d5_70) rfl k) ?_
        refine oIC (n := 72) X156 hx (1 : Int32) (hb hby own_d5_71) (by decide) rfl ?_
        refine ov (B := T156.setTop (mkF m 73 #[rv aT, iv sT, .val (.double wT), .second, iv (5 : Int32), iv (5 : Int32)] [(.int (11 : Int32))])) (fun t k => XS.iadd X156.here hx rfl (hb hby own_d5_72) rfl k) ?_
        refine ov (B := T156.setTop (mkF m 75 #[rv aT, iv sT, .val (.double wT), .second, iv (5 : Int32), iv (11 : Int32)] [])) (fun t k => XS.istore X156.here hx rfl (hb hby own_d5_73) rfl (l' := #[rv aT, iv sT, .val (.double wT), .second, iv (5 : Int32), iv (11 : Int32)]) rfl k) ?_
        refine oIL (n := 77) X156 hx (hb hby own_d5_75) rfl rfl ?_
        refine oALN (n := 78) X156 hx (hb hby own_d5_77) rfl rfl rfl ?_
        obtain ⟨T157, X157, e157, st157⟩ := getF X156 hx hZ hown (host := "") (Or.inl (oW hw 13 rfl)) Via.refl rfl ((Fh.other W3 (Or.inl (Exa.neArv (Eo.wr W3) V3 (oW hw 1 rfl)))).keep Kq156 (ninS (Exa.neArv ((Eo.wr W3).keep Kq156) Vh156 (oW hw 1 rfl)) (ninS (Exa.neArv ((Eo.wr W3).keep Kq156) f156_1 (oW hw 1 rfl)) nin0))) (g := (mkF m 78 #[rv aT, iv sT, .val (.double wT), .second, iv (5 : Int32), iv (11 : Int32)] [(.ref aT), (.int (11 : Int32))])) rfl rfl (hb hby own_d5_78)
        refine ov (B := T157.setTop (mkF m 81 #[rv aT, iv sT, .val (.double wT), .second, iv (5 : Int32), iv (11 : Int32)] [(.ref hT), (.int (11 : Int32))])) (fun t k => st157 t k) ?_
        obtain ⟨cl158, Ar158, q158, S158, M158, H158, G158⟩ := id Vh156
        refine ov (B := T157.setTop (mkF m 82 #[rv aT, iv sT, .val (.double wT), .second, iv (5 : Int32), iv (11 : Int32)] [(.int (6 : Int32)), (.int (11 : Int32))])) (fun t k => X157.arraylength hx (by rw [e157]; exact Ar158.1) (State.isArrayOf_alike hZ.alike Ar158.2.1) (g := (mkF m 81 #[rv aT, iv sT, .val (.double wT), .second, iv (5 : Int32), iv (11 : Int32)] [(.ref hT), (.int (11 : Int32))])) rfl rfl (hb hby own_d5_81) _ (by rw [len_of S158 M158]; exact k)) ?_
        have hc82 : ¬ ((11 : Int32) < (6 : Int32)) := by decide
        refine ov (B := T157.setTop (mkF m 85 #[rv aT, iv sT, .val (.double wT), .second, iv (5 : Int32), iv (11 : Int32)] [])) (fun t k => XS.icmpNo X157.here hx rfl (hb hby own_d5_82) rfl (flt hc82).1 k) ?_
        refine oGO (n := 164) X157 hx (hb hby own_d5_85) (by decide) (by decide) ?_
        refine oALN (n := 165) X157 hx (hb hby own_d5_164) rfl rfl rfl ?_
        refine oILN (n := 166) X157 hx (hb hby own_d5_165) rfl rfl ?_
        refine oIL (n := 168) X157 hx (hb hby own_d5_166) rfl rfl ?_
        obtain ⟨cq159, q159, q159'⟩ := ((Eo.wr W3).keep Kq156).cell
        obtain ⟨_, _, ⟨T159, L159, k159, n159⟩, -, X159, ⟨Lc159, hQ159, l159, y159, z159⟩, st159⟩ := X157.privateBack hx (y := (⟨"com/example/meerkat/meerkat/simulate/Completions", "move", "(II)V"⟩ : MethodName)) hown (mvT hZ (oW hw 36 rfl)) (mvT hZ (oW hw 37 rfl)) (own_selP (y' := (⟨"com/example/meerkat/meerkat/simulate/Completions", "set", "(ID)V"⟩ : MethodName)) rfl (mvT hZ (oW hw 30 rfl)) (Cond.privateMethod_at (mvP hZ (oW hw 38 rfl) (args := #[]))) (mvT hZ (oW hw 37 rfl)) (by decide)) (Cond.privateMethod_at (mvP hZ (oW hw 38 rfl) (args := #[]))) (mvT hZ (oW hw 39 rfl)) (by decide) (backOf (W := 0) (rmM l Z a0 hw [] aT sT (5 : Int32) hT pT kh kp [eA, eB, eF, eD, eE, eF] (own_mv PP eF (2 : Int32)) T156.heap n0 (Nat.le_trans (Nat.le_trans Z0 (Keep.of_wr W3).1) Kq156.1) ((Eo.wr W3).keep Kq156) ((Fh.other W3 (Or.inl (Exa.neArv (Eo.wr W3) V3 (oW hw 1 rfl)))).keep Kq156 (ninS (Exa.neArv ((Eo.wr W3).keep Kq156) Vh156 (oW hw 1 rfl)) (ninS (Exa.neArv ((Eo.wr W3).keep Kq156) f156_1 (oW hw 1 rfl)) nin0))) ((Fp.other W3 (Or.inl (Exa.neArv (Eo.wr W3) V3 (oW hw 1 rfl)))).keep Kq156 (ninS (Exa.neArv ((Eo.wr W3).keep Kq156) Vh156 (oW hw 1 rfl)) (ninS (Exa.neArv ((Eo.wr W3).keep Kq156) f156_1 (oW hw 1 rfl)) nin0))) Vh156 f156_1 nhp g_hT g_pT rfl (own_mvl qL) qR ⟨by decide, by decide⟩) hZ (oW hw 39 rfl) (oW hw 2 rfl) (by decide) (by decide)) (g := (mkF m 168 #[rv aT, iv sT, .val (.double wT), .second, iv (5 : Int32), iv (11 : Int32)] [(.int (5 : Int32)), (.int sT), (.ref aT)])) rfl (by rw [hml]; rfl) (Steps.refl _) (a := aT) (by rw [e157]; exact q159) q159' (argsL := [(.int sT), (.int (5 : Int32))]) (rest := []) (lenOf own_pd1 rfl) rfl (by show 2 * 0 + _ ≤ _; exact Nat.le_of_eq rfl) (hb hby own_d5_168) (fun _ _ => ⟨rfl, e157, (by decide : (((0 + 0) + 0) + 0) + 0 ≤ _), (by decide : (((0 + 0) + 0) + 0) + 0 ≤ _)⟩)
        dsimp only [Pt.U, Pt.locs, Pt.cells, Pt.slots] at X159 l159 y159 z159 st159 hQ159
        subst l159 y159 z159
        obtain ⟨rfl, Nq159, Kq159, f159_0, f159_1⟩ := hQ159
        have N159 := Fr.app N156 Nq159
        have Vh159 : Arv Z T159.heap hT kh .int (6 : Int32) [(.int eA), (.int eB), (.int eF), (.int eD), (.int eE), (.int sT)] (.int (0 : Int32)) := f159_0
        refine ov (B := T159.setTop (mkF m 171 #[rv aT, iv sT, .val (.double wT), .second, iv (5 : Int32), iv (11 : Int32)] [])) (fun t k => st159.trans k) ?_
        refine own_leafV X159 hx hlk Bd.returns (hb hby own_d5_171) (by decide) (by decide) ?_
        show QT Z aT sT wT gT hT pT kt kh kp tt PP eA eB eC eD eE eF yT h0 n0 _ T159.heap _
        refine ⟨eA, eB, eF, eD, eE, sT, (own_mv (own_mv PP eF (2 : Int32)) sT (5 : Int32)), ?_, N159, ((((Keep.refl h0 [gT, hT, pT]).wr W3 (Or.inl (List.mem_of_getElem? (i := 0) rfl))).trans Kq156 (allS (Or.inl (List.mem_of_getElem? (i := 1) rfl)) (allS (Or.inl (List.mem_of_getElem? (i := 2) rfl)) all0))).trans Kq159 (allS (Or.inl (List.mem_of_getElem? (i := 1) rfl)) (allS (Or.inl (List.mem_of_getElem? (i := 2) rfl)) all0))), ?_, ?_, ?_, ?_, ((V3.keep Kq156 (ninS ngh (ninS ngp nin0))).keep Kq159 (ninS ngh (ninS ngp nin0))), Vh159, f159_1⟩
        · rfl
        · exact own_I1mv qI qR qY
        · exact ⟨(own_mvl (own_mvl qL)), reA, reB, reF, reD, reE, qR, ((own_mvN neA qR reA).trans ((own_mvN (own_ppne peF peA (by decide)) reF reA).trans peA)), ((own_mvN neB qR reB).trans ((own_mvN (own_ppne peF peB (by decide)) reF reB).trans peB)), ((own_mvN neF qR reF).trans (own_mvS qL reF)), ((own_mvN neD qR reD).trans ((own_mvN (own_ppne peF peD (by decide)) reF reD).trans peD)), ((own_mvN neE qR reE).trans ((own_mvN (own_ppne peF peE (by decide)) reF reE).trans peE)), (own_mvS (own_mvl qL) qR)⟩
        · intro q hq'
          rcases qS q hq' with h | h | h | h | h | h
          · exact Or.inl (h)
          · exact Or.inr (Or.inl (h))
          · exact Or.inr (Or.inr (Or.inr (Or.inr (Or.inr ((h.trans hq.symm))))))
          · exact Or.inr (Or.inr (Or.inr (Or.inl (h))))
          · exact Or.inr (Or.inr (Or.inr (Or.inr (Or.inl (h)))))
          · exact Or.inr (Or.inr (Or.inl (h)))
        · exact ⟨by omega, by omega, by omega, by omega, by omega⟩
      · refine ov (B := T153.setTop (mkF m 141 #[rv aT, iv sT, .val (.double wT), .second, iv (2 : Int32), iv (5 : Int32)] [])) (fun t k => XS.ifNo X153.here hx rfl (hb hby own_d5_138) rfl ((if0 _ _).trans (teq (own_bit0.mpr hc138)).2) k) ?_
        refine oGO (n := 164) X153 hx (hb hby own_d5_141) (by decide) (by decide) ?_
        refine oALN (n := 165) X153 hx (hb hby own_d5_164) rfl rfl rfl ?_
        refine oILN (n := 166) X153 hx (hb hby own_d5_165) rfl rfl ?_
        refine oIL (n := 168) X153 hx (hb hby own_d5_166) rfl rfl ?_
        obtain ⟨cq160, q160, q160'⟩ := (Eo.wr W3).cell
        obtain ⟨_, _, ⟨T160, L160, k160, n160⟩, -, X160, ⟨Lc160, hQ160, l160, y160, z160⟩, st160⟩ := X153.privateBack hx (y := (⟨"com/example/meerkat/meerkat/simulate/Completions", "move", "(II)V"⟩ : MethodName)) hown (mvT hZ (oW hw 36 rfl)) (mvT hZ (oW hw 37 rfl)) (own_selP (y' := (⟨"com/example/meerkat/meerkat/simulate/Completions", "set", "(ID)V"⟩ : MethodName)) rfl (mvT hZ (oW hw 30 rfl)) (Cond.privateMethod_at (mvP hZ (oW hw 38 rfl) (args := #[]))) (mvT hZ (oW hw 37 rfl)) (by decide)) (Cond.privateMethod_at (mvP hZ (oW hw 38 rfl) (args := #[]))) (mvT hZ (oW hw 39 rfl)) (by decide) (backOf (W := 0) (rmM l Z a0 hw [] aT sT (2 : Int32) hT pT kh kp [eA, eB, eC, eD, eE, eF] PP h3 n0 (Nat.le_trans Z0 (Keep.of_wr W3).1) (Eo.wr W3) (Fh.other W3 (Or.inl (Exa.neArv (Eo.wr W3) V3 (oW hw 1 rfl)))) (Fp.other W3 (Or.inl (Exa.neArv (Eo.wr W3) V3 (oW hw 1 rfl)))) (Vh.other W3 (Ne.symm ngh)) (Vp.other W3 (Ne.symm ngp)) nhp g_hT g_pT rfl qL qR ⟨by decide, by decide⟩) hZ (oW hw 39 rfl) (oW hw 2 rfl) (by decide) (by decide)) (g := (mkF m 168 #[rv aT, iv sT, .val (.double wT), .second, iv (2 : Int32), iv (5 : Int32)] [(.int (2 : Int32)), (.int sT), (.ref aT)])) rfl (by rw [hml]; rfl) (Steps.refl _) (a := aT) (by rw [eq153]; exact q160) q160' (argsL := [(.int sT), (.int (2 : Int32))]) (rest := []) (lenOf own_pd1 rfl) rfl (by show 2 * 0 + _ ≤ _; exact Nat.le_of_eq rfl) (hb hby own_d5_168) (fun _ _ => ⟨rfl, eq153, (by decide : ((0 + 0) + 0) + 0 ≤ _), (by decide : ((0 + 0) + 0) + 0 ≤ _)⟩)
        dsimp only [Pt.U, Pt.locs, Pt.cells, Pt.slots] at X160 l160 y160 z160 st160 hQ160
        subst l160 y160 z160
        obtain ⟨rfl, Nq160, Kq160, f160_0, f160_1⟩ := hQ160
        have N160 := Fr.app N153 Nq160
        have Vh160 : Arv Z T160.heap hT kh .int (6 : Int32) [(.int eA), (.int eB), (.int sT), (.int eD), (.int eE), (.int eF)] (.int (0 : Int32)) := f160_0
        refine ov (B := T160.setTop (mkF m 171 #[rv aT, iv sT, .val (.double wT), .second, iv (2 : Int32), iv (5 : Int32)] [])) (fun t k => st160.trans k) ?_
        refine own_leafV X160 hx hlk Bd.returns (hb hby own_d5_171) (by decide) (by decide) ?_
        show QT Z aT sT wT gT hT pT kt kh kp tt PP eA eB eC eD eE eF yT h0 n0 _ T160.heap _
        refine ⟨eA, eB, sT, eD, eE, eF, (own_mv PP sT (2 : Int32)), ?_, N160, (((Keep.refl h0 [gT, hT, pT]).wr W3 (Or.inl (List.mem_of_getElem? (i := 0) rfl))).trans Kq160 (allS (Or.inl (List.mem_of_getElem? (i := 1) rfl)) (allS (Or.inl (List.mem_of_getElem? (i := 2) rfl)) all0))), ?_, ?_, ?_, ?_, (V3.keep Kq160 (ninS ngh (ninS ngp nin0))), Vh160, f160_1⟩
        · rfl
        · exact own_I1mv qI qR qY
        · exact ⟨(own_mvl qL), reA, reB, qR, reD, reE, reF, ((own_mvN neA qR reA).trans peA), ((own_mvN neB qR reB).trans peB), (own_mvS qL qR), ((own_mvN neD qR reD).trans peD), ((own_mvN neE qR reE).trans peE), ((own_mvN neF qR reF).trans peF)⟩
        · intro q hq'
          rcases qS q hq' with h | h | h | h | h | h
          · exact Or.inl (h)
          · exact Or.inr (Or.inl (h))
          · exact Or.inr (Or.inr (Or.inl (h.trans hq.symm)))
          · exact Or.inr (Or.inr (Or.inr (Or.inl (h))))
          · exact Or.inr (Or.inr (Or.inr (Or.inr (Or.inl (h)))))
          · exact Or.inr (Or.inr (Or.inr (Or.inr (Or.inr ((h))))))
        · exact ⟨by omega, by omega, by omega, by omega, by omega⟩
  · have hk : PP.getD sT.toNatClampNeg 0 = (3 : Int32) := by rw [hq]; exact peD
    rw [hk]
    have neA : sT ≠ eA := own_ppne (l := PP) hk peA (by decide)
    have eeA : own_rk (own_mv tt sT yT) eA = own_rk tt eA := own_rkne neA qR reA
    have neB : sT ≠ eB := own_ppne (l := PP) hk peB (by decide)
    have eeB : own_rk (own_mv tt sT yT) eB = own_rk tt eB := own_rkne neB qR reB
    have neC : sT ≠ eC := own_ppne (l := PP) hk peC (by decide)
    have eeC : own_rk (own_mv tt sT yT) eC = own_rk tt eC := own_rkne neC qR reC
    have neE : sT ≠ eE := own_ppne (l := PP) hk peE (by decide)
    have eeE : own_rk (own_mv tt sT yT) eE = own_rk tt eE := own_rkne neE qR reE
    have neF : sT ≠ eF := own_ppne (l := PP) hk peF (by decide)
    have eeF : own_rk (own_mv tt sT yT) eF = own_rk tt eF := own_rkne neF qR reF
    refine oIL (n := 17) X4 hx (hb hby own_d5_15) rfl rfl ?_
    have hc17 : (0 : Int32) < (3 : Int32) := by decide
    refine ov (B := T4.setTop (mkF m 20 #[rv aT, iv sT, .val (.double wT), .second, iv (3 : Int32), uu] [])) (fun t k => XS.ifNo X4.here hx rfl (hb hby own_d5_17) rfl ((if0 _ _).trans (tlt hc17).2.2.2) k) ?_
    refine oALN (n := 21) X4 hx (hb hby own_d5_20) rfl rfl rfl ?_
    refine oILN (n := 22) X4 hx (hb hby own_d5_21) rfl rfl ?_
    refine oALN (n := 23) X4 hx (hb hby own_d5_22) rfl rfl rfl ?_
    obtain ⟨T161, X161, e161, st161⟩ := getF X4 hx hZ hown (host := "") (Or.inl (oW hw 13 rfl)) Via.refl e4 (Fh.other W3 (Or.inl (Exa.neArv (Eo.wr W3) V3 (oW hw 1 rfl)))) (g := (mkF m 23 #[rv aT, iv sT, .val (.double wT), .second, iv (3 : Int32), uu] [(.ref aT), (.int sT), (.ref aT)])) rfl rfl (hb hby own_d5_23)
    refine ov (B := T161.setTop (mkF m 26 #[rv aT, iv sT, .val (.double wT), .second, iv (3 : Int32), uu] [(.ref hT), (.int sT), (.ref aT)])) (fun t k => st161 t k) ?_
    refine oIL (n := 28) X161 hx (hb hby own_d5_26) rfl rfl ?_
    refine oIC (n := 29) X161 hx (1 : Int32) (hb hby own_d5_28) (by decide) rfl ?_
    refine ov (B := T161.setTop (mkF m 30 #[rv aT, iv sT, .val (.double wT), .second, iv (3 : Int32), uu] [(.int (2 : Int32)), (.ref hT), (.int sT), (.ref aT)])) (fun t k => XS.isub X161.here hx rfl (hb hby own_d5_29) rfl k) ?_
    refine oIC (n := 31) X161 hx (2 : Int32) (hb hby own_d5_30) (by decide) rfl ?_
    refine ov (B := T161.setTop (mkF m 32 #[rv aT, iv sT, .val (.double wT), .second, iv (3 : Int32), uu] [(.int (1 : Int32)), (.ref hT), (.int sT), (.ref aT)])) (fun t k => XS.idiv X161.here hx rfl (hb hby own_d5_31) rfl (by decide) (by rw [(by decide : (2 : Int32) / (2 : Int32) = (1 : Int32))]; exact k)) ?_
    obtain ⟨cl162, Ar162, q162, S162, M162, H162, G162⟩ := id (Vh.other W3 (Ne.symm ngh))
    have hin162 : ¬ ((1 : Int32) < 0 ∨ cl162.slots.size ≤ ((1 : Int32)).toNatClampNeg) := inb_of S162 ⟨by decide, by decide⟩
    refine ov (B := T161.setTop (mkF m 33 #[rv aT, iv sT, .val (.double wT), .second, iv (3 : Int32), uu] [(.int eB), (.int sT), (.ref aT)])) (fun t k => X161.iaload hx (j := (1 : Int32)) (v := (.int eB)) (by rw [e161]; exact Ar162.1) (State.isArrayOf_alike hZ.alike Ar162.2.1) Ar162.2.2 hin162 (Has.at H162 hin162 rfl) (g := (mkF m 32 #[rv aT, iv sT, .val (.double wT), .second, iv (3 : Int32), uu] [(.int (1 : Int32)), (.ref hT), (.int sT), (.ref aT)])) rfl rfl (hb hby own_d5_32) _ k) ?_
    obtain ⟨cq163, q163, q163'⟩ := (Eo.wr W3).cell
    obtain ⟨_, _, ⟨T163, L163, k163, n163⟩, -, X163, ⟨Lc163, hQ163, l163, y163, z163⟩, st163⟩ := X161.privateBack hx (y := (⟨"com/example/meerkat/meerkat/simulate/Completions", "before", "(II)Z"⟩ : MethodName)) hown (mvT hZ (oW hw 32 rfl)) (mvT hZ (oW hw 33 rfl)) (own_selP (y' := (⟨"com/example/meerkat/meerkat/simulate/Completions", "set", "(ID)V"⟩ : MethodName)) rfl (mvT hZ (oW hw 30 rfl)) (Cond.privateMethod_at (mvP hZ (oW hw 34 rfl) (args := #[]))) (mvT hZ (oW hw 33 rfl)) (by decide)) (Cond.privateMethod_at (mvP hZ (oW hw 34 rfl) (args := #[]))) (mvT hZ (oW hw 35 rfl)) (by decide) (backOf (W := 0) (rmB l Z a0 hw [] aT sT eB gT kt (own_mv tt sT yT) h3 n0 (Nat.le_trans Z0 (Keep.of_wr W3).1) (Ft.other W3 (Or.inl (Exa.neArv (Eo.wr W3) V3 (oW hw 1 rfl)))) V3 (own_I1mv qI qR qY) qR reB) hZ (oW hw 35 rfl) (oW hw 2 rfl) (by decide) (by decide)) (g := (mkF m 33 #[rv aT, iv sT, .val (.double wT), .second, iv (3 : Int32), uu] [(.int eB), (.int sT), (.ref aT)])) rfl (by rw [hml]; rfl) (Steps.refl _) (a := aT) (by rw [e161]; exact q163) q163' (argsL := [(.int sT), (.int eB)]) (rest := []) (lenOf own_pd0 rfl) rfl (by show 2 * 0 + _ ≤ _; exact Nat.le_of_eq rfl) (hb hby own_d5_33) (fun _ _ => ⟨rfl, e161, (by decide : 0 + 0 ≤ _), (by decide : 0 + 0 ≤ _)⟩)
    dsimp only [Pt.U, Pt.locs, Pt.cells, Pt.slots] at X163 l163 y163 z163 st163 hQ163
    subst l163 y163 z163
    obtain ⟨rfl, Nq163, eq163⟩ := hQ163
    have N163 := Fr.app N3 Nq163
    refine ov (B := T163.setTop (mkF m 36 #[rv aT, iv sT, .val (.double wT), .second, iv (3 : Int32), uu] [(.int (own_bit (own_rk (own_mv tt sT yT) sT < own_rk (own_mv tt sT yT) eB)))])) (fun t k => st163.trans k) ?_
    by_cases hc36 : own_rk (own_mv tt sT yT) sT < own_rk (own_mv tt sT yT) eB
    · refine ov (B := T163.setTop (mkF m 39 #[rv aT, iv sT, .val (.double wT), .second, iv (3 : Int32), uu] [])) (fun t k => XS.ifNo X163.here hx rfl (hb hby own_d5_36) rfl ((if0 _ _).trans (feq (own_bitne hc36)).1) k) ?_
      refine oALN (n := 40) X163 hx (hb hby own_d5_39) rfl rfl rfl ?_
      refine oALN (n := 41) X163 hx (hb hby own_d5_40) rfl rfl rfl ?_
      obtain ⟨T164, X164, e164, st164⟩ := getF X163 hx hZ hown (host := "") (Or.inl (oW hw 13 rfl)) Via.refl eq163 (Fh.other W3 (Or.inl (Exa.neArv (Eo.wr W3) V3 (oW hw 1 rfl)))) (g := (mkF m 41 #[rv aT, iv sT, .val (.double wT), .second, iv (3 : Int32), uu] [(.ref aT), (.ref aT)])) rfl rfl (hb hby own_d5_41)
      refine ov (B := T164.setTop (mkF m 44 #[rv aT, iv sT, .val (.double wT), .second, iv (3 : Int32), uu] [(.ref hT), (.ref aT)])) (fun t k => st164 t k) ?_
      refine oIL (n := 46) X164 hx (hb hby own_d5_44) rfl rfl ?_
      refine oIC (n := 47) X164 hx (1 : Int32) (hb hby own_d5_46) (by decide) rfl ?_
      refine ov (B := T164.setTop (mkF m 48 #[rv aT, iv sT, .val (.double wT), .second, iv (3 : Int32), uu] [(.int (2 : Int32)), (.ref hT), (.ref aT)])) (fun t k => XS.isub X164.here hx rfl (hb hby own_d5_47) rfl k) ?_
      refine oIC (n := 49) X164 hx (2 : Int32) (hb hby own_d5_48) (by decide) rfl ?_
      refine ov (B := T164.setTop (mkF m 50 #[rv aT, iv sT, .val (.double wT), .second, iv (3 : Int32), uu] [(.int (1 : Int32)), (.ref hT), (.ref aT)])) (fun t k => XS.idiv X164.here hx rfl (hb hby own_d5_49) rfl (by decide) (by rw [(by decide : (2 : Int32) / (2 : Int32) = (1 : Int32))]; exact k)) ?_
      obtain ⟨cl165, Ar165, q165, S165, M165, H165, G165⟩ := id (Vh.other W3 (Ne.symm ngh))
      have hin165 : ¬ ((1 : Int32) < 0 ∨ cl165.slots.size ≤ ((1 : Int32)).toNatClampNeg) := inb_of S165 ⟨by decide, by decide⟩
      refine ov (B := T164.setTop (mkF m 51 #[rv aT, iv sT, .val (.double wT), .second, iv (3 : Int32), uu] [(.int eB), (.ref aT)])) (fun t k => X164.iaload hx (j := (1 : Int32)) (v := (.int eB)) (by rw [e164]; exact Ar165.1) (State.isArrayOf_alike hZ.alike Ar165.2.1) Ar165.2.2 hin165 (Has.at H165 hin165 rfl) (g := (mkF m 50 #[rv aT, iv sT, .val (.double wT), .second, iv (3 : Int32), uu] [(.int (1 : Int32)), (.ref hT), (.ref aT)])) rfl rfl (hb hby own_d5_50) _ k) ?_
      refine oIL (n := 53) X164 hx (hb hby own_d5_51) rfl rfl ?_
      obtain ⟨cq166, q166, q166'⟩ := (Eo.wr W3).cell
      obtain ⟨_, _, ⟨T166, L166, k166, n166⟩, -, X166, ⟨Lc166, hQ166, l166, y166, z166⟩, st166⟩ := X164.privateBack hx (y := (⟨"com/example/meerkat/meerkat/simulate/Completions", "move", "(II)V"⟩ : MethodName)) hown (mvT hZ (oW hw 36 rfl)) (mvT hZ (oW hw 37 rfl)) (own_selP (y' := (⟨"com/example/meerkat/meerkat/simulate/Completions", "set", "(ID)V"⟩ : MethodName)) rfl (mvT hZ (oW hw 30 rfl)) (Cond.privateMethod_at (mvP hZ (oW hw 38 rfl) (args := #[]))) (mvT hZ (oW hw 37 rfl)) (by decide)) (Cond.privateMethod_at (mvP hZ (oW hw 38 rfl) (args := #[]))) (mvT hZ (oW hw 39 rfl)) (by decide) (backOf (W := 0) (rmM l Z a0 hw [] aT eB (3 : Int32) hT pT kh kp [eA, eB, eC, eD, eE, eF] PP h3 n0 (Nat.le_trans Z0 (Keep.of_wr W3).1) (Eo.wr W3) (Fh.other W3 (Or.inl (Exa.neArv (Eo.wr W3) V3 (oW hw 1 rfl)))) (Fp.other W3 (Or.inl (Exa.neArv (Eo.wr W3) V3 (oW hw 1 rfl)))) (Vh.other W3 (Ne.symm ngh)) (Vp.other W3 (Ne.symm ngp)) nhp g_hT g_pT rfl qL reB ⟨by decide, by decide⟩) hZ (oW hw 39 rfl) (oW hw 2 rfl) (by decide) (by decide)) (g := (mkF m 53 #[rv aT, iv sT, .val (.double wT), .second, iv (3 : Int32), uu] [(.int (3 : Int32)), (.int eB), (.ref aT)])) rfl (by rw [hml]; rfl) (Steps.refl _) (a := aT) (by rw [e164]; exact q166) q166' (argsL := [(.int eB), (.int (3 : Int32))]) (rest := []) (lenOf own_pd1 rfl) rfl (by show 2 * 0 + _ ≤ _; exact Nat.le_of_eq rfl) (hb hby own_d5_53) (fun _ _ => ⟨rfl, e164, (by decide : (0 + 0) + 0 ≤ _), (by decide : (0 + 0) + 0 ≤ _)⟩)
      dsimp only [Pt.U, Pt.locs, Pt.cells, Pt.slots] at X166 l166 y166 z166 st166 hQ166
      subst l166 y166 z166
      obtain ⟨rfl, Nq166, Kq166, f166_0, f166_1⟩ := hQ166
      have N166 := Fr.app N163 Nq166
      have Vh166 : Arv Z T166.heap hT kh .int (6 : Int32) [(.int eA), (.int eB), (.int eC), (.int eB), (.int eE), (.int eF)] (.int (0 : Int32)) := f166_0
      refine ov (B := T166.setTop (mkF m 56 #[rv aT, iv sT, .val (.double wT), .second, iv (3 : Int32), uu] [])) (fun t k => st166.trans k) ?_
      refine oIL (n := 58) X166 hx (hb hby own_d5_56) rfl rfl ?_
      refine oIC (n := 59) X166 hx (1 : Int32) (hb hby own_d5_58) (by decide) rfl ?_
      refine ov (B := T166.setTop (mkF m 60 #[rv aT, iv sT, .val (.double wT), .second, iv (3 : Int32), uu] [(.int (2 : Int32))])) (fun t k => XS.isub X166.here hx rfl (hb hby own_d5_59) rfl k) ?_
      refine oIC (n := 61) X166 hx (2 : Int32) (hb hby own_d5_60) (by decide) rfl ?_
      refine ov (B := T166.setTop (mkF m 62 #[rv aT, iv sT, .val (.double wT), .second, iv (3 : Int32), uu] [(.int (1 : Int32))])) (fun t k => XS.idiv X166.here hx rfl (hb hby own_d5_61) rfl (by decide) (by rw [(by decide : (2 : Int32) / (2 : Int32) = (1 : Int32))]; exact k)) ?_
      refine ov (B := T166.setTop (mkF m 64 #[rv aT, iv sT, .val (.double wT), .second, iv (1 : Int32), uu] [])) (fun t k => XS.istore X166.here hx rfl (hb hby own_d5_62) rfl (l' := #[rv aT, iv sT, .val (.double wT), .second, iv (1 : Int32), uu]) rfl k) ?_
      refine oGO (n := 15) X166 hx (hb hby own_d5_64) (by decide) (by decide) ?_
      refine oIL (n := 17) X166 hx (hb hby own_d5_15) rfl rfl ?_
      have hc17 : (0 : Int32) < (1 : Int32) := by decide
      refine ov (B := T166.setTop (mkF m 20 #[rv aT, iv sT, .val (.double wT), .second, iv (1 : Int32), uu] [])) (fun t k => XS.ifNo X166.here hx rfl (hb hby own_d5_17) rfl ((if0 _ _).trans (tlt hc17).2.2.2) k) ?_
      refine oALN (n := 21) X166 hx (hb hby own_d5_20) rfl rfl rfl ?_
      refine oILN (n := 22) X166 hx (hb hby own_d5_21) rfl rfl ?_
      refine oALN (n := 23) X166 hx (hb hby own_d5_22) rfl rfl rfl ?_
      obtain ⟨T167, X167, e167, st167⟩ := getF X166 hx hZ hown (host := "") (Or.inl (oW hw 13 rfl)) Via.refl rfl ((Fh.other W3 (Or.inl (Exa.neArv (Eo.wr W3) V3 (oW hw 1 rfl)))).keep Kq166 (ninS (Exa.neArv ((Eo.wr W3).keep Kq166) Vh166 (oW hw 1 rfl)) (ninS (Exa.neArv ((Eo.wr W3).keep Kq166) f166_1 (oW hw 1 rfl)) nin0))) (g := (mkF m 23 #[rv aT, iv sT, .val (.double wT), .second, iv (1 : Int32), uu] [(.ref aT), (.int sT), (.ref aT)])) rfl rfl (hb hby own_d5_23)
      refine ov (B := T167.setTop (mkF m 26 #[rv aT, iv sT, .val (.double wT), .second, iv (1 : Int32), uu] [(.ref hT), (.int sT), (.ref aT)])) (fun t k => st167 t k) ?_
      refine oIL (n := 28) X167 hx (hb hby own_d5_26) rfl rfl ?_
      refine oIC (n := 29) X167 hx (1 : Int32) (hb hby own_d5_28) (by decide) rfl ?_
      refine ov (B := T167.setTop (mkF m 30 #[rv aT, iv sT, .val (.double wT), .second, iv (1 : Int32), uu] [(.int (0 : Int32)), (.ref hT), (.int sT), (.ref aT)])) (fun t k => XS.isub X167.here hx rfl (hb hby own_d5_29) rfl k) ?_
      refine oIC (n := 31) X167 hx (2 : Int32) (hb hby own_d5_30) (by decide) rfl ?_
      refine ov (B := T167.setTop (mkF m 32 #[rv aT, iv sT, .val (.double wT), .second, iv (1 : Int32), uu] [(.int (0 : Int32)), (.ref hT), (.int sT), (.ref aT)])) (fun t k => XS.idiv X167.here hx rfl (hb hby own_d5_31) rfl (by decide) (by rw [(by decide : (0 : Int32) / (2 : Int32) = (0 : Int32))]; exact k)) ?_
      obtain ⟨cl168, Ar168, q168, S168, M168, H168, G168⟩ := id Vh166
      have hin168 : ¬ ((0 : Int32) < 0 ∨ cl168.slots.size ≤ ((0 : Int32)).toNatClampNeg) := inb_of S168 ⟨by decide, by decide⟩
      refine ov (B := T167.setTop (mkF m 33 #[rv aT, iv sT, .val (.double wT), .second, iv (1 : Int32), uu] [(.int eA), (.int sT), (.ref aT)])) (fun t k => X167.iaload hx (j := (0 : Int32)) (v := (.int eA)) (by rw [e167]; exact Ar168.1) (State.isArrayOf_alike hZ.alike Ar168.2.1) Ar168.2.2 hin168 (Has.at H168 hin168 rfl) (g := (mkF m 32 #[rv aT, iv sT, .val (.double wT), .second, iv (1 : Int32), uu] [(.int (0 : Int32)), (.ref hT), (.int sT), (.ref aT)])) rfl rfl (hb hby own_d5_32) _ k) ?_
      obtain ⟨cq169, q169, q169'⟩ := ((Eo.wr W3).keep Kq166).cell
      obtain ⟨_, _, ⟨T169, L169, k169, n169⟩, -, X169, ⟨Lc169, hQ169, l169, y169, z169⟩, st169⟩ := X167.privateBack hx (y := (⟨"com/example/meerkat/meerkat/simulate/Completions", "before", "(II)Z"⟩ : MethodName)) hown (mvT hZ (oW hw 32 rfl)) (mvT hZ (oW hw 33 rfl)) (own_selP (y' := (⟨"com/example/meerkat/meerkat/simulate/Completions", "set", "(ID)V"⟩ : MethodName)) rfl (mvT hZ (oW hw 30 rfl)) (Cond.privateMethod_at (mvP hZ (oW hw 34 rfl) (args := #[]))) (mvT hZ (oW hw 33 rfl)) (by decide)) (Cond.privateMethod_at (mvP hZ (oW hw 34 rfl) (args := #[]))) (mvT hZ (oW hw 35 rfl)) (by decide) (backOf (W := 0) (rmB l Z a0 hw [] aT sT eA gT kt (own_mv tt sT yT) T166.heap n0 (Nat.le_trans (Nat.le_trans Z0 (Keep.of_wr W3).1) Kq166.1) ((Ft.other W3 (Or.inl (Exa.neArv (Eo.wr W3) V3 (oW hw 1 rfl)))).keep Kq166 (ninS (Exa.neArv ((Eo.wr W3).keep Kq166) Vh166 (oW hw 1 rfl)) (ninS (Exa.neArv ((Eo.wr W3).keep Kq166) f166_1 (oW hw 1 rfl)) nin0))) (V3.keep Kq166 (ninS ngh (ninS ngp nin0))) (own_I1mv qI qR qY) qR reA) hZ (oW hw 35 rfl) (oW hw 2 rfl) (by decide) (by decide)) (g := (mkF m 33 #[rv aT, iv sT, .val (.double wT), .second, iv (1 : Int32), uu] [(.int eA), (.int sT), (.ref aT)])) rfl (by rw [hml]; rfl) (Steps.refl _) (a := aT) (by rw [e167]; exact q169) q169' (argsL := [(.int sT), (.int eA)]) (rest := []) (lenOf own_pd0 rfl) rfl (by show 2 * 0 + _ ≤ _; exact Nat.le_of_eq rfl) (hb hby own_d5_33) (fun _ _ => ⟨rfl, e167, (by decide : ((0 + 0) + 0) + 0 ≤ _), (by decide : ((0 + 0) + 0) + 0 ≤ _)⟩)
      dsimp only [Pt.U, Pt.locs, Pt.cells, Pt.slots] at X169 l169 y169 z169 st169 hQ169
      subst l169 y169 z169
      obtain ⟨rfl, Nq169, eq169⟩ := hQ169
      have N169 := Fr.app N166 Nq169
      refine ov (B := T169.setTop (mkF m 36 #[rv aT, iv sT, .val (.double wT), .second, iv (1 : Int32), uu] [(.int (own_bit (own_rk (own_mv tt sT yT) sT < own_rk (own_mv tt sT yT) eA)))])) (fun t k => st169.trans k) ?_
      by_cases hc36 : own_rk (own_mv tt sT yT) sT < own_rk (own_mv tt sT yT) eA
      · refine ov (B := T169.setTop (mkF m 39 #[rv aT, iv sT, .val (.double wT), .second, iv (1 : Int32), uu] [])) (fun t k => XS.ifNo X169.here hx rfl (hb hby own_d5_36) rfl ((if0 _ _).trans (feq (own_bitne hc36)).1) k) ?_
        refine oALN (n := 40) X169 hx (hb hby own_d5_39) rfl rfl rfl ?_
        refine oALN (n := 41) X169 hx (hb hby own_d5_40) rfl rfl rfl ?_
        obtain ⟨T170, X170, e170, st170⟩ := getF X169 hx hZ hown (host := "") (Or.inl (oW hw 13 rfl)) Via.refl eq169 ((Fh.other W3 (Or.inl (Exa.neArv (Eo.wr W3) V3 (oW hw 1 rfl)))).keep Kq166 (ninS (Exa.neArv ((Eo.wr W3).keep Kq166) Vh166 (oW hw 1 rfl)) (ninS (Exa.neArv ((Eo.wr W3).keep Kq166) f166_1 (oW hw 1 rfl)) nin0))) (g := (mkF m 41 #[rv aT, iv sT, .val (.double wT), .second, iv (1 : Int32), uu] [(.ref aT), (.ref aT)])) rfl rfl (hb hby own_d5_41)
        refine ov (B := T170.setTop (mkF m 44 #[rv aT, iv sT, .val (.double wT), .second, iv (1 : Int32), uu] [(.ref hT), (.ref aT)])) (fun t k => st170 t k) ?_
        refine oIL (n := 46) X170 hx (hb hby own_d5_44) rfl rfl ?_
        refine oIC (n := 47) X170 hx (1 : Int32) (hb hby own_d5_46) (by decide) rfl ?_
        refine ov (B := T170.setTop (mkF m 48 #[rv aT, iv sT, .val (.double wT), .second, iv (1 : Int32), uu] [(.int (0 : Int32)), (.ref hT), (.ref aT)])) (fun t k => XS.isub X170.here hx rfl (hb hby own_d5_47) rfl k) ?_
        refine oIC (n := 49) X170 hx (2 : Int32) (hb hby own_d5_48) (by decide) rfl ?_
        refine ov (B := T170.setTop (mkF m 50 #[rv aT, iv sT, .val (.double wT), .second, iv (1 : Int32), uu] [(.int (0 : Int32)), (.ref hT), (.ref aT)])) (fun t k => XS.idiv X170.here hx rfl (hb hby own_d5_49) rfl (by decide) (by rw [(by decide : (0 : Int32) / (2 : Int32) = (0 : Int32))]; exact k)) ?_
        obtain ⟨cl171, Ar171, q171, S171, M171, H171, G171⟩ := id Vh166
        have hin171 : ¬ ((0 : Int32) < 0 ∨ cl171.slots.size ≤ ((0 : Int32)).toNatClampNeg) := inb_of S171 ⟨by decide, by decide⟩
        refine ov (B := T170.setTop (mkF m 51 #[rv aT, iv sT, .val (.double wT), .second, iv (1 : Int32), uu] [(.int eA), (.ref aT)])) (fun t k => X170.iaload hx (j := (0 : Int32)) (v := (.int eA)) (by rw [e170]; exact Ar171.1) (State.isArrayOf_alike hZ.alike Ar171.2.1) Ar171.2.2 hin171 (Has.at H171 hin171 rfl) (g := (mkF m 50 #[rv aT, iv sT, .val (.double wT), .second, iv (1 : Int32), uu] [(.int (0 : Int32)), (.ref hT), (.ref aT)])) rfl rfl (hb hby own_d5_50) _ k) ?_
        refine oIL (n := 53) X170 hx (hb hby own_d5_51) rfl rfl ?_
        obtain ⟨cq172, q172, q172'⟩ := ((Eo.wr W3).keep Kq166).cell
        obtain ⟨_, _, ⟨T172, L172, k172, n172⟩, -, X172, ⟨Lc172, hQ172, l172, y172, z172⟩, st172⟩ := X170.privateBack hx (y := (⟨"com/example/meerkat/meerkat/simulate/Completions", "move", "(II)V"⟩ : MethodName)) hown (mvT hZ (oW hw 36 rfl)) (mvT hZ (oW hw 37 rfl)) (own_selP (y' := (⟨"com/example/meerkat/meerkat/simulate/Completions", "set", "(ID)V"⟩ : MethodName)) rfl (mvT hZ (oW hw 30 rfl)) (Cond.privateMethod_at (mvP hZ (oW hw 38 rfl) (args := #[]))) (mvT hZ (oW hw 37 rfl)) (by decide)) (Cond.privateMethod_at (mvP hZ (oW hw 38 rfl) (args := #[]))) (mvT hZ (oW hw 39 rfl)) (by decide) (backOf (W := 0) (rmM l Z a0 hw [] aT eA (1 : Int32) hT pT kh kp [eA, eB, eC, eB, eE, eF] (own_mv PP eB (3 : Int32)) T166.heap n0 (Nat.le_trans (Nat.le_trans Z0 (Keep.of_wr W3).1) Kq166.1) ((Eo.wr W3).keep Kq166) ((Fh.other W3 (Or.inl (Exa.neArv (Eo.wr W3) V3 (oW hw 1 rfl)))).keep Kq166 (ninS (Exa.neArv ((Eo.wr W3).keep Kq166) Vh166 (oW hw 1 rfl)) (ninS (Exa.neArv ((Eo.wr W3).keep Kq166) f166_1 (oW hw 1 rfl)) nin0))) ((Fp.other W3 (Or.inl (Exa.neArv (Eo.wr W3) V3 (oW hw 1 rfl)))).keep Kq166 (ninS (Exa.neArv ((Eo.wr W3).keep Kq166) Vh166 (oW hw 1 rfl)) (ninS (Exa.neArv ((Eo.wr W3).keep Kq166) f166_1 (oW hw 1 rfl)) nin0))) Vh166 f166_1 nhp g_hT g_pT rfl (own_mvl qL) reA ⟨by decide, by decide⟩) hZ (oW hw 39 rfl) (oW hw 2 rfl) (by decide) (by decide)) (g := (mkF m 53 #[rv aT, iv sT, .val (.double wT), .second, iv (1 : Int32), uu] [(.int (1 : Int32)), (.int eA), (.ref aT)])) rfl (by rw [hml]; rfl) (Steps.refl _) (a := aT) (by rw [e170]; exact q172) q172' (argsL := [(.int eA), (.int (1 : Int32))]) (rest := []) (lenOf own_pd1 rfl) rfl (by show 2 * 0 + _ ≤ _; exact Nat.le_of_eq rfl) (hb hby own_d5_53) (fun _ _ => ⟨rfl, e170, (by decide : (((0 + 0) + 0) + 0) + 0 ≤ _), (by decide : (((0 + 0) + 0) + 0) + 0 ≤ _)⟩)
        dsimp only [Pt.U, Pt.locs, Pt.cells, Pt.slots] at X172 l172 y172 z172 st172 hQ172
        subst l172 y172 z172
        obtain ⟨rfl, Nq172, Kq172, f172_0, f172_1⟩ := hQ172
        have N172 := Fr.app N169 Nq172
        have Vh172 : Arv Z T172.heap hT kh .int (6 : Int32) [(.int eA), (.int eA), (.int eC), (.int eB), (.int eE), (.int eF)] (.int (0 : Int32)) := f172_0
        refine ov (B := T172.setTop (mkF m 56 #[rv aT, iv sT, .val (.double wT), .second, iv (1 : Int32), uu] [])) (fun t k => st172.trans k) ?_
        refine oIL (n := 58) X172 hx (hb hby own_d5_56) rfl rfl ?_
        refine oIC (n := 59) X172 hx (1 : Int32) (hb hby own_d5_58) (by decide) rfl ?_
        refine ov (B := T172.setTop (mkF m 60 #[rv aT, iv sT, .val (.double wT), .second, iv (1 : Int32), uu] [(.int (0 : Int32))])) (fun t k => XS.isub X172.here hx rfl (hb hby own_d5_59) rfl k) ?_
        refine oIC (n := 61) X172 hx (2 : Int32) (hb hby own_d5_60) (by decide) rfl ?_
        refine ov (B := T172.setTop (mkF m 62 #[rv aT, iv sT, .val (.double wT), .second, iv (1 : Int32), uu] [(.int (0 : Int32))])) (fun t k => XS.idiv X172.here hx rfl (hb hby own_d5_61) rfl (by decide) (by rw [(by decide : (0 : Int32) / (2 : Int32) = (0 : Int32))]; exact k)) ?_
        refine ov (B := T172.setTop (mkF m 64 #[rv aT, iv sT, .val (.double wT), .second, iv (0 : Int32), uu] [])) (fun t k => XS.istore X172.here hx rfl (hb hby own_d5_62) rfl (l' := #[rv aT, iv sT, .val (.double wT), .second, iv (0 : Int32), uu]) rfl k) ?_
        refine oGO (n := 15) X172 hx (hb hby own_d5_64) (by decide) (by decide) ?_
        refine oIL (n := 17) X172 hx (hb hby own_d5_15) rfl rfl ?_
        have hc17 : ¬ ((0 : Int32) < (0 : Int32)) := by decide
        refine ov (B := T172.setTop (mkF m 67 #[rv aT, iv sT, .val (.double wT), .second, iv (0 : Int32), uu] [])) (fun t k => XS.ifYes X172.here hx rfl (pc0 := 17) (pc' := 67) rfl (hb hby own_d5_17) rfl ((if0 _ _).trans (flt hc17).2.2.2) (by decide) (by decide) k) ?_
        refine oIC (n := 68) X172 hx (2 : Int32) (hb hby own_d5_67) (by decide) rfl ?_
        refine oIL (n := 70) X172 hx (hb hby own_d5_68) rfl rfl ?_
        refine ov (B := T172.setTop (mkF m 71 #[rv aT, iv sT, .val (.double wT), .second, iv (0 : Int32), uu] [(.int (0 : Int32))])) (fun t k => XS.imul X172.here hx rfl (hb hby own_d5_70) rfl k) ?_
        refine oIC (n := 72) X172 hx (1 : Int32) (hb hby own_d5_71) (by decide) rfl ?_
        refine ov (B := T172.setTop (mkF m 73 #[rv aT, iv sT, .val (.double wT), .second, iv (0 : Int32), uu] [(.int (1 : Int32))])) (fun t k => XS.iadd X172.here hx rfl (hb hby own_d5_72) rfl k) ?_
        refine ov (B := T172.setTop (mkF m 75 #[rv aT, iv sT, .val (.double wT), .second, iv (0 : Int32), iv (1 : Int32)] [])) (fun t k => XS.istore X172.here hx rfl (hb hby own_d5_73) rfl (l' := #[rv aT, iv sT, .val (.double wT), .second, iv (0 : Int32), iv (1 : Int32)]) rfl k) ?_
        refine oIL (n := 77) X172 hx (hb hby own_d5_75) rfl rfl ?_
        refine oALN (n := 78) X172 hx (hb hby own_d5_77) rfl rfl rfl ?_
        obtain ⟨T173, X173, e173, st173⟩ := getF X172 hx hZ hown (host := "") (Or.inl (oW hw 13 rfl)) Via.refl rfl (((Fh.other W3 (Or.inl (Exa.neArv (Eo.wr W3) V3 (oW hw 1 rfl)))).keep Kq166 (ninS (Exa.neArv (((Eo.wr W3).keep Kq166).keep Kq172) Vh172 (oW hw 1 rfl)) (ninS (Exa.neArv (((Eo.wr W3).keep Kq166).keep Kq172) f172_1 (oW hw 1 rfl)) nin0))).keep Kq172 (ninS (Exa.neArv (((Eo.wr W3).keep Kq166).keep Kq172) Vh172 (oW hw 1 rfl)) (ninS (Exa.neArv (((Eo.wr W3).keep Kq166).keep Kq172) f172_1 (oW hw 1 rfl)) nin0))) (g := (mkF m 78 #[rv aT, iv sT, .val (.double wT), .second, iv (0 : Int32), iv (1 : Int32)] [(.ref aT), (.int (1 : Int32))])) rfl rfl (hb hby own_d5_78)
        refine ov (B := T173.setTop (mkF m 81 #[rv aT, iv sT, .val (.double wT), .second, iv (0 : Int32), iv (1 : Int32)] [(.ref hT), (.int (1 : Int32))])) (fun t k => st173 t k) ?_
        obtain ⟨cl174, Ar174, q174, S174, M174, H174, G174⟩ := id Vh172
        refine ov (B := T173.setTop (mkF m 82 #[rv aT, iv sT, .val (.double wT), .second, iv (0 : Int32), iv (1 : Int32)] [(.int (6 : Int32)), (.int (1 : Int32))])) (fun t k => X173.arraylength hx (by rw [e173]; exact Ar174.1) (State.isArrayOf_alike hZ.alike Ar174.2.1) (g := (mkF m 81 #[rv aT, iv sT, .val (.double wT), .second, iv (0 : Int32), iv (1 : Int32)] [(.ref hT), (.int (1 : Int32))])) rfl rfl (hb hby own_d5_81) _ (by rw [len_of S174 M174]; exact k)) ?_
        have hc82 : (1 : Int32) < (6 : Int32) := by decide
        refine ov (B := T173.setTop (mkF m 88 #[rv aT, iv sT, .val (.double wT), .second, iv (0 : Int32), iv (1 : Int32)] [])) (fun t k => XS.icmpYes X173.here hx rfl (pc0 := 82) (pc' := 88) rfl (hb hby own_d5_82) rfl (tlt hc82).1 (by decide) (by decide) k) ?_
        refine oIL (n := 90) X173 hx (hb hby own_d5_88) rfl rfl ?_
        refine oIC (n := 91) X173 hx (1 : Int32) (hb hby own_d5_90) (by decide) rfl ?_
        refine ov (B := T173.setTop (mkF m 92 #[rv aT, iv sT, .val (.double wT), .second, iv (0 : Int32), iv (1 : Int32)] [(.int (2 : Int32))])) (fun t k => XS.iadd X173.here hx rfl (hb hby own_d5_91) rfl k) ?_
        refine oALN (n := 93) X173 hx (hb hby own_d5_92) rfl rfl rfl ?_
        obtain ⟨T175, X175, e175, st175⟩ := getF X173 hx hZ hown (host := "") (Or.inl (oW hw 13 rfl)) Via.refl e173 (((Fh.other W3 (Or.inl (Exa.neArv (Eo.wr W3) V3 (oW hw 1 rfl)))).keep Kq166 (ninS (Exa.neArv (((Eo.wr W3).keep Kq166).keep Kq172) Vh172 (oW hw 1 rfl)) (ninS (Exa.neArv (((Eo.wr W3).keep Kq166).keep Kq172) f172_1 (oW hw 1 rfl)) nin0))).keep Kq172 (ninS (Exa.neArv (((Eo.wr W3).keep Kq166).keep Kq172) Vh172 (oW hw 1 rfl)) (ninS (Exa.neArv (((Eo.wr W3).keep Kq166).keep Kq172) f172_1 (oW hw 1 rfl)) nin0))) (g := (mkF m 93 #[rv aT, iv sT, .val (.double wT), .second, iv (0 : Int32), iv (1 : Int32)] [(.ref aT), (.int (2 : Int32))])) rfl rfl (hb hby own_d5_93)
        refine ov (B := T175.setTop (mkF m 96 #[rv aT, iv sT, .val (.double wT), .second, iv (0 : Int32), iv (1 : Int32)] [(.ref hT), (.int (2 : Int32))])) (fun t k => st175 t k) ?_
        obtain ⟨cl176, Ar176, q176, S176, M176, H176, G176⟩ := id Vh172
        refine ov (B := T175.setTop (mkF m 97 #[rv aT, iv sT, .val (.double wT), .second, iv (0 : Int32), iv (1 : Int32)] [(.int (6 : Int32)), (.int (2 : Int32))])) (fun t k => X175.arraylength hx (by rw [e175]; exact Ar176.1) (State.isArrayOf_alike hZ.alike Ar176.2.1) (g := (mkF m 96 #[rv aT, iv sT, .val (.double wT), .second, iv (0 : Int32), iv (1 : Int32)] [(.ref hT), (.int (2 : Int32))])) rfl rfl (hb hby own_d5_96) _ (by rw [len_of S176 M176]; exact k)) ?_
        have hc97 : (2 : Int32) < (6 : Int32) := by decide
        refine ov (B := T175.setTop (mkF m 100 #[rv aT, iv sT, .val (.double wT), .second, iv (0 : Int32), iv (1 : Int32)] [])) (fun t k => XS.icmpNo X175.here hx rfl (hb hby own_d5_97) rfl (tlt hc97).2.1 k) ?_
        refine oALN (n := 101) X175 hx (hb hby own_d5_100) rfl rfl rfl ?_
        refine oALN (n := 102) X175 hx (hb hby own_d5_101) rfl rfl rfl ?_
        obtain ⟨T177, X177, e177, st177⟩ := getF X175 hx hZ hown (host := "") (Or.inl (oW hw 13 rfl)) Via.refl e175 (((Fh.other W3 (Or.inl (Exa.neArv (Eo.wr W3) V3 (oW hw 1 rfl)))).keep Kq166 (ninS (Exa.neArv (((Eo.wr W3).keep Kq166).keep Kq172) Vh172 (oW hw 1 rfl)) (ninS (Exa.neArv (((Eo.wr W3).keep Kq166).keep Kq172) f172_1 (oW hw 1 rfl)) nin0))).keep Kq172 (ninS (Exa.neArv (((Eo.wr W3).keep Kq166).keep Kq172) Vh172 (oW hw 1 rfl)) (ninS (Exa.neArv (((Eo.wr W3).keep Kq166).keep Kq172) f172_1 (oW hw 1 rfl)) nin0))) (g := (mkF m 102 #[rv aT, iv sT, .val (.double wT), .second, iv (0 : Int32), iv (1 : Int32)] [(.ref aT), (.ref aT)])) rfl rfl (hb hby own_d5_102)
        refine ov (B := T177.setTop (mkF m 105 #[rv aT, iv sT, .val (.double wT), .second, iv (0 : Int32), iv (1 : Int32)] [(.ref hT), (.ref aT)])) (fun t k => st177 t k) ?_
        refine oIL (n := 107) X177 hx (hb hby own_d5_105) rfl rfl ?_
        refine oIC (n := 108) X177 hx (1 : Int32) (hb hby own_d5_107) (by decide) rfl ?_
        refine ov (B := T177.setTop (mkF m 109 #[rv aT, iv sT, .val (.double wT), .second, iv (0 : Int32), iv (1 : Int32)] [(.int (2 : Int32)), (.ref hT), (.ref aT)])) (fun t k => XS.iadd X177.here hx rfl (hb hby own_d5_108) rfl k) ?_
        obtain ⟨cl178, Ar178, q178, S178, M178, H178, G178⟩ := id Vh172
        have hin178 : ¬ ((2 : Int32) < 0 ∨ cl178.slots.size ≤ ((2 : Int32)).toNatClampNeg) := inb_of S178 ⟨by decide, by decide⟩
        refine ov (B := T177.setTop (mkF m 110 #[rv aT, iv sT, .val (.double wT), .second, iv (0 : Int32), iv (1 : Int32)] [(.int eC), (.ref aT)])) (fun t k => X177.iaload hx (j := (2 : Int32)) (v := (.int eC)) (by rw [e177]; exact Ar178.1) (State.isArrayOf_alike hZ.alike Ar178.2.1) Ar178.2.2 hin178 (Has.at H178 hin178 rfl) (g := (mkF m 109 #[rv aT, iv sT, .val (.double wT), .second, iv (0 : Int32), iv (1 : Int32)] [(.int (2 : Int32)), (.ref hT), (.ref aT)])) rfl rfl (hb hby own_d5_109) _ k) ?_
        refine oALN (n := 111) X177 hx (hb hby own_d5_110) rfl rfl rfl ?_
        obtain ⟨T179, X179, e179, st179⟩ := getF X177 hx hZ hown (host := "") (Or.inl (oW hw 13 rfl)) Via.refl e177 (((Fh.other W3 (Or.inl (Exa.neArv (Eo.wr W3) V3 (oW hw 1 rfl)))).keep Kq166 (ninS (Exa.neArv (((Eo.wr W3).keep Kq166).keep Kq172) Vh172 (oW hw 1 rfl)) (ninS (Exa.neArv (((Eo.wr W3).keep Kq166).keep Kq172) f172_1 (oW hw 1 rfl)) nin0))).keep Kq172 (ninS (Exa.neArv (((Eo.wr W3).keep Kq166).keep Kq172) Vh172 (oW hw 1 rfl)) (ninS (Exa.neArv (((Eo.wr W3).keep Kq166).keep Kq172) f172_1 (oW hw 1 rfl)) nin0))) (g := (mkF m 111 #[rv aT, iv sT, .val (.double wT), .second, iv (0 : Int32), iv (1 : Int32)] [(.ref aT), (.int eC), (.ref aT)])) rfl rfl (hb hby own_d5_111)
        refine ov (B := T179.setTop (mkF m 114 #[rv aT, iv sT, .val (.double wT), .second, iv (0 : Int32), iv (1 : Int32)] [(.ref hT), (.int eC), (.ref aT)])) (fun t k => st179 t k) ?_
        refine oIL (n := 116) X179 hx (hb hby own_d5_114) rfl rfl ?_
        obtain ⟨cl180, Ar180, q180, S180, M180, H180, G180⟩ := id Vh172
        have hin180 : ¬ ((1 : Int32) < 0 ∨ cl180.slots.size ≤ ((1 : Int32)).toNatClampNeg) := inb_of S180 ⟨by decide, by decide⟩
        refine ov (B := T179.setTop (mkF m 117 #[rv aT, iv sT, .val (.double wT), .second, iv (0 : Int32), iv (1 : Int32)] [(.int eA), (.int eC), (.ref aT)])) (fun t k => X179.iaload hx (j := (1 : Int32)) (v := (.int eA)) (by rw [e179]; exact Ar180.1) (State.isArrayOf_alike hZ.alike Ar180.2.1) Ar180.2.2 hin180 (Has.at H180 hin180 rfl) (g := (mkF m 116 #[rv aT, iv sT, .val (.double wT), .second, iv (0 : Int32), iv (1 : Int32)] [(.int (1 : Int32)), (.ref hT), (.int eC), (.ref aT)])) rfl rfl (hb hby own_d5_116) _ k) ?_
        obtain ⟨cq181, q181, q181'⟩ := (((Eo.wr W3).keep Kq166).keep Kq172).cell
        obtain ⟨_, _, ⟨T181, L181, k181, n181⟩, -, X181, ⟨Lc181, hQ181, l181, y181, z181⟩, st181⟩ := X179.privateBack hx (y := (⟨"com/example/meerkat/meerkat/simulate/Completions", "before", "(II)Z"⟩ : MethodName)) hown (mvT hZ (oW hw 32 rfl)) (mvT hZ (oW hw 33 rfl)) (own_selP (y' := (⟨"com/example/meerkat/meerkat/simulate/Completions", "set", "(ID)V"⟩ : MethodName)) rfl (mvT hZ (oW hw 30 rfl)) (Cond.privateMethod_at (mvP hZ (oW hw 34 rfl) (args := #[]))) (mvT hZ (oW hw 33 rfl)) (by decide)) (Cond.privateMethod_at (mvP hZ (oW hw 34 rfl) (args := #[]))) (mvT hZ (oW hw 35 rfl)) (by decide) (backOf (W := 0) (rmB l Z a0 hw [] aT eC eA gT kt (own_mv tt sT yT) T172.heap n0 (Nat.le_trans (Nat.le_trans (Nat.le_trans Z0 (Keep.of_wr W3).1) Kq166.1) Kq172.1) (((Ft.other W3 (Or.inl (Exa.neArv (Eo.wr W3) V3 (oW hw 1 rfl)))).keep Kq166 (ninS (Exa.neArv (((Eo.wr W3).keep Kq166).keep Kq172) Vh172 (oW hw 1 rfl)) (ninS (Exa.neArv (((Eo.wr W3).keep Kq166).keep Kq172) f172_1 (oW hw 1 rfl)) nin0))).keep Kq172 (ninS (Exa.neArv (((Eo.wr W3).keep Kq166).keep Kq172) Vh172 (oW hw 1 rfl)) (ninS (Exa.neArv (((Eo.wr W3).keep Kq166).keep Kq172) f172_1 (oW hw 1 rfl)) nin0))) ((V3.keep Kq166 (ninS ngh (ninS ngp nin0))).keep Kq172 (ninS ngh (ninS ngp nin0))) (own_I1mv qI qR qY) reC reA) hZ (oW hw 35 rfl) (oW hw 2 rfl) (by decide) (by decide)) (g := (mkF m 117 #[rv aT, iv sT, .val (.double wT), .second, iv (0 : Int32), iv (1 : Int32)] [(.int eA), (.int eC), (.ref aT)])) rfl (by rw [hml]; rfl) (Steps.refl _) (a := aT) (by rw [e179]; exact q181) q181' (argsL := [(.int eC), (.int eA)]) (rest := []) (lenOf own_pd0 rfl) rfl (by show 2 * 0 + _ ≤ _; exact Nat.le_of_eq rfl) (hb hby own_d5_117) (fun _ _ => ⟨rfl, e179, (by decide : ((((0 + 0) + 0) + 0) + 0) + 0 ≤ _), (by decide : ((((0 + 0) + 0) + 0) + 0) + 0 ≤ _)⟩)
        dsimp only [Pt.U, Pt.locs, Pt.cells, Pt.slots] at X181 l181 y181 z181 st181 hQ181
        subst l181 y181 z181
        obtain ⟨rfl, Nq181, eq181⟩ := hQ181
        have N181 := Fr.app N172 Nq181
        refine ov (B := T181.setTop (mkF m 120 #[rv aT, iv sT, .val (.double wT), .second, iv (0 : Int32), iv (1 : Int32)] [(.int (own_bit (own_rk (own_mv tt sT yT) eC < own_rk (own_mv tt sT yT) eA)))])) (fun t k => st181.trans k) ?_
        by_cases hc120 : own_rk (own_mv tt sT yT) eC < own_rk (own_mv tt sT yT) eA
        · refine ov (B := T181.setTop (mkF m 123 #[rv aT, iv sT, .val (.double wT), .second, iv (0 : Int32), iv (1 : Int32)] [])) (fun t k => XS.ifNo X181.here hx rfl (hb hby own_d5_120) rfl ((if0 _ _).trans (feq (own_bitne hc120)).1) k) ?_
          refine ov (B := T181.setTop (mkF m 126 #[rv aT, iv sT, .val (.double wT), .second, iv (0 : Int32), iv (2 : Int32)] [])) (fun t k => XS.iinc X181.here hx rfl (hb hby own_d5_123) rfl (l' := #[rv aT, iv sT, .val (.double wT), .second, iv (0 : Int32), iv (2 : Int32)]) rfl k) ?_
          refine oALN (n := 127) X181 hx (hb hby own_d5_126) rfl rfl rfl ?_
          refine oALN (n := 128) X181 hx (hb hby own_d5_127) rfl rfl rfl ?_
          obtain ⟨T182, X182, e182, st182⟩ := getF X181 hx hZ hown (host := "") (Or.inl (oW hw 13 rfl)) Via.refl eq181 (((Fh.other W3 (Or.inl (Exa.neArv (Eo.wr W3) V3 (oW hw 1 rfl)))).keep Kq166 (ninS (Exa.neArv (((Eo.wr W3).keep Kq166).keep Kq172) Vh172 (oW hw 1 rfl)) (ninS (Exa.neArv (((Eo.wr W3).keep Kq166).keep Kq172) f172_1 (oW hw 1 rfl)) nin0))).keep Kq172 (ninS (Exa.neArv (((Eo.wr W3).keep Kq166).keep Kq172) Vh172 (oW hw 1 rfl)) (ninS (Exa.neArv (((Eo.wr W3).keep Kq166).keep Kq172) f172_1 (oW hw 1 rfl)) nin0))) (g := (mkF m 128 #[rv aT, iv sT, .val (.double wT), .second, iv (0 : Int32), iv (2 : Int32)] [(.ref aT), (.ref aT)])) rfl rfl (hb hby own_d5_128)
          refine ov (B := T182.setTop (mkF m 131 #[rv aT, iv sT, .val (.double wT), .second, iv (0 : Int32), iv (2 : Int32)] [(.ref hT), (.ref aT)])) (fun t k => st182 t k) ?_
          refine oIL (n := 133) X182 hx (hb hby own_d5_131) rfl rfl ?_
          obtain ⟨cl183, Ar183, q183, S183, M183, H183, G183⟩ := id Vh172
          have hin183 : ¬ ((2 : Int32) < 0 ∨ cl183.slots.size ≤ ((2 : Int32)).toNatClampNeg) := inb_of S183 ⟨by decide, by decide⟩
          refine ov (B := T182.setTop (mkF m 134 #[rv aT, iv sT, .val (.double wT), .second, iv (0 : Int32), iv (2 : Int32)] [(.int eC), (.ref aT)])) (fun t k => X182.iaload hx (j := (2 : Int32)) (v := (.int eC)) (by rw [e182]; exact Ar183.1) (State.isArrayOf_alike hZ.alike Ar183.2.1) Ar183.2.2 hin183 (Has.at H183 hin183 rfl) (g := (mkF m 133 #[rv aT, iv sT, .val (.double wT), .second, iv (0 : Int32), iv (2 : Int32)] [(.int (2 : Int32)), (.ref hT), (.ref aT)])) rfl rfl (hb hby own_d5_133) _ k) ?_
          refine oILN (n := 135) X182 hx (hb hby own_d5_134) rfl rfl ?_
          obtain ⟨cq184, q184, q184'⟩ := (((Eo.wr W3).keep Kq166).keep Kq172).cell
          obtain ⟨_, _, ⟨T184, L184, k184, n184⟩, -, X184, ⟨Lc184, hQ184, l184, y184, z184⟩, st184⟩ := X182.privateBack hx (y := (⟨"com/example/meerkat/meerkat/simulate/Completions", "before", "(II)Z"⟩ : MethodName)) hown (mvT hZ (oW hw 32 rfl)) (mvT hZ (oW hw 33 rfl)) (own_selP (y' := (⟨"com/example/meerkat/meerkat/simulate/Completions", "set", "(ID)V"⟩ : MethodName)) rfl (mvT hZ (oW hw 30 rfl)) (Cond.privateMethod_at (mvP hZ (oW hw 34 rfl) (args := #[]))) (mvT hZ (oW hw 33 rfl)) (by decide)) (Cond.privateMethod_at (mvP hZ (oW hw 34 rfl) (args := #[]))) (mvT hZ (oW hw 35 rfl)) (by decide) (backOf (W := 0) (rmB l Z a0 hw [] aT eC sT gT kt (own_mv tt sT yT) T172.heap n0 (Nat.le_trans (Nat.le_trans (Nat.le_trans Z0 (Keep.of_wr W3).1) Kq166.1) Kq172.1) (((Ft.other W3 (Or.inl (Exa.neArv (Eo.wr W3) V3 (oW hw 1 rfl)))).keep Kq166 (ninS (Exa.neArv (((Eo.wr W3).keep Kq166).keep Kq172) Vh172 (oW hw 1 rfl)) (ninS (Exa.neArv (((Eo.wr W3).keep Kq166).keep Kq172) f172_1 (oW hw 1 rfl)) nin0))).keep Kq172 (ninS (Exa.neArv (((Eo.wr W3).keep Kq166).keep Kq172) Vh172 (oW hw 1 rfl)) (ninS (Exa.neArv (((Eo.wr W3).keep Kq166).keep Kq172) f172_1 (oW hw 1 rfl)) nin0))) ((V3.keep Kq166 (ninS ngh (ninS ngp nin0))).keep Kq172 (ninS ngh (ninS ngp nin0))) (own_I1mv qI qR qY) reC qR) hZ (oW hw 35 rfl) (oW hw 2 rfl) (by decide) (by decide)) (g := (mkF m 135 #[rv aT, iv sT, .val (.double wT), .second, iv (0 : Int32), iv (2 : Int32)] [(.int sT), (.int eC), (.ref aT)])) rfl (by rw [hml]; rfl) (Steps.refl _) (a := aT) (by rw [e182]; exact q184) q184' (argsL := [(.int eC), (.int sT)]) (rest := []) (lenOf own_pd0 rfl) rfl (by show 2 * 0 + _ ≤ _; exact Nat.le_of_eq rfl) (hb hby own_d5_135) (fun _ _ => ⟨rfl, e182, (by decide : (((((0 + 0) + 0) + 0) + 0) + 0) + 0 ≤ _), (by decide : (((((0 + 0) + 0) + 0) + 0) + 0) + 0 ≤ _)⟩)
          dsimp only [Pt.U, Pt.locs, Pt.cells, Pt.slots] at X184 l184 y184 z184 st184 hQ184
          subst l184 y184 z184
          obtain ⟨rfl, Nq184, eq184⟩ := hQ184
          have N184 := Fr.app N181 Nq184
          refine ov (B := T184.setTop (mkF m 138 #[rv aT, iv sT, .val (.double wT), .second, iv (0 : Int32), iv (2 : Int32)] [(.int (own_bit (own_rk (own_mv tt sT yT) eC < own_rk (own_mv tt sT yT) sT)))])) (fun t k => st184.trans k) ?_
          have hc138 : ¬ (own_rk (own_mv tt sT yT) eC < own_rk (own_mv tt sT yT) sT) := by omega
          refine ov (B := T184.setTop (mkF m 141 #[rv aT, iv sT, .val (.double wT), .second, iv (0 : Int32), iv (2 : Int32)] [])) (fun t k => XS.ifNo X184.here hx rfl (hb hby own_d5_138) rfl ((if0 _ _).trans (teq (own_bit0.mpr hc138)).2) k) ?_
          refine oGO (n := 164) X184 hx (hb hby own_d5_141) (by decide) (by decide) ?_
          refine oALN (n := 165) X184 hx (hb hby own_d5_164) rfl rfl rfl ?_
          refine oILN (n := 166) X184 hx (hb hby own_d5_165) rfl rfl ?_
          refine oIL (n := 168) X184 hx (hb hby own_d5_166) rfl rfl ?_
          obtain ⟨cq185, q185, q185'⟩ := (((Eo.wr W3).keep Kq166).keep Kq172).cell
          obtain ⟨_, _, ⟨T185, L185, k185, n185⟩, -, X185, ⟨Lc185, hQ185, l185, y185, z185⟩, st185⟩ := X184.privateBack hx (y := (⟨"com/example/meerkat/meerkat/simulate/Completions", "move", "(II)V"⟩ : MethodName)) hown (mvT hZ (oW hw 36 rfl)) (mvT hZ (oW hw 37 rfl)) (own_selP (y' := (⟨"com/example/meerkat/meerkat/simulate/Completions", "set", "(ID)V"⟩ : MethodName)) rfl (mvT hZ (oW hw 30 rfl)) (Cond.privateMethod_at (mvP hZ (oW hw 38 rfl) (args := #[]))) (mvT hZ (oW hw 37 rfl)) (by decide)) (Cond.privateMethod_at (mvP hZ (oW hw 38 rfl) (args := #[]))) (mvT hZ (oW hw 39 rfl)) (by decide) (backOf (W := 0) (rmM l Z a0 hw [] aT sT (0 : Int32) hT pT kh kp [eA, eA, eC, eB, eE, eF] (own_mv (own_mv PP eB (3 : Int32)) eA (1 : Int32)) T172.heap n0 (Nat.le_trans (Nat.le_trans (Nat.le_trans Z0 (Keep.of_wr W3).1) Kq166.1) Kq172.1) (((Eo.wr W3).keep Kq166).keep Kq172) (((Fh.other W3 (Or.inl (Exa.neArv (Eo.wr W3) V3 (oW hw 1 rfl)))).keep Kq166 (ninS (Exa.neArv (((Eo.wr W3).keep Kq166).keep Kq172) Vh172 (oW hw 1 rfl)) (ninS (Exa.neArv (((Eo.wr W3).keep Kq166).keep Kq172) f172_1 (oW hw 1 rfl)) nin0))).keep Kq172 (ninS (Exa.neArv (((Eo.wr W3).keep Kq166).keep Kq172) Vh172 (oW hw 1 rfl)) (ninS (Exa.neArv (((Eo.wr W3).keep Kq166).keep Kq172) f172_1 (oW hw 1 rfl)) nin0))) (((Fp.other W3 (Or.inl (Exa.neArv (Eo.wr W3) V3 (oW hw 1 rfl)))).keep Kq166 (ninS (Exa.neArv (((Eo.wr W3).keep Kq166).keep Kq172) Vh172 (oW hw 1 rfl)) (ninS (Exa.neArv (((Eo.wr W3).keep Kq166).keep Kq172) f172_1 (oW hw 1 rfl)) nin0))).keep Kq172 (ninS (Exa.neArv (((Eo.wr W3).keep Kq166).keep Kq172) Vh172 (oW hw 1 rfl)) (ninS (Exa.neArv (((Eo.wr W3).keep Kq166).keep Kq172) f172_1 (oW hw 1 rfl)) nin0))) Vh172 f172_1 nhp g_hT g_pT rfl (own_mvl (own_mvl qL)) qR ⟨by decide, by decide⟩) hZ (oW hw 39 rfl) (oW hw 2 rfl) (by decide) (by decide)) (g := (mkF m 168 #[rv aT, iv sT, .val (.double wT), .second, iv (0 : Int32), iv (2 : Int32)] [(.int (0 : Int32)), (.int sT), (.ref aT)])) rfl (by rw [hml]; rfl) (Steps.refl _) (a := aT) (by rw [eq184]; exact q185) q185' (argsL := [(.int sT), (.int (0 : Int32))]) (rest := []) (lenOf own_pd1 rfl) rfl (by show 2 * 0 + _ ≤ _; exact Nat.le_of_eq rfl) (hb hby own_d5_168) (fun _ _ => ⟨rfl, eq184, (by decide : ((((((0 + 0) + 0) + 0) + 0) + 0) + 0) + 0 ≤ _), (by decide : ((((((0 + 0) + 0) + 0) + 0) + 0) + 0) + 0 ≤ _)⟩)
          dsimp only [Pt.U, Pt.locs, Pt.cells, Pt.slots] at X185 l185 y185 z185 st185 hQ185
          subst l185 y185 z185
          obtain ⟨rfl, Nq185, Kq185, f185_0, f185_1⟩ := hQ185
          have N185 := Fr.app N184 Nq185
          have Vh185 : Arv Z T185.heap hT kh .int (6 : Int32) [(.int sT), (.int eA), (.int eC), (.int eB), (.int eE), (.int eF)] (.int (0 : Int32)) := f185_0
          refine ov (B := T185.setTop (mkF m 171 #[rv aT, iv sT, .val (.double wT), .second, iv (0 : Int32), iv (2 : Int32)] [])) (fun t k => st185.trans k) ?_
          refine own_leafV X185 hx hlk Bd.returns (hb hby own_d5_171) (by decide) (by decide) ?_
          show QT Z aT sT wT gT hT pT kt kh kp tt PP eA eB eC eD eE eF yT h0 n0 _ T185.heap _
          refine ⟨sT, eA, eC, eB, eE, eF, (own_mv (own_mv (own_mv PP eB (3 : Int32)) eA (1 : Int32)) sT (0 : Int32)), ?_, N185, (((((Keep.refl h0 [gT, hT, pT]).wr W3 (Or.inl (List.mem_of_getElem? (i := 0) rfl))).trans Kq166 (allS (Or.inl (List.mem_of_getElem? (i := 1) rfl)) (allS (Or.inl (List.mem_of_getElem? (i := 2) rfl)) all0))).trans Kq172 (allS (Or.inl (List.mem_of_getElem? (i := 1) rfl)) (allS (Or.inl (List.mem_of_getElem? (i := 2) rfl)) all0))).trans Kq185 (allS (Or.inl (List.mem_of_getElem? (i := 1) rfl)) (allS (Or.inl (List.mem_of_getElem? (i := 2) rfl)) all0))), ?_, ?_, ?_, ?_, (((V3.keep Kq166 (ninS ngh (ninS ngp nin0))).keep Kq172 (ninS ngh (ninS ngp nin0))).keep Kq185 (ninS ngh (ninS ngp nin0))), Vh185, f185_1⟩
          · rfl
          · exact own_I1mv qI qR qY
          · exact ⟨(own_mvl (own_mvl (own_mvl qL))), qR, reA, reC, reB, reE, reF, (own_mvS (own_mvl (own_mvl qL)) qR), ((own_mvN neA qR reA).trans (own_mvS (own_mvl qL) reA)), ((own_mvN neC qR reC).trans ((own_mvN (own_ppne peA peC (by decide)) reA reC).trans ((own_mvN (own_ppne peB peC (by decide)) reB reC).trans peC))), ((own_mvN neB qR reB).trans ((own_mvN (own_ppne peA peB (by decide)) reA reB).trans (own_mvS qL reB))), ((own_mvN neE qR reE).trans ((own_mvN (own_ppne peA peE (by decide)) reA reE).trans ((own_mvN (own_ppne peB peE (by decide)) reB reE).trans peE))), ((own_mvN neF qR reF).trans ((own_mvN (own_ppne peA peF (by decide)) reA reF).trans ((own_mvN (own_ppne peB peF (by decide)) reB reF).trans peF)))⟩
          · intro q hq'
            rcases qS q hq' with h | h | h | h | h | h
            · exact Or.inr (Or.inl (h))
            · exact Or.inr (Or.inr (Or.inr (Or.inl (h))))
            · exact Or.inr (Or.inr (Or.inl (h)))
            · exact Or.inl (h.trans hq.symm)
            · exact Or.inr (Or.inr (Or.inr (Or.inr (Or.inl (h)))))
            · exact Or.inr (Or.inr (Or.inr (Or.inr (Or.inr ((h))))))
          · exact ⟨by omega, by omega, by omega, by omega, by omega⟩
        · refine ov (B := T181.setTop (mkF m 126 #[rv aT, iv sT, .val (.double wT), .second, iv (0 : Int32), iv (1 : Int32)] [])) (fun t k => XS.ifYes X181.here hx rfl (pc0 := 120) (pc' := 126) rfl (hb hby own_d5_120) rfl ((if0 _ _).trans (teq (own_bit0.mpr hc120)).1) (by decide) (by decide) k) ?_
          refine oALN (n := 127) X181 hx (hb hby own_d5_126) rfl rfl rfl ?_
          refine oALN (n := 128) X181 hx (hb hby own_d5_127) rfl rfl rfl ?_
          obtain ⟨T186, X186, e186, st186⟩ := getF X181 hx hZ hown (host := "") (Or.inl (oW hw 13 rfl)) Via.refl eq181 (((Fh.other W3 (Or.inl (Exa.neArv (Eo.wr W3) V3 (oW hw 1 rfl)))).keep Kq166 (ninS (Exa.neArv (((Eo.wr W3).keep Kq166).keep Kq172) Vh172 (oW hw 1 rfl)) (ninS (Exa.neArv (((Eo.wr W3).keep Kq166).keep Kq172) f172_1 (oW hw 1 rfl)) nin0))).keep Kq172 (ninS (Exa.neArv (((Eo.wr W3).keep Kq166).keep Kq172) Vh172 (oW hw 1 rfl)) (ninS (Exa.neArv (((Eo.wr W3).keep Kq166).keep Kq172) f172_1 (oW hw 1 rfl)) nin0))) (g := (mkF m 128 #[rv aT, iv sT, .val (.double wT), .second, iv (0 : Int32), iv (1 : Int32)] [(.ref aT), (.ref aT)])) rfl rfl (hb hby own_d5_128)
          refine ov (B := T186.setTop (mkF m 131 #[rv aT, iv sT, .val (.double wT), .second, iv (0 : Int32), iv (1 : Int32)] [(.ref hT), (.ref aT)])) (fun t k => st186 t k) ?_
          refine oIL (n := 133) X186 hx (hb hby own_d5_131) rfl rfl ?_
          obtain ⟨cl187, Ar187, q187, S187, M187, H187, G187⟩ := id Vh172
          have hin187 : ¬ ((1 : Int32) < 0 ∨ cl187.slots.size ≤ ((1 : Int32)).toNatClampNeg) := inb_of S187 ⟨by decide, by decide⟩
          refine ov (B := T186.setTop (mkF m 134 #[rv aT, iv sT, .val (.double wT), .second, iv (0 : Int32), iv (1 : Int32)] [(.int eA), (.ref aT)])) (fun t k => X186.iaload hx (j := (1 : Int32)) (v := (.int eA)) (by rw [e186]; exact Ar187.1) (State.isArrayOf_alike hZ.alike Ar187.2.1) Ar187.2.2 hin187 (Has.at H187 hin187 rfl) (g := (mkF m 133 #[rv aT, iv sT, .val (.double wT), .second, iv (0 : Int32), iv (1 : Int32)] [(.int (1 : Int32)), (.ref hT), (.ref aT)])) rfl rfl (hb hby own_d5_133) _ k) ?_
          refine oILN (n := 135) X186 hx (hb hby own_d5_134) rfl rfl ?_
          obtain ⟨cq188, q188, q188'⟩ := (((Eo.wr W3).keep Kq166).keep Kq172).cell
          obtain ⟨_, _, ⟨T188, L188, k188, n188⟩, -, X188, ⟨Lc188, hQ188, l188, y188, z188⟩, st188⟩ := X186.privateBack hx (y := (⟨"com/example/meerkat/meerkat/simulate/Completions", "before", "(II)Z"⟩ : MethodName)) hown (mvT hZ (oW hw 32 rfl)) (mvT hZ (oW hw 33 rfl)) (own_selP (y' := (⟨"com/example/meerkat/meerkat/simulate/Completions", "set", "(ID)V"⟩ : MethodName)) rfl (mvT hZ (oW hw 30 rfl)) (Cond.privateMethod_at (mvP hZ (oW hw 34 rfl) (args := #[]))) (mvT hZ (oW hw 33 rfl)) (by decide)) (Cond.privateMethod_at (mvP hZ (oW hw 34 rfl) (args := #[]))) (mvT hZ (oW hw 35 rfl)) (by decide) (backOf (W := 0) (rmB l Z a0 hw [] aT eA sT gT kt (own_mv tt sT yT) T172.heap n0 (Nat.le_trans (Nat.le_trans (Nat.le_trans Z0 (Keep.of_wr W3).1) Kq166.1) Kq172.1) (((Ft.other W3 (Or.inl (Exa.neArv (Eo.wr W3) V3 (oW hw 1 rfl)))).keep Kq166 (ninS (Exa.neArv (((Eo.wr W3).keep Kq166).keep Kq172) Vh172 (oW hw 1 rfl)) (ninS (Exa.neArv (((Eo.wr W3).keep Kq166).keep Kq172) f172_1 (oW hw 1 rfl)) nin0))).keep Kq172 (ninS (Exa.neArv (((Eo.wr W3).keep Kq166).keep Kq172) Vh172 (oW hw 1 rfl)) (ninS (Exa.neArv (((Eo.wr W3).keep Kq166).keep Kq172) f172_1 (oW hw 1 rfl)) nin0))) ((V3.keep Kq166 (ninS ngh (ninS ngp nin0))).keep Kq172 (ninS ngh (ninS ngp nin0))) (own_I1mv qI qR qY) reA qR) hZ (oW hw 35 rfl) (oW hw 2 rfl) (by decide) (by decide)) (g := (mkF m 135 #[rv aT, iv sT, .val (.double wT), .second, iv (0 : Int32), iv (1 : Int32)] [(.int sT), (.int eA), (.ref aT)])) rfl (by rw [hml]; rfl) (Steps.refl _) (a := aT) (by rw [e186]; exact q188) q188' (argsL := [(.int eA), (.int sT)]) (rest := []) (lenOf own_pd0 rfl) rfl (by show 2 * 0 + _ ≤ _; exact Nat.le_of_eq rfl) (hb hby own_d5_135) (fun _ _ => ⟨rfl, e186, (by decide : (((((0 + 0) + 0) + 0) + 0) + 0) + 0 ≤ _), (by decide : (((((0 + 0) + 0) + 0) + 0) + 0) + 0 ≤ _)⟩)
          dsimp only [Pt.U, Pt.locs, Pt.cells, Pt.slots] at X188 l188 y188 z188 st188 hQ188
          subst l188 y188 z188
          obtain ⟨rfl, Nq188, eq188⟩ := hQ188
          have N188 := Fr.app N181 Nq188
          refine ov (B := T188.setTop (mkF m 138 #[rv aT, iv sT, .val (.double wT), .second, iv (0 : Int32), iv (1 : Int32)] [(.int (own_bit (own_rk (own_mv tt sT yT) eA < own_rk (own_mv tt sT yT) sT)))])) (fun t k => st188.trans k) ?_
          have hc138 : ¬ (own_rk (own_mv tt sT yT) eA < own_rk (own_mv tt sT yT) sT) := by omega
          refine ov (B := T188.setTop (mkF m 141 #[rv aT, iv sT, .val (.double wT), .second, iv (0 : Int32), iv (1 : Int32)] [])) (fun t k => XS.ifNo X188.here hx rfl (hb hby own_d5_138) rfl ((if0 _ _).trans (teq (own_bit0.mpr hc138)).2) k) ?_
          refine oGO (n := 164) X188 hx (hb hby own_d5_141) (by decide) (by decide) ?_
          refine oALN (n := 165) X188 hx (hb hby own_d5_164) rfl rfl rfl ?_
          refine oILN (n := 166) X188 hx (hb hby own_d5_165) rfl rfl ?_
          refine oIL (n := 168) X188 hx (hb hby own_d5_166) rfl rfl ?_
          obtain ⟨cq189, q189, q189'⟩ := (((Eo.wr W3).keep Kq166).keep Kq172).cell
          obtain ⟨_, _, ⟨T189, L189, k189, n189⟩, -, X189, ⟨Lc189, hQ189, l189, y189, z189⟩, st189⟩ := X188.privateBack hx (y := (⟨"com/example/meerkat/meerkat/simulate/Completions", "move", "(II)V"⟩ : MethodName)) hown (mvT hZ (oW hw 36 rfl)) (mvT hZ (oW hw 37 rfl)) (own_selP (y' := (⟨"com/example/meerkat/meerkat/simulate/Completions", "set", "(ID)V"⟩ : MethodName)) rfl (mvT hZ (oW hw 30 rfl)) (Cond.privateMethod_at (mvP hZ (oW hw 38 rfl) (args := #[]))) (mvT hZ (oW hw 37 rfl)) (by decide)) (Cond.privateMethod_at (mvP hZ (oW hw 38 rfl) (args := #[]))) (mvT hZ (oW hw 39 rfl)) (by decide) (backOf (W := 0) (rmM l Z a0 hw [] aT sT (0 : Int32) hT pT kh kp [eA, eA, eC, eB, eE, eF] (own_mv (own_mv PP eB (3 : Int32)) eA (1 : Int32)) T172.heap n0 (Nat.le_trans (Nat.le_trans (Nat.le_trans Z0 (Keep.of_wr W3).1) Kq166.1) Kq172.1) (((Eo.wr W3).keep Kq166).keep Kq172) (((Fh.other W3 (Or.inl (Exa.neArv (Eo.wr W3) V3 (oW hw 1 rfl)))).keep Kq166 (ninS (Exa.neArv (((Eo.wr W3).keep Kq166).keep Kq172) Vh172 (oW hw 1 rfl)) (ninS (Exa.neArv (((Eo.wr W3).keep Kq166).keep Kq172) f172_1 (oW hw 1 rfl)) nin0))).keep Kq172 (ninS (Exa.neArv (((Eo.wr W3).keep Kq166).keep Kq172) Vh172 (oW hw 1 rfl)) (ninS (Exa.neArv (((Eo.wr W3).keep Kq166).keep Kq172) f172_1 (oW hw 1 rfl)) nin0))) (((Fp.other W3 (Or.inl (Exa.neArv (Eo.wr W3) V3 (oW hw 1 rfl)))).keep Kq166 (ninS (Exa.neArv (((Eo.wr W3).keep Kq166).keep Kq172) Vh172 (oW hw 1 rfl)) (ninS (Exa.neArv (((Eo.wr W3).keep Kq166).keep Kq172) f172_1 (oW hw 1 rfl)) nin0))).keep Kq172 (ninS (Exa.neArv (((Eo.wr W3).keep Kq166).keep Kq172) Vh172 (oW hw 1 rfl)) (ninS (Exa.neArv (((Eo.wr W3).keep Kq166).keep Kq172) f172_1 (oW hw 1 rfl)) nin0))) Vh172 f172_1 nhp g_hT g_pT rfl (own_mvl (own_mvl qL)) qR ⟨by decide, by decide⟩) hZ (oW hw 39 rfl) (oW hw 2 rfl) (by decide) (by decide)) (g := (mkF m 168 #[rv aT, iv sT, .val (.double wT), .second, iv (0 : Int32), iv (1 : Int32)] [(.int (0 : Int32)), (.int sT), (.ref aT)])) rfl (by rw [hml]; rfl) (Steps.refl _) (a := aT) (by rw [eq188]; exact q189) q189' (argsL := [(.int sT), (.int (0 : Int32))]) (rest := []) (lenOf own_pd1 rfl) rfl (by show 2 * 0 + _ ≤ _; exact Nat.le_of_eq rfl) (hb hby own_d5_168) (fun _ _ => ⟨rfl, eq188, (by decide : ((((((0 + 0) + 0) + 0) + 0) + 0) + 0) + 0 ≤ _), (by decide : ((((((0 + 0) + 0) + 0) + 0) + 0) + 0) + 0 ≤ _)⟩)
          dsimp only [Pt.U, Pt.locs, Pt.cells, Pt.slots] at X189 l189 y189 z189 st189 hQ189
          subst l189 y189 z189
          obtain ⟨rfl, Nq189, Kq189, f189_0, f189_1⟩ := hQ189
          have N189 := Fr.app N188 Nq189
          have Vh189 : Arv Z T189.heap hT kh .int (6 : Int32) [(.int sT), (.int eA), (.int eC), (.int eB), (.int eE), (.int eF)] (.int (0 : Int32)) := f189_0
          refine ov (B := T189.setTop (mkF m 171 #[rv aT, iv sT, .val (.double wT), .second, iv (0 : Int32), iv (1 : Int32)] [])) (fun t k => st189.trans k) ?_
          refine own_leafV X189 hx hlk Bd.returns (hb hby own_d5_171) (by decide) (by decide) ?_
          show QT Z aT sT wT gT hT pT kt kh kp tt PP eA eB eC eD eE eF yT h0 n0 _ T189.heap _
          refine ⟨sT, eA, eC, eB, eE, eF, (own_mv (own_mv (own_mv PP eB (3 : Int32)) eA (1 : Int32)) sT (0 : Int32)), ?_, N189, (((((Keep.refl h0 [gT, hT, pT]).wr W3 (Or.inl (List.mem_of_getElem? (i := 0) rfl))).trans Kq166 (allS (Or.inl (List.mem_of_getElem? (i := 1) rfl)) (allS (Or.inl (List.mem_of_getElem? (i := 2) rfl)) all0))).trans Kq172 (allS (Or.inl (List.mem_of_getElem? (i := 1) rfl)) (allS (Or.inl (List.mem_of_getElem? (i := 2) rfl)) all0))).trans Kq189 (allS (Or.inl (List.mem_of_getElem? (i := 1) rfl)) (allS (Or.inl (List.mem_of_getElem? (i := 2) rfl)) all0))), ?_, ?_, ?_, ?_, (((V3.keep Kq166 (ninS ngh (ninS ngp nin0))).keep Kq172 (ninS ngh (ninS ngp nin0))).keep Kq189 (ninS ngh (ninS ngp nin0))), Vh189, f189_1⟩
          · rfl
          · exact own_I1mv qI qR qY
          · exact ⟨(own_mvl (own_mvl (own_mvl qL))), qR, reA, reC, reB, reE, reF, (own_mvS (own_mvl (own_mvl qL)) qR), ((own_mvN neA qR reA).trans (own_mvS (own_mvl qL) reA)), ((own_mvN neC qR reC).trans ((own_mvN (own_ppne peA peC (by decide)) reA reC).trans ((own_mvN (own_ppne peB peC (by decide)) reB reC).trans peC))), ((own_mvN neB qR reB).trans ((own_mvN (own_ppne peA peB (by decide)) reA reB).trans (own_mvS qL reB))), ((own_mvN neE qR reE).trans ((own_mvN (own_ppne peA peE (by decide)) reA reE).trans ((own_mvN (own_ppne peB peE (by decide)) reB reE).trans peE))), ((own_mvN neF qR reF).trans ((own_mvN (own_ppne peA peF (by decide)) reA reF).trans ((own_mvN (own_ppne peB peF (by decide)) reB reF).trans peF)))⟩
          · intro q hq'
            rcases qS q hq' with h | h | h | h | h | h
            · exact Or.inr (Or.inl (h))
            · exact Or.inr (Or.inr (Or.inr (Or.inl (h))))
            · exact Or.inr (Or.inr (Or.inl (h)))
            · exact Or.inl (h.trans hq.symm)
            · exact Or.inr (Or.inr (Or.inr (Or.inr (Or.inl (h)))))
            · exact Or.inr (Or.inr (Or.inr (Or.inr (Or.inr ((h))))))
          · exact ⟨by omega, by omega, by omega, by omega, by omega⟩
      · refine ov (B := T169.setTop (mkF m 67 #[rv aT, iv sT, .val (.double wT), .second, iv (1 : Int32), uu] [])) (fun t k => XS.ifYes X169.here hx rfl (pc0 := 36) (pc' := 67) rfl (hb hby own_d5_36) rfl ((if0 _ _).trans (teq (own_bit0.mpr hc36)).1) (by decide) (by decide) k) ?_
        refine oIC (n := 68) X169 hx (2 : Int32) (hb hby own_d5_67) (by decide) rfl ?_
        refine oIL (n := 70) X169 hx (hb hby own_d5_68) rfl rfl ?_
        refine ov (B := T169.setTop (mkF m 71 #[rv aT, iv sT, .val (.double wT), .second, iv (1 : Int32), uu] [(.int (2 : Int32))])) (fun t k => XS.imul X169.here hx rfl (hb hby own_d5_70) rfl k) ?_
        refine oIC (n := 72) X169 hx (1 : Int32) (hb hby own_d5_71) (by decide) rfl ?_
        refine ov (B := T169.setTop (mkF m 73 #[rv aT, iv sT, .val (.double wT), .second, iv (1 : Int32), uu] [(.int (3 : Int32))])) (fun t k => XS.iadd X169.here hx rfl (hb hby own_d5_72) rfl k) ?_
        refine ov (B := T169.setTop (mkF m 75 #[rv aT, iv sT, .val (.double wT), .second, iv (1 : Int32), iv (3 : Int32)] [])) (fun t k => XS.istore X169.here hx rfl (hb hby own_d5_73) rfl (l' := #[rv aT, iv sT, .val (.double wT), .second, iv (1 : Int32), iv (3 : Int32)]) rfl k) ?_
        refine oIL (n := 77) X169 hx (hb hby own_d5_75) rfl rfl ?_
        refine oALN (n := 78) X169 hx (hb hby own_d5_77) rfl rfl rfl ?_
        obtain ⟨T190, X190, e190, st190⟩ := getF X169 hx hZ hown (host := "") (Or.inl (oW hw 13 rfl)) Via.refl eq169 ((Fh.other W3 (Or.inl (Exa.neArv (Eo.wr W3) V3 (oW hw 1 rfl)))).keep Kq166 (ninS (Exa.neArv ((Eo.wr W3).keep Kq166) Vh166 (oW hw 1 rfl)) (ninS (Exa.neArv ((Eo.wr W3).keep Kq166) f166_1 (oW hw 1 rfl)) nin0))) (g := (mkF m 78 #[rv aT, iv sT, .val (.double wT), .second, iv (1 : Int32), iv (3 : Int32)] [(.ref aT), (.int (3 : Int32))])) rfl rfl (hb hby own_d5_78)
        refine ov (B := T190.setTop (mkF m 81 #[rv aT, iv sT, .val (.double wT), .second, iv (1 : Int32), iv (3 : Int32)] [(.ref hT), (.int (3 : Int32))])) (fun t k => st190 t k) ?_
        obtain ⟨cl191, Ar191, q191, S191, M191, H191, G191⟩ := id Vh166
        refine ov (B := T190.setTop (mkF m 82 #[rv aT, iv sT, .val (.double wT), .second, iv (1 : Int32), iv (3 : Int32)] [(.int (6 : Int32)), (.int (3 : Int32))])) (fun t k => X190.arraylength hx (by rw [e190]; exact Ar191.1) (State.isArrayOf_alike hZ.alike Ar191.2.1) (g := (mkF m 81 #[rv aT, iv sT, .val (.double wT), .second, iv (1 : Int32), iv (3 : Int32)] [(.ref hT), (.int (3 : Int32))])) rfl rfl (hb hby own_d5_81) _ (by rw [len_of S191 M191]; exact k)) ?_
        have hc82 : (3 : Int32) < (6 : Int32) := by decide
        refine ov (B := T190.setTop (mkF m 88 #[rv aT, iv sT, .val (.double wT), .second, iv (1 : Int32), iv (3 : Int32)] [])) (fun t k => XS.icmpYes X190.here hx rfl (pc0 := 82) (pc' := 88) rfl (hb hby own_d5_82) rfl (tlt hc82).1 (by decide) (by decide) k) ?_
        refine oIL (n := 90) X190 hx (hb hby own_d5_88) rfl rfl ?_
        refine oIC (n := 91) X190 hx (1 : Int32) (hb hby own_d5_90) (by decide) rfl ?_
        refine ov (B := T190.setTop (mkF m 92 #[rv aT, iv sT, .val (.double wT), .second, iv (1 : Int32), iv (3 : Int32)] [(.int (4 : Int32))])) (fun t k => XS.iadd X190.here hx rfl (hb hby own_d5_91) rfl k) ?_
        refine oALN (n := 93) X190 hx (hb hby own_d5_92) rfl rfl rfl ?_
        obtain ⟨T192, X192, e192, st192⟩ := getF X190 hx hZ hown (host := "") (Or.inl (oW hw 13 rfl)) Via.refl e190 ((Fh.other W3 (Or.inl (Exa.neArv (Eo.wr W3) V3 (oW hw 1 rfl)))).keep Kq166 (ninS (Exa.neArv ((Eo.wr W3).keep Kq166) Vh166 (oW hw 1 rfl)) (ninS (Exa.neArv ((Eo.wr W3).keep Kq166) f166_1 (oW hw 1 rfl)) nin0))) (g := (mkF m 93 #[rv aT, iv sT, .val (.double wT), .second, iv (1 : Int32), iv (3 : Int32)] [(.ref aT), (.int (4 : Int32))])) rfl rfl (hb hby own_d5_93)
        refine ov (B := T192.setTop (mkF m 96 #[rv aT, iv sT, .val (.double wT), .second, iv (1 : Int32), iv (3 : Int32)] [(.ref hT), (.int (4 : Int32))])) (fun t k => st192 t k) ?_
        obtain ⟨cl193, Ar193, q193, S193, M193, H193, G193⟩ := id Vh166
        refine ov (B := T192.setTop (mkF m 97 #[rv aT, iv sT, .val (.double wT), .second, iv (1 : Int32), iv (3 : Int32)] [(.int (6 : Int32)), (.int (4 : Int32))])) (fun t k => X192.arraylength hx (by rw [e192]; exact Ar193.1) (State.isArrayOf_alike hZ.alike Ar193.2.1) (g := (mkF m 96 #[rv aT, iv sT, .val (.double wT), .second, iv (1 : Int32), iv (3 : Int32)] [(.ref hT), (.int (4 : Int32))])) rfl rfl (hb hby own_d5_96) _ (by rw [len_of S193 M193]; exact k)) ?_
        have hc97 : (4 : Int32) < (6 : Int32) := by decide
        refine ov (B := T192.setTop (mkF m 100 #[rv aT, iv sT, .val (.double wT), .second, iv (1 : Int32), iv (3 : Int32)] [])) (fun t k => XS.icmpNo X192.here hx rfl (hb hby own_d5_97) rfl (tlt hc97).2.1 k) ?_
        refine oALN (n := 101) X192 hx (hb hby own_d5_100) rfl rfl rfl ?_
        refine oALN (n := 102) X192 hx (hb hby own_d5_101) rfl rfl rfl ?_
        obtain ⟨T194, X194, e194, st194⟩ := getF X192 hx hZ hown (host := "") (Or.inl (oW hw 13 rfl)) Via.refl e192 ((Fh.other W3 (Or.inl (Exa.neArv (Eo.wr W3) V3 (oW hw 1 rfl)))).keep Kq166 (ninS (Exa.neArv ((Eo.wr W3).keep Kq166) Vh166 (oW hw 1 rfl)) (ninS (Exa.neArv ((Eo.wr W3).keep Kq166) f166_1 (oW hw 1 rfl)) nin0))) (g := (mkF m 102 #[rv aT, iv sT, .val (.double wT), .second, iv (1 : Int32), iv (3 : Int32)] [(.ref aT), (.ref aT)])) rfl rfl (hb hby own_d5_102)
        refine ov (B := T194.setTop (mkF m 105 #[rv aT, iv sT, .val (.double wT), .second, iv (1 : Int32), iv (3 : Int32)] [(.ref hT), (.ref aT)])) (fun t k => st194 t k) ?_
        refine oIL (n := 107) X194 hx (hb hby own_d5_105) rfl rfl ?_
        refine oIC (n := 108) X194 hx (1 : Int32) (hb hby own_d5_107) (by decide) rfl ?_
        refine ov (B := T194.setTop (mkF m 109 #[rv aT, iv sT, .val (.double wT), .second, iv (1 : Int32), iv (3 : Int32)] [(.int (4 : Int32)), (.ref hT), (.ref aT)])) (fun t k => XS.iadd X194.here hx rfl (hb hby own_d5_108) rfl k) ?_
        obtain ⟨cl195, Ar195, q195, S195, M195, H195, G195⟩ := id Vh166
        have hin195 : ¬ ((4 : Int32) < 0 ∨ cl195.slots.size ≤ ((4 : Int32)).toNatClampNeg) := inb_of S195 ⟨by decide, by decide⟩
        refine ov (B := T194.setTop (mkF m 110 #[rv aT, iv sT, .val (.double wT), .second, iv (1 : Int32), iv (3 : Int32)] [(.int eE), (.ref aT)])) (fun t k => X194.iaload hx (j := (4 : Int32)) (v := (.int eE)) (by rw [e194]; exact Ar195.1) (State.isArrayOf_alike hZ.alike Ar195.2.1) Ar195.2.2 hin195 (Has.at H195 hin195 rfl) (g := (mkF m 109 #[rv aT, iv sT, .val (.double wT), .second, iv (1 : Int32), iv (3 : Int32)] [(.int (4 : Int32)), (.ref hT), (.ref aT)])) rfl rfl (hb hby own_d5_109) _ k) ?_
        refine oALN (n := 111) X194 hx (hb hby own_d5_110) rfl rfl rfl ?_
        obtain ⟨T196, X196, e196, st196⟩ := getF X194 hx hZ hown (host := "") (Or.inl (oW hw 13 rfl)) Via.refl e194 ((Fh.other W3 (Or.inl (Exa.neArv (Eo.wr W3) V3 (oW hw 1 rfl)))).keep Kq166 (ninS (Exa.neArv ((Eo.wr W3).keep Kq166) Vh166 (oW hw 1 rfl)) (ninS (Exa.neArv ((Eo.wr W3).keep Kq166) f166_1 (oW hw 1 rfl)) nin0))) (g := (mkF m 111 #[rv aT, iv sT, .val (.double wT), .second, iv (1 : Int32), iv (3 : Int32)] [(.ref aT), (.int eE), (.ref aT)])) rfl rfl (hb hby own_d5_111)
        refine ov (B := T196.setTop (mkF m 114 #[rv aT, iv sT, .val (.double wT), .second, iv (1 : Int32), iv (3 : Int32)] [(.ref hT), (.int eE), (.ref aT)])) (fun t k => st196 t k) ?_
        refine oIL (n := 116) X196 hx (hb hby own_d5_114) rfl rfl ?_
        obtain ⟨cl197, Ar197, q197, S197, M197, H197, G197⟩ := id Vh166
        have hin197 : ¬ ((3 : Int32) < 0 ∨ cl197.slots.size ≤ ((3 : Int32)).toNatClampNeg) := inb_of S197 ⟨by decide, by decide⟩
        refine ov (B := T196.setTop (mkF m 117 #[rv aT, iv sT, .val (.double wT), .second, iv (1 : Int32), iv (3 : Int32)] [(.int eB), (.int eE), (.ref aT)])) (fun t k => X196.iaload hx (j := (3 : Int32)) (v := (.int eB)) (by rw [e196]; exact Ar197.1) (State.isArrayOf_alike hZ.alike Ar197.2.1) Ar197.2.2 hin197 (Has.at H197 hin197 rfl) (g := (mkF m 116 #[rv aT, iv sT, .val (.double wT), .second, iv (1 : Int32), iv (3 : Int32)] [(.int (3 : Int32)), (.ref hT), (.int eE), (.ref aT)])) rfl rfl (hb hby own_d5_116) _ k) ?_
        obtain ⟨cq198, q198, q198'⟩ := ((Eo.wr W3).keep Kq166).cell
        obtain ⟨_, _, ⟨T198, L198, k198, n198⟩, -, X198, ⟨Lc198, hQ198, l198, y198, z198⟩, st198⟩ := X196.privateBack hx (y := (⟨"com/example/meerkat/meerkat/simulate/Completions", "before", "(II)Z"⟩ : MethodName)) hown (mvT hZ (oW hw 32 rfl)) (mvT hZ (oW hw 33 rfl)) (own_selP (y' := (⟨"com/example/meerkat/meerkat/simulate/Completions", "set", "(ID)V"⟩ : MethodName)) rfl (mvT hZ (oW hw 30 rfl)) (Cond.privateMethod_at (mvP hZ (oW hw 34 rfl) (args := #[]))) (mvT hZ (oW hw 33 rfl)) (by decide)) (Cond.privateMethod_at (mvP hZ (oW hw 34 rfl) (args := #[]))) (mvT hZ (oW hw 35 rfl)) (by decide) (backOf (W := 0) (rmB l Z a0 hw [] aT eE eB gT kt (own_mv tt sT yT) T166.heap n0 (Nat.le_trans (Nat.le_trans Z0 (Keep.of_wr W3).1) Kq166.1) ((Ft.other W3 (Or.inl (Exa.neArv (Eo.wr W3) V3 (oW hw 1 rfl)))).keep Kq166 (ninS (Exa.neArv ((Eo.wr W3).keep Kq166) Vh166 (oW hw 1 rfl)) (ninS (Exa.neArv ((Eo.wr W3).keep Kq166) f166_1 (oW hw 1 rfl)) nin0))) (V3.keep Kq166 (ninS ngh (ninS ngp nin0))) (own_I1mv qI qR qY) reE reB) hZ (oW hw 35 rfl) (oW hw 2 rfl) (by decide) (by decide)) (g := (mkF m 117 #[rv aT, iv sT, .val (.double wT), .second, iv (1 : Int32), iv (3 : Int32)] [(.int eB), (.int eE), (.ref aT)])) rfl (by rw [hml]; rfl) (Steps.refl _) (a := aT) (by rw [e196]; exact q198) q198' (argsL := [(.int eE), (.int eB)]) (rest := []) (lenOf own_pd0 rfl) rfl (by show 2 * 0 + _ ≤ _; exact Nat.le_of_eq rfl) (hb hby own_d5_117) (fun _ _ => ⟨rfl, e196, (by decide : (((0 + 0) + 0) + 0) + 0 ≤ _), (by decide : (((0 + 0) + 0) + 0) + 0 ≤ _)⟩)
        dsimp only [Pt.U, Pt.locs, Pt.cells, Pt.slots] at X198 l198 y198 z198 st198 hQ198
        subst l198 y198 z198
        obtain ⟨rfl, Nq198, eq198⟩ := hQ198
        have N198 := Fr.app N169 Nq198
        refine ov (B := T198.setTop (mkF m 120 #[rv aT, iv sT, .val (.double wT), .second, iv (1 : Int32), iv (3 : Int32)] [(.int (own_bit (own_rk (own_mv tt sT yT) eE < own_rk (own_mv tt sT yT) eB)))])) (fun t k => st198.trans k) ?_
        by_cases hc120 : own_rk (own_mv tt sT yT) eE < own_rk (own_mv tt sT yT) eB
        · refine ov (B := T198.setTop (mkF m 123 #[rv aT, iv sT, .val (.double wT), .second, iv (1 : Int32), iv (3 : Int32)] [])) (fun t k => XS.ifNo X198.here hx rfl (hb hby own_d5_120) rfl ((if0 _ _).trans (feq (own_bitne hc120)).1) k) ?_
          refine ov (B := T198.setTop (mkF m 126 #[rv aT, iv sT, .val (.double wT), .second, iv (1 : Int32), iv (4 : Int32)] [])) (fun t k => XS.iinc X198.here hx rfl (hb hby own_d5_123) rfl (l' := #[rv aT, iv sT, .val (.double wT), .second, iv (1 : Int32), iv (4 : Int32)]) rfl k) ?_
          refine oALN (n := 127) X198 hx (hb hby own_d5_126) rfl rfl rfl ?_
          refine oALN (n := 128) X198 hx (hb hby own_d5_127) rfl rfl rfl ?_
          obtain ⟨T199, X199, e199, st199⟩ := getF X198 hx hZ hown (host := "") (Or.inl (oW hw 13 rfl)) Via.refl eq198 ((Fh.other W3 (Or.inl (Exa.neArv (Eo.wr W3) V3 (oW hw 1 rfl)))).keep Kq166 (ninS (Exa.neArv ((Eo.wr W3).keep Kq166) Vh166 (oW hw 1 rfl)) (ninS (Exa.neArv ((Eo.wr W3).keep Kq166) f166_1 (oW hw 1 rfl)) nin0))) (g := (mkF m 128 #[rv aT, iv sT, .val (.double wT), .second, iv (1 : Int32), iv (4 : Int32)] [(.ref aT), (.ref aT)])) rfl rfl (hb hby own_d5_128)
          refine ov (B := T199.setTop (mkF m 131 #[rv aT, iv sT, .val (.double wT), .second, iv (1 : Int32), iv (4 : Int32)] [(.ref hT), (.ref aT)])) (fun t k => st199 t k) ?_
          refine oIL (n := 133) X199 hx (hb hby own_d5_131) rfl rfl ?_
          obtain ⟨cl200, Ar200, q200, S200, M200, H200, G200⟩ := id Vh166
          have hin200 : ¬ ((4 : Int32) < 0 ∨ cl200.slots.size ≤ ((4 : Int32)).toNatClampNeg) := inb_of S200 ⟨by decide, by decide⟩
          refine ov (B := T199.setTop (mkF m 134 #[rv aT, iv sT, .val (.double wT), .second, iv (1 : Int32), iv (4 : Int32)] [(.int eE), (.ref aT)])) (fun t k => X199.iaload hx (j := (4 : Int32)) (v := (.int eE)) (by rw [e199]; exact Ar200.1) (State.isArrayOf_alike hZ.alike Ar200.2.1) Ar200.2.2 hin200 (Has.at H200 hin200 rfl) (g := (mkF m 133 #[rv aT, iv sT, .val (.double wT), .second, iv (1 : Int32), iv (4 : Int32)] [(.int (4 : Int32)), (.ref hT), (.ref aT)])) rfl rfl (hb hby own_d5_133) _ k) ?_
          refine oILN (n := 135) X199 hx (hb hby own_d5_134) rfl rfl ?_
          obtain ⟨cq201, q201, q201'⟩ := ((Eo.wr W3).keep Kq166).cell
          obtain ⟨_, _, ⟨T201, L201, k201, n201⟩, -, X201, ⟨Lc201, hQ201, l201, y201, z201⟩, st201⟩ := X199.privateBack hx (y := (⟨"com/example/meerkat/meerkat/simulate/Completions", "before", "(II)Z"⟩ : MethodName)) hown (mvT hZ (oW hw 32 rfl)) (mvT hZ (oW hw 33 rfl)) (own_selP (y' := (⟨"com/example/meerkat/meerkat/simulate/Completions", "set", "(ID)V"⟩ : MethodName)) rfl (mvT hZ (oW hw 30 rfl)) (Cond.privateMethod_at (mvP hZ (oW hw 34 rfl) (args := #[]))) (mvT hZ (oW hw 33 rfl)) (by decide)) (Cond.privateMethod_at (mvP hZ (oW hw 34 rfl) (args := #[]))) (mvT hZ (oW hw 35 rfl)) (by decide) (backOf (W := 0) (rmB l Z a0 hw [] aT eE sT gT kt (own_mv tt sT yT) T166.heap n0 (Nat.le_trans (Nat.le_trans Z0 (Keep.of_wr W3).1) Kq166.1) ((Ft.other W3 (Or.inl (Exa.neArv (Eo.wr W3) V3 (oW hw 1 rfl)))).keep Kq166 (ninS (Exa.neArv ((Eo.wr W3).keep Kq166) Vh166 (oW hw 1 rfl)) (ninS (Exa.neArv ((Eo.wr W3).keep Kq166) f166_1 (oW hw 1 rfl)) nin0))) (V3.keep Kq166 (ninS ngh (ninS ngp nin0))) (own_I1mv qI qR qY) reE qR) hZ (oW hw 35 rfl) (oW hw 2 rfl) (by decide) (by decide)) (g := (mkF m 135 #[rv aT, iv sT, .val (.double wT), .second, iv (1 : Int32), iv (4 : Int32)] [(.int sT), (.int eE), (.ref aT)])) rfl (by rw [hml]; rfl) (Steps.refl _) (a := aT) (by rw [e199]; exact q201) q201' (argsL := [(.int eE), (.int sT)]) (rest := []) (lenOf own_pd0 rfl) rfl (by show 2 * 0 + _ ≤ _; exact Nat.le_of_eq rfl) (hb hby own_d5_135) (fun _ _ => ⟨rfl, e199, (by decide : ((((0 + 0) + 0) + 0) + 0) + 0 ≤ _), (by decide : ((((0 + 0) + 0) + 0) + 0) + 0 ≤ _)⟩)
          dsimp only [Pt.U, Pt.locs, Pt.cells, Pt.slots] at X201 l201 y201 z201 st201 hQ201
          subst l201 y201 z201
          obtain ⟨rfl, Nq201, eq201⟩ := hQ201
          have N201 := Fr.app N198 Nq201
          refine ov (B := T201.setTop (mkF m 138 #[rv aT, iv sT, .val (.double wT), .second, iv (1 : Int32), iv (4 : Int32)] [(.int (own_bit (own_rk (own_mv tt sT yT) eE < own_rk (own_mv tt sT yT) sT)))])) (fun t k => st201.trans k) ?_
          have hc138 : ¬ (own_rk (own_mv tt sT yT) eE < own_rk (own_mv tt sT yT) sT) := by omega
          refine ov (B := T201.setTop (mkF m 141 #[rv aT, iv sT, .val (.double wT), .second, iv (1 : Int32), iv (4 : Int32)] [])) (fun t k => XS.ifNo X201.here hx rfl (hb hby own_d5_138) rfl ((if0 _ _).trans (teq (own_bit0.mpr hc138)).2) k) ?_
          refine oGO (n := 164) X201 hx (hb hby own_d5_141) (by decide) (by decide) ?_
          refine oALN (n := 165) X201 hx (hb hby own_d5_164) rfl rfl rfl ?_
          refine oILN (n := 166) X201 hx (hb hby own_d5_165) rfl rfl ?_
          refine oIL (n := 168) X201 hx (hb hby own_d5_166) rfl rfl ?_
          obtain ⟨cq202, q202, q202'⟩ := ((Eo.wr W3).keep Kq166).cell
          obtain ⟨_, _, ⟨T202, L202, k202, n202⟩, -, X202, ⟨Lc202, hQ202, l202, y202, z202⟩, st202⟩ := X201.privateBack hx (y := (⟨"com/example/meerkat/meerkat/simulate/Completions", "move", "(II)V"⟩ : MethodName)) hown (mvT hZ (oW hw 36 rfl)) (mvT hZ (oW hw 37 rfl)) (own_selP (y' := (⟨"com/example/meerkat/meerkat/simulate/Completions", "set", "(ID)V"⟩ : MethodName)) rfl (mvT hZ (oW hw 30 rfl)) (Cond.privateMethod_at (mvP hZ (oW hw 38 rfl) (args := #[]))) (mvT hZ (oW hw 37 rfl)) (by decide)) (Cond.privateMethod_at (mvP hZ (oW hw 38 rfl) (args := #[]))) (mvT hZ (oW hw 39 rfl)) (by decide) (backOf (W := 0) (rmM l Z a0 hw [] aT sT (1 : Int32) hT pT kh kp [eA, eB, eC, eB, eE, eF] (own_mv PP eB (3 : Int32)) T166.heap n0 (Nat.le_trans (Nat.le_trans Z0 (Keep.of_wr W3).1) Kq166.1) ((Eo.wr W3).keep Kq166) ((Fh.other W3 (Or.inl (Exa.neArv (Eo.wr W3) V3 (oW hw 1 rfl)))).keep Kq166 (ninS (Exa.neArv ((Eo.wr W3).keep Kq166) Vh166 (oW hw 1 rfl)) (ninS (Exa.neArv ((Eo.wr W3).keep Kq166) f166_1 (oW hw 1 rfl)) nin0))) ((Fp.other W3 (Or.inl (Exa.neArv (Eo.wr W3) V3 (oW hw 1 rfl)))).keep Kq166 (ninS (Exa.neArv ((Eo.wr W3).keep Kq166) Vh166 (oW hw 1 rfl)) (ninS (Exa.neArv ((Eo.wr W3).keep Kq166) f166_1 (oW hw 1 rfl)) nin0))) Vh166 f166_1 nhp g_hT g_pT rfl (own_mvl qL) qR ⟨by decide, by decide⟩) hZ (oW hw 39 rfl) (oW hw 2 rfl) (by decide) (by decide)) (g := (mkF m 168 #[rv aT, iv sT, .val (.double wT), .second, iv (1 : Int32), iv (4 : Int32)] [(.int (1 : Int32)), (.int sT), (.ref aT)])) rfl (by rw [hml]; rfl) (Steps.refl _) (a := aT) (by rw [eq201]; exact q202) q202' (argsL := [(.int sT), (.int (1 : Int32))]) (rest := []) (lenOf own_pd1 rfl) rfl (by show 2 * 0 + _ ≤ _; exact Nat.le_of_eq rfl) (hb hby own_d5_168) (fun _ _ => ⟨rfl, eq201, (by decide : (((((0 + 0) + 0) + 0) + 0) + 0) + 0 ≤ _), (by decide : (((((0 + 0) + 0) + 0) + 0) + 0) + 0 ≤ _)⟩)
          dsimp only [Pt.U, Pt.locs, Pt.cells, Pt.slots] at X202 l202 y202 z202 st202 hQ202
          subst l202 y202 z202
          obtain ⟨rfl, Nq202, Kq202, f202_0, f202_1⟩ := hQ202
          have N202 := Fr.app N201 Nq202
          have Vh202 : Arv Z T202.heap hT kh .int (6 : Int32) [(.int eA), (.int sT), (.int eC), (.int eB), (.int eE), (.int eF)] (.int (0 : Int32)) := f202_0
          refine ov (B := T202.setTop (mkF m 171 #[rv aT, iv sT, .val (.double wT), .second, iv (1 : Int32), iv (4 : Int32)] [])) (fun t k => st202.trans k) ?_
          refine own_leafV X202 hx hlk Bd.returns (hb hby own_d5_171) (by decide) (by decide) ?_
          show QT Z aT sT wT gT hT pT kt kh kp tt PP eA eB eC eD eE eF yT h0 n0 _ T202.heap _
          refine ⟨eA, sT, eC, eB, eE, eF, (own_mv (own_mv PP eB (3 : Int32)) sT (1 : Int32)), ?_, N202, ((((Keep.refl h0 [gT, hT, pT]).wr W3 (Or.inl (List.mem_of_getElem? (i := 0) rfl))).trans Kq166 (allS (Or.inl (List.mem_of_getElem? (i := 1) rfl)) (allS (Or.inl (List.mem_of_getElem? (i := 2) rfl)) all0))).trans Kq202 (allS (Or.inl (List.mem_of_getElem? (i := 1) rfl)) (allS (Or.inl (List.mem_of_getElem? (i := 2) rfl)) all0))), ?_, ?_, ?_, ?_, ((V3.keep Kq166 (ninS ngh (ninS ngp nin0))).keep Kq202 (ninS ngh (ninS ngp nin0))), Vh202, f202_1⟩
          · rfl
          · exact own_I1mv qI qR qY
          · exact ⟨(own_mvl (own_mvl qL)), reA, qR, reC, reB, reE, reF, ((own_mvN neA qR reA).trans ((own_mvN (own_ppne peB peA (by decide)) reB reA).trans peA)), (own_mvS (own_mvl qL) qR), ((own_mvN neC qR reC).trans ((own_mvN (own_ppne peB peC (by decide)) reB reC).trans peC)), ((own_mvN neB qR reB).trans (own_mvS qL reB)), ((own_mvN neE qR reE).trans ((own_mvN (own_ppne peB peE (by decide)) reB reE).trans peE)), ((own_mvN neF qR reF).trans ((own_mvN (own_ppne peB peF (by decide)) reB reF).trans peF))⟩
          · intro q hq'
            rcases qS q hq' with h | h | h | h | h | h
            · exact Or.inl (h)
            · exact Or.inr (Or.inr (Or.inr (Or.inl (h))))
            · exact Or.inr (Or.inr (Or.inl (h)))
            · exact Or.inr (Or.inl (h.trans hq.symm))
            · exact Or.inr (Or.inr (Or.inr (Or.inr (Or.inl (h)))))
            · exact Or.inr (Or.inr (Or.inr (Or.inr (Or.inr ((h))))))
          · exact ⟨by omega, by omega, by omega, by omega, by omega⟩
        · refine ov (B := T198.setTop (mkF m 126 #[rv aT, iv sT, .val (.double wT), .second, iv (1 : Int32), iv (3 : Int32)] [])) (fun t k => XS.ifYes X198.here hx rfl (pc0 := 120) (pc' := 126) rfl (hb hby own_d5_120) rfl ((if0 _ _).trans (teq (own_bit0.mpr hc120)).1) (by decide) (by decide) k) ?_
          refine oALN (n := 127) X198 hx (hb hby own_d5_126) rfl rfl rfl ?_
          refine oALN (n := 128) X198 hx (hb hby own_d5_127) rfl rfl rfl ?_
          obtain ⟨T203, X203, e203, st203⟩ := getF X198 hx hZ hown (host := "") (Or.inl (oW hw 13 rfl)) Via.refl eq198 ((Fh.other W3 (Or.inl (Exa.neArv (Eo.wr W3) V3 (oW hw 1 rfl)))).keep Kq166 (ninS (Exa.neArv ((Eo.wr W3).keep Kq166) Vh166 (oW hw 1 rfl)) (ninS (Exa.neArv ((Eo.wr W3).keep Kq166) f166_1 (oW hw 1 rfl)) nin0))) (g := (mkF m 128 #[rv aT, iv sT, .val (.double wT), .second, iv (1 : Int32), iv (3 : Int32)] [(.ref aT), (.ref aT)])) rfl rfl (hb hby own_d5_128)
          refine ov (B := T203.setTop (mkF m 131 #[rv aT, iv sT, .val (.double wT), .second, iv (1 : Int32), iv (3 : Int32)] [(.ref hT), (.ref aT)])) (fun t k => st203 t k) ?_
          refine oIL (n := 133) X203 hx (hb hby own_d5_131) rfl rfl ?_
          obtain ⟨cl204, Ar204, q204, S204, M204, H204, G204⟩ := id Vh166
          have hin204 : ¬ ((3 : Int32) < 0 ∨ cl204.slots.size ≤ ((3 : Int32)).toNatClampNeg) := inb_of S204 ⟨by decide, by decide⟩
          refine ov (B := T203.setTop (mkF m 134 #[rv aT, iv sT, .val (.double wT), .second, iv (1 : Int32), iv (3 : Int32)] [(.int eB), (.ref aT)])) (fun t k => X203.iaload hx (j := (3 : Int32)) (v := (.int eB)) (by rw [e203]; exact Ar204.1) (State.isArrayOf_alike hZ.alike Ar204.2.1) Ar204.2.2 hin204 (Has.at H204 hin204 rfl) (g := (mkF m 133 #[rv aT, iv sT, .val (.double wT), .second, iv (1 : Int32), iv (3 : Int32)] [(.int (3 : Int32)), (.ref hT), (.ref aT)])) rfl rfl (hb hby own_d5_133) _ k) ?_
          refine oILN (n := 135) X203 hx (hb hby own_d5_134) rfl rfl ?_
          obtain ⟨cq205, q205, q205'⟩ := ((Eo.wr W3).keep Kq166).cell
          obtain ⟨_, _, ⟨T205, L205, k205, n205⟩, -, X205, ⟨Lc205, hQ205, l205, y205, z205⟩, st205⟩ := X203.privateBack hx (y := (⟨"com/example/meerkat/meerkat/simulate/Completions", "before", "(II)Z"⟩ : MethodName)) hown (mvT hZ (oW hw 32 rfl)) (mvT hZ (oW hw 33 rfl)) (own_selP (y' := (⟨"com/example/meerkat/meerkat/simulate/Completions", "set", "(ID)V"⟩ : MethodName)) rfl (mvT hZ (oW hw 30 rfl)) (Cond.privateMethod_at (mvP hZ (oW hw 34 rfl) (args := #[]))) (mvT hZ (oW hw 33 rfl)) (by decide)) (Cond.privateMethod_at (mvP hZ (oW hw 34 rfl) (args := #[]))) (mvT hZ (oW hw 35 rfl)) (by decide) (backOf (W := 0) (rmB l Z a0 hw [] aT eB sT gT kt (own_mv tt sT yT) T166.heap n0 (Nat.le_trans (Nat.le_trans Z0 (Keep.of_wr W3).1) Kq166.1) ((Ft.other W3 (Or.inl (Exa.neArv (Eo.wr W3) V3 (oW hw 1 rfl)))).keep Kq166 (ninS (Exa.neArv ((Eo.wr W3).keep Kq166) Vh166 (oW hw 1 rfl)) (ninS (Exa.neArv ((Eo.wr W3).keep Kq166) f166_1 (oW hw 1 rfl)) nin0))) (V3.keep Kq166 (ninS ngh (ninS ngp nin0))) (own_I1mv qI qR qY) reB qR) hZ (oW hw 35 rfl) (oW hw 2 rfl) (by decide) (by decide)) (g := (mkF m 135 #[rv aT, iv sT, .val (.double wT), .second, iv (1 : Int32), iv (3 : Int32)] [(.int sT), (.int eB), (.ref aT)])) rfl (by rw [hml]; rfl) (Steps.refl _) (a := aT) (by rw [e203]; exact q205) q205' (argsL := [(.int eB), (.int sT)]) (rest := []) (lenOf own_pd0 rfl) rfl (by show 2 * 0 + _ ≤ _; exact Nat.le_of_eq rfl) (hb hby own_d5_135) (fun _ _ => ⟨rfl, e203, (by decide : ((((0 + 0) + 0) + 0) + 0) + 0 ≤ _), (by decide : ((((0 + 0) + 0) + 0) + 0) + 0 ≤ _)⟩)
          dsimp only [Pt.U, Pt.locs, Pt.cells, Pt.slots] at X205 l205 y205 z205 st205 hQ205
          subst l205 y205 z205
          obtain ⟨rfl, Nq205, eq205⟩ := hQ205
          have N205 := Fr.app N198 Nq205
          refine ov (B := T205.setTop (mkF m 138 #[rv aT, iv sT, .val (.double wT), .second, iv (1 : Int32), iv (3 : Int32)] [(.int (own_bit (own_rk (own_mv tt sT yT) eB < own_rk (own_mv tt sT yT) sT)))])) (fun t k => st205.trans k) ?_
          have hc138 : ¬ (own_rk (own_mv tt sT yT) eB < own_rk (own_mv tt sT yT) sT) := by omega
          refine ov (B := T205.setTop (mkF m 141 #[rv aT, iv sT, .val (.double wT), .second, iv (1 : Int32), iv (3 : Int32)] [])) (fun t k => XS.ifNo X205.here hx rfl (hb hby own_d5_138) rfl ((if0 _ _).trans (teq (own_bit0.mpr hc138)).2) k) ?_
          refine oGO (n := 164) X205 hx (hb hby own_d5_141) (by decide) (by decide) ?_
          refine oALN (n := 165) X205 hx (hb hby own_d5_164) rfl rfl rfl ?_
          refine oILN (n := 166) X205 hx (hb hby own_d5_165) rfl rfl ?_
          refine oIL (n := 168) X205 hx (hb hby own_d5_166) rfl rfl ?_
          obtain ⟨cq206, q206, q206'⟩ := ((Eo.wr W3).keep Kq166).cell
          obtain ⟨_, _, ⟨T206, L206, k206, n206⟩, -, X206, ⟨Lc206, hQ206, l206, y206, z206⟩, st206⟩ := X205.privateBack hx (y := (⟨"com/example/meerkat/meerkat/simulate/Completions", "move", "(II)V"⟩ : MethodName)) hown (mvT hZ (oW hw 36 rfl)) (mvT hZ (oW hw 37 rfl)) (own_selP (y' := (⟨"com/example/meerkat/meerkat/simulate/Completions", "set", "(ID)V"⟩ : MethodName)) rfl (mvT hZ (oW hw 30 rfl)) (Cond.privateMethod_at (mvP hZ (oW hw 38 rfl) (args := #[]))) (mvT hZ (oW hw 37 rfl)) (by decide)) (Cond.privateMethod_at (mvP hZ (oW hw 38 rfl) (args := #[]))) (mvT hZ (oW hw 39 rfl)) (by decide) (backOf (W := 0) (rmM l Z a0 hw [] aT sT (1 : Int32) hT pT kh kp [eA, eB, eC, eB, eE, eF] (own_mv PP eB (3 : Int32)) T166.heap n0 (Nat.le_trans (Nat.le_trans Z0 (Keep.of_wr W3).1) Kq166.1) ((Eo.wr W3).keep Kq166) ((Fh.other W3 (Or.inl (Exa.neArv (Eo.wr W3) V3 (oW hw 1 rfl)))).keep Kq166 (ninS (Exa.neArv ((Eo.wr W3).keep Kq166) Vh166 (oW hw 1 rfl)) (ninS (Exa.neArv ((Eo.wr W3).keep Kq166) f166_1 (oW hw 1 rfl)) nin0))) ((Fp.other W3 (Or.inl (Exa.neArv (Eo.wr W3) V3 (oW hw 1 rfl)))).keep Kq166 (ninS (Exa.neArv ((Eo.wr W3).keep Kq166) Vh166 (oW hw 1 rfl)) (ninS (Exa.neArv ((Eo.wr W3).keep Kq166) f166_1 (oW hw 1 rfl)) nin0))) Vh166 f166_1 nhp g_hT g_pT rfl (own_mvl qL) qR ⟨by decide, by decide⟩) hZ (oW hw 39 rfl) (oW hw 2 rfl) (by decide) (by decide)) (g := (mkF m 168 #[rv aT, iv sT, .val (.double wT), .second, iv (1 : Int32), iv (3 : Int32)] [(.int (1 : Int32)), (.int sT), (.ref aT)])) rfl (by rw [hml]; rfl) (Steps.refl _) (a := aT) (by rw [eq205]; exact q206) q206' (argsL := [(.int sT), (.int (1 : Int32))]) (rest := []) (lenOf own_pd1 rfl) rfl (by show 2 * 0 + _ ≤ _; exact Nat.le_of_eq rfl) (hb hby own_d5_168) (fun _ _ => ⟨rfl, eq205, (by decide : (((((0 + 0) + 0) + 0) + 0) + 0) + 0 ≤ _), (by decide : (((((0 + 0) + 0) + 0) + 0) + 0) + 0 ≤ _)⟩)
          dsimp only [Pt.U, Pt.locs, Pt.cells, Pt.slots] at X206 l206 y206 z206 st206 hQ206
          subst l206 y206 z206
          obtain ⟨rfl, Nq206, Kq206, f206_0, f206_1⟩ := hQ206
          have N206 := Fr.app N205 Nq206
          have Vh206 : Arv Z T206.heap hT kh .int (6 : Int32) [(.int eA), (.int sT), (.int eC), (.int eB), (.int eE), (.int eF)] (.int (0 : Int32)) := f206_0
          refine ov (B := T206.setTop (mkF m 171 #[rv aT, iv sT, .val (.double wT), .second, iv (1 : Int32), iv (3 : Int32)] [])) (fun t k => st206.trans k) ?_
          refine own_leafV X206 hx hlk Bd.returns (hb hby own_d5_171) (by decide) (by decide) ?_
          show QT Z aT sT wT gT hT pT kt kh kp tt PP eA eB eC eD eE eF yT h0 n0 _ T206.heap _
          refine ⟨eA, sT, eC, eB, eE, eF, (own_mv (own_mv PP eB (3 : Int32)) sT (1 : Int32)), ?_, N206, ((((Keep.refl h0 [gT, hT, pT]).wr W3 (Or.inl (List.mem_of_getElem? (i := 0) rfl))).trans Kq166 (allS (Or.inl (List.mem_of_getElem? (i := 1) rfl)) (allS (Or.inl (List.mem_of_getElem? (i := 2) rfl)) all0))).trans Kq206 (allS (Or.inl (List.mem_of_getElem? (i := 1) rfl)) (allS (Or.inl (List.mem_of_getElem? (i := 2) rfl)) all0))), ?_, ?_, ?_, ?_, ((V3.keep Kq166 (ninS ngh (ninS ngp nin0))).keep Kq206 (ninS ngh (ninS ngp nin0))), Vh206, f206_1⟩
          · rfl
          · exact own_I1mv qI qR qY
          · exact ⟨(own_mvl (own_mvl qL)), reA, qR, reC, reB, reE, reF, ((own_mvN neA qR reA).trans ((own_mvN (own_ppne peB peA (by decide)) reB reA).trans peA)), (own_mvS (own_mvl qL) qR), ((own_mvN neC qR reC).trans ((own_mvN (own_ppne peB peC (by decide)) reB reC).trans peC)), ((own_mvN neB qR reB).trans (own_mvS qL reB)), ((own_mvN neE qR reE).trans ((own_mvN (own_ppne peB peE (by decide)) reB reE).trans peE)), ((own_mvN neF qR reF).trans ((own_mvN (own_ppne peB peF (by decide)) reB reF).trans peF))⟩
          · intro q hq'
            rcases qS q hq' with h | h | h | h | h | h
            · exact Or.inl (h)
            · exact Or.inr (Or.inr (Or.inr (Or.inl (h))))
            · exact Or.inr (Or.inr (Or.inl (h)))
            · exact Or.inr (Or.inl (h.trans hq.symm))
            · exact Or.inr (Or.inr (Or.inr (Or.inr (Or.inl (h)))))
            · exact Or.inr (Or.inr (Or.inr (Or.inr (Or.inr ((h))))))
          · exact ⟨by omega, by omega, by omega, by omega, by omega⟩
    · refine ov (B := T163.setTop (mkF m 67 #[rv aT, iv sT, .val (.double wT), .second, iv (3 : Int32), uu] [])) (fun t k => XS.ifYes X163.here hx rfl (pc0 := 36) (pc' := 67) rfl (hb hby own_d5_36) rfl ((if0 _ _).trans (teq (own_bit0.mpr hc36)).1) (by decide) (by decide) k) ?_
      refine oIC (n := 68) X163 hx (2 : Int32) (hb hby own_d5_67) (by decide) rfl ?_
      refine oIL (n := 70) X163 hx (hb hby own_d5_68) rfl rfl ?_
      refine ov (B := T163.setTop (mkF m 71 #[rv aT, iv sT, .val (.double wT), .second, iv (3 : Int32), uu] [(.int (6 : Int32))])) (fun t k => XS.imul X163.here hx rfl (hb hby own_d5_70) rfl k) ?_
      refine oIC (n := 72) X163 hx (1 : Int32) (hb hby own_d5_71) (by decide) rfl ?_
      refine ov (B := T163.setTop (mkF m 73 #[rv aT, iv sT, .val (.double wT), .second, iv (3 : Int32), uu] [(.int (7 : Int32))])) (fun t k => XS.iadd X163.here hx rfl (hb hby own_d5_72) rfl k) ?_
      refine ov (B := T163.setTop (mkF m 75 #[rv aT, iv sT, .val (.double wT), .second, iv (3 : Int32), iv (7 : Int32)] [])) (fun t k => XS.istore X163.here hx rfl (hb hby own_d5_73) rfl (l' := #[rv aT, iv sT, .val (.double wT), .second, iv (3 : Int32), iv (7 : Int32)]) rfl k) ?_
      refine oIL (n := 77) X163 hx (hb hby own_d5_75) rfl rfl ?_
      refine oALN (n := 78) X163 hx (hb hby own_d5_77) rfl rfl rfl ?_
      obtain ⟨T207, X207, e207, st207⟩ := getF X163 hx hZ hown (host := "") (Or.inl (oW hw 13 rfl)) Via.refl eq163 (Fh.other W3 (Or.inl (Exa.neArv (Eo.wr W3) V3 (oW hw 1 rfl)))) (g := (mkF m 78 #[rv aT, iv sT, .val (.double wT), .second, iv (3 : Int32), iv (7 : Int32)] [(.ref aT), (.int (7 : Int32))])) rfl rfl (hb hby own_d5_78)
      refine ov (B := T207.setTop (mkF m 81 #[rv aT, iv sT, .val (.double wT), .second, iv (3 : Int32), iv (7 : Int32)] [(.ref hT), (.int (7 : Int32))])) (fun t k => st207 t k) ?_
      obtain ⟨cl208, Ar208, q208, S208, M208, H208, G208⟩ := id (Vh.other W3 (Ne.symm ngh))
      refine ov (B := T207.setTop (mkF m 82 #[rv aT, iv sT, .val (.double wT), .second, iv (3 : Int32), iv (7 : Int32)] [(.int (6 : Int32)), (.int (7 : Int32))])) (fun t k => X207.arraylength hx (by rw [e207]; exact Ar208.1) (State.isArrayOf_alike hZ.alike Ar208.2.1) (g := (mkF m 81 #[rv aT, iv sT, .val (.double wT), .second, iv (3 : Int32), iv (7 : Int32)] [(.ref hT), (.int (7 : Int32))])) rfl rfl (hb hby own_d5_81) _ (by rw [len_of S208 M208]; exact k)) ?_
      have hc82 : ¬ ((7 : Int32) < (6 : Int32)) := by decide
      refine ov (B := T207.setTop (mkF m 85 #[rv aT, iv sT, .val (.double wT), .second, iv (3 : Int32), iv (7 : Int32)] [])) (fun t k => XS.icmpNo X207.here hx rfl (hb hby own_d5_82) rfl (flt hc82).1 k) ?_
      refine oGO (n := 164) X207 hx (hb hby own_d5_85) (by decide) (by decide) ?_
      refine oALN (n := 165) X207 hx (hb hby own_d5_164) rfl rfl rfl ?_
      refine oILN (n := 166) X207 hx (hb hby own_d5_165) rfl rfl ?_
      refine oIL (n := 168) X207 hx (hb hby own_d5_166) rfl rfl ?_
      obtain ⟨cq209, q209, q209'⟩ := (Eo.wr W3).cell
      obtain ⟨_, _, ⟨T209, L209, k209, n209⟩, -, X209, ⟨Lc209, hQ209, l209, y209, z209⟩, st209⟩ := X207.privateBack hx (y := (⟨"com/example/meerkat/meerkat/simulate/Completions", "move", "(II)V"⟩ : MethodName)) hown (mvT hZ (oW hw 36 rfl)) (mvT hZ (oW hw 37 rfl)) (own_selP (y' := (⟨"com/example/meerkat/meerkat/simulate/Completions", "set", "(ID)V"⟩ : MethodName)) rfl (mvT hZ (oW hw 30 rfl)) (Cond.privateMethod_at (mvP hZ (oW hw 38 rfl) (args := #[]))) (mvT hZ (oW hw 37 rfl)) (by decide)) (Cond.privateMethod_at (mvP hZ (oW hw 38 rfl) (args := #[]))) (mvT hZ (oW hw 39 rfl)) (by decide) (backOf (W := 0) (rmM l Z a0 hw [] aT sT (3 : Int32) hT pT kh kp [eA, eB, eC, eD, eE, eF] PP h3 n0 (Nat.le_trans Z0 (Keep.of_wr W3).1) (Eo.wr W3) (Fh.other W3 (Or.inl (Exa.neArv (Eo.wr W3) V3 (oW hw 1 rfl)))) (Fp.other W3 (Or.inl (Exa.neArv (Eo.wr W3) V3 (oW hw 1 rfl)))) (Vh.other W3 (Ne.symm ngh)) (Vp.other W3 (Ne.symm ngp)) nhp g_hT g_pT rfl qL qR ⟨by decide, by decide⟩) hZ (oW hw 39 rfl) (oW hw 2 rfl) (by decide) (by decide)) (g := (mkF m 168 #[rv aT, iv sT, .val (.double wT), .second, iv (3 : Int32), iv (7 : Int32)] [(.int (3 : Int32)), (.int sT), (.ref aT)])) rfl (by rw [hml]; rfl) (Steps.refl _) (a := aT) (by rw [e207]; exact q209) q209' (argsL := [(.int sT), (.int (3 : Int32))]) (rest := []) (lenOf own_pd1 rfl) rfl (by show 2 * 0 + _ ≤ _; exact Nat.le_of_eq rfl) (hb hby own_d5_168) (fun _ _ => ⟨rfl, e207, (by decide : (0 + 0) + 0 ≤ _), (by decide : (0 + 0) + 0 ≤ _)⟩)
      dsimp only [Pt.U, Pt.locs, Pt.cells, Pt.slots] at X209 l209 y209 z209 st209 hQ209
      subst l209 y209 z209
      obtain ⟨rfl, Nq209, Kq209, f209_0, f209_1⟩ := hQ209
      have N209 := Fr.app N163 Nq209
      have Vh209 : Arv Z T209.heap hT kh .int (6 : Int32) [(.int eA), (.int eB), (.int eC), (.int sT), (.int eE), (.int eF)] (.int (0 : Int32)) := f209_0
      refine ov (B := T209.setTop (mkF m 171 #[rv aT, iv sT, .val (.double wT), .second, iv (3 : Int32), iv (7 : Int32)] [])) (fun t k => st209.trans k) ?_
      refine own_leafV X209 hx hlk Bd.returns (hb hby own_d5_171) (by decide) (by decide) ?_
      show QT Z aT sT wT gT hT pT kt kh kp tt PP eA eB eC eD eE eF yT h0 n0 _ T209.heap _
      refine ⟨eA, eB, eC, sT, eE, eF, (own_mv PP sT (3 : Int32)), ?_, N209, (((Keep.refl h0 [gT, hT, pT]).wr W3 (Or.inl (List.mem_of_getElem? (i := 0) rfl))).trans Kq209 (allS (Or.inl (List.mem_of_getElem? (i := 1) rfl)) (allS (Or.inl (List.mem_of_getElem? (i := 2) rfl)) all0))), ?_, ?_, ?_, ?_, (V3.keep Kq209 (ninS ngh (ninS ngp nin0))), Vh209, f209_1⟩
      · rfl
      · exact own_I1mv qI qR qY
      · exact ⟨(own_mvl qL), reA, reB, reC, qR, reE, reF, ((own_mvN neA qR reA).trans peA), ((own_mvN neB qR reB).trans peB), ((own_mvN neC qR reC).trans peC), (own_mvS qL qR), ((own_mvN neE qR reE).trans peE), ((own_mvN neF qR reF).trans peF)⟩
      · intro q hq'
        rcases qS q hq' with h | h | h | h | h | h
        · exact Or.inl (h)
        · exact Or.inr (Or.inl (h))
        · exact Or.inr (Or.inr (Or.inl (h)))
        · exact Or.inr (Or.inr (Or.inr (Or.inl (h.trans hq.symm))))
        · exact Or.inr (Or.inr (Or.inr (Or.inr (Or.inl (h)))))
        · exact Or.inr (Or.inr (Or.inr (Or.inr (Or.inr ((h))))))
      · exact ⟨by omega, by omega, by omega, by omega, by omega⟩
  · have hk : PP.getD sT.toNatClampNeg 0 = (4 : Int32) := by rw [hq]; exact peE
    rw [hk]
    have neA : sT ≠ eA := own_ppne (l := PP) hk peA (by decide)
    have eeA : own_rk (own_mv tt sT yT) eA = own_rk tt eA := own_rkne neA qR reA
    have neB : sT ≠ eB := own_ppne (l := PP) hk peB (by decide)
    have eeB : own_rk (own_mv tt sT yT) eB = own_rk tt eB := own_rkne neB qR reB
    have neC : sT ≠ eC := own_ppne (l := PP) hk peC (by decide)
    have eeC : own_rk (own_mv tt sT yT) eC = own_rk tt eC := own_rkne neC qR reC
    have neD : sT ≠ eD := own_ppne (l := PP) hk peD (by decide)
    have eeD : own_rk (own_mv tt sT yT) eD = own_rk tt eD := own_rkne neD qR reD
    have neF : sT ≠ eF := own_ppne (l := PP) hk peF (by decide)
    have eeF : own_rk (own_mv tt sT yT) eF = own_rk tt eF := own_rkne neF qR reF
    refine oIL (n := 17) X4 hx (hb hby own_d5_15) rfl rfl ?_
    have hc17 : (0 : Int32) < (4 : Int32) := by decide
    refine ov (B := T4.setTop (mkF m 20 #[rv aT, iv sT, .val (.double wT), .second, iv (4 : Int32), uu] [])) (fun t k => XS.ifNo X4.here hx rfl (hb hby own_d5_17) rfl ((if0 _ _).trans (tlt hc17).2.2.2) k) ?_
    refine oALN (n := 21) X4 hx (hb hby own_d5_20) rfl rfl rfl ?_
    refine oILN (n := 22) X4 hx (hb hby own_d5_21) rfl rfl ?_
    refine oALN (n := 23) X4 hx (hb hby own_d5_22) rfl rfl rfl ?_
    obtain ⟨T210, X210, e210, st210⟩ := getF X4 hx hZ hown (host := "") (Or.inl (oW hw 13 rfl)) Via.refl e4 (Fh.other W3 (Or.inl (Exa.neArv (Eo.wr W3) V3 (oW hw 1 rfl)))) (g := (mkF m 23 #[rv aT, iv sT, .val (.double wT), .second, iv (4 : Int32), uu] [(.ref aT), (.int sT), (.ref aT)])) rfl rfl (hb hby own_d5_23)
    refine ov (B := T210.setTop (mkF m 26 #[rv aT, iv sT, .val (.double wT), .second, iv (4 : Int32), uu] [(.ref hT), (.int sT), (.ref aT)])) (fun t k => st210 t k) ?_
    refine oIL (n := 28) X210 hx (hb hby own_d5_26) rfl rfl ?_
    refine oIC (n := 29) X210 hx (1 : Int32) (hb hby own_d5_28) (by decide) rfl ?_
    refine ov (B := T210.setTop (mkF m 30 #[rv aT, iv sT, .val (.double wT), .second, iv (4 : Int32), uu] [(.int (3 : Int32)), (.ref hT), (.int sT), (.ref aT)])) (fun t k => XS.isub X210.here hx rfl (hb hby own_d5_29) rfl k) ?_
    refine oIC (n := 31) X210 hx (2 : Int32) (hb hby own_d5_30) (by decide) rfl ?_
    refine ov (B := T210.setTop (mkF m 32 #[rv aT, iv sT, .val (.double wT), .second, iv (4 : Int32), uu] [(.int (1 : Int32)), (.ref hT), (.int sT), (.ref aT)])) (fun t k => XS.idiv X210.here hx rfl (hb hby own_d5_31) rfl (by decide) (by rw [(by decide : (3 : Int32) / (2 : Int32) = (1 : Int32))]; exact k)) ?_
    obtain ⟨cl211, Ar211, q211, S211, M211, H211, G211⟩ := id (Vh.other W3 (Ne.symm ngh))
    have hin211 : ¬ ((1 : Int32) < 0 ∨ cl211.slots.size ≤ ((1 : Int32)).toNatClampNeg) := inb_of S211 ⟨by decide, by decide⟩
    refine ov (B := T210.setTop (mkF m 33 #[rv aT, iv sT, .val (.double wT), .second, iv (4 : Int32), uu] [(.int eB), (.int sT), (.ref aT)])) (fun t k => X210.iaload hx (j := (1 : Int32)) (v := (.int eB)) (by rw [e210]; exact Ar211.1) (State.isArrayOf_alike hZ.alike Ar211.2.1) Ar211.2.2 hin211 (Has.at H211 hin211 rfl) (g := (mkF m 32 #[rv aT, iv sT, .val (.double wT), .second, iv (4 : Int32), uu] [(.int (1 : Int32)), (.ref hT), (.int sT), (.ref aT)])) rfl rfl (hb hby own_d5_32) _ k) ?_
    obtain ⟨cq212, q212, q212'⟩ := (Eo.wr W3).cell
    obtain ⟨_, _, ⟨T212, L212, k212, n212⟩, -, X212, ⟨Lc212, hQ212, l212, y212, z212⟩, st212⟩ := X210.privateBack hx (y := (⟨"com/example/meerkat/meerkat/simulate/Completions", "before", "(II)Z"⟩ : MethodName)) hown (mvT hZ (oW hw 32 rfl)) (mvT hZ (oW hw 33 rfl)) (own_selP (y' := (⟨"com/example/meerkat/meerkat/simulate/Completions", "set", "(ID)V"⟩ : MethodName)) rfl (mvT hZ (oW hw 30 rfl)) (Cond.privateMethod_at (mvP hZ (oW hw 34 rfl) (args := #[]))) (mvT hZ (oW hw 33 rfl)) (by decide)) (Cond.privateMethod_at (mvP hZ (oW hw 34 rfl) (args := #[]))) (mvT hZ (oW hw 35 rfl)) (by decide) (backOf (W := 0) (rmB l Z a0 hw [] aT sT eB gT kt (own_mv tt sT yT) h3 n0 (Nat.le_trans Z0 (Keep.of_wr W3).1) (Ft.other W3 (Or.inl (Exa.neArv (Eo.wr W3) V3 (oW hw 1 rfl)))) V3 (own_I1mv qI qR qY) qR reB) hZ (oW hw 35 rfl) (oW hw 2 rfl) (by decide) (by decide)) (g := (mkF m 33 #[rv aT, iv sT, .val (.double wT), .second, iv (4 : Int32), uu] [(.int eB), (.int sT), (.ref aT)])) rfl (by rw [hml]; rfl) (Steps.refl _) (a := aT) (by rw [e210]; exact q212) q212' (argsL := [(.int sT), (.int eB)]) (rest := []) (lenOf own_pd0 rfl) rfl (by show 2 * 0 + _ ≤ _; exact Nat.le_of_eq rfl) (hb hby own_d5_33) (fun _ _ => ⟨rfl, e210, (by decide : 0 + 0 ≤ _), (by decide : 0 + 0 ≤ _)⟩)
    dsimp only [Pt.U, Pt.locs, Pt.cells, Pt.slots] at X212 l212 y212 z212 st212 hQ212
    subst l212 y212 z212
    obtain ⟨rfl, Nq212, eq212⟩ := hQ212
    have N212 := Fr.app N3 Nq212
    refine ov (B := T212.setTop (mkF m 36 #[rv aT, iv sT, .val (.double wT), .second, iv (4 : Int32), uu] [(.int (own_bit (own_rk (own_mv tt sT yT) sT < own_rk (own_mv tt sT yT) eB)))])) (fun t k => st212.trans k) ?_
    by_cases hc36 : own_rk (own_mv tt sT yT) sT < own_rk (own_mv tt sT yT) eB
    · refine ov (B := T212.setTop (mkF m 39 #[rv aT, iv sT, .val (.double wT), .second, iv (4 : Int32), uu] [])) (fun t k => XS.ifNo X212.here hx rfl (hb hby own_d5_36) rfl ((if0 _ _).trans (feq (own_bitne hc36)).1) k) ?_
      refine oALN (n := 40) X212 hx (hb hby own_d5_39) rfl rfl rfl ?_
      refine oALN (n := 41) X212 hx (hb hby own_d5_40) rfl rfl rfl ?_
      obtain ⟨T213, X213, e213, st213⟩ := getF X212 hx hZ hown (host := "") (Or.inl (oW hw 13 rfl)) Via.refl eq212 (Fh.other W3 (Or.inl (Exa.neArv (Eo.wr W3) V3 (oW hw 1 rfl)))) (g := (mkF m 41 #[rv aT, iv sT, .val (.double wT), .second, iv (4 : Int32), uu] [(.ref aT), (.ref aT)])) rfl rfl (hb hby own_d5_41)
      refine ov (B := T213.setTop (mkF m 44 #[rv aT, iv sT, .val (.double wT), .second, iv (4 : Int32), uu] [(.ref hT), (.ref aT)])) (fun t k => st213 t k) ?_
      refine oIL (n := 46) X213 hx (hb hby own_d5_44) rfl rfl ?_
      refine oIC (n := 47) X213 hx (1 : Int32) (hb hby own_d5_46) (by decide) rfl ?_
      refine ov (B := T213.setTop (mkF m 48 #[rv aT, iv sT, .val (.double wT), .second, iv (4 : Int32), uu] [(.int (3 : Int32)), (.ref hT), (.ref aT)])) (fun t k => XS.isub X213.here hx rfl (hb hby own_d5_47) rfl k) ?_
      refine oIC (n := 49) X213 hx (2 : Int32) (hb hby own_d5_48) (by decide) rfl ?_
      refine ov (B := T213.setTop (mkF m 50 #[rv aT, iv sT, .val (.double wT), .second, iv (4 : Int32), uu] [(.int (1 : Int32)), (.ref hT), (.ref aT)])) (fun t k => XS.idiv X213.here hx rfl (hb hby own_d5_49) rfl (by decide) (by rw [(by decide : (3 : Int32) / (2 : Int32) = (1 : Int32))]; exact k)) ?_
      obtain ⟨cl214, Ar214, q214, S214, M214, H214, G214⟩ := id (Vh.other W3 (Ne.symm ngh))
      have hin214 : ¬ ((1 : Int32) < 0 ∨ cl214.slots.size ≤ ((1 : Int32)).toNatClampNeg) := inb_of S214 ⟨by decide, by decide⟩
      refine ov (B := T213.setTop (mkF m 51 #[rv aT, iv sT, .val (.double wT), .second, iv (4 : Int32), uu] [(.int eB), (.ref aT)])) (fun t k => X213.iaload hx (j := (1 : Int32)) (v := (.int eB)) (by rw [e213]; exact Ar214.1) (State.isArrayOf_alike hZ.alike Ar214.2.1) Ar214.2.2 hin214 (Has.at H214 hin214 rfl) (g := (mkF m 50 #[rv aT, iv sT, .val (.double wT), .second, iv (4 : Int32), uu] [(.int (1 : Int32)), (.ref hT), (.ref aT)])) rfl rfl (hb hby own_d5_50) _ k) ?_
      refine oIL (n := 53) X213 hx (hb hby own_d5_51) rfl rfl ?_
      obtain ⟨cq215, q215, q215'⟩ := (Eo.wr W3).cell
      obtain ⟨_, _, ⟨T215, L215, k215, n215⟩, -, X215, ⟨Lc215, hQ215, l215, y215, z215⟩, st215⟩ := X213.privateBack hx (y := (⟨"com/example/meerkat/meerkat/simulate/Completions", "move", "(II)V"⟩ : MethodName)) hown (mvT hZ (oW hw 36 rfl)) (mvT hZ (oW hw 37 rfl)) (own_selP (y' := (⟨"com/example/meerkat/meerkat/simulate/Completions", "set", "(ID)V"⟩ : MethodName)) rfl (mvT hZ (oW hw 30 rfl)) (Cond.privateMethod_at (mvP hZ (oW hw 38 rfl) (args := #[]))) (mvT hZ (oW hw 37 rfl)) (by decide)) (Cond.privateMethod_at (mvP hZ (oW hw 38 rfl) (args := #[]))) (mvT hZ (oW hw 39 rfl)) (by decide) (backOf (W := 0) (rmM l Z a0 hw [] aT eB (4 : Int32) hT pT kh kp [eA, eB, eC, eD, eE, eF] PP h3 n0 (Nat.le_trans Z0 (Keep.of_wr W3).1) (Eo.wr W3) (Fh.other W3 (Or.inl (Exa.neArv (Eo.wr W3) V3 (oW hw 1 rfl)))) (Fp.other W3 (Or.inl (Exa.neArv (Eo.wr W3) V3 (oW hw 1 rfl)))) (Vh.other W3 (Ne.symm ngh)) (Vp.other W3 (Ne.symm ngp)) nhp g_hT g_pT rfl qL reB ⟨by decide, by decide⟩) hZ (oW hw 39 rfl) (oW hw 2 rfl) (by decide) (by decide)) (g := (mkF m 53 #[rv aT, iv sT, .val (.double wT), .second, iv (4 : Int32), uu] [(.int (4 : Int32)), (.int eB), (.ref aT)])) rfl (by rw [hml]; rfl) (Steps.refl _) (a := aT) (by rw [e213]; exact q215) q215' (argsL := [(.int eB), (.int (4 : Int32))]) (rest := []) (lenOf own_pd1 rfl) rfl (by show 2 * 0 + _ ≤ _; exact Nat.le_of_eq rfl) (hb hby own_d5_53) (fun _ _ => ⟨rfl, e213, (by decide : (0 + 0) + 0 ≤ _), (by decide : (0 + 0) + 0 ≤ _)⟩)
      dsimp only [Pt.U, Pt.locs, Pt.cells, Pt.slots] at X215 l215 y215 z215 st215 hQ215
      subst l215 y215 z215
      obtain ⟨rfl, Nq215, Kq215, f215_0, f215_1⟩ := hQ215
      have N215 := Fr.app N212 Nq215
      have Vh215 : Arv Z T215.heap hT kh .int (6 : Int32) [(.int eA), (.int eB), (.int eC), (.int eD), (.int eB), (.int eF)] (.int (0 : Int32)) := f215_0
      refine ov (B := T215.setTop (mkF m 56 #[rv aT, iv sT, .val (.double wT), .second, iv (4 : Int32), uu] [])) (fun t k => st215.trans k) ?_
      refine oIL (n := 58) X215 hx (hb hby own_d5_56) rfl rfl ?_
      refine oIC (n := 59) X215 hx (1 : Int32) (hb hby own_d5_58) (by decide) rfl ?_
      refine ov (B := T215.setTop (mkF m 60 #[rv aT, iv sT, .val (.double wT), .second, iv (4 : Int32), uu] [(.int (3 : Int32))])) (fun t k => XS.isub X215.here hx rfl (hb hby own_d5_59) rfl k) ?_
      refine oIC (n := 61) X215 hx (2 : Int32) (hb hby own_d5_60) (by decide) rfl ?_
      refine ov (B := T215.setTop (mkF m 62 #[rv aT, iv sT, .val (.double wT), .second, iv (4 : Int32), uu] [(.int (1 : Int32))])) (fun t k => XS.idiv X215.here hx rfl (hb hby own_d5_61) rfl (by decide) (by rw [(by decide : (3 : Int32) / (2 : Int32) = (1 : Int32))]; exact k)) ?_
      refine ov (B := T215.setTop (mkF m 64 #[rv aT, iv sT, .val (.double wT), .second, iv (1 : Int32), uu] [])) (fun t k => XS.istore X215.here hx rfl (hb hby own_d5_62) rfl (l' := #[rv aT, iv sT, .val (.double wT), .second, iv (1 : Int32), uu]) rfl k) ?_
      refine oGO (n := 15) X215 hx (hb hby own_d5_64) (by decide) (by decide) ?_
      refine oIL (n := 17) X215 hx (hb hby own_d5_15) rfl rfl ?_
      have hc17 : (0 : Int32) < (1 : Int32) := by decide
      refine ov (B := T215.setTop (mkF m 20 #[rv aT, iv sT, .val (.double wT), .second, iv (1 : Int32), uu] [])) (fun t k => XS.ifNo X215.here hx rfl (hb hby own_d5_17) rfl ((if0 _ _).trans (tlt hc17).2.2.2) k) ?_
      refine oALN (n := 21) X215 hx (hb hby own_d5_20) rfl rfl rfl ?_
      refine oILN (n := 22) X215 hx (hb hby own_d5_21) rfl rfl ?_
      refine oALN (n := 23) X215 hx (hb hby own_d5_22) rfl rfl rfl ?_
      obtain ⟨T216, X216, e216, st216⟩ := getF X215 hx hZ hown (host := "") (Or.inl (oW hw 13 rfl)) Via.refl rfl ((Fh.other W3 (Or.inl (Exa.neArv (Eo.wr W3) V3 (oW hw 1 rfl)))).keep Kq215 (ninS (Exa.neArv ((Eo.wr W3).keep Kq215) Vh215 (oW hw 1 rfl)) (ninS (Exa.neArv ((Eo.wr W3).keep Kq215) f215_1 (oW hw 1 rfl)) nin0))) (g := (mkF m 23 #[rv aT, iv sT, .val (.double wT), .second, iv (1 : Int32), uu] [(.ref aT), (.int sT), (.ref aT)])) rfl rfl (hb hby own_d5_23)
      refine ov (B := T216.setTop (mkF m 26 #[rv aT, iv sT, .val (.double wT), .second, iv (1 : Int32), uu] [(.ref hT), (.int sT), (.ref aT)])) (fun t k => st216 t k) ?_
      refine oIL (n := 28) X216 hx (hb hby own_d5_26) rfl rfl ?_
      refine oIC (n := 29) X216 hx (1 : Int32) (hb hby own_d5_28) (by decide) rfl ?_
      refine ov (B := T216.setTop (mkF m 30 #[rv aT, iv sT, .val (.double wT), .second, iv (1 : Int32), uu] [(.int (0 : Int32)), (.ref hT), (.int sT), (.ref aT)])) (fun t k => XS.isub X216.here hx rfl (hb hby own_d5_29) rfl k) ?_
      refine oIC (n := 31) X216 hx (2 : Int32) (hb hby own_d5_30) (by decide) rfl ?_
      refine ov (B := T216.setTop (mkF m 32 #[rv aT, iv sT, .val (.double wT), .second, iv (1 : Int32), uu] [(.int (0 : Int32)), (.ref hT), (.int sT), (.ref aT)])) (fun t k => XS.idiv X216.here hx rfl (hb hby own_d5_31) rfl (by decide) (by rw [(by decide : (0 : Int32) / (2 : Int32) = (0 : Int32))]; exact k)) ?_
      obtain ⟨cl217, Ar217, q217, S217, M217, H217, G217⟩ := id Vh215
      have hin217 : ¬ ((0 : Int32) < 0 ∨ cl217.slots.size ≤ ((0 : Int32)).toNatClampNeg) := inb_of S217 ⟨by decide, by decide⟩
      refine ov (B := T216.setTop (mkF m 33 #[rv aT, iv sT, .val (.double wT), .second, iv (1 : Int32), uu] [(.int eA), (.int sT), (.ref aT)])) (fun t k => X216.iaload hx (j := (0 : Int32)) (v := (.int eA)) (by rw [e216]; exact Ar217.1) (State.isArrayOf_alike hZ.alike Ar217.2.1) Ar217.2.2 hin217 (Has.at H217 hin217 rfl) (g := (mkF m 32 #[rv aT, iv sT, .val (.double wT), .second, iv (1 : Int32), uu] [(.int (0 : Int32)), (.ref hT), (.int sT), (.ref aT)])) rfl rfl (hb hby own_d5_32) _ k) ?_
      obtain ⟨cq218, q218, q218'⟩ := ((Eo.wr W3).keep Kq215).cell
      obtain ⟨_, _, ⟨T218, L218, k218, n218⟩, -, X218, ⟨Lc218, hQ218, l218, y218, z218⟩, st218⟩ := X216.privateBack hx (y := (⟨"com/example/meerkat/meerkat/simulate/Completions", "before", "(II)Z"⟩ : MethodName)) hown (mvT hZ (oW hw 32 rfl)) (mvT hZ (oW hw 33 rfl)) (own_selP (y' := (⟨"com/example/meerkat/meerkat/simulate/Completions", "set", "(ID)V"⟩ : MethodName)) rfl (mvT hZ (oW hw 30 rfl)) (Cond.privateMethod_at (mvP hZ (oW hw 34 rfl) (args := #[]))) (mvT hZ (oW hw 33 rfl)) (by decide)) (Cond.privateMethod_at (mvP hZ (oW hw 34 rfl) (args := #[]))) (mvT hZ (oW hw 35 rfl)) (by decide) (backOf (W := 0) (rmB l Z a0 hw [] aT sT eA gT kt (own_mv tt sT yT) T215.heap n0 (Nat.le_trans (Nat.le_trans Z0 (Keep.of_wr W3).1) Kq215.1) ((Ft.other W3 (Or.inl (Exa.neArv (Eo.wr W3) V3 (oW hw 1 rfl)))).keep Kq215 (ninS (Exa.neArv ((Eo.wr W3).keep Kq215) Vh215 (oW hw 1 rfl)) (ninS (Exa.neArv ((Eo.wr W3).keep Kq215) f215_1 (oW hw 1 rfl)) nin0))) (V3.keep Kq215 (ninS ngh (ninS ngp nin0))) (own_I1mv qI qR qY) qR reA) hZ (oW hw 35 rfl) (oW hw 2 rfl) (by decide) (by decide)) (g := (mkF m 33 #[rv aT, iv sT, .val (.double wT), .second, iv (1 : Int32), uu] [(.int eA), (.int sT), (.ref aT)])) rfl (by rw [hml]; rfl) (Steps.refl _) (a := aT) (by rw [e216]; exact q218) q218' (argsL := [(.int sT), (.int eA)]) (rest := []) (lenOf own_pd0 rfl) rfl (by show 2 * 0 + _ ≤ _; exact Nat.le_of_eq rfl) (hb hby own_d5_33) (fun _ _ => ⟨rfl, e216, (by decide : ((0 + 0) + 0) + 0 ≤ _), (by decide : ((0 + 0) + 0) + 0 ≤ _)⟩)
      dsimp only [Pt.U, Pt.locs, Pt.cells, Pt.slots] at X218 l218 y218 z218 st218 hQ218
      subst l218 y218 z218
      obtain ⟨rfl, Nq218, eq218⟩ := hQ218
      have N218 := Fr.app N215 Nq218
      refine ov (B := T218.setTop (mkF m 36 #[rv aT, iv sT, .val (.double wT), .second, iv (1 : Int32), uu] [(.int (own_bit (own_rk (own_mv tt sT yT) sT < own_rk (own_mv tt sT yT) eA)))])) (fun t k => st218.trans k) ?_
      by_cases hc36 : own_rk (own_mv tt sT yT) sT < own_rk (own_mv tt sT yT) eA
      · refine ov (B := T218.setTop (mkF m 39 #[rv aT, iv sT, .val (.double wT), .second, iv (1 : Int32), uu] [])) (fun t k => XS.ifNo X218.here hx rfl (hb hby own_d5_36) rfl ((if0 _ _).trans (feq (own_bitne hc36)).1) k) ?_
        refine oALN (n := 40) X218 hx (hb hby own_d5_39) rfl rfl rfl ?_
        refine oALN (n := 41) X218 hx (hb hby own_d5_40) rfl rfl rfl ?_
        obtain ⟨T219, X219, e219, st219⟩ := getF X218 hx hZ hown (host := "") (Or.inl (oW hw 13 rfl)) Via.refl eq218 ((Fh.other W3 (Or.inl (Exa.neArv (Eo.wr W3) V3 (oW hw 1 rfl)))).keep Kq215 (ninS (Exa.neArv ((Eo.wr W3).keep Kq215) Vh215 (oW hw 1 rfl)) (ninS (Exa.neArv ((Eo.wr W3).keep Kq215) f215_1 (oW hw 1 rfl)) nin0))) (g := (mkF m 41 #[rv aT, iv sT, .val (.double wT), .second, iv (1 : Int32), uu] [(.ref aT), (.ref aT)])) rfl rfl (hb hby own_d5_41)
        refine ov (B := T219.setTop (mkF m 44 #[rv aT, iv sT, .val (.double wT), .second, iv (1 : Int32), uu] [(.ref hT), (.ref aT)])) (fun t k => st219 t k) ?_
        refine oIL (n := 46) X219 hx (hb hby own_d5_44) rfl rfl ?_
        refine oIC (n := 47) X219 hx (1 : Int32) (hb hby own_d5_46) (by decide) rfl ?_
        refine ov (B := T219.setTop (mkF m 48 #[rv aT, iv sT, .val (.double wT), .second, iv (1 : Int32), uu] [(.int (0 : Int32)), (.ref hT), (.ref aT)])) (fun t k => XS.isub X219.here hx rfl (hb hby own_d5_47) rfl k) ?_
        refine oIC (n := 49) X219 hx (2 : Int32) (hb hby own_d5_48) (by decide) rfl ?_
        refine ov (B := T219.setTop (mkF m 50 #[rv aT, iv sT, .val (.double wT), .second, iv (1 : Int32), uu] [(.int (0 : Int32)), (.ref hT), (.ref aT)])) (fun t k => XS.idiv X219.here hx rfl (hb hby own_d5_49) rfl (by decide) (by rw [(by decide : (0 : Int32) / (2 : Int32) = (0 : Int32))]; exact k)) ?_
        obtain ⟨cl220, Ar220, q220, S220, M220, H220, G220⟩ := id Vh215
        have hin220 : ¬ ((0 : Int32) < 0 ∨ cl220.slots.size ≤ ((0 : Int32)).toNatClampNeg) := inb_of S220 ⟨by decide, by decide⟩
        refine ov (B := T219.setTop (mkF m 51 #[rv aT, iv sT, .val (.double wT), .second, iv (1 : Int32), uu] [(.int eA), (.ref aT)])) (fun t k => X219.iaload hx (j := (0 : Int32)) (v := (.int eA)) (by rw [e219]; exact Ar220.1) (State.isArrayOf_alike hZ.alike Ar220.2.1) Ar220.2.2 hin220 (Has.at H220 hin220 rfl) (g := (mkF m 50 #[rv aT, iv sT, .val (.double wT), .second, iv (1 : Int32), uu] [(.int (0 : Int32)), (.ref hT), (.ref aT)])) rfl rfl (hb hby own_d5_50) _ k) ?_
        refine oIL (n := 53) X219 hx (hb hby own_d5_51) rfl rfl ?_
        obtain ⟨cq221, q221, q221'⟩ := ((Eo.wr W3).keep Kq215).cell
        obtain ⟨_, _, ⟨T221, L221, k221, n221⟩, -, X221, ⟨Lc221, hQ221, l221, y221, z221⟩, st221⟩ := X219.privateBack hx (y := (⟨"com/example/meerkat/meerkat/simulate/Completions", "move", "(II)V"⟩ : MethodName)) hown (mvT hZ (oW hw 36 rfl)) (mvT hZ (oW hw 37 rfl)) (own_selP (y' := (⟨"com/example/meerkat/meerkat/simulate/Completions", "set", "(ID)V"⟩ : MethodName)) rfl (mvT hZ (oW hw 30 rfl)) (Cond.privateMethod_at (mvP hZ (oW hw 38 rfl) (args := #[]))) (mvT hZ (oW hw 37 rfl)) (by decide)) (Cond.privateMethod_at (mvP hZ (oW hw 38 rfl) (args := #[]))) (mvT hZ (oW hw 39 rfl)) (by decide) (backOf (W := 0) (rmM l Z a0 hw [] aT eA (1 : Int32) hT pT kh kp [eA, eB, eC, eD, eB, eF] (own_mv PP eB (4 : Int32)) T215.heap n0 (Nat.le_trans (Nat.le_trans Z0 (Keep.of_wr W3).1) Kq215.1) ((Eo.wr W3).keep Kq215) ((Fh.other W3 (Or.inl (Exa.neArv (Eo.wr W3) V3 (oW hw 1 rfl)))).keep Kq215 (ninS (Exa.neArv ((Eo.wr W3).keep Kq215) Vh215 (oW hw 1 rfl)) (ninS (Exa.neArv ((Eo.wr W3).keep Kq215) f215_1 (oW hw 1 rfl)) nin0))) ((Fp.other W3 (Or.inl (Exa.neArv (Eo.wr W3) V3 (oW hw 1 rfl)))).keep Kq215 (ninS (Exa.neArv ((Eo.wr W3).keep Kq215) Vh215 (oW hw 1 rfl)) (ninS (Exa.neArv ((Eo.wr W3).keep Kq215) f215_1 (oW hw 1 rfl)) nin0))) Vh215 f215_1 nhp g_hT g_pT rfl (own_mvl qL) reA ⟨by decide, by decide⟩) hZ (oW hw 39 rfl) (oW hw 2 rfl) (by decide) (by decide)) (g := (mkF m 53 #[rv aT, iv sT, .val (.double wT), .second, iv (1 : Int32), uu] [(.int (1 : Int32)), (.int eA), (.ref aT)])) rfl (by rw [hml]; rfl) (Steps.refl _) (a := aT) (by rw [e219]; exact q221) q221' (argsL := [(.int eA), (.int (1 : Int32))]) (rest := []) (lenOf own_pd1 rfl) rfl (by show 2 * 0 + _ ≤ _; exact Nat.le_of_eq rfl) (hb hby own_d5_53) (fun _ _ => ⟨rfl, e219, (by decide : (((0 + 0) + 0) + 0) + 0 ≤ _), (by decide : (((0 + 0) + 0) + 0) + 0 ≤ _)⟩)
        dsimp only [Pt.U, Pt.locs, Pt.cells, Pt.slots] at X221 l221 y221 z221 st221 hQ221
        subst l221 y221 z221
        obtain ⟨rfl, Nq221, Kq221, f221_0, f221_1⟩ := hQ221
        have N221 := Fr.app N218 Nq221
        have Vh221 : Arv Z T221.heap hT kh .int (6 : Int32) [(.int eA), (.int eA), (.int eC), (.int eD), (.int eB), (.int eF)] (.int (0 : Int32)) := f221_0
        refine ov (B := T221.setTop (mkF m 56 #[rv aT, iv sT, .val (.double wT), .second, iv (1 : Int32), uu] [])) (fun t k => st221.trans k) ?_
        refine oIL (n := 58) X221 hx (hb hby own_d5_56) rfl rfl ?_
        refine oIC (n := 59) X221 hx (1 : Int32) (hb hby own_d5_58) (by decide) rfl ?_
        refine ov (B := T221.setTop (mkF m 60 #[rv aT, iv sT, .val (.double wT), .second, iv (1 : Int32), uu] [(.int (0 : Int32))])) (fun t k => XS.isub X221.here hx rfl (hb hby own_d5_59) rfl k) ?_
        refine oIC (n := 61) X221 hx (2 : Int32) (hb hby own_d5_60) (by decide) rfl ?_
        refine ov (B := T221.setTop (mkF m 62 #[rv aT, iv sT, .val (.double wT), .second, iv (1 : Int32), uu] [(.int (0 : Int32))])) (fun t k => XS.idiv X221.here hx rfl (hb hby own_d5_61) rfl (by decide) (by rw [(by decide : (0 : Int32) / (2 : Int32) = (0 : Int32))]; exact k)) ?_
        refine ov (B := T221.setTop (mkF m 64 #[rv aT, iv sT, .val (.double wT), .second, iv (0 : Int32), uu] [])) (fun t k => XS.istore X221.here hx rfl (hb hby own_d5_62) rfl (l' := #[rv aT, iv sT, .val (.double wT), .second, iv (0 : Int32), uu]) rfl k) ?_
        refine oGO (n := 15) X221 hx (hb hby own_d5_64) (by decide) (by decide) ?_
        refine oIL (n := 17) X221 hx (hb hby own_d5_15) rfl rfl ?_
        have hc17 : ¬ ((0 : Int32) < (0 : Int32)) := by decide
        refine ov (B := T221.setTop (mkF m 67 #[rv aT, iv sT, .val (.double wT), .second, iv (0 : Int32), uu] [])) (fun t k => XS.ifYes X221.here hx rfl (pc0 := 17) (pc' := 67) rfl (hb hby own_d5_17) rfl ((if0 _ _).trans (flt hc17).2.2.2) (by decide) (by decide) k) ?_
        refine oIC (n := 68) X221 hx (2 : Int32) (hb hby own_d5_67) (by decide) rfl ?_
        refine oIL (n := 70) X221 hx (hb hby own_d5_68) rfl rfl ?_
        refine ov (B := T221.setTop (mkF m 71 #[rv aT, iv sT, .val (.double wT), .second, iv (0 : Int32), uu] [(.int (0 : Int32))])) (fun t k => XS.imul X221.here hx rfl (hb hby own_d5_70) rfl k) ?_
        refine oIC (n := 72) X221 hx (1 : Int32) (hb hby own_d5_71) (by decide) rfl ?_
        refine ov (B := T221.setTop (mkF m 73 #[rv aT, iv sT, .val (.double wT), .second, iv (0 : Int32), uu] [(.int (1 : Int32))])) (fun t k => XS.iadd X221.here hx rfl (hb hby own_d5_72) rfl k) ?_
        refine ov (B := T221.setTop (mkF m 75 #[rv aT, iv sT, .val (.double wT), .second, iv (0 : Int32), iv (1 : Int32)] [])) (fun t k => XS.istore X221.here hx rfl (hb hby own_d5_73) rfl (l' := #[rv aT, iv sT, .val (.double wT), .second, iv (0 : Int32), iv (1 : Int32)]) rfl k) ?_
        refine oIL (n := 77) X221 hx (hb hby own_d5_75) rfl rfl ?_
        refine oALN (n := 78) X221 hx (hb hby own_d5_77) rfl rfl rfl ?_
        obtain ⟨T222, X222, e222, st222⟩ := getF X221 hx hZ hown (host := "") (Or.inl (oW hw 13 rfl)) Via.refl rfl (((Fh.other W3 (Or.inl (Exa.neArv (Eo.wr W3) V3 (oW hw 1 rfl)))).keep Kq215 (ninS (Exa.neArv (((Eo.wr W3).keep Kq215).keep Kq221) Vh221 (oW hw 1 rfl)) (ninS (Exa.neArv (((Eo.wr W3).keep Kq215).keep Kq221) f221_1 (oW hw 1 rfl)) nin0))).keep Kq221 (ninS (Exa.neArv (((Eo.wr W3).keep Kq215).keep Kq221) Vh221 (oW hw 1 rfl)) (ninS (Exa.neArv (((Eo.wr W3).keep Kq215).keep Kq221) f221_1 (oW hw 1 rfl)) nin0))) (g := (mkF m 78 #[rv aT, iv sT, .val (.double wT), .second, iv (0 : Int32), iv (1 : Int32)] [(.ref aT), (.int (1 : Int32))])) rfl rfl (hb hby own_d5_78)
        refine ov (B := T222.setTop (mkF m 81 #[rv aT, iv sT, .val (.double wT), .second, iv (0 : Int32), iv (1 : Int32)] [(.ref hT), (.int (1 : Int32))])) (fun t k => st222 t k) ?_
        obtain ⟨cl223, Ar223, q223, S223, M223, H223, G223⟩ := id Vh221
        refine ov (B := T222.setTop (mkF m 82 #[rv aT, iv sT, .val (.double wT), .second, iv (0 : Int32), iv (1 : Int32)] [(.int (6 : Int32)), (.int (1 : Int32))])) (fun t k => X222.arraylength hx (by rw [e222]; exact Ar223.1) (State.isArrayOf_alike hZ.alike Ar223.2.1) (g := (mkF m 81 #[rv aT, iv sT, .val (.double wT), .second, iv (0 : Int32), iv (1 : Int32)] [(.ref hT), (.int (1 : Int32))])) rfl rfl (hb hby own_d5_81) _ (by rw [len_of S223 M223]; exact k)) ?_
        have hc82 : (1 : Int32) < (6 : Int32) := by decide
        refine ov (B := T222.setTop (mkF m 88 #[rv aT, iv sT, .val (.double wT), .second, iv (0 : Int32), iv (1 : Int32)] [])) (fun t k => XS.icmpYes X222.here hx rfl (pc0 := 82) (pc' := 88) rfl (hb hby own_d5_82) rfl (tlt hc82).1 (by decide) (by decide) k) ?_
        refine oIL (n := 90) X222 hx (hb hby own_d5_88) rfl rfl ?_
        refine oIC (n := 91) X222 hx (1 : Int32) (hb hby own_d5_90) (by decide) rfl ?_
        refine ov (B := T222.setTop (mkF m 92 #[rv aT, iv sT, .val (.double wT), .second, iv (0 : Int32), iv (1 : Int32)] [(.int (2 : Int32))])) (fun t k => XS.iadd X222.here hx rfl (hb hby own_d5_91) rfl k) ?_
        refine oALN (n := 93) X222 hx (hb hby own_d5_92) rfl rfl rfl ?_
        obtain ⟨T224, X224, e224, st224⟩ := getF X222 hx hZ hown (host := "") (Or.inl (oW hw 13 rfl)) Via.refl e222 (((Fh.other W3 (Or.inl (Exa.neArv (Eo.wr W3) V3 (oW hw 1 rfl)))).keep Kq215 (ninS (Exa.neArv (((Eo.wr W3).keep Kq215).keep Kq221) Vh221 (oW hw 1 rfl)) (ninS (Exa.neArv (((Eo.wr W3).keep Kq215).keep Kq221) f221_1 (oW hw 1 rfl)) nin0))).keep Kq221 (ninS (Exa.neArv (((Eo.wr W3).keep Kq215).keep Kq221) Vh221 (oW hw 1 rfl)) (ninS (Exa.neArv (((Eo.wr W3).keep Kq215).keep Kq221) f221_1 (oW hw 1 rfl)) nin0))) (g := (mkF m 93 #[rv aT, iv sT, .val (.double wT), .second, iv (0 : Int32), iv (1 : Int32)] [(.ref aT), (.int (2 : Int32))])) rfl rfl (hb hby own_d5_93)
        refine ov (B := T224.setTop (mkF m 96 #[rv aT, iv sT, .val (.double wT), .second, iv (0 : Int32), iv (1 : Int32)] [(.ref hT), (.int (2 : Int32))])) (fun t k => st224 t k) ?_
        obtain ⟨cl225, Ar225, q225, S225, M225, H225, G225⟩ := id Vh221
        refine ov (B := T224.setTop (mkF m 97 #[rv aT, iv sT, .val (.double wT), .second, iv (0 : Int32), iv (1 : Int32)] [(.int (6 : Int32)), (.int (2 : Int32))])) (fun t k => X224.arraylength hx (by rw [e224]; exact Ar225.1) (State.isArrayOf_alike hZ.alike Ar225.2.1) (g := (mkF m 96 #[rv aT, iv sT, .val (.double wT), .second, iv (0 : Int32), iv (1 : Int32)] [(.ref hT), (.int (2 : Int32))])) rfl rfl (hb hby own_d5_96) _ (by rw [len_of S225 M225]; exact k)) ?_
        have hc97 : (2 : Int32) < (6 : Int32) := by decide
        refine ov (B := T224.setTop (mkF m 100 #[rv aT, iv sT, .val (.double wT), .second, iv (0 : Int32), iv (1 : Int32)] [])) (fun t k => XS.icmpNo X224.here hx rfl (hb hby own_d5_97) rfl (tlt hc97).2.1 k) ?_
        refine oALN (n := 101) X224 hx (hb hby own_d5_100) rfl rfl rfl ?_
        refine oALN (n := 102) X224 hx (hb hby own_d5_101) rfl rfl rfl ?_
        obtain ⟨T226, X226, e226, st226⟩ := getF X224 hx hZ hown (host := "") (Or.inl (oW hw 13 rfl)) Via.refl e224 (((Fh.other W3 (Or.inl (Exa.neArv (Eo.wr W3) V3 (oW hw 1 rfl)))).keep Kq215 (ninS (Exa.neArv (((Eo.wr W3).keep Kq215).keep Kq221) Vh221 (oW hw 1 rfl)) (ninS (Exa.neArv (((Eo.wr W3).keep Kq215).keep Kq221) f221_1 (oW hw 1 rfl)) nin0))).keep Kq221 (ninS (Exa.neArv (((Eo.wr W3).keep Kq215).keep Kq221) Vh221 (oW hw 1 rfl)) (ninS (Exa.neArv (((Eo.wr W3).keep Kq215).keep Kq221) f221_1 (oW hw 1 rfl)) nin0))) (g := (mkF m 102 #[rv aT, iv sT, .val (.double wT), .second, iv (0 : Int32), iv (1 : Int32)] [(.ref aT), (.ref aT)])) rfl rfl (hb hby own_d5_102)
        refine ov (B := T226.setTop (mkF m 105 #[rv aT, iv sT, .val (.double wT), .second, iv (0 : Int32), iv (1 : Int32)] [(.ref hT), (.ref aT)])) (fun t k => st226 t k) ?_
        refine oIL (n := 107) X226 hx (hb hby own_d5_105) rfl rfl ?_
        refine oIC (n := 108) X226 hx (1 : Int32) (hb hby own_d5_107) (by decide) rfl ?_
        refine ov (B := T226.setTop (mkF m 109 #[rv aT, iv sT, .val (.double wT), .second, iv (0 : Int32), iv (1 : Int32)] [(.int (2 : Int32)), (.ref hT), (.ref aT)])) (fun t k => XS.iadd X226.here hx rfl (hb hby own_d5_108) rfl k) ?_
        obtain ⟨cl227, Ar227, q227, S227, M227, H227, G227⟩ := id Vh221
        have hin227 : ¬ ((2 : Int32) < 0 ∨ cl227.slots.size ≤ ((2 : Int32)).toNatClampNeg) := inb_of S227 ⟨by decide, by decide⟩
        refine ov (B := T226.setTop (mkF m 110 #[rv aT, iv sT, .val (.double wT), .second, iv (0 : Int32), iv (1 : Int32)] [(.int eC), (.ref aT)])) (fun t k => X226.iaload hx (j := (2 : Int32)) (v := (.int eC)) (by rw [e226]; exact Ar227.1) (State.isArrayOf_alike hZ.alike Ar227.2.1) Ar227.2.2 hin227 (Has.at H227 hin227 rfl) (g := (mkF m 109 #[rv aT, iv sT, .val (.double wT), .second, iv (0 : Int32), iv (1 : Int32)] [(.int (2 : Int32)), (.ref hT), (.ref aT)])) rfl rfl (hb hby own_d5_109) _ k) ?_
        refine oALN (n := 111) X226 hx (hb hby own_d5_110) rfl rfl rfl ?_
        obtain ⟨T228, X228, e228, st228⟩ := getF X226 hx hZ hown (host := "") (Or.inl (oW hw 13 rfl)) Via.refl e226 (((Fh.other W3 (Or.inl (Exa.neArv (Eo.wr W3) V3 (oW hw 1 rfl)))).keep Kq215 (ninS (Exa.neArv (((Eo.wr W3).keep Kq215).keep Kq221) Vh221 (oW hw 1 rfl)) (ninS (Exa.neArv (((Eo.wr W3).keep Kq215).keep Kq221) f221_1 (oW hw 1 rfl)) nin0))).keep Kq221 (ninS (Exa.neArv (((Eo.wr W3).keep Kq215).keep Kq221) Vh221 (oW hw 1 rfl)) (ninS (Exa.neArv (((Eo.wr W3).keep Kq215).keep Kq221) f221_1 (oW hw 1 rfl)) nin0))) (g := (mkF m 111 #[rv aT, iv sT, .val (.double wT), .second, iv (0 : Int32), iv (1 : Int32)] [(.ref aT), (.int eC), (.ref aT)])) rfl rfl (hb hby own_d5_111)
        refine ov (B := T228.setTop (mkF m 114 #[rv aT, iv sT, .val (.double wT), .second, iv (0 : Int32), iv (1 : Int32)] [(.ref hT), (.int eC), (.ref aT)])) (fun t k => st228 t k) ?_
        refine oIL (n := 116) X228 hx (hb hby own_d5_114) rfl rfl ?_
        obtain ⟨cl229, Ar229, q229, S229, M229, H229, G229⟩ := id Vh221
        have hin229 : ¬ ((1 : Int32) < 0 ∨ cl229.slots.size ≤ ((1 : Int32)).toNatClampNeg) := inb_of S229 ⟨by decide, by decide⟩
        refine ov (B := T228.setTop (mkF m 117 #[rv aT, iv sT, .val (.double wT), .second, iv (0 : Int32), iv (1 : Int32)] [(.int eA), (.int eC), (.ref aT)])) (fun t k => X228.iaload hx (j := (1 : Int32)) (v := (.int eA)) (by rw [e228]; exact Ar229.1) (State.isArrayOf_alike hZ.alike Ar229.2.1) Ar229.2.2 hin229 (Has.at H229 hin229 rfl) (g := (mkF m 116 #[rv aT, iv sT, .val (.double wT), .second, iv (0 : Int32), iv (1 : Int32)] [(.int (1 : Int32)), (.ref hT), (.int eC), (.ref aT)])) rfl rfl (hb hby own_d5_116) _ k) ?_
        obtain ⟨cq230, q230, q230'⟩ := (((Eo.wr W3).keep Kq215).keep Kq221).cell
        obtain ⟨_, _, ⟨T230, L230, k230, n230⟩, -, X230, ⟨Lc230, hQ230, l230, y230, z230⟩, st230⟩ := X228.privateBack hx (y := (⟨"com/example/meerkat/meerkat/simulate/Completions", "before", "(II)Z"⟩ : MethodName)) hown (mvT hZ (oW hw 32 rfl)) (mvT hZ (oW hw 33 rfl)) (own_selP (y' := (⟨"com/example/meerkat/meerkat/simulate/Completions", "set", "(ID)V"⟩ : MethodName)) rfl (mvT hZ (oW hw 30 rfl)) (Cond.privateMethod_at (mvP hZ (oW hw 34 rfl) (args := #[]))) (mvT hZ (oW hw 33 rfl)) (by decide)) (Cond.privateMethod_at (mvP hZ (oW hw 34 rfl) (args := #[]))) (mvT hZ (oW hw 35 rfl)) (by decide) (backOf (W := 0) (rmB l Z a0 hw [] aT eC eA gT kt (own_mv tt sT yT) T221.heap n0 (Nat.le_trans (Nat.le_trans (Nat.le_trans Z0 (Keep.of_wr W3).1) Kq215.1) Kq221.1) (((Ft.other W3 (Or.inl (Exa.neArv (Eo.wr W3) V3 (oW hw 1 rfl)))).keep Kq215 (ninS (Exa.neArv (((Eo.wr W3).keep Kq215).keep Kq221) Vh221 (oW hw 1 rfl)) (ninS (Exa.neArv (((Eo.wr W3).keep Kq215).keep Kq221) f221_1 (oW hw 1 rfl)) nin0))).keep Kq221 (ninS (Exa.neArv (((Eo.wr W3).keep Kq215).keep Kq221) Vh221 (oW hw 1 rfl)) (ninS (Exa.neArv (((Eo.wr W3).keep Kq215).keep Kq221) f221_1 (oW hw 1 rfl)) nin0))) ((V3.keep Kq215 (ninS ngh (ninS ngp nin0))).keep Kq221 (ninS ngh (ninS ngp nin0))) (own_I1mv qI qR qY) reC reA) hZ (oW hw 35 rfl) (oW hw 2 rfl) (by decide) (by decide)) (g := (mkF m 117 #[rv aT, iv sT, .val (.double wT), .second, iv (0 : Int32), iv (1 : Int32)] [(.int eA), (.int eC), (.ref aT)])) rfl (by rw [hml]; rfl) (Steps.refl _) (a := aT) (by rw [e228]; exact q230) q230' (argsL := [(.int eC), (.int eA)]) (rest := []) (lenOf own_pd0 rfl) rfl (by show 2 * 0 + _ ≤ _; exact Nat.le_of_eq rfl) (hb hby own_d5_117) (fun _ _ => ⟨rfl, e228, (by decide : ((((0 + 0) + 0) + 0) + 0) + 0 ≤ _), (by decide : ((((0 + 0) + 0) + 0) + 0) + 0 ≤ _)⟩)
        dsimp only [Pt.U, Pt.locs, Pt.cells, Pt.slots] at X230 l230 y230 z230 st230 hQ230
        subst l230 y230 z230
        obtain ⟨rfl, Nq230, eq230⟩ := hQ230
        have N230 := Fr.app N221 Nq230
        refine ov (B := T230.setTop (mkF m 120 #[rv aT, iv sT, .val (.double wT), .second, iv (0 : Int32), iv (1 : Int32)] [(.int (own_bit (own_rk (own_mv tt sT yT) eC < own_rk (own_mv tt sT yT) eA)))])) (fun t k => st230.trans k) ?_
        by_cases hc120 : own_rk (own_mv tt sT yT) eC < own_rk (own_mv tt sT yT) eA
        · refine ov (B := T230.setTop (mkF m 123 #[rv aT, iv sT, .val (.double wT), .second, iv (0 : Int32), iv (1 : Int32)] [])) (fun t k => XS.ifNo X230.here hx rfl (hb hby own_d5_120) rfl ((if0 _ _).trans (feq (own_bitne hc120)).1) k) ?_
          refine ov (B := T230.setTop (mkF m 126 #[rv aT, iv sT, .val (.double wT), .second, iv (0 : Int32), iv (2 : Int32)] [])) (fun t k => XS.iinc X230.here hx rfl (hb hby own_d5_123) rfl (l' := #[rv aT, iv sT, .val (.double wT), .second, iv (0 : Int32), iv (2 : Int32)]) rfl k) ?_
          refine oALN (n := 127) X230 hx (hb hby own_d5_126) rfl rfl rfl ?_
          refine oALN (n := 128) X230 hx (hb hby own_d5_127) rfl rfl rfl ?_
          obtain ⟨T231, X231, e231, st231⟩ := getF X230 hx hZ hown (host := "") (Or.inl (oW hw 13 rfl)) Via.refl eq230 (((Fh.other W3 (Or.inl (Exa.neArv (Eo.wr W3) V3 (oW hw 1 rfl)))).keep Kq215 (ninS (Exa.neArv (((Eo.wr W3).keep Kq215).keep Kq221) Vh221 (oW hw 1 rfl)) (ninS (Exa.neArv (((Eo.wr W3).keep Kq215).keep Kq221) f221_1 (oW hw 1 rfl)) nin0))).keep Kq221 (ninS (Exa.neArv (((Eo.wr W3).keep Kq215).keep Kq221) Vh221 (oW hw 1 rfl)) (ninS (Exa.neArv (((Eo.wr W3).keep Kq215).keep Kq221) f221_1 (oW hw 1 rfl)) nin0))) (g := (mkF m 128 #[rv aT, iv sT, .val (.double wT), .second, iv (0 : Int32), iv (2 : Int32)] [(.ref aT), (.ref aT)])) rfl rfl (hb hby own_d5_128)
          refine ov (B := T231.setTop (mkF m 131 #[rv aT, iv sT, .val (.double wT), .second, iv (0 : Int32), iv (2 : Int32)] [(.ref hT), (.ref aT)])) (fun t k => st231 t k) ?_
          refine oIL (n := 133) X231 hx (hb hby own_d5_131) rfl rfl ?_
          obtain ⟨cl232, Ar232, q232, S232, M232, H232, G232⟩ := id Vh221
          have hin232 : ¬ ((2 : Int32) < 0 ∨ cl232.slots.size ≤ ((2 : Int32)).toNatClampNeg) := inb_of S232 ⟨by decide, by decide⟩
          refine ov (B := T231.setTop (mkF m 134 #[rv aT, iv sT, .val (.double wT), .second, iv (0 : Int32), iv (2 : Int32)] [(.int eC), (.ref aT)])) (fun t k => X231.iaload hx (j := (2 : Int32)) (v := (.int eC)) (by rw [e231]; exact Ar232.1) (State.isArrayOf_alike hZ.alike Ar232.2.1) Ar232.2.2 hin232 (Has.at H232 hin232 rfl) (g := (mkF m 133 #[rv aT, iv sT, .val (.double wT), .second, iv (0 : Int32), iv (2 : Int32)] [(.int (2 : Int32)), (.ref hT), (.ref aT)])) rfl rfl (hb hby own_d5_133) _ k) ?_
          refine oILN (n := 135) X231 hx (hb hby own_d5_134) rfl rfl ?_
          obtain ⟨cq233, q233, q233'⟩ := (((Eo.wr W3).keep Kq215).keep Kq221).cell
          obtain ⟨_, _, ⟨T233, L233, k233, n233⟩, -, X233, ⟨Lc233, hQ233, l233, y233, z233⟩, st233⟩ := X231.privateBack hx (y := (⟨"com/example/meerkat/meerkat/simulate/Completions", "before", "(II)Z"⟩ : MethodName)) hown (mvT hZ (oW hw 32 rfl)) (mvT hZ (oW hw 33 rfl)) (own_selP (y' := (⟨"com/example/meerkat/meerkat/simulate/Completions", "set", "(ID)V"⟩ : MethodName)) rfl (mvT hZ (oW hw 30 rfl)) (Cond.privateMethod_at (mvP hZ (oW hw 34 rfl) (args := #[]))) (mvT hZ (oW hw 33 rfl)) (by decide)) (Cond.privateMethod_at (mvP hZ (oW hw 34 rfl) (args := #[]))) (mvT hZ (oW hw 35 rfl)) (by decide) (backOf (W := 0) (rmB l Z a0 hw [] aT eC sT gT kt (own_mv tt sT yT) T221.heap n0 (Nat.le_trans (Nat.le_trans (Nat.le_trans Z0 (Keep.of_wr W3).1) Kq215.1) Kq221.1) (((Ft.other W3 (Or.inl (Exa.neArv (Eo.wr W3) V3 (oW hw 1 rfl)))).keep Kq215 (ninS (Exa.neArv (((Eo.wr W3).keep Kq215).keep Kq221) Vh221 (oW hw 1 rfl)) (ninS (Exa.neArv (((Eo.wr W3).keep Kq215).keep Kq221) f221_1 (oW hw 1 rfl)) nin0))).keep Kq221 (ninS (Exa.neArv (((Eo.wr W3).keep Kq215).keep Kq221) Vh221 (oW hw 1 rfl)) (ninS (Exa.neArv (((Eo.wr W3).keep Kq215).keep Kq221) f221_1 (oW hw 1 rfl)) nin0))) ((V3.keep Kq215 (ninS ngh (ninS ngp nin0))).keep Kq221 (ninS ngh (ninS ngp nin0))) (own_I1mv qI qR qY) reC qR) hZ (oW hw 35 rfl) (oW hw 2 rfl) (by decide) (by decide)) (g := (mkF m 135 #[rv aT, iv sT, .val (.double wT), .second, iv (0 : Int32), iv (2 : Int32)] [(.int sT), (.int eC), (.ref aT)])) rfl (by rw [hml]; rfl) (Steps.refl _) (a := aT) (by rw [e231]; exact q233) q233' (argsL := [(.int eC), (.int sT)]) (rest := []) (lenOf own_pd0 rfl) rfl (by show 2 * 0 + _ ≤ _; exact Nat.le_of_eq rfl) (hb hby own_d5_135) (fun _ _ => ⟨rfl, e231, (by decide : (((((0 + 0) + 0) + 0) + 0) + 0) + 0 ≤ _), (by decide : (((((0 + 0) + 0) + 0) + 0) + 0) + 0 ≤ _)⟩)
          dsimp only [Pt.U, Pt.locs, Pt.cells, Pt.slots] at X233 l233 y233 z233 st233 hQ233
          subst l233 y233 z233
          obtain ⟨rfl, Nq233, eq233⟩ := hQ233
          have N233 := Fr.app N230 Nq233
          refine ov (B := T233.setTop (mkF m 138 #[rv aT, iv sT, .val (.double wT), .second, iv (0 : Int32), iv (2 : Int32)] [(.int (own_bit (own_rk (own_mv tt sT yT) eC < own_rk (own_mv tt sT yT) sT)))])) (fun t k => st233.trans k) ?_
          have hc138 : ¬ (own_rk (own_mv tt sT yT) eC < own_rk (own_mv tt sT yT) sT) := by omega
          refine ov (B := T233.setTop (mkF m 141 #[rv aT, iv sT, .val (.double wT), .second, iv (0 : Int32), iv (2 : Int32)] [])) (fun t k => XS.ifNo X233.here hx rfl (hb hby own_d5_138) rfl ((if0 _ _).trans (teq (own_bit0.mpr hc138)).2) k) ?_
          refine oGO (n := 164) X233 hx (hb hby own_d5_141) (by decide) (by decide) ?_
          refine oALN (n := 165) X233 hx (hb hby own_d5_164) rfl rfl rfl ?_
          refine oILN (n := 166) X233 hx (hb hby own_d5_165) rfl rfl ?_
          refine oIL (n := 168) X233 hx (hb hby own_d5_166) rfl rfl ?_
          obtain ⟨cq234, q234, q234'⟩ := (((Eo.wr W3).keep Kq215).keep Kq221).cell
          obtain ⟨_, _, ⟨T234, L234, k234, n234⟩, -, X234, ⟨Lc234, hQ234, l234, y234, z234⟩, st234⟩ := X233.privateBack hx (y := (⟨"com/example/meerkat/meerkat/simulate/Completions", "move", "(II)V"⟩ : MethodName)) hown (mvT hZ (oW hw 36 rfl)) (mvT hZ (oW hw 37 rfl)) (own_selP (y' := (⟨"com/example/meerkat/meerkat/simulate/Completions", "set", "(ID)V"⟩ : MethodName)) rfl (mvT hZ (oW hw 30 rfl)) (Cond.privateMethod_at (mvP hZ (oW hw 38 rfl) (args := #[]))) (mvT hZ (oW hw 37 rfl)) (by decide)) (Cond.privateMethod_at (mvP hZ (oW hw 38 rfl) (args := #[]))) (mvT hZ (oW hw 39 rfl)) (by decide) (backOf (W := 0) (rmM l Z a0 hw [] aT sT (0 : Int32) hT pT kh kp [eA, eA, eC, eD, eB, eF] (own_mv (own_mv PP eB (4 : Int32)) eA (1 : Int32)) T221.heap n0 (Nat.le_trans (Nat.le_trans (Nat.le_trans Z0 (Keep.of_wr W3).1) Kq215.1) Kq221.1) (((Eo.wr W3).keep Kq215).keep Kq221) (((Fh.other W3 (Or.inl (Exa.neArv (Eo.wr W3) V3 (oW hw 1 rfl)))).keep Kq215 (ninS (Exa.neArv (((Eo.wr W3).keep Kq215).keep Kq221) Vh221 (oW hw 1 rfl)) (ninS (Exa.neArv (((Eo.wr W3).keep Kq215).keep Kq221) f221_1 (oW hw 1 rfl)) nin0))).keep Kq221 (ninS (Exa.neArv (((Eo.wr W3).keep Kq215).keep Kq221) Vh221 (oW hw 1 rfl)) (ninS (Exa.neArv (((Eo.wr W3).keep Kq215).keep Kq221) f221_1 (oW hw 1 rfl)) nin0))) (((Fp.other W3 (Or.inl (Exa.neArv (Eo.wr W3) V3 (oW hw 1 rfl)))).keep Kq215 (ninS (Exa.neArv (((Eo.wr W3).keep Kq215).keep Kq221) Vh221 (oW hw 1 rfl)) (ninS (Exa.neArv (((Eo.wr W3).keep Kq215).keep Kq221) f221_1 (oW hw 1 rfl)) nin0))).keep Kq221 (ninS (Exa.neArv (((Eo.wr W3).keep Kq215).keep Kq221) Vh221 (oW hw 1 rfl)) (ninS (Exa.neArv (((Eo.wr W3).keep Kq215).keep Kq221) f221_1 (oW hw 1 rfl)) nin0))) Vh221 f221_1 nhp g_hT g_pT rfl (own_mvl (own_mvl qL)) qR ⟨by decide, by decide⟩) hZ (oW hw 39 rfl) (oW hw 2 rfl) (by decide) (by decide)) (g := (mkF m 168 #[rv aT, iv sT, .val (.double wT), .second, iv (0 : Int32), iv (2 : Int32)] [(.int (0 : Int32)), (.int sT), (.ref aT)])) rfl (by rw [hml]; rfl) (Steps.refl _) (a := aT) (by rw [eq233]; exact q234) q234' (argsL := [(.int sT), (.int (0 : Int32))]) (rest := []) (lenOf own_pd1 rfl) rfl (by show 2 * 0 + _ ≤ _; exact Nat.le_of_eq rfl) (hb hby own_d5_168) (fun _ _ => ⟨rfl, eq233, (by decide : ((((((0 + 0) + 0) + 0) + 0) + 0) + 0) + 0 ≤ _), (by decide : ((((((0 + 0) + 0) + 0) + 0) + 0) + 0) + 0 ≤ _)⟩)
          dsimp only [Pt.U, Pt.locs, Pt.cells, Pt.slots] at X234 l234 y234 z234 st234 hQ234
          subst l234 y234 z234
          obtain ⟨rfl, Nq234, Kq234, f234_0, f234_1⟩ := hQ234
          have N234 := Fr.app N233 Nq234
          have Vh234 : Arv Z T234.heap hT kh .int (6 : Int32) [(.int sT), (.int eA), (.int eC), (.int eD), (.int eB), (.int eF)] (.int (0 : Int32)) := f234_0
          refine ov (B := T234.setTop (mkF m 171 #[rv aT, iv sT, .val (.double wT), .second, iv (0 : Int32), iv (2 : Int32)] [])) (fun t k => st234.trans k) ?_
          refine own_leafV X234 hx hlk Bd.returns (hb hby own_d5_171) (by decide) (by decide) ?_
          show QT Z aT sT wT gT hT pT kt kh kp tt PP eA eB eC eD eE eF yT h0 n0 _ T234.heap _
          refine ⟨sT, eA, eC, eD, eB, eF, (own_mv (own_mv (own_mv PP eB (4 : Int32)) eA (1 : Int32)) sT (0 : Int32)), ?_, N234, (((((Keep.refl h0 [gT, hT, pT]).wr W3 (Or.inl (List.mem_of_getElem? (i := 0) rfl))).trans Kq215 (allS (Or.inl (List.mem_of_getElem? (i := 1) rfl)) (allS (Or.inl (List.mem_of_getElem? (i := 2) rfl)) all0))).trans Kq221 (allS (Or.inl (List.mem_of_getElem? (i := 1) rfl)) (allS (Or.inl (List.mem_of_getElem? (i := 2) rfl)) all0))).trans Kq234 (allS (Or.inl (List.mem_of_getElem? (i := 1) rfl)) (allS (Or.inl (List.mem_of_getElem? (i := 2) rfl)) all0))), ?_, ?_, ?_, ?_, (((V3.keep Kq215 (ninS ngh (ninS ngp nin0))).keep Kq221 (ninS ngh (ninS ngp nin0))).keep Kq234 (ninS ngh (ninS ngp nin0))), Vh234, f234_1⟩
          · rfl
          · exact own_I1mv qI qR qY
          · exact ⟨(own_mvl (own_mvl (own_mvl qL))), qR, reA, reC, reD, reB, reF, (own_mvS (own_mvl (own_mvl qL)) qR), ((own_mvN neA qR reA).trans (own_mvS (own_mvl qL) reA)), ((own_mvN neC qR reC).trans ((own_mvN (own_ppne peA peC (by decide)) reA reC).trans ((own_mvN (own_ppne peB peC (by decide)) reB reC).trans peC))), ((own_mvN neD qR reD).trans ((own_mvN (own_ppne peA peD (by decide)) reA reD).trans ((own_mvN (own_ppne peB peD (by decide)) reB reD).trans peD))), ((own_mvN neB qR reB).trans ((own_mvN (own_ppne peA peB (by decide)) reA reB).trans (own_mvS qL reB))), ((own_mvN neF qR reF).trans ((own_mvN (own_ppne peA peF (by decide)) reA reF).trans ((own_mvN (own_ppne peB peF (by decide)) reB reF).trans peF)))⟩
          · intro q hq'
            rcases qS q hq' with h | h | h | h | h | h
            · exact Or.inr (Or.inl (h))
            · exact Or.inr (Or.inr (Or.inr (Or.inr (Or.inl (h)))))
            · exact Or.inr (Or.inr (Or.inl (h)))
            · exact Or.inr (Or.inr (Or.inr (Or.inl (h))))
            · exact Or.inl (h.trans hq.symm)
            · exact Or.inr (Or.inr (Or.inr (Or.inr (Or.inr ((h))))))
          · exact ⟨by omega, by omega, by omega, by omega, by omega⟩
        · refine ov (B := T230.setTop (mkF m 126 #[rv aT, iv sT, .val (.double wT), .second, iv (0 : Int32), iv (1 : Int32)] [])) (fun t k => XS.ifYes X230.here hx rfl (pc0 := 120) (pc' := 126) rfl (hb hby own_d5_120) rfl ((if0 _ _).trans (teq (own_bit0.mpr hc120)).1) (by decide) (by decide) k) ?_
          refine oALN (n := 127) X230 hx (hb hby own_d5_126) rfl rfl rfl ?_
          refine oALN (n := 128) X230 hx (hb hby own_d5_127) rfl rfl rfl ?_
          obtain ⟨T235, X235, e235, st235⟩ := getF X230 hx hZ hown (host := "") (Or.inl (oW hw 13 rfl)) Via.refl eq230 (((Fh.other W3 (Or.inl (Exa.neArv (Eo.wr W3) V3 (oW hw 1 rfl)))).keep Kq215 (ninS (Exa.neArv (((Eo.wr W3).keep Kq215).keep Kq221) Vh221 (oW hw 1 rfl)) (ninS (Exa.neArv (((Eo.wr W3).keep Kq215).keep Kq221) f221_1 (oW hw 1 rfl)) nin0))).keep Kq221 (ninS (Exa.neArv (((Eo.wr W3).keep Kq215).keep Kq221) Vh221 (oW hw 1 rfl)) (ninS (Exa.neArv (((Eo.wr W3).keep Kq215).keep Kq221) f221_1 (oW hw 1 rfl)) nin0))) (g := (mkF m 128 #[rv aT, iv sT, .val (.double wT), .second, iv (0 : Int32), iv (1 : Int32)] [(.ref aT), (.ref aT)])) rfl rfl (hb hby own_d5_128)
          refine ov (B := T235.setTop (mkF m 131 #[rv aT, iv sT, .val (.double wT), .second, iv (0 : Int32), iv (1 : Int32)] [(.ref hT), (.ref aT)])) (fun t k => st235 t k) ?_
          refine oIL (n := 133) X235 hx (hb hby own_d5_131) rfl rfl ?_
          obtain ⟨cl236, Ar236, q236, S236, M236, H236, G236⟩ := id Vh221
          have hin236 : ¬ ((1 : Int32) < 0 ∨ cl236.slots.size ≤ ((1 : Int32)).toNatClampNeg) := inb_of S236 ⟨by decide, by decide⟩
          refine ov (B := T235.setTop (mkF m 134 #[rv aT, iv sT, .val (.double wT), .second, iv (0 : Int32), iv (1 : Int32)] [(.int eA), (.ref aT)])) (fun t k => X235.iaload hx (j := (1 : Int32)) (v := (.int eA)) (by rw [e235]; exact Ar236.1) (State.isArrayOf_alike hZ.alike Ar236.2.1) Ar236.2.2 hin236 (Has.at H236 hin236 rfl) (g := (mkF m 133 #[rv aT, iv sT, .val (.double wT), .second, iv (0 : Int32), iv (1 : Int32)] [(.int (1 : Int32)), (.ref hT), (.ref aT)])) rfl rfl (hb hby own_d5_133) _ k) ?_
          refine oILN (n := 135) X235 hx (hb hby own_d5_134) rfl rfl ?_
          obtain ⟨cq237, q237, q237'⟩ := (((Eo.wr W3).keep Kq215).keep Kq221).cell
          obtain ⟨_, _, ⟨T237, L237, k237, n237⟩, -, X237, ⟨Lc237, hQ237, l237, y237, z237⟩, st237⟩ := X235.privateBack hx (y := (⟨"com/example/meerkat/meerkat/simulate/Completions", "before", "(II)Z"⟩ : MethodName)) hown (mvT hZ (oW hw 32 rfl)) (mvT hZ (oW hw 33 rfl)) (own_selP (y' := (⟨"com/example/meerkat/meerkat/simulate/Completions", "set", "(ID)V"⟩ : MethodName)) rfl (mvT hZ (oW hw 30 rfl)) (Cond.privateMethod_at (mvP hZ (oW hw 34 rfl) (args := #[]))) (mvT hZ (oW hw 33 rfl)) (by decide)) (Cond.privateMethod_at (mvP hZ (oW hw 34 rfl) (args := #[]))) (mvT hZ (oW hw 35 rfl)) (by decide) (backOf (W := 0) (rmB l Z a0 hw [] aT eA sT gT kt (own_mv tt sT yT) T221.heap n0 (Nat.le_trans (Nat.le_trans (Nat.le_trans Z0 (Keep.of_wr W3).1) Kq215.1) Kq221.1) (((Ft.other W3 (Or.inl (Exa.neArv (Eo.wr W3) V3 (oW hw 1 rfl)))).keep Kq215 (ninS (Exa.neArv (((Eo.wr W3).keep Kq215).keep Kq221) Vh221 (oW hw 1 rfl)) (ninS (Exa.neArv (((Eo.wr W3).keep Kq215).keep Kq221) f221_1 (oW hw 1 rfl)) nin0))).keep Kq221 (ninS (Exa.neArv (((Eo.wr W3).keep Kq215).keep Kq221) Vh221 (oW hw 1 rfl)) (ninS (Exa.neArv (((Eo.wr W3).keep Kq215).keep Kq221) f221_1 (oW hw 1 rfl)) nin0))) ((V3.keep Kq215 (ninS ngh (ninS ngp nin0))).keep Kq221 (ninS ngh (ninS ngp nin0))) (own_I1mv qI qR qY) reA qR) hZ (oW hw 35 rfl) (oW hw 2 rfl) (by decide) (by decide)) (g := (mkF m 135 #[rv aT, iv sT, .val (.double wT), .second, iv (0 : Int32), iv (1 : Int32)] [(.int sT), (.int eA), (.ref aT)])) rfl (by rw [hml]; rfl) (Steps.refl _) (a := aT) (by rw [e235]; exact q237) q237' (argsL := [(.int eA), (.int sT)]) (rest := []) (lenOf own_pd0 rfl) rfl (by show 2 * 0 + _ ≤ _; exact Nat.le_of_eq rfl) (hb hby own_d5_135) (fun _ _ => ⟨rfl, e235, (by decide : (((((0 + 0) + 0) + 0) + 0) + 0) + 0 ≤ _), (by decide : (((((0 + 0) + 0) + 0) + 0) + 0) + 0 ≤ _)⟩)
          dsimp only [Pt.U, Pt.locs, Pt.cells, Pt.slots] at X237 l237 y237 z237 st237 hQ237
          subst l237 y237 z237
          obtain ⟨rfl, Nq237, eq237⟩ := hQ237
          have N237 := Fr.app N230 Nq237
          refine ov (B := T237.setTop (mkF m 138 #[rv aT, iv sT, .val (.double wT), .second, iv (0 : Int32), iv (1 : Int32)] [(.int (own_bit (own_rk (own_mv tt sT yT) eA < own_rk (own_mv tt sT yT) sT)))])) (fun t k => st237.trans k) ?_
          have hc138 : ¬ (own_rk (own_mv tt sT yT) eA < own_rk (own_mv tt sT yT) sT) := by omega
          refine ov (B := T237.setTop (mkF m 141 #[rv aT, iv sT, .val (.double wT), .second, iv (0 : Int32), iv (1 : Int32)] [])) (fun t k => XS.ifNo X237.here hx rfl (hb hby own_d5_138) rfl ((if0 _ _).trans (teq (own_bit0.mpr hc138)).2) k) ?_
          refine oGO (n := 164) X237 hx (hb hby own_d5_141) (by decide) (by decide) ?_
          refine oALN (n := 165) X237 hx (hb hby own_d5_164) rfl rfl rfl ?_
          refine oILN (n := 166) X237 hx (hb hby own_d5_165) rfl rfl ?_
          refine oIL (n := 168) X237 hx (hb hby own_d5_166) rfl rfl ?_
          obtain ⟨cq238, q238, q238'⟩ := (((Eo.wr W3).keep Kq215).keep Kq221).cell
          obtain ⟨_, _, ⟨T238, L238, k238, n238⟩, -, X238, ⟨Lc238, hQ238, l238, y238, z238⟩, st238⟩ := X237.privateBack hx (y := (⟨"com/example/meerkat/meerkat/simulate/Completions", "move", "(II)V"⟩ : MethodName)) hown (mvT hZ (oW hw 36 rfl)) (mvT hZ (oW hw 37 rfl)) (own_selP (y' := (⟨"com/example/meerkat/meerkat/simulate/Completions", "set", "(ID)V"⟩ : MethodName)) rfl (mvT hZ (oW hw 30 rfl)) (Cond.privateMethod_at (mvP hZ (oW hw 38 rfl) (args := #[]))) (mvT hZ (oW hw 37 rfl)) (by decide)) (Cond.privateMethod_at (mvP hZ (oW hw 38 rfl) (args := #[]))) (mvT hZ (oW hw 39 rfl)) (by decide) (backOf (W := 0) (rmM l Z a0 hw [] aT sT (0 : Int32) hT pT kh kp [eA, eA, eC, eD, eB, eF] (own_mv (own_mv PP eB (4 : Int32)) eA (1 : Int32)) T221.heap n0 (Nat.le_trans (Nat.le_trans (Nat.le_trans Z0 (Keep.of_wr W3).1) Kq215.1) Kq221.1) (((Eo.wr W3).keep Kq215).keep Kq221) (((Fh.other W3 (Or.inl (Exa.neArv (Eo.wr W3) V3 (oW hw 1 rfl)))).keep Kq215 (ninS (Exa.neArv (((Eo.wr W3).keep Kq215).keep Kq221) Vh221 (oW hw 1 rfl)) (ninS (Exa.neArv (((Eo.wr W3).keep Kq215).keep Kq221) f221_1 (oW hw 1 rfl)) nin0))).keep Kq221 (ninS (Exa.neArv (((Eo.wr W3).keep Kq215).keep Kq221) Vh221 (oW hw 1 rfl)) (ninS (Exa.neArv (((Eo.wr W3).keep Kq215).keep Kq221) f221_1 (oW hw 1 rfl)) nin0))) (((Fp.other W3 (Or.inl (Exa.neArv (Eo.wr W3) V3 (oW hw 1 rfl)))).keep Kq215 (ninS (Exa.neArv (((Eo.wr W3).keep Kq215).keep Kq221) Vh221 (oW hw 1 rfl)) (ninS (Exa.neArv (((Eo.wr W3).keep Kq215).keep Kq221) f221_1 (oW hw 1 rfl)) nin0))).keep Kq221 (ninS (Exa.neArv (((Eo.wr W3).keep Kq215).keep Kq221) Vh221 (oW hw 1 rfl)) (ninS (Exa.neArv (((Eo.wr W3).keep Kq215).keep Kq221) f221_1 (oW hw 1 rfl)) nin0))) Vh221 f221_1 nhp g_hT g_pT rfl (own_mvl (own_mvl qL)) qR ⟨by decide, by decide⟩) hZ (oW hw 39 rfl) (oW hw 2 rfl) (by decide) (by decide)) (g := (mkF m 168 #[rv aT, iv sT, .val (.double wT), .second, iv (0 : Int32), iv (1 : Int32)] [(.int (0 : Int32)), (.int sT), (.ref aT)])) rfl (by rw [hml]; rfl) (Steps.refl _) (a := aT) (by rw [eq237]; exact q238) q238' (argsL := [(.int sT), (.int (0 : Int32))]) (rest := []) (lenOf own_pd1 rfl) rfl (by show 2 * 0 + _ ≤ _; exact Nat.le_of_eq rfl) (hb hby own_d5_168) (fun _ _ => ⟨rfl, eq237, (by decide : ((((((0 + 0) + 0) + 0) + 0) + 0) + 0) + 0 ≤ _), (by decide : ((((((0 + 0) + 0) + 0) + 0) + 0) + 0) + 0 ≤ _)⟩)
          dsimp only [Pt.U, Pt.locs, Pt.cells, Pt.slots] at X238 l238 y238 z238 st238 hQ238
          subst l238 y238 z238
          obtain ⟨rfl, Nq238, Kq238, f238_0, f238_1⟩ := hQ238
          have N238 := Fr.app N237 Nq238
          have Vh238 : Arv Z T238.heap hT kh .int (6 : Int32) [(.int sT), (.int eA), (.int eC), (.int eD), (.int eB), (.int eF)] (.int (0 : Int32)) := f238_0
          refine ov (B := T238.setTop (mkF m 171 #[rv aT, iv sT, .val (.double wT), .second, iv (0 : Int32), iv (1 : Int32)] [])) (fun t k => st238.trans k) ?_
          refine own_leafV X238 hx hlk Bd.returns (hb hby own_d5_171) (by decide) (by decide) ?_
          show QT Z aT sT wT gT hT pT kt kh kp tt PP eA eB eC eD eE eF yT h0 n0 _ T238.heap _
          refine ⟨sT, eA, eC, eD, eB, eF, (own_mv (own_mv (own_mv PP eB (4 : Int32)) eA (1 : Int32)) sT (0 : Int32)), ?_, N238, (((((Keep.refl h0 [gT, hT, pT]).wr W3 (Or.inl (List.mem_of_getElem? (i := 0) rfl))).trans Kq215 (allS (Or.inl (List.mem_of_getElem? (i := 1) rfl)) (allS (Or.inl (List.mem_of_getElem? (i := 2) rfl)) all0))).trans Kq221 (allS (Or.inl (List.mem_of_getElem? (i := 1) rfl)) (allS (Or.inl (List.mem_of_getElem? (i := 2) rfl)) all0))).trans Kq238 (allS (Or.inl (List.mem_of_getElem? (i := 1) rfl)) (allS (Or.inl (List.mem_of_getElem? (i := 2) rfl)) all0))), ?_, ?_, ?_, ?_, (((V3.keep Kq215 (ninS ngh (ninS ngp nin0))).keep Kq221 (ninS ngh (ninS ngp nin0))).keep Kq238 (ninS ngh (ninS ngp nin0))), Vh238, f238_1⟩
          · rfl
          · exact own_I1mv qI qR qY
          · exact ⟨(own_mvl (own_mvl (own_mvl qL))), qR, reA, reC, reD, reB, reF, (own_mvS (own_mvl (own_mvl qL)) qR), ((own_mvN neA qR reA).trans (own_mvS (own_mvl qL) reA)), ((own_mvN neC qR reC).trans ((own_mvN (own_ppne peA peC (by decide)) reA reC).trans ((own_mvN (own_ppne peB peC (by decide)) reB reC).trans peC))), ((own_mvN neD qR reD).trans ((own_mvN (own_ppne peA peD (by decide)) reA reD).trans ((own_mvN (own_ppne peB peD (by decide)) reB reD).trans peD))), ((own_mvN neB qR reB).trans ((own_mvN (own_ppne peA peB (by decide)) reA reB).trans (own_mvS qL reB))), ((own_mvN neF qR reF).trans ((own_mvN (own_ppne peA peF (by decide)) reA reF).trans ((own_mvN (own_ppne peB peF (by decide)) reB reF).trans peF)))⟩
          · intro q hq'
            rcases qS q hq' with h | h | h | h | h | h
            · exact Or.inr (Or.inl (h))
            · exact Or.inr (Or.inr (Or.inr (Or.inr (Or.inl (h)))))
            · exact Or.inr (Or.inr (Or.inl (h)))
            · exact Or.inr (Or.inr (Or.inr (Or.inl (h))))
            · exact Or.inl (h.trans hq.symm)
            · exact Or.inr (Or.inr (Or.inr (Or.inr (Or.inr ((h))))))
          · exact ⟨by omega, by omega, by omega, by omega, by omega⟩
      · refine ov (B := T218.setTop (mkF m 67 #[rv aT, iv sT, .val (.double wT), .second, iv (1 : Int32), uu] [])) (fun t k => XS.ifYes X218.here hx rfl (pc0 := 36) (pc' := 67) rfl (hb hby own_d5_36) rfl ((if0 _ _).trans (teq (own_bit0.mpr hc36)).1) (by decide) (by decide) k) ?_
        refine oIC (n := 68) X218 hx (2 : Int32) (hb hby own_d5_67) (by decide) rfl ?_
        refine oIL (n := 70) X218 hx (hb hby own_d5_68) rfl rfl ?_
        refine ov (B := T218.setTop (mkF m 71 #[rv aT, iv sT, .val (.double wT), .second, iv (1 : Int32), uu] [(.int (2 : Int32))])) (fun t k => XS.imul X218.here hx rfl (hb hby own_d5_70) rfl k) ?_
        refine oIC (n := 72) X218 hx (1 : Int32) (hb hby own_d5_71) (by decide) rfl ?_
        refine ov (B := T218.setTop (mkF m 73 #[rv aT, iv sT, .val (.double wT), .second, iv (1 : Int32), uu] [(.int (3 : Int32))])) (fun t k => XS.iadd X218.here hx rfl (hb hby own_d5_72) rfl k) ?_
        refine ov (B := T218.setTop (mkF m 75 #[rv aT, iv sT, .val (.double wT), .second, iv (1 : Int32), iv (3 : Int32)] [])) (fun t k => XS.istore X218.here hx rfl (hb hby own_d5_73) rfl (l' := #[rv aT, iv sT, .val (.double wT), .second, iv (1 : Int32), iv (3 : Int32)]) rfl k) ?_
        refine oIL (n := 77) X218 hx (hb hby own_d5_75) rfl rfl ?_
        refine oALN (n := 78) X218 hx (hb hby own_d5_77) rfl rfl rfl ?_
        obtain ⟨T239, X239, e239, st239⟩ := getF X218 hx hZ hown (host := "") (Or.inl (oW hw 13 rfl)) Via.refl eq218 ((Fh.other W3 (Or.inl (Exa.neArv (Eo.wr W3) V3 (oW hw 1 rfl)))).keep Kq215 (ninS (Exa.neArv ((Eo.wr W3).keep Kq215) Vh215 (oW hw 1 rfl)) (ninS (Exa.neArv ((Eo.wr W3).keep Kq215) f215_1 (oW hw 1 rfl)) nin0))) (g := (mkF m 78 #[rv aT, iv sT, .val (.double wT), .second, iv (1 : Int32), iv (3 : Int32)] [(.ref aT), (.int (3 : Int32))])) rfl rfl (hb hby own_d5_78)
        refine ov (B := T239.setTop (mkF m 81 #[rv aT, iv sT, .val (.double wT), .second, iv (1 : Int32), iv (3 : Int32)] [(.ref hT), (.int (3 : Int32))])) (fun t k => st239 t k) ?_
        obtain ⟨cl240, Ar240, q240, S240, M240, H240, G240⟩ := id Vh215
        refine ov (B := T239.setTop (mkF m 82 #[rv aT, iv sT, .val (.double wT), .second, iv (1 : Int32), iv (3 : Int32)] [(.int (6 : Int32)), (.int (3 : Int32))])) (fun t k => X239.arraylength hx (by rw [e239]; exact Ar240.1) (State.isArrayOf_alike hZ.alike Ar240.2.1) (g := (mkF m 81 #[rv aT, iv sT, .val (.double wT), .second, iv (1 : Int32), iv (3 : Int32)] [(.ref hT), (.int (3 : Int32))])) rfl rfl (hb hby own_d5_81) _ (by rw [len_of S240 M240]; exact k)) ?_
        have hc82 : (3 : Int32) < (6 : Int32) := by decide
        refine ov (B := T239.setTop (mkF m 88 #[rv aT, iv sT, .val (.double wT), .second, iv (1 : Int32), iv (3 : Int32)] [])) (fun t k => XS.icmpYes X239.here hx rfl (pc0 := 82) (pc' := 88) rfl (hb hby own_d5_82) rfl (tlt hc82).1 (by decide) (by decide) k) ?_
        refine oIL (n := 90) X239 hx (hb hby own_d5_88) rfl rfl ?_
        refine oIC (n := 91) X239 hx (1 : Int32) (hb hby own_d5_90) (by decide) rfl ?_
        refine ov (B := T239.setTop (mkF m 92 #[rv aT, iv sT, .val (.double wT), .second, iv (1 : Int32), iv (3 : Int32)] [(.int (4 : Int32))])) (fun t k => XS.iadd X239.here hx rfl (hb hby own_d5_91) rfl k) ?_
        refine oALN (n := 93) X239 hx (hb hby own_d5_92) rfl rfl rfl ?_
        obtain ⟨T241, X241, e241, st241⟩ := getF X239 hx hZ hown (host := "") (Or.inl (oW hw 13 rfl)) Via.refl e239 ((Fh.other W3 (Or.inl (Exa.neArv (Eo.wr W3) V3 (oW hw 1 rfl)))).keep Kq215 (ninS (Exa.neArv ((Eo.wr W3).keep Kq215) Vh215 (oW hw 1 rfl)) (ninS (Exa.neArv ((Eo.wr W3).keep Kq215) f215_1 (oW hw 1 rfl)) nin0))) (g := (mkF m 93 #[rv aT, iv sT, .val (.double wT), .second, iv (1 : Int32), iv (3 : Int32)] [(.ref aT), (.int (4 : Int32))])) rfl rfl (hb hby own_d5_93)
        refine ov (B := T241.setTop (mkF m 96 #[rv aT, iv sT, .val (.double wT), .second, iv (1 : Int32), iv (3 : Int32)] [(.ref hT), (.int (4 : Int32))])) (fun t k => st241 t k) ?_
        obtain ⟨cl242, Ar242, q242, S242, M242, H242, G242⟩ := id Vh215
        refine ov (B := T241.setTop (mkF m 97 #[rv aT, iv sT, .val (.double wT), .second, iv (1 : Int32), iv (3 : Int32)] [(.int (6 : Int32)), (.int (4 : Int32))])) (fun t k => X241.arraylength hx (by rw [e241]; exact Ar242.1) (State.isArrayOf_alike hZ.alike Ar242.2.1) (g := (mkF m 96 #[rv aT, iv sT, .val (.double wT), .second, iv (1 : Int32), iv (3 : Int32)] [(.ref hT), (.int (4 : Int32))])) rfl rfl (hb hby own_d5_96) _ (by rw [len_of S242 M242]; exact k)) ?_
        have hc97 : (4 : Int32) < (6 : Int32) := by decide
        refine ov (B := T241.setTop (mkF m 100 #[rv aT, iv sT, .val (.double wT), .second, iv (1 : Int32), iv (3 : Int32)] [])) (fun t k => XS.icmpNo X241.here hx rfl (hb hby own_d5_97) rfl (tlt hc97).2.1 k) ?_
        refine oALN (n := 101) X241 hx (hb hby own_d5_100) rfl rfl rfl ?_
        refine oALN (n := 102) X241 hx (hb hby own_d5_101) rfl rfl rfl ?_
        obtain ⟨T243, X243, e243, st243⟩ := getF X241 hx hZ hown (host := "") (Or.inl (oW hw 13 rfl)) Via.refl e241 ((Fh.other W3 (Or.inl (Exa.neArv (Eo.wr W3) V3 (oW hw 1 rfl)))).keep Kq215 (ninS (Exa.neArv ((Eo.wr W3).keep Kq215) Vh215 (oW hw 1 rfl)) (ninS (Exa.neArv ((Eo.wr W3).keep Kq215) f215_1 (oW hw 1 rfl)) nin0))) (g := (mkF m 102 #[rv aT, iv sT, .val (.double wT), .second, iv (1 : Int32), iv (3 : Int32)] [(.ref aT), (.ref aT)])) rfl rfl (hb hby own_d5_102)
        refine ov (B := T243.setTop (mkF m 105 #[rv aT, iv sT, .val (.double wT), .second, iv (1 : Int32), iv (3 : Int32)] [(.ref hT), (.ref aT)])) (fun t k => st243 t k) ?_
        refine oIL (n := 107) X243 hx (hb hby own_d5_105) rfl rfl ?_
        refine oIC (n := 108) X243 hx (1 : Int32) (hb hby own_d5_107) (by decide) rfl ?_
        refine ov (B := T243.setTop (mkF m 109 #[rv aT, iv sT, .val (.double wT), .second, iv (1 : Int32), iv (3 : Int32)] [(.int (4 : Int32)), (.ref hT), (.ref aT)])) (fun t k => XS.iadd X243.here hx rfl (hb hby own_d5_108) rfl k) ?_
        obtain ⟨cl244, Ar244, q244, S244, M244, H244, G244⟩ := id Vh215
        have hin244 : ¬ ((4 : Int32) < 0 ∨ cl244.slots.size ≤ ((4 : Int32)).toNatClampNeg) := inb_of S244 ⟨by decide, by decide⟩
        refine ov (B := T243.setTop (mkF m 110 #[rv aT, iv sT, .val (.double wT), .second, iv (1 : Int32), iv (3 : Int32)] [(.int eB), (.ref aT)])) (fun t k => X243.iaload hx (j := (4 : Int32)) (v := (.int eB)) (by rw [e243]; exact Ar244.1) (State.isArrayOf_alike hZ.alike Ar244.2.1) Ar244.2.2 hin244 (Has.at H244 hin244 rfl) (g := (mkF m 109 #[rv aT, iv sT, .val (.double wT), .second, iv (1 : Int32), iv (3 : Int32)] [(.int (4 : Int32)), (.ref hT), (.ref aT)])) rfl rfl (hb hby own_d5_109) _ k) ?_
        refine oALN (n := 111) X243 hx (hb hby own_d5_110) rfl rfl rfl ?_
        obtain ⟨T245, X245, e245, st245⟩ := getF X243 hx hZ hown (host := "") (Or.inl (oW hw 13 rfl)) Via.refl e243 ((Fh.other W3 (Or.inl (Exa.neArv (Eo.wr W3) V3 (oW hw 1 rfl)))).keep Kq215 (ninS (Exa.neArv ((Eo.wr W3).keep Kq215) Vh215 (oW hw 1 rfl)) (ninS (Exa.neArv ((Eo.wr W3).keep Kq215) f215_1 (oW hw 1 rfl)) nin0))) (g := (mkF m 111 #[rv aT, iv sT, .val (.double wT), .second, iv (1 : Int32), iv (3 : Int32)] [(.ref aT), (.int eB), (.ref aT)])) rfl rfl (hb hby own_d5_111)
        refine ov (B := T245.setTop (mkF m 114 #[rv aT, iv sT, .val (.double wT), .second, iv (1 : Int32), iv (3 : Int32)] [(.ref hT), (.int eB), (.ref aT)])) (fun t k => st245 t k) ?_
        refine oIL (n := 116) X245 hx (hb hby own_d5_114) rfl rfl ?_
        obtain ⟨cl246, Ar246, q246, S246, M246, H246, G246⟩ := id Vh215
        have hin246 : ¬ ((3 : Int32) < 0 ∨ cl246.slots.size ≤ ((3 : Int32)).toNatClampNeg) := inb_of S246 ⟨by decide, by decide⟩
        refine ov (B := T245.setTop (mkF m 117 #[rv aT, iv sT, .val (.double wT), .second, iv (1 : Int32), iv (3 : Int32)] [(.int eD), (.int eB), (.ref aT)])) (fun t k => X245.iaload hx (j := (3 : Int32)) (v := (.int eD)) (by rw [e245]; exact Ar246.1) (State.isArrayOf_alike hZ.alike Ar246.2.1) Ar246.2.2 hin246 (Has.at H246 hin246 rfl) (g := (mkF m 116 #[rv aT, iv sT, .val (.double wT), .second, iv (1 : Int32), iv (3 : Int32)] [(.int (3 : Int32)), (.ref hT), (.int eB), (.ref aT)])) rfl rfl (hb hby own_d5_116) _ k) ?_
        obtain ⟨cq247, q247, q247'⟩ := ((Eo.wr W3).keep Kq215).cell
        obtain ⟨_, _, ⟨T247, L247, k247, n247⟩, -, X247, ⟨Lc247, hQ247, l247, y247, z247⟩, st247⟩ := X245.privateBack hx (y := (⟨"com/example/meerkat/meerkat/simulate/Completions", "before", "(II)Z"⟩ : MethodName)) hown (mvT hZ (oW hw 32 rfl)) (mvT hZ (oW hw 33 rfl)) (own_selP (y' := (⟨"com/example/meerkat/meerkat/simulate/Completions", "set", "(ID)V"⟩ : MethodName)) rfl (mvT hZ (oW hw 30 rfl)) (Cond.privateMethod_at (mvP hZ (oW hw 34 rfl) (args := #[]))) (mvT hZ (oW hw 33 rfl)) (by decide)) (Cond.privateMethod_at (mvP hZ (oW hw 34 rfl) (args := #[]))) (mvT hZ (oW hw 35 rfl)) (by decide) (backOf (W := 0) (rmB l Z a0 hw [] aT eB eD gT kt (own_mv tt sT yT) T215.heap n0 (Nat.le_trans (Nat.le_trans Z0 (Keep.of_wr W3).1) Kq215.1) ((Ft.other W3 (Or.inl (Exa.neArv (Eo.wr W3) V3 (oW hw 1 rfl)))).keep Kq215 (ninS (Exa.neArv ((Eo.wr W3).keep Kq215) Vh215 (oW hw 1 rfl)) (ninS (Exa.neArv ((Eo.wr W3).keep Kq215) f215_1 (oW hw 1 rfl)) nin0))) (V3.keep Kq215 (ninS ngh (ninS ngp nin0))) (own_I1mv qI qR qY) reB reD) hZ (oW hw 35 rfl) (oW hw 2 rfl) (by decide) (by decide)) (g := (mkF m 117 #[rv aT, iv sT, .val (.double wT), .second, iv (1 : Int32), iv (3 : Int32)] [(.int eD), (.int eB), (.ref aT)])) rfl (by rw [hml]; rfl) (Steps.refl _) (a := aT) (by rw [e245]; exact q247) q247' (argsL := [(.int eB), (.int eD)]) (rest := []) (lenOf own_pd0 rfl) rfl (by show 2 * 0 + _ ≤ _; exact Nat.le_of_eq rfl) (hb hby own_d5_117) (fun _ _ => ⟨rfl, e245, (by decide : (((0 + 0) + 0) + 0) + 0 ≤ _), (by decide : (((0 + 0) + 0) + 0) + 0 ≤ _)⟩)
        dsimp only [Pt.U, Pt.locs, Pt.cells, Pt.slots] at X247 l247 y247 z247 st247 hQ247
        subst l247 y247 z247
        obtain ⟨rfl, Nq247, eq247⟩ := hQ247
        have N247 := Fr.app N218 Nq247
        refine ov (B := T247.setTop (mkF m 120 #[rv aT, iv sT, .val (.double wT), .second, iv (1 : Int32), iv (3 : Int32)] [(.int (own_bit (own_rk (own_mv tt sT yT) eB < own_rk (own_mv tt sT yT) eD)))])) (fun t k => st247.trans k) ?_
        by_cases hc120 : own_rk (own_mv tt sT yT) eB < own_rk (own_mv tt sT yT) eD
        · refine ov (B := T247.setTop (mkF m 123 #[rv aT, iv sT, .val (.double wT), .second, iv (1 : Int32), iv (3 : Int32)] [])) (fun t k => XS.ifNo X247.here hx rfl (hb hby own_d5_120) rfl ((if0 _ _).trans (feq (own_bitne hc120)).1) k) ?_
          refine ov (B := T247.setTop (mkF m 126 #[rv aT, iv sT, .val (.double wT), .second, iv (1 : Int32), iv (4 : Int32)] [])) (fun t k => XS.iinc X247.here hx rfl (hb hby own_d5_123) rfl (l' := #[rv aT, iv sT, .val (.double wT), .second, iv (1 : Int32), iv (4 : Int32)]) rfl k) ?_
          refine oALN (n := 127) X247 hx (hb hby own_d5_126) rfl rfl rfl ?_
          refine oALN (n := 128) X247 hx (hb hby own_d5_127) rfl rfl rfl ?_
          obtain ⟨T248, X248, e248, st248⟩ := getF X247 hx hZ hown (host := "") (Or.inl (oW hw 13 rfl)) Via.refl eq247 ((Fh.other W3 (Or.inl (Exa.neArv (Eo.wr W3) V3 (oW hw 1 rfl)))).keep Kq215 (ninS (Exa.neArv ((Eo.wr W3).keep Kq215) Vh215 (oW hw 1 rfl)) (ninS (Exa.neArv ((Eo.wr W3).keep Kq215) f215_1 (oW hw 1 rfl)) nin0))) (g := (mkF m 128 #[rv aT, iv sT, .val (.double wT), .second, iv (1 : Int32), iv (4 : Int32)] [(.ref aT), (.ref aT)])) rfl rfl (hb hby own_d5_128)
          refine ov (B := T248.setTop (mkF m 131 #[rv aT, iv sT, .val (.double wT), .second, iv (1 : Int32), iv (4 : Int32)] [(.ref hT), (.ref aT)])) (fun t k => st248 t k) ?_
          refine oIL (n := 133) X248 hx (hb hby own_d5_131) rfl rfl ?_
          obtain ⟨cl249, Ar249, q249, S249, M249, H249, G249⟩ := id Vh215
          have hin249 : ¬ ((4 : Int32) < 0 ∨ cl249.slots.size ≤ ((4 : Int32)).toNatClampNeg) := inb_of S249 ⟨by decide, by decide⟩
          refine ov (B := T248.setTop (mkF m 134 #[rv aT, iv sT, .val (.double wT), .second, iv (1 : Int32), iv (4 : Int32)] [(.int eB), (.ref aT)])) (fun t k => X248.iaload hx (j := (4 : Int32)) (v := (.int eB)) (by rw [e248]; exact Ar249.1) (State.isArrayOf_alike hZ.alike Ar249.2.1) Ar249.2.2 hin249 (Has.at H249 hin249 rfl) (g := (mkF m 133 #[rv aT, iv sT, .val (.double wT), .second, iv (1 : Int32), iv (4 : Int32)] [(.int (4 : Int32)), (.ref hT), (.ref aT)])) rfl rfl (hb hby own_d5_133) _ k) ?_
          refine oILN (n := 135) X248 hx (hb hby own_d5_134) rfl rfl ?_
          obtain ⟨cq250, q250, q250'⟩ := ((Eo.wr W3).keep Kq215).cell
          obtain ⟨_, _, ⟨T250, L250, k250, n250⟩, -, X250, ⟨Lc250, hQ250, l250, y250, z250⟩, st250⟩ := X248.privateBack hx (y := (⟨"com/example/meerkat/meerkat/simulate/Completions", "before", "(II)Z"⟩ : MethodName)) hown (mvT hZ (oW hw 32 rfl)) (mvT hZ (oW hw 33 rfl)) (own_selP (y' := (⟨"com/example/meerkat/meerkat/simulate/Completions", "set", "(ID)V"⟩ : MethodName)) rfl (mvT hZ (oW hw 30 rfl)) (Cond.privateMethod_at (mvP hZ (oW hw 34 rfl) (args := #[]))) (mvT hZ (oW hw 33 rfl)) (by decide)) (Cond.privateMethod_at (mvP hZ (oW hw 34 rfl) (args := #[]))) (mvT hZ (oW hw 35 rfl)) (by decide) (backOf (W := 0) (rmB l Z a0 hw [] aT eB sT gT kt (own_mv tt sT yT) T215.heap n0 (Nat.le_trans (Nat.le_trans Z0 (Keep.of_wr W3).1) Kq215.1) ((Ft.other W3 (Or.inl (Exa.neArv (Eo.wr W3) V3 (oW hw 1 rfl)))).keep Kq215 (ninS (Exa.neArv ((Eo.wr W3).keep Kq215) Vh215 (oW hw 1 rfl)) (ninS (Exa.neArv ((Eo.wr W3).keep Kq215) f215_1 (oW hw 1 rfl)) nin0))) (V3.keep Kq215 (ninS ngh (ninS ngp nin0))) (own_I1mv qI qR qY) reB qR) hZ (oW hw 35 rfl) (oW hw 2 rfl) (by decide) (by decide)) (g := (mkF m 135 #[rv aT, iv sT, .val (.double wT), .second, iv (1 : Int32), iv (4 : Int32)] [(.int sT), (.int eB), (.ref aT)])) rfl (by rw [hml]; rfl) (Steps.refl _) (a := aT) (by rw [e248]; exact q250) q250' (argsL := [(.int eB), (.int sT)]) (rest := []) (lenOf own_pd0 rfl) rfl (by show 2 * 0 + _ ≤ _; exact Nat.le_of_eq rfl) (hb hby own_d5_135) (fun _ _ => ⟨rfl, e248, (by decide : ((((0 + 0) + 0) + 0) + 0) + 0 ≤ _), (by decide : ((((0 + 0) + 0) + 0) + 0) + 0 ≤ _)⟩)
          dsimp only [Pt.U, Pt.locs, Pt.cells, Pt.slots] at X250 l250 y250 z250 st250 hQ250
          subst l250 y250 z250
          obtain ⟨rfl, Nq250, eq250⟩ := hQ250
          have N250 := Fr.app N247 Nq250
          refine ov (B := T250.setTop (mkF m 138 #[rv aT, iv sT, .val (.double wT), .second, iv (1 : Int32), iv (4 : Int32)] [(.int (own_bit (own_rk (own_mv tt sT yT) eB < own_rk (own_mv tt sT yT) sT)))])) (fun t k => st250.trans k) ?_
          have hc138 : ¬ (own_rk (own_mv tt sT yT) eB < own_rk (own_mv tt sT yT) sT) := by omega
          refine ov (B := T250.setTop (mkF m 141 #[rv aT, iv sT, .val (.double wT), .second, iv (1 : Int32), iv (4 : Int32)] [])) (fun t k => XS.ifNo X250.here hx rfl (hb hby own_d5_138) rfl ((if0 _ _).trans (teq (own_bit0.mpr hc138)).2) k) ?_
          refine oGO (n := 164) X250 hx (hb hby own_d5_141) (by decide) (by decide) ?_
          refine oALN (n := 165) X250 hx (hb hby own_d5_164) rfl rfl rfl ?_
          refine oILN (n := 166) X250 hx (hb hby own_d5_165) rfl rfl ?_
          refine oIL (n := 168) X250 hx (hb hby own_d5_166) rfl rfl ?_
          obtain ⟨cq251, q251, q251'⟩ := ((Eo.wr W3).keep Kq215).cell
          obtain ⟨_, _, ⟨T251, L251, k251, n251⟩, -, X251, ⟨Lc251, hQ251, l251, y251, z251⟩, st251⟩ := X250.privateBack hx (y := (⟨"com/example/meerkat/meerkat/simulate/Completions", "move", "(II)V"⟩ : MethodName)) hown (mvT hZ (oW hw 36 rfl)) (mvT hZ (oW hw 37 rfl)) (own_selP (y' := (⟨"com/example/meerkat/meerkat/simulate/Completions", "set", "(ID)V"⟩ : MethodName)) rfl (mvT hZ (oW hw 30 rfl)) (Cond.privateMethod_at (mvP hZ (oW hw 38 rfl) (args := #[]))) (mvT hZ (oW hw 37 rfl)) (by decide)) (Cond.privateMethod_at (mvP hZ (oW hw 38 rfl) (args := #[]))) (mvT hZ (oW hw 39 rfl)) (by decide) (backOf (W := 0) (rmM l Z a0 hw [] aT sT (1 : Int32) hT pT kh kp [eA, eB, eC, eD, eB, eF] (own_mv PP eB (4 : Int32)) T215.heap n0 (Nat.le_trans (Nat.le_trans Z0 (Keep.of_wr W3).1) Kq215.1) ((Eo.wr W3).keep Kq215) ((Fh.other W3 (Or.inl (Exa.neArv (Eo.wr W3) V3 (oW hw 1 rfl)))).keep Kq215 (ninS (Exa.neArv ((Eo.wr W3).keep Kq215) Vh215 (oW hw 1 rfl)) (ninS (Exa.neArv ((Eo.wr W3).keep Kq215) f215_1 (oW hw 1 rfl)) nin0))) ((Fp.other W3 (Or.inl (Exa.neArv (Eo.wr W3) V3 (oW hw 1 rfl)))).keep Kq215 (ninS (Exa.neArv ((Eo.wr W3).keep Kq215) Vh215 (oW hw 1 rfl)) (ninS (Exa.neArv ((Eo.wr W3).keep Kq215) f215_1 (oW hw 1 rfl)) nin0))) Vh215 f215_1 nhp g_hT g_pT rfl (own_mvl qL) qR ⟨by decide, by decide⟩) hZ (oW hw 39 rfl) (oW hw 2 rfl) (by decide) (by decide)) (g := (mkF m 168 #[rv aT, iv sT, .val (.double wT), .second, iv (1 : Int32), iv (4 : Int32)] [(.int (1 : Int32)), (.int sT), (.ref aT)])) rfl (by rw [hml]; rfl) (Steps.refl _) (a := aT) (by rw [eq250]; exact q251) q251' (argsL := [(.int sT), (.int (1 : Int32))]) (rest := []) (lenOf own_pd1 rfl) rfl (by show 2 * 0 + _ ≤ _; exact Nat.le_of_eq rfl) (hb hby own_d5_168) (fun _ _ => ⟨rfl, eq250, (by decide : (((((0 + 0) + 0) + 0) + 0) + 0) + 0 ≤ _), (by decide : (((((0 + 0) + 0) + 0) + 0) + 0) + 0 ≤ _)⟩)
          dsimp only [Pt.U, Pt.locs, Pt.cells, Pt.slots] at X251 l251 y251 z251 st251 hQ251
          subst l251 y251 z251
          obtain ⟨rfl, Nq251, Kq251, f251_0, f251_1⟩ := hQ251
          have N251 := Fr.app N250 Nq251
          have Vh251 : Arv Z T251.heap hT kh .int (6 : Int32) [(.int eA), (.int sT), (.int eC), (.int eD), (.int eB), (.int eF)] (.int (0 : Int32)) := f251_0
          refine ov (B := T251.setTop (mkF m 171 #[rv aT, iv sT, .val (.double wT), .second, iv (1 : Int32), iv (4 : Int32)] [])) (fun t k => st251.trans k) ?_
          refine own_leafV X251 hx hlk Bd.returns (hb hby own_d5_171) (by decide) (by decide) ?_
          show QT Z aT sT wT gT hT pT kt kh kp tt PP eA eB eC eD eE eF yT h0 n0 _ T251.heap _
          refine ⟨eA, sT, eC, eD, eB, eF, (own_mv (own_mv PP eB (4 : Int32)) sT (1 : Int32)), ?_, N251, ((((Keep.refl h0 [gT, hT, pT]).wr W3 (Or.inl (List.mem_of_getElem? (i := 0) rfl))).trans Kq215 (allS (Or.inl (List.mem_of_getElem? (i := 1) rfl)) (allS (Or.inl (List.mem_of_getElem? (i := 2) rfl)) all0))).trans Kq251 (allS (Or.inl (List.mem_of_getElem? (i := 1) rfl)) (allS (Or.inl (List.mem_of_getElem? (i := 2) rfl)) all0))), ?_, ?_, ?_, ?_, ((V3.keep Kq215 (ninS ngh (ninS ngp nin0))).keep Kq251 (ninS ngh (ninS ngp nin0))), Vh251, f251_1⟩
          · rfl
          · exact own_I1mv qI qR qY
          · exact ⟨(own_mvl (own_mvl qL)), reA, qR, reC, reD, reB, reF, ((own_mvN neA qR reA).trans ((own_mvN (own_ppne peB peA (by decide)) reB reA).trans peA)), (own_mvS (own_mvl qL) qR), ((own_mvN neC qR reC).trans ((own_mvN (own_ppne peB peC (by decide)) reB reC).trans peC)), ((own_mvN neD qR reD).trans ((own_mvN (own_ppne peB peD (by decide)) reB reD).trans peD)), ((own_mvN neB qR reB).trans (own_mvS qL reB)), ((own_mvN neF qR reF).trans ((own_mvN (own_ppne peB peF (by decide)) reB reF).trans peF))⟩
          · intro q hq'
            rcases qS q hq' with h | h | h | h | h | h
            · exact Or.inl (h)
            · exact Or.inr (Or.inr (Or.inr (Or.inr (Or.inl (h)))))
            · exact Or.inr (Or.inr (Or.inl (h)))
            · exact Or.inr (Or.inr (Or.inr (Or.inl (h))))
            · exact Or.inr (Or.inl (h.trans hq.symm))
            · exact Or.inr (Or.inr (Or.inr (Or.inr (Or.inr ((h))))))
          · exact ⟨by omega, by omega, by omega, by omega, by omega⟩
        · refine ov (B := T247.setTop (mkF m 126 #[rv aT, iv sT, .val (.double wT), .second, iv (1 : Int32), iv (3 : Int32)] [])) (fun t k => XS.ifYes X247.here hx rfl (pc0 := 120) (pc' := 126) rfl (hb hby own_d5_120) rfl ((if0 _ _).trans (teq (own_bit0.mpr hc120)).1) (by decide) (by decide) k) ?_
          refine oALN (n := 127) X247 hx (hb hby own_d5_126) rfl rfl rfl ?_
          refine oALN (n := 128) X247 hx (hb hby own_d5_127) rfl rfl rfl ?_
          obtain ⟨T252, X252, e252, st252⟩ := getF X247 hx hZ hown (host := "") (Or.inl (oW hw 13 rfl)) Via.refl eq247 ((Fh.other W3 (Or.inl (Exa.neArv (Eo.wr W3) V3 (oW hw 1 rfl)))).keep Kq215 (ninS (Exa.neArv ((Eo.wr W3).keep Kq215) Vh215 (oW hw 1 rfl)) (ninS (Exa.neArv ((Eo.wr W3).keep Kq215) f215_1 (oW hw 1 rfl)) nin0))) (g := (mkF m 128 #[rv aT, iv sT, .val (.double wT), .second, iv (1 : Int32), iv (3 : Int32)] [(.ref aT), (.ref aT)])) rfl rfl (hb hby own_d5_128)
          refine ov (B := T252.setTop (mkF m 131 #[rv aT, iv sT, .val (.double wT), .second, iv (1 : Int32), iv (3 : Int32)] [(.ref hT), (.ref aT)])) (fun t k => st252 t k) ?_
          refine oIL (n := 133) X252 hx (hb hby own_d5_131) rfl rfl ?_
          obtain ⟨cl253, Ar253, q253, S253, M253, H253, G253⟩ := id Vh215
          have hin253 : ¬ ((3 : Int32) < 0 ∨ cl253.slots.size ≤ ((3 : Int32)).toNatClampNeg) := inb_of S253 ⟨by decide, by decide⟩
          refine ov (B := T252.setTop (mkF m 134 #[rv aT, iv sT, .val (.double wT), .second, iv (1 : Int32), iv (3 : Int32)] [(.int eD), (.ref aT)])) (fun t k => X252.iaload hx (j := (3 : Int32)) (v := (.int eD)) (by rw [e252]; exact Ar253.1) (State.isArrayOf_alike hZ.alike Ar253.2.1) Ar253.2.2 hin253 (Has.at H253 hin253 rfl) (g := (mkF m 133 #[rv aT, iv sT, .val (.double wT), .second, iv (1 : Int32), iv (3 : Int32)] [(.int (3 : Int32)), (.ref hT), (.ref aT)])) rfl rfl (hb hby own_d5_133) _ k) ?_
          refine oILN (n := 135) X252 hx (hb hby own_d5_134) rfl rfl ?_
          obtain ⟨cq254, q254, q254'⟩ := ((Eo.wr W3).keep Kq215).cell
          obtain ⟨_, _, ⟨T254, L254, k254, n254⟩, -, X254, ⟨Lc254, hQ254, l254, y254, z254⟩, st254⟩ := X252.privateBack hx (y := (⟨"com/example/meerkat/meerkat/simulate/Completions", "before", "(II)Z"⟩ : MethodName)) hown (mvT hZ (oW hw 32 rfl)) (mvT hZ (oW hw 33 rfl)) (own_selP (y' := (⟨"com/example/meerkat/meerkat/simulate/Completions", "set", "(ID)V"⟩ : MethodName)) rfl (mvT hZ (oW hw 30 rfl)) (Cond.privateMethod_at (mvP hZ (oW hw 34 rfl) (args := #[]))) (mvT hZ (oW hw 33 rfl)) (by decide)) (Cond.privateMethod_at (mvP hZ (oW hw 34 rfl) (args := #[]))) (mvT hZ (oW hw 35 rfl)) (by decide) (backOf (W := 0) (rmB l Z a0 hw [] aT eD sT gT kt (own_mv tt sT yT) T215.heap n0 (Nat.le_trans (Nat.le_trans Z0 (Keep.of_wr W3).1) Kq215.1) ((Ft.other W3 (Or.inl (Exa.neArv (Eo.wr W3) V3 (oW hw 1 rfl)))).keep Kq215 (ninS (Exa.neArv ((Eo.wr W3).keep Kq215) Vh215 (oW hw 1 rfl)) (ninS (Exa.neArv ((Eo.wr W3).keep Kq215) f215_1 (oW hw 1 rfl)) nin0))) (V3.keep Kq215 (ninS ngh (ninS ngp nin0))) (own_I1mv qI qR qY) reD qR) hZ (oW hw 35 rfl) (oW hw 2 rfl) (by decide) (by decide)) (g := (mkF m 135 #[rv aT, iv sT, .val (.double wT), .second, iv (1 : Int32), iv (3 : Int32)] [(.int sT), (.int eD), (.ref aT)])) rfl (by rw [hml]; rfl) (Steps.refl _) (a := aT) (by rw [e252]; exact q254) q254' (argsL := [(.int eD), (.int sT)]) (rest := []) (lenOf own_pd0 rfl) rfl (by show 2 * 0 + _ ≤ _; exact Nat.le_of_eq rfl) (hb hby own_d5_135) (fun _ _ => ⟨rfl, e252, (by decide : ((((0 + 0) + 0) + 0) + 0) + 0 ≤ _), (by decide : ((((0 + 0) + 0) + 0) + 0) + 0 ≤ _)⟩)
          dsimp only [Pt.U, Pt.locs, Pt.cells, Pt.slots] at X254 l254 y254 z254 st254 hQ254
          subst l254 y254 z254
          obtain ⟨rfl, Nq254, eq254⟩ := hQ254
          have N254 := Fr.app N247 Nq254
          refine ov (B := T254.setTop (mkF m 138 #[rv aT, iv sT, .val (.double wT), .second, iv (1 : Int32), iv (3 : Int32)] [(.int (own_bit (own_rk (own_mv tt sT yT) eD < own_rk (own_mv tt sT yT) sT)))])) (fun t k => st254.trans k) ?_
          have hc138 : ¬ (own_rk (own_mv tt sT yT) eD < own_rk (own_mv tt sT yT) sT) := by omega
          refine ov (B := T254.setTop (mkF m 141 #[rv aT, iv sT, .val (.double wT), .second, iv (1 : Int32), iv (3 : Int32)] [])) (fun t k => XS.ifNo X254.here hx rfl (hb hby own_d5_138) rfl ((if0 _ _).trans (teq (own_bit0.mpr hc138)).2) k) ?_
          refine oGO (n := 164) X254 hx (hb hby own_d5_141) (by decide) (by decide) ?_
          refine oALN (n := 165) X254 hx (hb hby own_d5_164) rfl rfl rfl ?_
          refine oILN (n := 166) X254 hx (hb hby own_d5_165) rfl rfl ?_
          refine oIL (n := 168) X254 hx (hb hby own_d5_166) rfl rfl ?_
          obtain ⟨cq255, q255, q255'⟩ := ((Eo.wr W3).keep Kq215).cell
          obtain ⟨_, _, ⟨T255, L255, k255, n255⟩, -, X255, ⟨Lc255, hQ255, l255, y255, z255⟩, st255⟩ := X254.privateBack hx (y := (⟨"com/example/meerkat/meerkat/simulate/Completions", "move", "(II)V"⟩ : MethodName)) hown (mvT hZ (oW hw 36 rfl)) (mvT hZ (oW hw 37 rfl)) (own_selP (y' := (⟨"com/example/meerkat/meerkat/simulate/Completions", "set", "(ID)V"⟩ : MethodName)) rfl (mvT hZ (oW hw 30 rfl)) (Cond.privateMethod_at (mvP hZ (oW hw 38 rfl) (args := #[]))) (mvT hZ (oW hw 37 rfl)) (by decide)) (Cond.privateMethod_at (mvP hZ (oW hw 38 rfl) (args := #[]))) (mvT hZ (oW hw 39 rfl)) (by decide) (backOf (W := 0) (rmM l Z a0 hw [] aT sT (1 : Int32) hT pT kh kp [eA, eB, eC, eD, eB, eF] (own_mv PP eB (4 : Int32)) T215.heap n0 (Nat.le_trans (Nat.le_trans Z0 (Keep.of_wr W3).1) Kq215.1) ((Eo.wr W3).keep Kq215) ((Fh.other W3 (Or.inl (Exa.neArv (Eo.wr W3) V3 (oW hw 1 rfl)))).keep Kq215 (ninS (Exa.neArv ((Eo.wr W3).keep Kq215) Vh215 (oW hw 1 rfl)) (ninS (Exa.neArv ((Eo.wr W3).keep Kq215) f215_1 (oW hw 1 rfl)) nin0))) ((Fp.other W3 (Or.inl (Exa.neArv (Eo.wr W3) V3 (oW hw 1 rfl)))).keep Kq215 (ninS (Exa.neArv ((Eo.wr W3).keep Kq215) Vh215 (oW hw 1 rfl)) (ninS (Exa.neArv ((Eo.wr W3).keep Kq215) f215_1 (oW hw 1 rfl)) nin0))) Vh215 f215_1 nhp g_hT g_pT rfl (own_mvl qL) qR ⟨by decide, by decide⟩) hZ (oW hw 39 rfl) (oW hw 2 rfl) (by decide) (by decide)) (g := (mkF m 168 #[rv aT, iv sT, .val (.double wT), .second, iv (1 : Int32), iv (3 : Int32)] [(.int (1 : Int32)), (.int sT), (.ref aT)])) rfl (by rw [hml]; rfl) (Steps.refl _) (a := aT) (by rw [eq254]; exact q255) q255' (argsL := [(.int sT), (.int (1 : Int32))]) (rest := []) (lenOf own_pd1 rfl) rfl (by show 2 * 0 + _ ≤ _; exact Nat.le_of_eq rfl) (hb hby own_d5_168) (fun _ _ => ⟨rfl, eq254, (by decide : (((((0 + 0) + 0) + 0) + 0) + 0) + 0 ≤ _), (by decide : (((((0 + 0) + 0) + 0) + 0) + 0) + 0 ≤ _)⟩)
          dsimp only [Pt.U, Pt.locs, Pt.cells, Pt.slots] at X255 l255 y255 z255 st255 hQ255
          subst l255 y255 z255
          obtain ⟨rfl, Nq255, Kq255, f255_0, f255_1⟩ := hQ255
          have N255 := Fr.app N254 Nq255
          have Vh255 : Arv Z T255.heap hT kh .int (6 : Int32) [(.int eA), (.int sT), (.int eC), (.int eD), (.int eB), (.int eF)] (.int (0 : Int32)) := f255_0
          refine ov (B := T255.setTop (mkF m 171 #[rv aT, iv sT, .val (.double wT), .second, iv (1 : Int32), iv (3 : Int32)] [])) (fun t k => st255.trans k) ?_
          refine own_leafV X255 hx hlk Bd.returns (hb hby own_d5_171) (by decide) (by decide) ?_
          show QT Z aT sT wT gT hT pT kt kh kp tt PP eA eB eC eD eE eF yT h0 n0 _ T255.heap _
          refine ⟨eA, sT, eC, eD, eB, eF, (own_mv (own_mv PP eB (4 : Int32)) sT (1 : Int32)), ?_, N255, ((((Keep.refl h0 [gT, hT, pT]).wr W3 (Or.inl (List.mem_of_getElem? (i := 0) rfl))).trans Kq215 (allS (Or.inl (List.mem_of_getElem? (i := 1) rfl)) (allS (Or.inl (List.mem_of_getElem? (i := 2) rfl)) all0))).trans Kq255 (allS (Or.inl (List.mem_of_getElem? (i := 1) rfl)) (allS (Or.inl (List.mem_of_getElem? (i := 2) rfl)) all0))), ?_, ?_, ?_, ?_, ((V3.keep Kq215 (ninS ngh (ninS ngp nin0))).keep Kq255 (ninS ngh (ninS ngp nin0))), Vh255, f255_1⟩
          · rfl
          · exact own_I1mv qI qR qY
          · exact ⟨(own_mvl (own_mvl qL)), reA, qR, reC, reD, reB, reF, ((own_mvN neA qR reA).trans ((own_mvN (own_ppne peB peA (by decide)) reB reA).trans peA)), (own_mvS (own_mvl qL) qR), ((own_mvN neC qR reC).trans ((own_mvN (own_ppne peB peC (by decide)) reB reC).trans peC)), ((own_mvN neD qR reD).trans ((own_mvN (own_ppne peB peD (by decide)) reB reD).trans peD)), ((own_mvN neB qR reB).trans (own_mvS qL reB)), ((own_mvN neF qR reF).trans ((own_mvN (own_ppne peB peF (by decide)) reB reF).trans peF))⟩
          · intro q hq'
            rcases qS q hq' with h | h | h | h | h | h
            · exact Or.inl (h)
            · exact Or.inr (Or.inr (Or.inr (Or.inr (Or.inl (h)))))
            · exact Or.inr (Or.inr (Or.inl (h)))
            · exact Or.inr (Or.inr (Or.inr (Or.inl (h))))
            · exact Or.inr (Or.inl (h.trans hq.symm))
            · exact Or.inr (Or.inr (Or.inr (Or.inr (Or.inr ((h))))))
          · exact ⟨by omega, by omega, by omega, by omega, by omega⟩
    · refine ov (B := T212.setTop (mkF m 67 #[rv aT, iv sT, .val (.double wT), .second, iv (4 : Int32), uu] [])) (fun t k => XS.ifYes X212.here hx rfl (pc0 := 36) (pc' := 67) rfl (hb hby own_d5_36) rfl ((if0 _ _).trans (teq (own_bit0.mpr hc36)).1) (by decide) (by decide) k) ?_
      refine oIC (n := 68) X212 hx (2 : Int32) (hb hby own_d5_67) (by decide) rfl ?_
      refine oIL (n := 70) X212 hx (hb hby own_d5_68) rfl rfl ?_
      refine ov (B := T212.setTop (mkF m 71 #[rv aT, iv sT, .val (.double wT), .second, iv (4 : Int32), uu] [(.int (8 : Int32))])) (fun t k => XS.imul X212.here hx rfl (hb hby own_d5_70) rfl k) ?_
      refine oIC (n := 72) X212 hx (1 : Int32) (hb hby own_d5_71) (by decide) rfl ?_
      refine ov (B := T212.setTop (mkF m 73 #[rv aT, iv sT, .val (.double wT), .second, iv (4 : Int32), uu] [(.int (9 : Int32))])) (fun t k => XS.iadd X212.here hx rfl (hb hby own_d5_72) rfl k) ?_
      refine ov (B := T212.setTop (mkF m 75 #[rv aT, iv sT, .val (.double wT), .second, iv (4 : Int32), iv (9 : Int32)] [])) (fun t k => XS.istore X212.here hx rfl (hb hby own_d5_73) rfl (l' := #[rv aT, iv sT, .val (.double wT), .second, iv (4 : Int32), iv (9 : Int32)]) rfl k) ?_
      refine oIL (n := 77) X212 hx (hb hby own_d5_75) rfl rfl ?_
      refine oALN (n := 78) X212 hx (hb hby own_d5_77) rfl rfl rfl ?_
      obtain ⟨T256, X256, e256, st256⟩ := getF X212 hx hZ hown (host := "") (Or.inl (oW hw 13 rfl)) Via.refl eq212 (Fh.other W3 (Or.inl (Exa.neArv (Eo.wr W3) V3 (oW hw 1 rfl)))) (g := (mkF m 78 #[rv aT, iv sT, .val (.double wT), .second, iv (4 : Int32), iv (9 : Int32)] [(.ref aT), (.int (9 : Int32))])) rfl rfl (hb hby own_d5_78)
      refine ov (B := T256.setTop (mkF m 81 #[rv aT, iv sT, .val (.double wT), .second, iv (4 : Int32), iv (9 : Int32)] [(.ref hT), (.int (9 : Int32))])) (fun t k => st256 t k) ?_
      obtain ⟨cl257, Ar257, q257, S257, M257, H257, G257⟩ := id (Vh.other W3 (Ne.symm ngh))
      refine ov (B := T256.setTop (mkF m 82 #[rv aT, iv sT, .val (.double wT), .second, iv (4 : Int32), iv (9 : Int32)] [(.int (6 : Int32)), (.int (9 : Int32))])) (fun t k => X256.arraylength hx (by rw [e256]; exact Ar257.1) (State.isArrayOf_alike hZ.alike Ar257.2.1) (g := (mkF m 81 #[rv aT, iv sT, .val (.double wT), .second, iv (4 : Int32), iv (9 : Int32)] [(.ref hT), (.int (9 : Int32))])) rfl rfl (hb hby own_d5_81) _ (by rw [len_of S257 M257]; exact k)) ?_
      have hc82 : ¬ ((9 : Int32) < (6 : Int32)) := by decide
      refine ov (B := T256.setTop (mkF m 85 #[rv aT, iv sT, .val (.double wT), .second, iv (4 : Int32), iv (9 : Int32)] [])) (fun t k => XS.icmpNo X256.here hx rfl (hb hby own_d5_82) rfl (flt hc82).1 k) ?_
      refine oGO (n := 164) X256 hx (hb hby own_d5_85) (by decide) (by decide) ?_
      refine oALN (n := 165) X256 hx (hb hby own_d5_164) rfl rfl rfl ?_
      refine oILN (n := 166) X256 hx (hb hby own_d5_165) rfl rfl ?_
      refine oIL (n := 168) X256 hx (hb hby own_d5_166) rfl rfl ?_
      obtain ⟨cq258, q258, q258'⟩ := (Eo.wr W3).cell
      obtain ⟨_, _, ⟨T258, L258, k258, n258⟩, -, X258, ⟨Lc258, hQ258, l258, y258, z258⟩, st258⟩ := X256.privateBack hx (y := (⟨"com/example/meerkat/meerkat/simulate/Completions", "move", "(II)V"⟩ : MethodName)) hown (mvT hZ (oW hw 36 rfl)) (mvT hZ (oW hw 37 rfl)) (own_selP (y' := (⟨"com/example/meerkat/meerkat/simulate/Completions", "set", "(ID)V"⟩ : MethodName)) rfl (mvT hZ (oW hw 30 rfl)) (Cond.privateMethod_at (mvP hZ (oW hw 38 rfl) (args := #[]))) (mvT hZ (oW hw 37 rfl)) (by decide)) (Cond.privateMethod_at (mvP hZ (oW hw 38 rfl) (args := #[]))) (mvT hZ (oW hw 39 rfl)) (by decide) (backOf (W := 0) (rmM l Z a0 hw [] aT sT (4 : Int32) hT pT kh kp [eA, eB, eC, eD, eE, eF] PP h3 n0 (Nat.le_trans Z0 (Keep.of_wr W3).1) (Eo.wr W3) (Fh.other W3 (Or.inl (Exa.neArv (Eo.wr W3) V3 (oW hw 1 rfl)))) (Fp.other W3 (Or.inl (Exa.neArv (Eo.wr W3) V3 (oW hw 1 rfl)))) (Vh.other W3 (Ne.symm ngh)) (Vp.other W3 (Ne.symm ngp)) nhp g_hT g_pT rfl qL qR ⟨by decide, by decide⟩) hZ (oW hw 39 rfl) (oW hw 2 rfl) (by decide) (by decide)) (g := (mkF m 168 #[rv aT, iv sT, .val (.double wT), .second, iv (4 : Int32), iv (9 : Int32)] [(.int (4 : Int32)), (.int sT), (.ref aT)])) rfl (by rw [hml]; rfl) (Steps.refl _) (a := aT) (by rw [e256]; exact q258) q258' (argsL := [(.int sT), (.int (4 : Int32))]) (rest := []) (lenOf own_pd1 rfl) rfl (by show 2 * 0 + _ ≤ _; exact Nat.le_of_eq rfl) (hb hby own_d5_168) (fun _ _ => ⟨rfl, e256, (by decide : (0 + 0) + 0 ≤ _), (by decide : (0 + 0) + 0 ≤ _)⟩)
      dsimp only [Pt.U, Pt.locs, Pt.cells, Pt.slots] at X258 l258 y258 z258 st258 hQ258
      subst l258 y258 z258
      obtain ⟨rfl, Nq258, Kq258, f258_0, f258_1⟩ := hQ258
      have N258 := Fr.app N212 Nq258
      have Vh258 : Arv Z T258.heap hT kh .int (6 : Int32) [(.int eA), (.int eB), (.int eC), (.int eD), (.int sT), (.int eF)] (.int (0 : Int32)) := f258_0
      refine ov (B := T258.setTop (mkF m 171 #[rv aT, iv sT, .val (.double wT), .second, iv (4 : Int32), iv (9 : Int32)] [])) (fun t k => st258.trans k) ?_
      refine own_leafV X258 hx hlk Bd.returns (hb hby own_d5_171) (by decide) (by decide) ?_
      show QT Z aT sT wT gT hT pT kt kh kp tt PP eA eB eC eD eE eF yT h0 n0 _ T258.heap _
      refine ⟨eA, eB, eC, eD, sT, eF, (own_mv PP sT (4 : Int32)), ?_, N258, (((Keep.refl h0 [gT, hT, pT]).wr W3 (Or.inl (List.mem_of_getElem? (i := 0) rfl))).trans Kq258 (allS (Or.inl (List.mem_of_getElem? (i := 1) rfl)) (allS (Or.inl (List.mem_of_getElem? (i := 2) rfl)) all0))), ?_, ?_, ?_, ?_, (V3.keep Kq258 (ninS ngh (ninS ngp nin0))), Vh258, f258_1⟩
      · rfl
      · exact own_I1mv qI qR qY
      · exact ⟨(own_mvl qL), reA, reB, reC, reD, qR, reF, ((own_mvN neA qR reA).trans peA), ((own_mvN neB qR reB).trans peB), ((own_mvN neC qR reC).trans peC), ((own_mvN neD qR reD).trans peD), (own_mvS qL qR), ((own_mvN neF qR reF).trans peF)⟩
      · intro q hq'
        rcases qS q hq' with h | h | h | h | h | h
        · exact Or.inl (h)
        · exact Or.inr (Or.inl (h))
        · exact Or.inr (Or.inr (Or.inl (h)))
        · exact Or.inr (Or.inr (Or.inr (Or.inl (h))))
        · exact Or.inr (Or.inr (Or.inr (Or.inr (Or.inl (h.trans hq.symm)))))
        · exact Or.inr (Or.inr (Or.inr (Or.inr (Or.inr ((h))))))
      · exact ⟨by omega, by omega, by omega, by omega, by omega⟩
  · have hk : PP.getD sT.toNatClampNeg 0 = (5 : Int32) := by rw [hq]; exact peF
    rw [hk]
    have neA : sT ≠ eA := own_ppne (l := PP) hk peA (by decide)
    have eeA : own_rk (own_mv tt sT yT) eA = own_rk tt eA := own_rkne neA qR reA
    have neB : sT ≠ eB := own_ppne (l := PP) hk peB (by decide)
    have eeB : own_rk (own_mv tt sT yT) eB = own_rk tt eB := own_rkne neB qR reB
    have neC : sT ≠ eC := own_ppne (l := PP) hk peC (by decide)
    have eeC : own_rk (own_mv tt sT yT) eC = own_rk tt eC := own_rkne neC qR reC
    have neD : sT ≠ eD := own_ppne (l := PP) hk peD (by decide)
    have eeD : own_rk (own_mv tt sT yT) eD = own_rk tt eD := own_rkne neD qR reD
    have neE : sT ≠ eE := own_ppne (l := PP) hk peE (by decide)
    have eeE : own_rk (own_mv tt sT yT) eE = own_rk tt eE := own_rkne neE qR reE
    refine oIL (n := 17) X4 hx (hb hby own_d5_15) rfl rfl ?_
    have hc17 : (0 : Int32) < (5 : Int32) := by decide
    refine ov (B := T4.setTop (mkF m 20 #[rv aT, iv sT, .val (.double wT), .second, iv (5 : Int32), uu] [])) (fun t k => XS.ifNo X4.here hx rfl (hb hby own_d5_17) rfl ((if0 _ _).trans (tlt hc17).2.2.2) k) ?_
    refine oALN (n := 21) X4 hx (hb hby own_d5_20) rfl rfl rfl ?_
    refine oILN (n := 22) X4 hx (hb hby own_d5_21) rfl rfl ?_
    refine oALN (n := 23) X4 hx (hb hby own_d5_22) rfl rfl rfl ?_
    obtain ⟨T259, X259, e259, st259⟩ := getF X4 hx hZ hown (host := "") (Or.inl (oW hw 13 rfl)) Via.refl e4 (Fh.other W3 (Or.inl (Exa.neArv (Eo.wr W3) V3 (oW hw 1 rfl)))) (g := (mkF m 23 #[rv aT, iv sT, .val (.double wT), .second, iv (5 : Int32), uu] [(.ref aT), (.int sT), (.ref aT)])) rfl rfl (hb hby own_d5_23)
    refine ov (B := T259.setTop (mkF m 26 #[rv aT, iv sT, .val (.double wT), .second, iv (5 : Int32), uu] [(.ref hT), (.int sT), (.ref aT)])) (fun t k => st259 t k) ?_
    refine oIL (n := 28) X259 hx (hb hby own_d5_26) rfl rfl ?_
    refine oIC (n := 29) X259 hx (1 : Int32) (hb hby own_d5_28) (by decide) rfl ?_
    refine ov (B := T259.setTop (mkF m 30 #[rv aT, iv sT, .val (.double wT), .second, iv (5 : Int32), uu] [(.int (4 : Int32)), (.ref hT), (.int sT), (.ref aT)])) (fun t k => XS.isub X259.here hx rfl (hb hby own_d5_29) rfl k) ?_
    refine oIC (n := 31) X259 hx (2 : Int32) (hb hby own_d5_30) (by decide) rfl ?_
    refine ov (B := T259.setTop (mkF m 32 #[rv aT, iv sT, .val (.double wT), .second, iv (5 : Int32), uu] [(.int (2 : Int32)), (.ref hT), (.int sT), (.ref aT)])) (fun t k => XS.idiv X259.here hx rfl (hb hby own_d5_31) rfl (by decide) (by rw [(by decide : (4 : Int32) / (2 : Int32) = (2 : Int32))]; exact k)) ?_
    obtain ⟨cl260, Ar260, q260, S260, M260, H260, G260⟩ := id (Vh.other W3 (Ne.symm ngh))
    have hin260 : ¬ ((2 : Int32) < 0 ∨ cl260.slots.size ≤ ((2 : Int32)).toNatClampNeg) := inb_of S260 ⟨by decide, by decide⟩
    refine ov (B := T259.setTop (mkF m 33 #[rv aT, iv sT, .val (.double wT), .second, iv (5 : Int32), uu] [(.int eC), (.int sT), (.ref aT)])) (fun t k => X259.iaload hx (j := (2 : Int32)) (v := (.int eC)) (by rw [e259]; exact Ar260.1) (State.isArrayOf_alike hZ.alike Ar260.2.1) Ar260.2.2 hin260 (Has.at H260 hin260 rfl) (g := (mkF m 32 #[rv aT, iv sT, .val (.double wT), .second, iv (5 : Int32), uu] [(.int (2 : Int32)), (.ref hT), (.int sT), (.ref aT)])) rfl rfl (hb hby own_d5_32) _ k) ?_
    obtain ⟨cq261, q261, q261'⟩ := (Eo.wr W3).cell
    obtain ⟨_, _, ⟨T261, L261, k261, n261⟩, -, X261, ⟨Lc261, hQ261, l261, y261, z261⟩, st261⟩ := X259.privateBack hx (y := (⟨"com/example/meerkat/meerkat/simulate/Completions", "before", "(II)Z"⟩ : MethodName)) hown (mvT hZ (oW hw 32 rfl)) (mvT hZ (oW hw 33 rfl)) (own_selP (y' := (⟨"com/example/meerkat/meerkat/simulate/Completions", "set", "(ID)V"⟩ : MethodName)) rfl (mvT hZ (oW hw 30 rfl)) (Cond.privateMethod_at (mvP hZ (oW hw 34 rfl) (args := #[]))) (mvT hZ (oW hw 33 rfl)) (by decide)) (Cond.privateMethod_at (mvP hZ (oW hw 34 rfl) (args := #[]))) (mvT hZ (oW hw 35 rfl)) (by decide) (backOf (W := 0) (rmB l Z a0 hw [] aT sT eC gT kt (own_mv tt sT yT) h3 n0 (Nat.le_trans Z0 (Keep.of_wr W3).1) (Ft.other W3 (Or.inl (Exa.neArv (Eo.wr W3) V3 (oW hw 1 rfl)))) V3 (own_I1mv qI qR qY) qR reC) hZ (oW hw 35 rfl) (oW hw 2 rfl) (by decide) (by decide)) (g := (mkF m 33 #[rv aT, iv sT, .val (.double wT), .second, iv (5 : Int32), uu] [(.int eC), (.int sT), (.ref aT)])) rfl (by rw [hml]; rfl) (Steps.refl _) (a := aT) (by rw [e259]; exact q261) q261' (argsL := [(.int sT), (.int eC)]) (rest := []) (lenOf own_pd0 rfl) rfl (by show 2 * 0 + _ ≤ _; exact Nat.le_of_eq rfl) (hb hby own_d5_33) (fun _ _ => ⟨rfl, e259, (by decide : 0 + 0 ≤ _), (by decide : 0 + 0 ≤ _)⟩)
    dsimp only [Pt.U, Pt.locs, Pt.cells, Pt.slots] at X261 l261 y261 z261 st261 hQ261
    subst l261 y261 z261
    obtain ⟨rfl, Nq261, eq261⟩ := hQ261
    have N261 := Fr.app N3 Nq261
    refine ov (B := T261.setTop (mkF m 36 #[rv aT, iv sT, .val (.double wT), .second, iv (5 : Int32), uu] [(.int (own_bit (own_rk (own_mv tt sT yT) sT < own_rk (own_mv tt sT yT) eC)))])) (fun t k => st261.trans k) ?_
    by_cases hc36 : own_rk (own_mv tt sT yT) sT < own_rk (own_mv tt sT yT) eC
    · refine ov (B := T261.setTop (mkF m 39 #[rv aT, iv sT, .val (.double wT), .second, iv (5 : Int32), uu] [])) (fun t k => XS.ifNo X261.here hx rfl (hb hby own_d5_36) rfl ((if0 _ _).trans (feq (own_bitne hc36)).1) k) ?_
      refine oALN (n := 40) X261 hx (hb hby own_d5_39) rfl rfl rfl ?_
      refine oALN (n := 41) X261 hx (hb hby own_d5_40) rfl rfl rfl ?_
      obtain ⟨T262, X262, e262, st262⟩ := getF X261 hx hZ hown (host := "") (Or.inl (oW hw 13 rfl)) Via.refl eq261 (Fh.other W3 (Or.inl (Exa.neArv (Eo.wr W3) V3 (oW hw 1 rfl)))) (g := (mkF m 41 #[rv aT, iv sT, .val (.double wT), .second, iv (5 : Int32), uu] [(.ref aT), (.ref aT)])) rfl rfl (hb hby own_d5_41)
      refine ov (B := T262.setTop (mkF m 44 #[rv aT, iv sT, .val (.double wT), .second, iv (5 : Int32), uu] [(.ref hT), (.ref aT)])) (fun t k => st262 t k) ?_
      refine oIL (n := 46) X262 hx (hb hby own_d5_44) rfl rfl ?_
      refine oIC (n := 47) X262 hx (1 : Int32) (hb hby own_d5_46) (by decide) rfl ?_
      refine ov (B := T262.setTop (mkF m 48 #[rv aT, iv sT, .val (.double wT), .second, iv (5 : Int32), uu] [(.int (4 : Int32)), (.ref hT), (.ref aT)])) (fun t k => XS.isub X262.here hx rfl (hb hby own_d5_47) rfl k) ?_
      refine oIC (n := 49) X262 hx (2 : Int32) (hb hby own_d5_48) (by decide) rfl ?_
      refine ov (B := T262.setTop (mkF m 50 #[rv aT, iv sT, .val (.double wT), .second, iv (5 : Int32), uu] [(.int (2 : Int32)), (.ref hT), (.ref aT)])) (fun t k => XS.idiv X262.here hx rfl (hb hby own_d5_49) rfl (by decide) (by rw [(by decide : (4 : Int32) / (2 : Int32) = (2 : Int32))]; exact k)) ?_
      obtain ⟨cl263, Ar263, q263, S263, M263, H263, G263⟩ := id (Vh.other W3 (Ne.symm ngh))
      have hin263 : ¬ ((2 : Int32) < 0 ∨ cl263.slots.size ≤ ((2 : Int32)).toNatClampNeg) := inb_of S263 ⟨by decide, by decide⟩
      refine ov (B := T262.setTop (mkF m 51 #[rv aT, iv sT, .val (.double wT), .second, iv (5 : Int32), uu] [(.int eC), (.ref aT)])) (fun t k => X262.iaload hx (j := (2 : Int32)) (v := (.int eC)) (by rw [e262]; exact Ar263.1) (State.isArrayOf_alike hZ.alike Ar263.2.1) Ar263.2.2 hin263 (Has.at H263 hin263 rfl) (g := (mkF m 50 #[rv aT, iv sT, .val (.double wT), .second, iv (5 : Int32), uu] [(.int (2 : Int32)), (.ref hT), (.ref aT)])) rfl rfl (hb hby own_d5_50) _ k) ?_
      refine oIL (n := 53) X262 hx (hb hby own_d5_51) rfl rfl ?_
      obtain ⟨cq264, q264, q264'⟩ := (Eo.wr W3).cell
      obtain ⟨_, _, ⟨T264, L264, k264, n264⟩, -, X264, ⟨Lc264, hQ264, l264, y264, z264⟩, st264⟩ := X262.privateBack hx (y := (⟨"com/example/meerkat/meerkat/simulate/Completions", "move", "(II)V"⟩ : MethodName)) hown (mvT hZ (oW hw 36 rfl)) (mvT hZ (oW hw 37 rfl)) (own_selP (y' := (⟨"com/example/meerkat/meerkat/simulate/Completions", "set", "(ID)V"⟩ : MethodName)) rfl (mvT hZ (oW hw 30 rfl)) (Cond.privateMethod_at (mvP hZ (oW hw 38 rfl) (args := #[]))) (mvT hZ (oW hw 37 rfl)) (by decide)) (Cond.privateMethod_at (mvP hZ (oW hw 38 rfl) (args := #[]))) (mvT hZ (oW hw 39 rfl)) (by decide) (backOf (W := 0) (rmM l Z a0 hw [] aT eC (5 : Int32) hT pT kh kp [eA, eB, eC, eD, eE, eF] PP h3 n0 (Nat.le_trans Z0 (Keep.of_wr W3).1) (Eo.wr W3) (Fh.other W3 (Or.inl (Exa.neArv (Eo.wr W3) V3 (oW hw 1 rfl)))) (Fp.other W3 (Or.inl (Exa.neArv (Eo.wr W3) V3 (oW hw 1 rfl)))) (Vh.other W3 (Ne.symm ngh)) (Vp.other W3 (Ne.symm ngp)) nhp g_hT g_pT rfl qL reC ⟨by decide, by decide⟩) hZ (oW hw 39 rfl) (oW hw 2 rfl) (by decide) (by decide)) (g := (mkF m 53 #[rv aT, iv sT, .val (.double wT), .second, iv (5 : Int32), uu] [(.int (5 : Int32)), (.int eC), (.ref aT)])) rfl (by rw [hml]; rfl) (Steps.refl _) (a := aT) (by rw [e262]; exact q264) q264' (argsL := [(.int eC), (.int (5 : Int32))]) (rest := []) (lenOf own_pd1 rfl) rfl (by show 2 * 0 + _ ≤ _; exact Nat.le_of_eq rfl) (hb hby own_d5_53) (fun _ _ => ⟨rfl, e262, (by decide : (0 + 0) + 0 ≤ _), (by decide : (0 + 0) + 0 ≤ _)⟩)
      dsimp only [Pt.U, Pt.locs, Pt.cells, Pt.slots] at X264 l264 y264 z264 st264 hQ264
      subst l264 y264 z264
      obtain ⟨rfl, Nq264, Kq264, f264_0, f264_1⟩ := hQ264
      have N264 := Fr.app N261 Nq264
      have Vh264 : Arv Z T264.heap hT kh .int (6 : Int32) [(.int eA), (.int eB), (.int eC), (.int eD), (.int eE), (.int eC)] (.int (0 : Int32)) := f264_0
      refine ov (B := T264.setTop (mkF m 56 #[rv aT, iv sT, .val (.double wT), .second, iv (5 : Int32), uu] [])) (fun t k => st264.trans k) ?_
      refine oIL (n := 58) X264 hx (hb hby own_d5_56) rfl rfl ?_
      refine oIC (n := 59) X264 hx (1 : Int32) (hb hby own_d5_58) (by decide) rfl ?_
      refine ov (B := T264.setTop (mkF m 60 #[rv aT, iv sT, .val (.double wT), .second, iv (5 : Int32), uu] [(.int (4 : Int32))])) (fun t k => XS.isub X264.here hx rfl (hb hby own_d5_59) rfl k) ?_
      refine oIC (n := 61) X264 hx (2 : Int32) (hb hby own_d5_60) (by decide) rfl ?_
      refine ov (B := T264.setTop (mkF m 62 #[rv aT, iv sT, .val (.double wT), .second, iv (5 : Int32), uu] [(.int (2 : Int32))])) (fun t k => XS.idiv X264.here hx rfl (hb hby own_d5_61) rfl (by decide) (by rw [(by decide : (4 : Int32) / (2 : Int32) = (2 : Int32))]; exact k)) ?_
      refine ov (B := T264.setTop (mkF m 64 #[rv aT, iv sT, .val (.double wT), .second, iv (2 : Int32), uu] [])) (fun t k => XS.istore X264.here hx rfl (hb hby own_d5_62) rfl (l' := #[rv aT, iv sT, .val (.double wT), .second, iv (2 : Int32), uu]) rfl k) ?_
      refine oGO (n := 15) X264 hx (hb hby own_d5_64) (by decide) (by decide) ?_
      refine oIL (n := 17) X264 hx (hb hby own_d5_15) rfl rfl ?_
      have hc17 : (0 : Int32) < (2 : Int32) := by decide
      refine ov (B := T264.setTop (mkF m 20 #[rv aT, iv sT, .val (.double wT), .second, iv (2 : Int32), uu] [])) (fun t k => XS.ifNo X264.here hx rfl (hb hby own_d5_17) rfl ((if0 _ _).trans (tlt hc17).2.2.2) k) ?_
      refine oALN (n := 21) X264 hx (hb hby own_d5_20) rfl rfl rfl ?_
      refine oILN (n := 22) X264 hx (hb hby own_d5_21) rfl rfl ?_
      refine oALN (n := 23) X264 hx (hb hby own_d5_22) rfl rfl rfl ?_
      obtain ⟨T265, X265, e265, st265⟩ := getF X264 hx hZ hown (host := "") (Or.inl (oW hw 13 rfl)) Via.refl rfl ((Fh.other W3 (Or.inl (Exa.neArv (Eo.wr W3) V3 (oW hw 1 rfl)))).keep Kq264 (ninS (Exa.neArv ((Eo.wr W3).keep Kq264) Vh264 (oW hw 1 rfl)) (ninS (Exa.neArv ((Eo.wr W3).keep Kq264) f264_1 (oW hw 1 rfl)) nin0))) (g := (mkF m 23 #[rv aT, iv sT, .val (.double wT), .second, iv (2 : Int32), uu] [(.ref aT), (.int sT), (.ref aT)])) rfl rfl (hb hby own_d5_23)
      refine ov (B := T265.setTop (mkF m 26 #[rv aT, iv sT, .val (.double wT), .second, iv (2 : Int32), uu] [(.ref hT), (.int sT), (.ref aT)])) (fun t k => st265 t k) ?_
      refine oIL (n := 28) X265 hx (hb hby own_d5_26) rfl rfl ?_
      refine oIC (n := 29) X265 hx (1 : Int32) (hb hby own_d5_28) (by decide) rfl ?_
      refine ov (B := T265.setTop (mkF m 30 #[rv aT, iv sT, .val (.double wT), .second, iv (2 : Int32), uu] [(.int (1 : Int32)), (.ref hT), (.int sT), (.ref aT)])) (fun t k => XS.isub X265.here hx rfl (hb hby own_d5_29) rfl k) ?_
      refine oIC (n := 31) X265 hx (2 : Int32) (hb hby own_d5_30) (by decide) rfl ?_
      refine ov (B := T265.setTop (mkF m 32 #[rv aT, iv sT, .val (.double wT), .second, iv (2 : Int32), uu] [(.int (0 : Int32)), (.ref hT), (.int sT), (.ref aT)])) (fun t k => XS.idiv X265.here hx rfl (hb hby own_d5_31) rfl (by decide) (by rw [(by decide : (1 : Int32) / (2 : Int32) = (0 : Int32))]; exact k)) ?_
      obtain ⟨cl266, Ar266, q266, S266, M266, H266, G266⟩ := id Vh264
      have hin266 : ¬ ((0 : Int32) < 0 ∨ cl266.slots.size ≤ ((0 : Int32)).toNatClampNeg) := inb_of S266 ⟨by decide, by decide⟩
      refine ov (B := T265.setTop (mkF m 33 #[rv aT, iv sT, .val (.double wT), .second, iv (2 : Int32), uu] [(.int eA), (.int sT), (.ref aT)])) (fun t k => X265.iaload hx (j := (0 : Int32)) (v := (.int eA)) (by rw [e265]; exact Ar266.1) (State.isArrayOf_alike hZ.alike Ar266.2.1) Ar266.2.2 hin266 (Has.at H266 hin266 rfl) (g := (mkF m 32 #[rv aT, iv sT, .val (.double wT), .second, iv (2 : Int32), uu] [(.int (0 : Int32)), (.ref hT), (.int sT), (.ref aT)])) rfl rfl (hb hby own_d5_32) _ k) ?_
      obtain ⟨cq267, q267, q267'⟩ := ((Eo.wr W3).keep Kq264).cell
      obtain ⟨_, _, ⟨T267, L267, k267, n267⟩, -, X267, ⟨Lc267, hQ267, l267, y267, z267⟩, st267⟩ := X265.privateBack hx (y := (⟨"com/example/meerkat/meerkat/simulate/Completions", "before", "(II)Z"⟩ : MethodName)) hown (mvT hZ (oW hw 32 rfl)) (mvT hZ (oW hw 33 rfl)) (own_selP (y' := (⟨"com/example/meerkat/meerkat/simulate/Completions", "set", "(ID)V"⟩ : MethodName)) rfl (mvT hZ (oW hw 30 rfl)) (Cond.privateMethod_at (mvP hZ (oW hw 34 rfl) (args := #[]))) (mvT hZ (oW hw 33 rfl)) (by decide)) (Cond.privateMethod_at (mvP hZ (oW hw 34 rfl) (args := #[]))) (mvT hZ (oW hw 35 rfl)) (by decide) (backOf (W := 0) (rmB l Z a0 hw [] aT sT eA gT kt (own_mv tt sT yT) T264.heap n0 (Nat.le_trans (Nat.le_trans Z0 (Keep.of_wr W3).1) Kq264.1) ((Ft.other W3 (Or.inl (Exa.neArv (Eo.wr W3) V3 (oW hw 1 rfl)))).keep Kq264 (ninS (Exa.neArv ((Eo.wr W3).keep Kq264) Vh264 (oW hw 1 rfl)) (ninS (Exa.neArv ((Eo.wr W3).keep Kq264) f264_1 (oW hw 1 rfl)) nin0))) (V3.keep Kq264 (ninS ngh (ninS ngp nin0))) (own_I1mv qI qR qY) qR reA) hZ (oW hw 35 rfl) (oW hw 2 rfl) (by decide) (by decide)) (g := (mkF m 33 #[rv aT, iv sT, .val (.double wT), .second, iv (2 : Int32), uu] [(.int eA), (.int sT), (.ref aT)])) rfl (by rw [hml]; rfl) (Steps.refl _) (a := aT) (by rw [e265]; exact q267) q267' (argsL := [(.int sT), (.int eA)]) (rest := []) (lenOf own_pd0 rfl) rfl (by show 2 * 0 + _ ≤ _; exact Nat.le_of_eq rfl) (hb hby own_d5_33) (fun _ _ => ⟨rfl, e265, (by decide : ((0 + 0) + 0) + 0 ≤ _), (by decide : ((0 + 0) + 0) + 0 ≤ _)⟩)
      dsimp only [Pt.U, Pt.locs, Pt.cells, Pt.slots] at X267 l267 y267 z267 st267 hQ267
      subst l267 y267 z267
      obtain ⟨rfl, Nq267, eq267⟩ := hQ267
      have N267 := Fr.app N264 Nq267
      refine ov (B := T267.setTop (mkF m 36 #[rv aT, iv sT, .val (.double wT), .second, iv (2 : Int32), uu] [(.int (own_bit (own_rk (own_mv tt sT yT) sT < own_rk (own_mv tt sT yT) eA)))])) (fun t k => st267.trans k) ?_
      by_cases hc36 : own_rk (own_mv tt sT yT) sT < own_rk (own_mv tt sT yT) eA
      · refine ov (B := T267.setTop (mkF m 39 #[rv aT, iv sT, .val (.double wT), .second, iv (2 : Int32), uu] [])) (fun t k => XS.ifNo X267.here hx rfl (hb hby own_d5_36) rfl ((if0 _ _).trans (feq (own_bitne hc36)).1) k) ?_
        refine oALN (n := 40) X267 hx (hb hby own_d5_39) rfl rfl rfl ?_
        refine oALN (n := 41) X267 hx (hb hby own_d5_40) rfl rfl rfl ?_
        obtain ⟨T268, X268, e268, st268⟩ := getF X267 hx hZ hown (host := "") (Or.inl (oW hw 13 rfl)) Via.refl eq267 ((Fh.other W3 (Or.inl (Exa.neArv (Eo.wr W3) V3 (oW hw 1 rfl)))).keep Kq264 (ninS (Exa.neArv ((Eo.wr W3).keep Kq264) Vh264 (oW hw 1 rfl)) (ninS (Exa.neArv ((Eo.wr W3).keep Kq264) f264_1 (oW hw 1 rfl)) nin0))) (g := (mkF m 41 #[rv aT, iv sT, .val (.double wT), .second, iv (2 : Int32), uu] [(.ref aT), (.ref aT)])) rfl rfl (hb hby own_d5_41)
        refine ov (B := T268.setTop (mkF m 44 #[rv aT, iv sT, .val (.double wT), .second, iv (2 : Int32), uu] [(.ref hT), (.ref aT)])) (fun t k => st268 t k) ?_
        refine oIL (n := 46) X268 hx (hb hby own_d5_44) rfl rfl ?_
        refine oIC (n := 47) X268 hx (1 : Int32) (hb hby own_d5_46) (by decide) rfl ?_
        refine ov (B := T268.setTop (mkF m 48 #[rv aT, iv sT, .val (.double wT), .second, iv (2 : Int32), uu] [(.int (1 : Int32)), (.ref hT), (.ref aT)])) (fun t k => XS.isub X268.here hx rfl (hb hby own_d5_47) rfl k) ?_
        refine oIC (n := 49) X268 hx (2 : Int32) (hb hby own_d5_48) (by decide) rfl ?_
        refine ov (B := T268.setTop (mkF m 50 #[rv aT, iv sT, .val (.double wT), .second, iv (2 : Int32), uu] [(.int (0 : Int32)), (.ref hT), (.ref aT)])) (fun t k => XS.idiv X268.here hx rfl (hb hby own_d5_49) rfl (by decide) (by rw [(by decide : (1 : Int32) / (2 : Int32) = (0 : Int32))]; exact k)) ?_
        obtain ⟨cl269, Ar269, q269, S269, M269, H269, G269⟩ := id Vh264
        have hin269 : ¬ ((0 : Int32) < 0 ∨ cl269.slots.size ≤ ((0 : Int32)).toNatClampNeg) := inb_of S269 ⟨by decide, by decide⟩
        refine ov (B := T268.setTop (mkF m 51 #[rv aT, iv sT, .val (.double wT), .second, iv (2 : Int32), uu] [(.int eA), (.ref aT)])) (fun t k => X268.iaload hx (j := (0 : Int32)) (v := (.int eA)) (by rw [e268]; exact Ar269.1) (State.isArrayOf_alike hZ.alike Ar269.2.1) Ar269.2.2 hin269 (Has.at H269 hin269 rfl) (g := (mkF m 50 #[rv aT, iv sT, .val (.double wT), .second, iv (2 : Int32), uu] [(.int (0 : Int32)), (.ref hT), (.ref aT)])) rfl rfl (hb hby own_d5_50) _ k) ?_
        refine oIL (n := 53) X268 hx (hb hby own_d5_51) rfl rfl ?_
        obtain ⟨cq270, q270, q270'⟩ := ((Eo.wr W3).keep Kq264).cell
        obtain ⟨_, _, ⟨T270, L270, k270, n270⟩, -, X270, ⟨Lc270, hQ270, l270, y270, z270⟩, st270⟩ := X268.privateBack hx (y := (⟨"com/example/meerkat/meerkat/simulate/Completions", "move", "(II)V"⟩ : MethodName)) hown (mvT hZ (oW hw 36 rfl)) (mvT hZ (oW hw 37 rfl)) (own_selP (y' := (⟨"com/example/meerkat/meerkat/simulate/Completions", "set", "(ID)V"⟩ : MethodName)) rfl (mvT hZ (oW hw 30 rfl)) (Cond.privateMethod_at (mvP hZ (oW hw 38 rfl) (args := #[]))) (mvT hZ (oW hw 37 rfl)) (by decide)) (Cond.privateMethod_at (mvP hZ (oW hw 38 rfl) (args := #[]))) (mvT hZ (oW hw 39 rfl)) (by decide) (backOf (W := 0) (rmM l Z a0 hw [] aT eA (2 : Int32) hT pT kh kp [eA, eB, eC, eD, eE, eC] (own_mv PP eC (5 : Int32)) T264.heap n0 (Nat.le_trans (Nat.le_trans Z0 (Keep.of_wr W3).1) Kq264.1) ((Eo.wr W3).keep Kq264) ((Fh.other W3 (Or.inl (Exa.neArv (Eo.wr W3) V3 (oW hw 1 rfl)))).keep Kq264 (ninS (Exa.neArv ((Eo.wr W3).keep Kq264) Vh264 (oW hw 1 rfl)) (ninS (Exa.neArv ((Eo.wr W3).keep Kq264) f264_1 (oW hw 1 rfl)) nin0))) ((Fp.other W3 (Or.inl (Exa.neArv (Eo.wr W3) V3 (oW hw 1 rfl)))).keep Kq264 (ninS (Exa.neArv ((Eo.wr W3).keep Kq264) Vh264 (oW hw 1 rfl)) (ninS (Exa.neArv ((Eo.wr W3).keep Kq264) f264_1 (oW hw 1 rfl)) nin0))) Vh264 f264_1 nhp g_hT g_pT rfl (own_mvl qL) reA ⟨by decide, by decide⟩) hZ (oW hw 39 rfl) (oW hw 2 rfl) (by decide) (by decide)) (g := (mkF m 53 #[rv aT, iv sT, .val (.double wT), .second, iv (2 : Int32), uu] [(.int (2 : Int32)), (.int eA), (.ref aT)])) rfl (by rw [hml]; rfl) (Steps.refl _) (a := aT) (by rw [e268]; exact q270) q270' (argsL := [(.int eA), (.int (2 : Int32))]) (rest := []) (lenOf own_pd1 rfl) rfl (by show 2 * 0 + _ ≤ _; exact Nat.le_of_eq rfl) (hb hby own_d5_53) (fun _ _ => ⟨rfl, e268, (by decide : (((0 + 0) + 0) + 0) + 0 ≤ _), (by decide : (((0 + 0) + 0) + 0) + 0 ≤ _)⟩)
        dsimp only [Pt.U, Pt.locs, Pt.cells, Pt.slots] at X270 l270 y270 z270 st270 hQ270
        subst l270 y270 z270
        obtain ⟨rfl, Nq270, Kq270, f270_0, f270_1⟩ := hQ270
        have N270 := Fr.app N267 Nq270
        have Vh270 : Arv Z T270.heap hT kh .int (6 : Int32) [(.int eA), (.int eB), (.int eA), (.int eD), (.int eE), (.int eC)] (.int (0 : Int32)) := f270_0
        refine ov (B := T270.setTop (mkF m 56 #[rv aT, iv sT, .val (.double wT), .second, iv (2 : Int32), uu] [])) (fun t k => st270.trans k) ?_
        refine oIL (n := 58) X270 hx (hb hby own_d5_56) rfl rfl ?_
        refine oIC (n := 59) X270 hx (1 : Int32) (hb hby own_d5_58) (by decide) rfl ?_
        refine ov (B := T270.setTop (mkF m 60 #[rv aT, iv sT, .val (.double wT), .second, iv (2 : Int32), uu] [(.int (1 : Int32))])) (fun t k => XS.isub X270.here hx rfl (hb hby own_d5_59) rfl k) ?_
        refine oIC (n := 61) X270 hx (2 : Int32) (hb hby own_d5_60) (by decide) rfl ?_
        refine ov (B := T270.setTop (mkF m 62 #[rv aT, iv sT, .val (.double wT), .second, iv (2 : Int32), uu] [(.int (0 : Int32))])) (fun t k => XS.idiv X270.here hx rfl (hb hby own_d5_61) rfl (by decide) (by rw [(by decide : (1 : Int32) / (2 : Int32) = (0 : Int32))]; exact k)) ?_
        refine ov (B := T270.setTop (mkF m 64 #[rv aT, iv sT, .val (.double wT), .second, iv (0 : Int32), uu] [])) (fun t k => XS.istore X270.here hx rfl (hb hby own_d5_62) rfl (l' := #[rv aT, iv sT, .val (.double wT), .second, iv (0 : Int32), uu]) rfl k) ?_
        refine oGO (n := 15) X270 hx (hb hby own_d5_64) (by decide) (by decide) ?_
        refine oIL (n := 17) X270 hx (hb hby own_d5_15) rfl rfl ?_
        have hc17 : ¬ ((0 : Int32) < (0 : Int32)) := by decide
        refine ov (B := T270.setTop (mkF m 67 #[rv aT, iv sT, .val (.double wT), .second, iv (0 : Int32), uu] [])) (fun t k => XS.ifYes X270.here hx rfl (pc0 := 17) (pc' := 67) rfl (hb hby own_d5_17) rfl ((if0 _ _).trans (flt hc17).2.2.2) (by decide) (by decide) k) ?_
        refine oIC (n := 68) X270 hx (2 : Int32) (hb hby own_d5_67) (by decide) rfl ?_
        refine oIL (n := 70) X270 hx (hb hby own_d5_68) rfl rfl ?_
        refine ov (B := T270.setTop (mkF m 71 #[rv aT, iv sT, .val (.double wT), .second, iv (0 : Int32), uu] [(.int (0 : Int32))])) (fun t k => XS.imul X270.here hx rfl (hb hby own_d5_70) rfl k) ?_
        refine oIC (n := 72) X270 hx (1 : Int32) (hb hby own_d5_71) (by decide) rfl ?_
        refine ov (B := T270.setTop (mkF m 73 #[rv aT, iv sT, .val (.double wT), .second, iv (0 : Int32), uu] [(.int (1 : Int32))])) (fun t k => XS.iadd X270.here hx rfl (hb hby own_d5_72) rfl k) ?_
        refine ov (B := T270.setTop (mkF m 75 #[rv aT, iv sT, .val (.double wT), .second, iv (0 : Int32), iv (1 : Int32)] [])) (fun t k => XS.istore X270.here hx rfl (hb hby own_d5_73) rfl (l' := #[rv aT, iv sT, .val (.double wT), .second, iv (0 : Int32), iv (1 : Int32)]) rfl k) ?_
        refine oIL (n := 77) X270 hx (hb hby own_d5_75) rfl rfl ?_
        refine oALN (n := 78) X270 hx (hb hby own_d5_77) rfl rfl rfl ?_
        obtain ⟨T271, X271, e271, st271⟩ := getF X270 hx hZ hown (host := "") (Or.inl (oW hw 13 rfl)) Via.refl rfl (((Fh.other W3 (Or.inl (Exa.neArv (Eo.wr W3) V3 (oW hw 1 rfl)))).keep Kq264 (ninS (Exa.neArv (((Eo.wr W3).keep Kq264).keep Kq270) Vh270 (oW hw 1 rfl)) (ninS (Exa.neArv (((Eo.wr W3).keep Kq264).keep Kq270) f270_1 (oW hw 1 rfl)) nin0))).keep Kq270 (ninS (Exa.neArv (((Eo.wr W3).keep Kq264).keep Kq270) Vh270 (oW hw 1 rfl)) (ninS (Exa.neArv (((Eo.wr W3).keep Kq264).keep Kq270) f270_1 (oW hw 1 rfl)) nin0))) (g := (mkF m 78 #[rv aT, iv sT, .val (.double wT), .second, iv (0 : Int32), iv (1 : Int32)] [(.ref aT), (.int (1 : Int32))])) rfl rfl (hb hby own_d5_78)
        refine ov (B := T271.setTop (mkF m 81 #[rv aT, iv sT, .val (.double wT), .second, iv (0 : Int32), iv (1 : Int32)] [(.ref hT), (.int (1 : Int32))])) (fun t k => st271 t k) ?_
        obtain ⟨cl272, Ar272, q272, S272, M272, H272, G272⟩ := id Vh270
        refine ov (B := T271.setTop (mkF m 82 #[rv aT, iv sT, .val (.double wT), .second, iv (0 : Int32), iv (1 : Int32)] [(.int (6 : Int32)), (.int (1 : Int32))])) (fun t k => X271.arraylength hx (by rw [e271]; exact Ar272.1) (State.isArrayOf_alike hZ.alike Ar272.2.1) (g := (mkF m 81 #[rv aT, iv sT, .val (.double wT), .second, iv (0 : Int32), iv (1 : Int32)] [(.ref hT), (.int (1 : Int32))])) rfl rfl (hb hby own_d5_81) _ (by rw [len_of S272 M272]; exact k)) ?_
        have hc82 : (1 : Int32) < (6 : Int32) := by decide
        refine ov (B := T271.setTop (mkF m 88 #[rv aT, iv sT, .val (.double wT), .second, iv (0 : Int32), iv (1 : Int32)] [])) (fun t k => XS.icmpYes X271.here hx rfl (pc0 := 82) (pc' := 88) rfl (hb hby own_d5_82) rfl (tlt hc82).1 (by decide) (by decide) k) ?_
        refine oIL (n := 90) X271 hx (hb hby own_d5_88) rfl rfl ?_
        refine oIC (n := 91) X271 hx (1 : Int32) (hb hby own_d5_90) (by decide) rfl ?_
        refine ov (B := T271.setTop (mkF m 92 #[rv aT, iv sT, .val (.double wT), .second, iv (0 : Int32), iv (1 : Int32)] [(.int (2 : Int32))])) (fun t k => XS.iadd X271.here hx rfl (hb hby own_d5_91) rfl k) ?_
        refine oALN (n := 93) X271 hx (hb hby own_d5_92) rfl rfl rfl ?_
        obtain ⟨T273, X273, e273, st273⟩ := getF X271 hx hZ hown (host := "") (Or.inl (oW hw 13 rfl)) Via.refl e271 (((Fh.other W3 (Or.inl (Exa.neArv (Eo.wr W3) V3 (oW hw 1 rfl)))).keep Kq264 (ninS (Exa.neArv (((Eo.wr W3).keep Kq264).keep Kq270) Vh270 (oW hw 1 rfl)) (ninS (Exa.neArv (((Eo.wr W3).keep Kq264).keep Kq270) f270_1 (oW hw 1 rfl)) nin0))).keep Kq270 (ninS (Exa.neArv (((Eo.wr W3).keep Kq264).keep Kq270) Vh270 (oW hw 1 rfl)) (ninS (Exa.neArv (((Eo.wr W3).keep Kq264).keep Kq270) f270_1 (oW hw 1 rfl)) nin0))) (g := (mkF m 93 #[rv aT, iv sT, .val (.double wT), .second, iv (0 : Int32), iv (1 : Int32)] [(.ref aT), (.int (2 : Int32))])) rfl rfl (hb hby own_d5_93)
        refine ov (B := T273.setTop (mkF m 96 #[rv aT, iv sT, .val (.double wT), .second, iv (0 : Int32), iv (1 : Int32)] [(.ref hT), (.int (2 : Int32))])) (fun t k => st273 t k) ?_
        obtain ⟨cl274, Ar274, q274, S274, M274, H274, G274⟩ := id Vh270
        refine ov (B := T273.setTop (mkF m 97 #[rv aT, iv sT, .val (.double wT), .second, iv (0 : Int32), iv (1 : Int32)] [(.int (6 : Int32)), (.int (2 : Int32))])) (fun t k => X273.arraylength hx (by rw [e273]; exact Ar274.1) (State.isArrayOf_alike hZ.alike Ar274.2.1) (g := (mkF m 96 #[rv aT, iv sT, .val (.double wT), .second, iv (0 : Int32), iv (1 : Int32)] [(.ref hT), (.int (2 : Int32))])) rfl rfl (hb hby own_d5_96) _ (by rw [len_of S274 M274]; exact k)) ?_
        have hc97 : (2 : Int32) < (6 : Int32) := by decide
        refine ov (B := T273.setTop (mkF m 100 #[rv aT, iv sT, .val (.double wT), .second, iv (0 : Int32), iv (1 : Int32)] [])) (fun t k => XS.icmpNo X273.here hx rfl (hb hby own_d5_97) rfl (tlt hc97).2.1 k) ?_
        refine oALN (n := 101) X273 hx (hb hby own_d5_100) rfl rfl rfl ?_
        refine oALN (n := 102) X273 hx (hb hby own_d5_101) rfl rfl rfl ?_
        obtain ⟨T275, X275, e275, st275⟩ := getF X273 hx hZ hown (host := "") (Or.inl (oW hw 13 rfl)) Via.refl e273 (((Fh.other W3 (Or.inl (Exa.neArv (Eo.wr W3) V3 (oW hw 1 rfl)))).keep Kq264 (ninS (Exa.neArv (((Eo.wr W3).keep Kq264).keep Kq270) Vh270 (oW hw 1 rfl)) (ninS (Exa.neArv (((Eo.wr W3).keep Kq264).keep Kq270) f270_1 (oW hw 1 rfl)) nin0))).keep Kq270 (ninS (Exa.neArv (((Eo.wr W3).keep Kq264).keep Kq270) Vh270 (oW hw 1 rfl)) (ninS (Exa.neArv (((Eo.wr W3).keep Kq264).keep Kq270) f270_1 (oW hw 1 rfl)) nin0))) (g := (mkF m 102 #[rv aT, iv sT, .val (.double wT), .second, iv (0 : Int32), iv (1 : Int32)] [(.ref aT), (.ref aT)])) rfl rfl (hb hby own_d5_102)
        refine ov (B := T275.setTop (mkF m 105 #[rv aT, iv sT, .val (.double wT), .second, iv (0 : Int32), iv (1 : Int32)] [(.ref hT), (.ref aT)])) (fun t k => st275 t k) ?_
        refine oIL (n := 107) X275 hx (hb hby own_d5_105) rfl rfl ?_
        refine oIC (n := 108) X275 hx (1 : Int32) (hb hby own_d5_107) (by decide) rfl ?_
        refine ov (B := T275.setTop (mkF m 109 #[rv aT, iv sT, .val (.double wT), .second, iv (0 : Int32), iv (1 : Int32)] [(.int (2 : Int32)), (.ref hT), (.ref aT)])) (fun t k => XS.iadd X275.here hx rfl (hb hby own_d5_108) rfl k) ?_
        obtain ⟨cl276, Ar276, q276, S276, M276, H276, G276⟩ := id Vh270
        have hin276 : ¬ ((2 : Int32) < 0 ∨ cl276.slots.size ≤ ((2 : Int32)).toNatClampNeg) := inb_of S276 ⟨by decide, by decide⟩
        refine ov (B := T275.setTop (mkF m 110 #[rv aT, iv sT, .val (.double wT), .second, iv (0 : Int32), iv (1 : Int32)] [(.int eA), (.ref aT)])) (fun t k => X275.iaload hx (j := (2 : Int32)) (v := (.int eA)) (by rw [e275]; exact Ar276.1) (State.isArrayOf_alike hZ.alike Ar276.2.1) Ar276.2.2 hin276 (Has.at H276 hin276 rfl) (g := (mkF m 109 #[rv aT, iv sT, .val (.double wT), .second, iv (0 : Int32), iv (1 : Int32)] [(.int (2 : Int32)), (.ref hT), (.ref aT)])) rfl rfl (hb hby own_d5_109) _ k) ?_
        refine oALN (n := 111) X275 hx (hb hby own_d5_110) rfl rfl rfl ?_
        obtain ⟨T277, X277, e277, st277⟩ := getF X275 hx hZ hown (host := "") (Or.inl (oW hw 13 rfl)) Via.refl e275 (((Fh.other W3 (Or.inl (Exa.neArv (Eo.wr W3) V3 (oW hw 1 rfl)))).keep Kq264 (ninS (Exa.neArv (((Eo.wr W3).keep Kq264).keep Kq270) Vh270 (oW hw 1 rfl)) (ninS (Exa.neArv (((Eo.wr W3).keep Kq264).keep Kq270) f270_1 (oW hw 1 rfl)) nin0))).keep Kq270 (ninS (Exa.neArv (((Eo.wr W3).keep Kq264).keep Kq270) Vh270 (oW hw 1 rfl)) (ninS (Exa.neArv (((Eo.wr W3).keep Kq264).keep Kq270) f270_1 (oW hw 1 rfl)) nin0))) (g := (mkF m 111 #[rv aT, iv sT, .val (.double wT), .second, iv (0 : Int32), iv (1 : Int32)] [(.ref aT), (.int eA), (.ref aT)])) rfl rfl (hb hby own_d5_111)
        refine ov (B := T277.setTop (mkF m 114 #[rv aT, iv sT, .val (.double wT), .second, iv (0 : Int32), iv (1 : Int32)] [(.ref hT), (.int eA), (.ref aT)])) (fun t k => st277 t k) ?_
        refine oIL (n := 116) X277 hx (hb hby own_d5_114) rfl rfl ?_
        obtain ⟨cl278, Ar278, q278, S278, M278, H278, G278⟩ := id Vh270
        have hin278 : ¬ ((1 : Int32) < 0 ∨ cl278.slots.size ≤ ((1 : Int32)).toNatClampNeg) := inb_of S278 ⟨by decide, by decide⟩
        refine ov (B := T277.setTop (mkF m 117 #[rv aT, iv sT, .val (.double wT), .second, iv (0 : Int32), iv (1 : Int32)] [(.int eB), (.int eA), (.ref aT)])) (fun t k => X277.iaload hx (j := (1 : Int32)) (v := (.int eB)) (by rw [e277]; exact Ar278.1) (State.isArrayOf_alike hZ.alike Ar278.2.1) Ar278.2.2 hin278 (Has.at H278 hin278 rfl) (g := (mkF m 116 #[rv aT, iv sT, .val (.double wT), .second, iv (0 : Int32), iv (1 : Int32)] [(.int (1 : Int32)), (.ref hT), (.int eA), (.ref aT)])) rfl rfl (hb hby own_d5_116) _ k) ?_
        obtain ⟨cq279, q279, q279'⟩ := (((Eo.wr W3).keep Kq264).keep Kq270).cell
        obtain ⟨_, _, ⟨T279, L279, k279, n279⟩, -, X279, ⟨Lc279, hQ279, l279, y279, z279⟩, st279⟩ := X277.privateBack hx (y := (⟨"com/example/meerkat/meerkat/simulate/Completions", "before", "(II)Z"⟩ : MethodName)) hown (mvT hZ (oW hw 32 rfl)) (mvT hZ (oW hw 33 rfl)) (own_selP (y' := (⟨"com/example/meerkat/meerkat/simulate/Completions", "set", "(ID)V"⟩ : MethodName)) rfl (mvT hZ (oW hw 30 rfl)) (Cond.privateMethod_at (mvP hZ (oW hw 34 rfl) (args := #[]))) (mvT hZ (oW hw 33 rfl)) (by decide)) (Cond.privateMethod_at (mvP hZ (oW hw 34 rfl) (args := #[]))) (mvT hZ (oW hw 35 rfl)) (by decide) (backOf (W := 0) (rmB l Z a0 hw [] aT eA eB gT kt (own_mv tt sT yT) T270.heap n0 (Nat.le_trans (Nat.le_trans (Nat.le_trans Z0 (Keep.of_wr W3).1) Kq264.1) Kq270.1) (((Ft.other W3 (Or.inl (Exa.neArv (Eo.wr W3) V3 (oW hw 1 rfl)))).keep Kq264 (ninS (Exa.neArv (((Eo.wr W3).keep Kq264).keep Kq270) Vh270 (oW hw 1 rfl)) (ninS (Exa.neArv (((Eo.wr W3).keep Kq264).keep Kq270) f270_1 (oW hw 1 rfl)) nin0))).keep Kq270 (ninS (Exa.neArv (((Eo.wr W3).keep Kq264).keep Kq270) Vh270 (oW hw 1 rfl)) (ninS (Exa.neArv (((Eo.wr W3).keep Kq264).keep Kq270) f270_1 (oW hw 1 rfl)) nin0))) ((V3.keep Kq264 (ninS ngh (ninS ngp nin0))).keep Kq270 (ninS ngh (ninS ngp nin0))) (own_I1mv qI qR qY) reA reB) hZ (oW hw 35 rfl) (oW hw 2 rfl) (by decide) (by decide)) (g := (mkF m 117 #[rv aT, iv sT, .val (.double wT), .second, iv (0 : Int32), iv (1 : Int32)] [(.int eB), (.int eA), (.ref aT)])) rfl (by rw [hml]; rfl) (Steps.refl _) (a := aT) (by rw [e277]; exact q279) q279' (argsL := [(.int eA), (.int eB)]) (rest := []) (lenOf own_pd0 rfl) rfl (by show 2 * 0 + _ ≤ _; exact Nat.le_of_eq rfl) (hb hby own_d5_117) (fun _ _ => ⟨rfl, e277, (by decide : ((((0 + 0) + 0) + 0) + 0) + 0 ≤ _), (by decide : ((((0 + 0) + 0) + 0) + 0) + 0 ≤ _)⟩)
        dsimp only [Pt.U, Pt.locs, Pt.cells, Pt.slots] at X279 l279 y279 z279 st279 hQ279
        subst l279 y279 z279
        obtain ⟨rfl, Nq279, eq279⟩ := hQ279
        have N279 := Fr.app N270 Nq279
        refine ov (B := T279.setTop (mkF m 120 #[rv aT, iv sT, .val (.double wT), .second, iv (0 : Int32), iv (1 : Int32)] [(.int (own_bit (own_rk (own_mv tt sT yT) eA < own_rk (own_mv tt sT yT) eB)))])) (fun t k => st279.trans k) ?_
        by_cases hc120 : own_rk (own_mv tt sT yT) eA < own_rk (own_mv tt sT yT) eB
        · refine ov (B := T279.setTop (mkF m 123 #[rv aT, iv sT, .val (.double wT), .second, iv (0 : Int32), iv (1 : Int32)] [])) (fun t k => XS.ifNo X279.here hx rfl (hb hby own_d5_120) rfl ((if0 _ _).trans (feq (own_bitne hc120)).1) k) ?_
          refine ov (B := T279.setTop (mkF m 126 #[rv aT, iv sT, .val (.double wT), .second, iv (0 : Int32), iv (2 : Int32)] [])) (fun t k => XS.iinc X279.here hx rfl (hb hby own_d5_123) rfl (l' := #[rv aT, iv sT, .val (.double wT), .second, iv (0 : Int32), iv (2 : Int32)]) rfl k) ?_
          refine oALN (n := 127) X279 hx (hb hby own_d5_126) rfl rfl rfl ?_
          refine oALN (n := 128) X279 hx (hb hby own_d5_127) rfl rfl rfl ?_
          obtain ⟨T280, X280, e280, st280⟩ := getF X279 hx hZ hown (host := "") (Or.inl (oW hw 13 rfl)) Via.refl eq279 (((Fh.other W3 (Or.inl (Exa.neArv (Eo.wr W3) V3 (oW hw 1 rfl)))).keep Kq264 (ninS (Exa.neArv (((Eo.wr W3).keep Kq264).keep Kq270) Vh270 (oW hw 1 rfl)) (ninS (Exa.neArv (((Eo.wr W3).keep Kq264).keep Kq270) f270_1 (oW hw 1 rfl)) nin0))).keep Kq270 (ninS (Exa.neArv (((Eo.wr W3).keep Kq264).keep Kq270) Vh270 (oW hw 1 rfl)) (ninS (Exa.neArv (((Eo.wr W3).keep Kq264).keep Kq270) f270_1 (oW hw 1 rfl)) nin0))) (g := (mkF m 128 #[rv aT, iv sT, .val (.double wT), .second, iv (0 : Int32), iv (2 : Int32)] [(.ref aT), (.ref aT)])) rfl rfl (hb hby own_d5_128)
          refine ov (B := T280.setTop (mkF m 131 #[rv aT, iv sT, .val (.double wT), .second, iv (0 : Int32), iv (2 : Int32)] [(.ref hT), (.ref aT)])) (fun t k => st280 t k) ?_
          refine oIL (n := 133) X280 hx (hb hby own_d5_131) rfl rfl ?_
          obtain ⟨cl281, Ar281, q281, S281, M281, H281, G281⟩ := id Vh270
          have hin281 : ¬ ((2 : Int32) < 0 ∨ cl281.slots.size ≤ ((2 : Int32)).toNatClampNeg) := inb_of S281 ⟨by decide, by decide⟩
          refine ov (B := T280.setTop (mkF m 134 #[rv aT, iv sT, .val (.double wT), .second, iv (0 : Int32), iv (2 : Int32)] [(.int eA), (.ref aT)])) (fun t k => X280.iaload hx (j := (2 : Int32)) (v := (.int eA)) (by rw [e280]; exact Ar281.1) (State.isArrayOf_alike hZ.alike Ar281.2.1) Ar281.2.2 hin281 (Has.at H281 hin281 rfl) (g := (mkF m 133 #[rv aT, iv sT, .val (.double wT), .second, iv (0 : Int32), iv (2 : Int32)] [(.int (2 : Int32)), (.ref hT), (.ref aT)])) rfl rfl (hb hby own_d5_133) _ k) ?_
          refine oILN (n := 135) X280 hx (hb hby own_d5_134) rfl rfl ?_
          obtain ⟨cq282, q282, q282'⟩ := (((Eo.wr W3).keep Kq264).keep Kq270).cell
          obtain ⟨_, _, ⟨T282, L282, k282, n282⟩, -, X282, ⟨Lc282, hQ282, l282, y282, z282⟩, st282⟩ := X280.privateBack hx (y := (⟨"com/example/meerkat/meerkat/simulate/Completions", "before", "(II)Z"⟩ : MethodName)) hown (mvT hZ (oW hw 32 rfl)) (mvT hZ (oW hw 33 rfl)) (own_selP (y' := (⟨"com/example/meerkat/meerkat/simulate/Completions", "set", "(ID)V"⟩ : MethodName)) rfl (mvT hZ (oW hw 30 rfl)) (Cond.privateMethod_at (mvP hZ (oW hw 34 rfl) (args := #[]))) (mvT hZ (oW hw 33 rfl)) (by decide)) (Cond.privateMethod_at (mvP hZ (oW hw 34 rfl) (args := #[]))) (mvT hZ (oW hw 35 rfl)) (by decide) (backOf (W := 0) (rmB l Z a0 hw [] aT eA sT gT kt (own_mv tt sT yT) T270.heap n0 (Nat.le_trans (Nat.le_trans (Nat.le_trans Z0 (Keep.of_wr W3).1) Kq264.1) Kq270.1) (((Ft.other W3 (Or.inl (Exa.neArv (Eo.wr W3) V3 (oW hw 1 rfl)))).keep Kq264 (ninS (Exa.neArv (((Eo.wr W3).keep Kq264).keep Kq270) Vh270 (oW hw 1 rfl)) (ninS (Exa.neArv (((Eo.wr W3).keep Kq264).keep Kq270) f270_1 (oW hw 1 rfl)) nin0))).keep Kq270 (ninS (Exa.neArv (((Eo.wr W3).keep Kq264).keep Kq270) Vh270 (oW hw 1 rfl)) (ninS (Exa.neArv (((Eo.wr W3).keep Kq264).keep Kq270) f270_1 (oW hw 1 rfl)) nin0))) ((V3.keep Kq264 (ninS ngh (ninS ngp nin0))).keep Kq270 (ninS ngh (ninS ngp nin0))) (own_I1mv qI qR qY) reA qR) hZ (oW hw 35 rfl) (oW hw 2 rfl) (by decide) (by decide)) (g := (mkF m 135 #[rv aT, iv sT, .val (.double wT), .second, iv (0 : Int32), iv (2 : Int32)] [(.int sT), (.int eA), (.ref aT)])) rfl (by rw [hml]; rfl) (Steps.refl _) (a := aT) (by rw [e280]; exact q282) q282' (argsL := [(.int eA), (.int sT)]) (rest := []) (lenOf own_pd0 rfl) rfl (by show 2 * 0 + _ ≤ _; exact Nat.le_of_eq rfl) (hb hby own_d5_135) (fun _ _ => ⟨rfl, e280, (by decide : (((((0 + 0) + 0) + 0) + 0) + 0) + 0 ≤ _), (by decide : (((((0 + 0) + 0) + 0) + 0) + 0) + 0 ≤ _)⟩)
          dsimp only [Pt.U, Pt.locs, Pt.cells, Pt.slots] at X282 l282 y282 z282 st282 hQ282
          subst l282 y282 z282
          obtain ⟨rfl, Nq282, eq282⟩ := hQ282
          have N282 := Fr.app N279 Nq282
          refine ov (B := T282.setTop (mkF m 138 #[rv aT, iv sT, .val (.double wT), .second, iv (0 : Int32), iv (2 : Int32)] [(.int (own_bit (own_rk (own_mv tt sT yT) eA < own_rk (own_mv tt sT yT) sT)))])) (fun t k => st282.trans k) ?_
          have hc138 : ¬ (own_rk (own_mv tt sT yT) eA < own_rk (own_mv tt sT yT) sT) := by omega
          refine ov (B := T282.setTop (mkF m 141 #[rv aT, iv sT, .val (.double wT), .second, iv (0 : Int32), iv (2 : Int32)] [])) (fun t k => XS.ifNo X282.here hx rfl (hb hby own_d5_138) rfl ((if0 _ _).trans (teq (own_bit0.mpr hc138)).2) k) ?_
          refine oGO (n := 164) X282 hx (hb hby own_d5_141) (by decide) (by decide) ?_
          refine oALN (n := 165) X282 hx (hb hby own_d5_164) rfl rfl rfl ?_
          refine oILN (n := 166) X282 hx (hb hby own_d5_165) rfl rfl ?_
          refine oIL (n := 168) X282 hx (hb hby own_d5_166) rfl rfl ?_
          obtain ⟨cq283, q283, q283'⟩ := (((Eo.wr W3).keep Kq264).keep Kq270).cell
          obtain ⟨_, _, ⟨T283, L283, k283, n283⟩, -, X283, ⟨Lc283, hQ283, l283, y283, z283⟩, st283⟩ := X282.privateBack hx (y := (⟨"com/example/meerkat/meerkat/simulate/Completions", "move", "(II)V"⟩ : MethodName)) hown (mvT hZ (oW hw 36 rfl)) (mvT hZ (oW hw 37 rfl)) (own_selP (y' := (⟨"com/example/meerkat/meerkat/simulate/Completions", "set", "(ID)V"⟩ : MethodName)) rfl (mvT hZ (oW hw 30 rfl)) (Cond.privateMethod_at (mvP hZ (oW hw 38 rfl) (args := #[]))) (mvT hZ (oW hw 37 rfl)) (by decide)) (Cond.privateMethod_at (mvP hZ (oW hw 38 rfl) (args := #[]))) (mvT hZ (oW hw 39 rfl)) (by decide) (backOf (W := 0) (rmM l Z a0 hw [] aT sT (0 : Int32) hT pT kh kp [eA, eB, eA, eD, eE, eC] (own_mv (own_mv PP eC (5 : Int32)) eA (2 : Int32)) T270.heap n0 (Nat.le_trans (Nat.le_trans (Nat.le_trans Z0 (Keep.of_wr W3).1) Kq264.1) Kq270.1) (((Eo.wr W3).keep Kq264).keep Kq270) (((Fh.other W3 (Or.inl (Exa.neArv (Eo.wr W3) V3 (oW hw 1 rfl)))).keep Kq264 (ninS (Exa.neArv (((Eo.wr W3).keep Kq264).keep Kq270) Vh270 (oW hw 1 rfl)) (ninS (Exa.neArv (((Eo.wr W3).keep Kq264).keep Kq270) f270_1 (oW hw 1 rfl)) nin0))).keep Kq270 (ninS (Exa.neArv (((Eo.wr W3).keep Kq264).keep Kq270) Vh270 (oW hw 1 rfl)) (ninS (Exa.neArv (((Eo.wr W3).keep Kq264).keep Kq270) f270_1 (oW hw 1 rfl)) nin0))) (((Fp.other W3 (Or.inl (Exa.neArv (Eo.wr W3) V3 (oW hw 1 rfl)))).keep Kq264 (ninS (Exa.neArv (((Eo.wr W3).keep Kq264).keep Kq270) Vh270 (oW hw 1 rfl)) (ninS (Exa.neArv (((Eo.wr W3).keep Kq264).keep Kq270) f270_1 (oW hw 1 rfl)) nin0))).keep Kq270 (ninS (Exa.neArv (((Eo.wr W3).keep Kq264).keep Kq270) Vh270 (oW hw 1 rfl)) (ninS (Exa.neArv (((Eo.wr W3).keep Kq264).keep Kq270) f270_1 (oW hw 1 rfl)) nin0))) Vh270 f270_1 nhp g_hT g_pT rfl (own_mvl (own_mvl qL)) qR ⟨by decide, by decide⟩) hZ (oW hw 39 rfl) (oW hw 2 rfl) (by decide) (by decide)) (g := (mkF m 168 #[rv aT, iv sT, .val (.double wT), .second, iv (0 : Int32), iv (2 : Int32)] [(.int (0 : Int32)), (.int sT), (.ref aT)])) rfl (by rw [hml]; rfl) (Steps.refl _) (a := aT) (by rw [eq282]; exact q283) q283' (argsL := [(.int sT), (.int (0 : Int32))]) (rest := []) (lenOf own_pd1 rfl) rfl (by show 2 * 0 + _ ≤ _; exact Nat.le_of_eq rfl) (hb hby own_d5_168) (fun _ _ => ⟨rfl, eq282, (by decide : ((((((0 + 0) + 0) + 0) + 0) + 0) + 0) + 0 ≤ _), (by decide : ((((((0 + 0) + 0) + 0) + 0) + 0) + 0) + 0 ≤ _)⟩)
          dsimp only [Pt.U, Pt.locs, Pt.cells, Pt.slots] at X283 l283 y283 z283 st283 hQ283
          subst l283 y283 z283
          obtain ⟨rfl, Nq283, Kq283, f283_0, f283_1⟩ := hQ283
          have N283 := Fr.app N282 Nq283
          have Vh283 : Arv Z T283.heap hT kh .int (6 : Int32) [(.int sT), (.int eB), (.int eA), (.int eD), (.int eE), (.int eC)] (.int (0 : Int32)) := f283_0
          refine ov (B := T283.setTop (mkF m 171 #[rv aT, iv sT, .val (.double wT), .second, iv (0 : Int32), iv (2 : Int32)] [])) (fun t k => st283.trans k) ?_
          refine own_leafV X283 hx hlk Bd.returns (hb hby own_d5_171) (by decide) (by decide) ?_
          show QT Z aT sT wT gT hT pT kt kh kp tt PP eA eB eC eD eE eF yT h0 n0 _ T283.heap _
          refine ⟨sT, eB, eA, eD, eE, eC, (own_mv (own_mv (own_mv PP eC (5 : Int32)) eA (2 : Int32)) sT (0 : Int32)), ?_, N283, (((((Keep.refl h0 [gT, hT, pT]).wr W3 (Or.inl (List.mem_of_getElem? (i := 0) rfl))).trans Kq264 (allS (Or.inl (List.mem_of_getElem? (i := 1) rfl)) (allS (Or.inl (List.mem_of_getElem? (i := 2) rfl)) all0))).trans Kq270 (allS (Or.inl (List.mem_of_getElem? (i := 1) rfl)) (allS (Or.inl (List.mem_of_getElem? (i := 2) rfl)) all0))).trans Kq283 (allS (Or.inl (List.mem_of_getElem? (i := 1) rfl)) (allS (Or.inl (List.mem_of_getElem? (i := 2) rfl)) all0))), ?_, ?_, ?_, ?_, (((V3.keep Kq264 (ninS ngh (ninS ngp nin0))).keep Kq270 (ninS ngh (ninS ngp nin0))).keep Kq283 (ninS ngh (ninS ngp nin0))), Vh283, f283_1⟩
          · rfl
          · exact own_I1mv qI qR qY
          · exact ⟨(own_mvl (own_mvl (own_mvl qL))), qR, reB, reA, reD, reE, reC, (own_mvS (own_mvl (own_mvl qL)) qR), ((own_mvN neB qR reB).trans ((own_mvN (own_ppne peA peB (by decide)) reA reB).trans ((own_mvN (own_ppne peC peB (by decide)) reC reB).trans peB))), ((own_mvN neA qR reA).trans (own_mvS (own_mvl qL) reA)), ((own_mvN neD qR reD).trans ((own_mvN (own_ppne peA peD (by decide)) reA reD).trans ((own_mvN (own_ppne peC peD (by decide)) reC reD).trans peD))), ((own_mvN neE qR reE).trans ((own_mvN (own_ppne peA peE (by decide)) reA reE).trans ((own_mvN (own_ppne peC peE (by decide)) reC reE).trans peE))), ((own_mvN neC qR reC).trans ((own_mvN (own_ppne peA peC (by decide)) reA reC).trans (own_mvS qL reC)))⟩
          · intro q hq'
            rcases qS q hq' with h | h | h | h | h | h
            · exact Or.inr (Or.inr (Or.inl (h)))
            · exact Or.inr (Or.inl (h))
            · exact Or.inr (Or.inr (Or.inr (Or.inr (Or.inr ((h))))))
            · exact Or.inr (Or.inr (Or.inr (Or.inl (h))))
            · exact Or.inr (Or.inr (Or.inr (Or.inr (Or.inl (h)))))
            · exact Or.inl (h.trans hq.symm)
          · exact ⟨by omega, by omega, by omega, by omega, by omega⟩
        · refine ov (B := T279.setTop (mkF m 126 #[rv aT, iv sT, .val (.double wT), .second, iv (0 : Int32), iv (1 : Int32)] [])) (fun t k => XS.ifYes X279.here hx rfl (pc0 := 120) (pc' := 126) rfl (hb hby own_d5_120) rfl ((if0 _ _).trans (teq (own_bit0.mpr hc120)).1) (by decide) (by decide) k) ?_
          refine oALN (n := 127) X279 hx (hb hby own_d5_126) rfl rfl rfl ?_
          refine oALN (n := 128) X279 hx (hb hby own_d5_127) rfl rfl rfl ?_
          obtain ⟨T284, X284, e284, st284⟩ := getF X279 hx hZ hown (host := "") (Or.inl (oW hw 13 rfl)) Via.refl eq279 (((Fh.other W3 (Or.inl (Exa.neArv (Eo.wr W3) V3 (oW hw 1 rfl)))).keep Kq264 (ninS (Exa.neArv (((Eo.wr W3).keep Kq264).keep Kq270) Vh270 (oW hw 1 rfl)) (ninS (Exa.neArv (((Eo.wr W3).keep Kq264).keep Kq270) f270_1 (oW hw 1 rfl)) nin0))).keep Kq270 (ninS (Exa.neArv (((Eo.wr W3).keep Kq264).keep Kq270) Vh270 (oW hw 1 rfl)) (ninS (Exa.neArv (((Eo.wr W3).keep Kq264).keep Kq270) f270_1 (oW hw 1 rfl)) nin0))) (g := (mkF m 128 #[rv aT, iv sT, .val (.double wT), .second, iv (0 : Int32), iv (1 : Int32)] [(.ref aT), (.ref aT)])) rfl rfl (hb hby own_d5_128)
          refine ov (B := T284.setTop (mkF m 131 #[rv aT, iv sT, .val (.double wT), .second, iv (0 : Int32), iv (1 : Int32)] [(.ref hT), (.ref aT)])) (fun t k => st284 t k) ?_
          refine oIL (n := 133) X284 hx (hb hby own_d5_131) rfl rfl ?_
          obtain ⟨cl285, Ar285, q285, S285, M285, H285, G285⟩ := id Vh270
          have hin285 : ¬ ((1 : Int32) < 0 ∨ cl285.slots.size ≤ ((1 : Int32)).toNatClampNeg) := inb_of S285 ⟨by decide, by decide⟩
          refine ov (B := T284.setTop (mkF m 134 #[rv aT, iv sT, .val (.double wT), .second, iv (0 : Int32), iv (1 : Int32)] [(.int eB), (.ref aT)])) (fun t k => X284.iaload hx (j := (1 : Int32)) (v := (.int eB)) (by rw [e284]; exact Ar285.1) (State.isArrayOf_alike hZ.alike Ar285.2.1) Ar285.2.2 hin285 (Has.at H285 hin285 rfl) (g := (mkF m 133 #[rv aT, iv sT, .val (.double wT), .second, iv (0 : Int32), iv (1 : Int32)] [(.int (1 : Int32)), (.ref hT), (.ref aT)])) rfl rfl (hb hby own_d5_133) _ k) ?_
          refine oILN (n := 135) X284 hx (hb hby own_d5_134) rfl rfl ?_
          obtain ⟨cq286, q286, q286'⟩ := (((Eo.wr W3).keep Kq264).keep Kq270).cell
          obtain ⟨_, _, ⟨T286, L286, k286, n286⟩, -, X286, ⟨Lc286, hQ286, l286, y286, z286⟩, st286⟩ := X284.privateBack hx (y := (⟨"com/example/meerkat/meerkat/simulate/Completions", "before", "(II)Z"⟩ : MethodName)) hown (mvT hZ (oW hw 32 rfl)) (mvT hZ (oW hw 33 rfl)) (own_selP (y' := (⟨"com/example/meerkat/meerkat/simulate/Completions", "set", "(ID)V"⟩ : MethodName)) rfl (mvT hZ (oW hw 30 rfl)) (Cond.privateMethod_at (mvP hZ (oW hw 34 rfl) (args := #[]))) (mvT hZ (oW hw 33 rfl)) (by decide)) (Cond.privateMethod_at (mvP hZ (oW hw 34 rfl) (args := #[]))) (mvT hZ (oW hw 35 rfl)) (by decide) (backOf (W := 0) (rmB l Z a0 hw [] aT eB sT gT kt (own_mv tt sT yT) T270.heap n0 (Nat.le_trans (Nat.le_trans (Nat.le_trans Z0 (Keep.of_wr W3).1) Kq264.1) Kq270.1) (((Ft.other W3 (Or.inl (Exa.neArv (Eo.wr W3) V3 (oW hw 1 rfl)))).keep Kq264 (ninS (Exa.neArv (((Eo.wr W3).keep Kq264).keep Kq270) Vh270 (oW hw 1 rfl)) (ninS (Exa.neArv (((Eo.wr W3).keep Kq264).keep Kq270) f270_1 (oW hw 1 rfl)) nin0))).keep Kq270 (ninS (Exa.neArv (((Eo.wr W3).keep Kq264).keep Kq270) Vh270 (oW hw 1 rfl)) (ninS (Exa.neArv (((Eo.wr W3).keep Kq264).keep Kq270) f270_1 (oW hw 1 rfl)) nin0))) ((V3.keep Kq264 (ninS ngh (ninS ngp nin0))).keep Kq270 (ninS ngh (ninS ngp nin0))) (own_I1mv qI qR qY) reB qR) hZ (oW hw 35 rfl) (oW hw 2 rfl) (by decide) (by decide)) (g := (mkF m 135 #[rv aT, iv sT, .val (.double wT), .second, iv (0 : Int32), iv (1 : Int32)] [(.int sT), (.int eB), (.ref aT)])) rfl (by rw [hml]; rfl) (Steps.refl _) (a := aT) (by rw [e284]; exact q286) q286' (argsL := [(.int eB), (.int sT)]) (rest := []) (lenOf own_pd0 rfl) rfl (by show 2 * 0 + _ ≤ _; exact Nat.le_of_eq rfl) (hb hby own_d5_135) (fun _ _ => ⟨rfl, e284, (by decide : (((((0 + 0) + 0) + 0) + 0) + 0) + 0 ≤ _), (by decide : (((((0 + 0) + 0) + 0) + 0) + 0) + 0 ≤ _)⟩)
          dsimp only [Pt.U, Pt.locs, Pt.cells, Pt.slots] at X286 l286 y286 z286 st286 hQ286
          subst l286 y286 z286
          obtain ⟨rfl, Nq286, eq286⟩ := hQ286
          have N286 := Fr.app N279 Nq286
          refine ov (B := T286.setTop (mkF m 138 #[rv aT, iv sT, .val (.double wT), .second, iv (0 : Int32), iv (1 : Int32)] [(.int (own_bit (own_rk (own_mv tt sT yT) eB < own_rk (own_mv tt sT yT) sT)))])) (fun t k => st286.trans k) ?_
          have hc138 : ¬ (own_rk (own_mv tt sT yT) eB < own_rk (own_mv tt sT yT) sT) := by omega
          refine ov (B := T286.setTop (mkF m 141 #[rv aT, iv sT, .val (.double wT), .second, iv (0 : Int32), iv (1 : Int32)] [])) (fun t k => XS.ifNo X286.here hx rfl (hb hby own_d5_138) rfl ((if0 _ _).trans (teq (own_bit0.mpr hc138)).2) k) ?_
          refine oGO (n := 164) X286 hx (hb hby own_d5_141) (by decide) (by decide) ?_
          refine oALN (n := 165) X286 hx (hb hby own_d5_164) rfl rfl rfl ?_
          refine oILN (n := 166) X286 hx (hb hby own_d5_165) rfl rfl ?_
          refine oIL (n := 168) X286 hx (hb hby own_d5_166) rfl rfl ?_
          obtain ⟨cq287, q287, q287'⟩ := (((Eo.wr W3).keep Kq264).keep Kq270).cell
          obtain ⟨_, _, ⟨T287, L287, k287, n287⟩, -, X287, ⟨Lc287, hQ287, l287, y287, z287⟩, st287⟩ := X286.privateBack hx (y := (⟨"com/example/meerkat/meerkat/simulate/Completions", "move", "(II)V"⟩ : MethodName)) hown (mvT hZ (oW hw 36 rfl)) (mvT hZ (oW hw 37 rfl)) (own_selP (y' := (⟨"com/example/meerkat/meerkat/simulate/Completions", "set", "(ID)V"⟩ : MethodName)) rfl (mvT hZ (oW hw 30 rfl)) (Cond.privateMethod_at (mvP hZ (oW hw 38 rfl) (args := #[]))) (mvT hZ (oW hw 37 rfl)) (by decide)) (Cond.privateMethod_at (mvP hZ (oW hw 38 rfl) (args := #[]))) (mvT hZ (oW hw 39 rfl)) (by decide) (backOf (W := 0) (rmM l Z a0 hw [] aT sT (0 : Int32) hT pT kh kp [eA, eB, eA, eD, eE, eC] (own_mv (own_mv PP eC (5 : Int32)) eA (2 : Int32)) T270.heap n0 (Nat.le_trans (Nat.le_trans (Nat.le_trans Z0 (Keep.of_wr W3).1) Kq264.1) Kq270.1) (((Eo.wr W3).keep Kq264).keep Kq270) (((Fh.other W3 (Or.inl (Exa.neArv (Eo.wr W3) V3 (oW hw 1 rfl)))).keep Kq264 (ninS (Exa.neArv (((Eo.wr W3).keep Kq264).keep Kq270) Vh270 (oW hw 1 rfl)) (ninS (Exa.neArv (((Eo.wr W3).keep Kq264).keep Kq270) f270_1 (oW hw 1 rfl)) nin0))).keep Kq270 (ninS (Exa.neArv (((Eo.wr W3).keep Kq264).keep Kq270) Vh270 (oW hw 1 rfl)) (ninS (Exa.neArv (((Eo.wr W3).keep Kq264).keep Kq270) f270_1 (oW hw 1 rfl)) nin0))) (((Fp.other W3 (Or.inl (Exa.neArv (Eo.wr W3) V3 (oW hw 1 rfl)))).keep Kq264 (ninS (Exa.neArv (((Eo.wr W3).keep Kq264).keep Kq270) Vh270 (oW hw 1 rfl)) (ninS (Exa.neArv (((Eo.wr W3).keep Kq264).keep Kq270) f270_1 (oW hw 1 rfl)) nin0))).keep Kq270 (ninS (Exa.neArv (((Eo.wr W3).keep Kq264).keep Kq270) Vh270 (oW hw 1 rfl)) (ninS (Exa.neArv (((Eo.wr W3).keep Kq264).keep Kq270) f270_1 (oW hw 1 rfl)) nin0))) Vh270 f270_1 nhp g_hT g_pT rfl (own_mvl (own_mvl qL)) qR ⟨by decide, by decide⟩) hZ (oW hw 39 rfl) (oW hw 2 rfl) (by decide) (by decide)) (g := (mkF m 168 #[rv aT, iv sT, .val (.double wT), .second, iv (0 : Int32), iv (1 : Int32)] [(.int (0 : Int32)), (.int sT), (.ref aT)])) rfl (by rw [hml]; rfl) (Steps.refl _) (a := aT) (by rw [eq286]; exact q287) q287' (argsL := [(.int sT), (.int (0 : Int32))]) (rest := []) (lenOf own_pd1 rfl) rfl (by show 2 * 0 + _ ≤ _; exact Nat.le_of_eq rfl) (hb hby own_d5_168) (fun _ _ => ⟨rfl, eq286, (by decide : ((((((0 + 0) + 0) + 0) + 0) + 0) + 0) + 0 ≤ _), (by decide : ((((((0 + 0) + 0) + 0) + 0) + 0) + 0) + 0 ≤ _)⟩)
          dsimp only [Pt.U, Pt.locs, Pt.cells, Pt.slots] at X287 l287 y287 z287 st287 hQ287
          subst l287 y287 z287
          obtain ⟨rfl, Nq287, Kq287, f287_0, f287_1⟩ := hQ287
          have N287 := Fr.app N286 Nq287
          have Vh287 : Arv Z T287.heap hT kh .int (6 : Int32) [(.int sT), (.int eB), (.int eA), (.int eD), (.int eE), (.int eC)] (.int (0 : Int32)) := f287_0
          refine ov (B := T287.setTop (mkF m 171 #[rv aT, iv sT, .val (.double wT), .second, iv (0 : Int32), iv (1 : Int32)] [])) (fun t k => st287.trans k) ?_
          refine own_leafV X287 hx hlk Bd.returns (hb hby own_d5_171) (by decide) (by decide) ?_
          show QT Z aT sT wT gT hT pT kt kh kp tt PP eA eB eC eD eE eF yT h0 n0 _ T287.heap _
          refine ⟨sT, eB, eA, eD, eE, eC, (own_mv (own_mv (own_mv PP eC (5 : Int32)) eA (2 : Int32)) sT (0 : Int32)), ?_, N287, (((((Keep.refl h0 [gT, hT, pT]).wr W3 (Or.inl (List.mem_of_getElem? (i := 0) rfl))).trans Kq264 (allS (Or.inl (List.mem_of_getElem? (i := 1) rfl)) (allS (Or.inl (List.mem_of_getElem? (i := 2) rfl)) all0))).trans Kq270 (allS (Or.inl (List.mem_of_getElem? (i := 1) rfl)) (allS (Or.inl (List.mem_of_getElem? (i := 2) rfl)) all0))).trans Kq287 (allS (Or.inl (List.mem_of_getElem? (i := 1) rfl)) (allS (Or.inl (List.mem_of_getElem? (i := 2) rfl)) all0))), ?_, ?_, ?_, ?_, (((V3.keep Kq264 (ninS ngh (ninS ngp nin0))).keep Kq270 (ninS ngh (ninS ngp nin0))).keep Kq287 (ninS ngh (ninS ngp nin0))), Vh287, f287_1⟩
          · rfl
          · exact own_I1mv qI qR qY
          · exact ⟨(own_mvl (own_mvl (own_mvl qL))), qR, reB, reA, reD, reE, reC, (own_mvS (own_mvl (own_mvl qL)) qR), ((own_mvN neB qR reB).trans ((own_mvN (own_ppne peA peB (by decide)) reA reB).trans ((own_mvN (own_ppne peC peB (by decide)) reC reB).trans peB))), ((own_mvN neA qR reA).trans (own_mvS (own_mvl qL) reA)), ((own_mvN neD qR reD).trans ((own_mvN (own_ppne peA peD (by decide)) reA reD).trans ((own_mvN (own_ppne peC peD (by decide)) reC reD).trans peD))), ((own_mvN neE qR reE).trans ((own_mvN (own_ppne peA peE (by decide)) reA reE).trans ((own_mvN (own_ppne peC peE (by decide)) reC reE).trans peE))), ((own_mvN neC qR reC).trans ((own_mvN (own_ppne peA peC (by decide)) reA reC).trans (own_mvS qL reC)))⟩
          · intro q hq'
            rcases qS q hq' with h | h | h | h | h | h
            · exact Or.inr (Or.inr (Or.inl (h)))
            · exact Or.inr (Or.inl (h))
            · exact Or.inr (Or.inr (Or.inr (Or.inr (Or.inr ((h))))))
            · exact Or.inr (Or.inr (Or.inr (Or.inl (h))))
            · exact Or.inr (Or.inr (Or.inr (Or.inr (Or.inl (h)))))
            · exact Or.inl (h.trans hq.symm)
          · exact ⟨by omega, by omega, by omega, by omega, by omega⟩
      · refine ov (B := T267.setTop (mkF m 67 #[rv aT, iv sT, .val (.double wT), .second, iv (2 : Int32), uu] [])) (fun t k => XS.ifYes X267.here hx rfl (pc0 := 36) (pc' := 67) rfl (hb hby own_d5_36) rfl ((if0 _ _).trans (teq (own_bit0.mpr hc36)).1) (by decide) (by decide) k) ?_
        refine oIC (n := 68) X267 hx (2 : Int32) (hb hby own_d5_67) (by decide) rfl ?_
        refine oIL (n := 70) X267 hx (hb hby own_d5_68) rfl rfl ?_
        refine ov (B := T267.setTop (mkF m 71 #[rv aT, iv sT, .val (.double wT), .second, iv (2 : Int32), uu] [(.int (4 : Int32))])) (fun t k => XS.imul X267.here hx rfl (hb hby own_d5_70) rfl k) ?_
        refine oIC (n := 72) X267 hx (1 : Int32) (hb hby own_d5_71) (by decide) rfl ?_
        refine ov (B := T267.setTop (mkF m 73 #[rv aT, iv sT, .val (.double wT), .second, iv (2 : Int32), uu] [(.int (5 : Int32))])) (fun t k => XS.iadd X267.here hx rfl (hb hby own_d5_72) rfl k) ?_
        refine ov (B := T267.setTop (mkF m 75 #[rv aT, iv sT, .val (.double wT), .second, iv (2 : Int32), iv (5 : Int32)] [])) (fun t k => XS.istore X267.here hx rfl (hb hby own_d5_73) rfl (l' := #[rv aT, iv sT, .val (.double wT), .second, iv (2 : Int32), iv (5 : Int32)]) rfl k) ?_
        refine oIL (n := 77) X267 hx (hb hby own_d5_75) rfl rfl ?_
        refine oALN (n := 78) X267 hx (hb hby own_d5_77) rfl rfl rfl ?_
        obtain ⟨T288, X288, e288, st288⟩ := getF X267 hx hZ hown (host := "") (Or.inl (oW hw 13 rfl)) Via.refl eq267 ((Fh.other W3 (Or.inl (Exa.neArv (Eo.wr W3) V3 (oW hw 1 rfl)))).keep Kq264 (ninS (Exa.neArv ((Eo.wr W3).keep Kq264) Vh264 (oW hw 1 rfl)) (ninS (Exa.neArv ((Eo.wr W3).keep Kq264) f264_1 (oW hw 1 rfl)) nin0))) (g := (mkF m 78 #[rv aT, iv sT, .val (.double wT), .second, iv (2 : Int32), iv (5 : Int32)] [(.ref aT), (.int (5 : Int32))])) rfl rfl (hb hby own_d5_78)
        refine ov (B := T288.setTop (mkF m 81 #[rv aT, iv sT, .val (.double wT), .second, iv (2 : Int32), iv (5 : Int32)] [(.ref hT), (.int (5 : Int32))])) (fun t k => st288 t k) ?_
        obtain ⟨cl289, Ar289, q289, S289, M289, H289, G289⟩ := id Vh264
        refine ov (B := T288.setTop (mkF m 82 #[rv aT, iv sT, .val (.double wT), .second, iv (2 : Int32), iv (5 : Int32)] [(.int (6 : Int32)), (.int (5 : Int32))])) (fun t k => X288.arraylength hx (by rw [e288]; exact Ar289.1) (State.isArrayOf_alike hZ.alike Ar289.2.1) (g := (mkF m 81 #[rv aT, iv sT, .val (.double wT), .second, iv (2 : Int32), iv (5 : Int32)] [(.ref hT), (.int (5 : Int32))])) rfl rfl (hb hby own_d5_81) _ (by rw [len_of S289 M289]; exact k)) ?_
        have hc82 : (5 : Int32) < (6 : Int32) := by decide
        refine ov (B := T288.setTop (mkF m 88 #[rv aT, iv sT, .val (.double wT), .second, iv (2 : Int32), iv (5 : Int32)] [])) (fun t k => XS.icmpYes X288.here hx rfl (pc0 := 82) (pc' := 88) rfl (hb hby own_d5_82) rfl (tlt hc82).1 (by decide) (by decide) k) ?_
        refine oIL (n := 90) X288 hx (hb hby own_d5_88) rfl rfl ?_
        refine oIC (n := 91) X288 hx (1 : Int32) (hb hby own_d5_90) (by decide) rfl ?_
        refine ov (B := T288.setTop (mkF m 92 #[rv aT, iv sT, .val (.double wT), .second, iv (2 : Int32), iv (5 : Int32)] [(.int (6 : Int32))])) (fun t k => XS.iadd X288.here hx rfl (hb hby own_d5_91) rfl k) ?_
        refine oALN (n := 93) X288 hx (hb hby own_d5_92) rfl rfl rfl ?_
        obtain ⟨T290, X290, e290, st290⟩ := getF X288 hx hZ hown (host := "") (Or.inl (oW hw 13 rfl)) Via.refl e288 ((Fh.other W3 (Or.inl (Exa.neArv (Eo.wr W3) V3 (oW hw 1 rfl)))).keep Kq264 (ninS (Exa.neArv ((Eo.wr W3).keep Kq264) Vh264 (oW hw 1 rfl)) (ninS (Exa.neArv ((Eo.wr W3).keep Kq264) f264_1 (oW hw 1 rfl)) nin0))) (g := (mkF m 93 #[rv aT, iv sT, .val (.double wT), .second, iv (2 : Int32), iv (5 : Int32)] [(.ref aT), (.int (6 : Int32))])) rfl rfl (hb hby own_d5_93)
        refine ov (B := T290.setTop (mkF m 96 #[rv aT, iv sT, .val (.double wT), .second, iv (2 : Int32), iv (5 : Int32)] [(.ref hT), (.int (6 : Int32))])) (fun t k => st290 t k) ?_
        obtain ⟨cl291, Ar291, q291, S291, M291, H291, G291⟩ := id Vh264
        refine ov (B := T290.setTop (mkF m 97 #[rv aT, iv sT, .val (.double wT), .second, iv (2 : Int32), iv (5 : Int32)] [(.int (6 : Int32)), (.int (6 : Int32))])) (fun t k => X290.arraylength hx (by rw [e290]; exact Ar291.1) (State.isArrayOf_alike hZ.alike Ar291.2.1) (g := (mkF m 96 #[rv aT, iv sT, .val (.double wT), .second, iv (2 : Int32), iv (5 : Int32)] [(.ref hT), (.int (6 : Int32))])) rfl rfl (hb hby own_d5_96) _ (by rw [len_of S291 M291]; exact k)) ?_
        have hc97 : ¬ ((6 : Int32) < (6 : Int32)) := by decide
        refine ov (B := T290.setTop (mkF m 126 #[rv aT, iv sT, .val (.double wT), .second, iv (2 : Int32), iv (5 : Int32)] [])) (fun t k => XS.icmpYes X290.here hx rfl (pc0 := 97) (pc' := 126) rfl (hb hby own_d5_97) rfl (flt hc97).2.1 (by decide) (by decide) k) ?_
        refine oALN (n := 127) X290 hx (hb hby own_d5_126) rfl rfl rfl ?_
        refine oALN (n := 128) X290 hx (hb hby own_d5_127) rfl rfl rfl ?_
        obtain ⟨T292, X292, e292, st292⟩ := getF X290 hx hZ hown (host := "") (Or.inl (oW hw 13 rfl)) Via.refl e290 ((Fh.other W3 (Or.inl (Exa.neArv (Eo.wr W3) V3 (oW hw 1 rfl)))).keep Kq264 (ninS (Exa.neArv ((Eo.wr W3).keep Kq264) Vh264 (oW hw 1 rfl)) (ninS (Exa.neArv ((Eo.wr W3).keep Kq264) f264_1 (oW hw 1 rfl)) nin0))) (g := (mkF m 128 #[rv aT, iv sT, .val (.double wT), .second, iv (2 : Int32), iv (5 : Int32)] [(.ref aT), (.ref aT)])) rfl rfl (hb hby own_d5_128)
        refine ov (B := T292.setTop (mkF m 131 #[rv aT, iv sT, .val (.double wT), .second, iv (2 : Int32), iv (5 : Int32)] [(.ref hT), (.ref aT)])) (fun t k => st292 t k) ?_
        refine oIL (n := 133) X292 hx (hb hby own_d5_131) rfl rfl ?_
        obtain ⟨cl293, Ar293, q293, S293, M293, H293, G293⟩ := id Vh264
        have hin293 : ¬ ((5 : Int32) < 0 ∨ cl293.slots.size ≤ ((5 : Int32)).toNatClampNeg) := inb_of S293 ⟨by decide, by decide⟩
        refine ov (B := T292.setTop (mkF m 134 #[rv aT, iv sT, .val (.double wT), .second, iv (2 : Int32), iv (5 : Int32)] [(.int eC), (.ref aT)])) (fun t k => X292.iaload hx (j := (5 : Int32)) (v := (.int eC)) (by rw [e292]; exact Ar293.1) (State.isArrayOf_alike hZ.alike Ar293.2.1) Ar293.2.2 hin293 (Has.at H293 hin293 rfl) (g := (mkF m 133 #[rv aT, iv sT, .val (.double wT), .second, iv (2 : Int32), iv (5 : Int32)] [(.int (5 : Int32)), (.ref hT), (.ref aT)])) rfl rfl (hb hby own_d5_133) _ k) ?_
        refine oILN (n := 135) X292 hx (hb hby own_d5_134) rfl rfl ?_
        obtain ⟨cq294, q294, q294'⟩ := ((Eo.wr W3).keep Kq264).cell
        obtain ⟨_, _, ⟨T294, L294, k294, n294⟩, -, X294, ⟨Lc294, hQ294, l294, y294, z294⟩, st294⟩ := X292.privateBack hx (y := (⟨"com/example/meerkat/meerkat/simulate/Completions", "before", "(II)Z"⟩ : MethodName)) hown (mvT hZ (oW hw 32 rfl)) (mvT hZ (oW hw 33 rfl)) (own_selP (y' := (⟨"com/example/meerkat/meerkat/simulate/Completions", "set", "(ID)V"⟩ : MethodName)) rfl (mvT hZ (oW hw 30 rfl)) (Cond.privateMethod_at (mvP hZ (oW hw 34 rfl) (args := #[]))) (mvT hZ (oW hw 33 rfl)) (by decide)) (Cond.privateMethod_at (mvP hZ (oW hw 34 rfl) (args := #[]))) (mvT hZ (oW hw 35 rfl)) (by decide) (backOf (W := 0) (rmB l Z a0 hw [] aT eC sT gT kt (own_mv tt sT yT) T264.heap n0 (Nat.le_trans (Nat.le_trans Z0 (Keep.of_wr W3).1) Kq264.1) ((Ft.other W3 (Or.inl (Exa.neArv (Eo.wr W3) V3 (oW hw 1 rfl)))).keep Kq264 (ninS (Exa.neArv ((Eo.wr W3).keep Kq264) Vh264 (oW hw 1 rfl)) (ninS (Exa.neArv ((Eo.wr W3).keep Kq264) f264_1 (oW hw 1 rfl)) nin0))) (V3.keep Kq264 (ninS ngh (ninS ngp nin0))) (own_I1mv qI qR qY) reC qR) hZ (oW hw 35 rfl) (oW hw 2 rfl) (by decide) (by decide)) (g := (mkF m 135 #[rv aT, iv sT, .val (.double wT), .second, iv (2 : Int32), iv (5 : Int32)] [(.int sT), (.int eC), (.ref aT)])) rfl (by rw [hml]; rfl) (Steps.refl _) (a := aT) (by rw [e292]; exact q294) q294' (argsL := [(.int eC), (.int sT)]) (rest := []) (lenOf own_pd0 rfl) rfl (by show 2 * 0 + _ ≤ _; exact Nat.le_of_eq rfl) (hb hby own_d5_135) (fun _ _ => ⟨rfl, e292, (by decide : (((0 + 0) + 0) + 0) + 0 ≤ _), (by decide : (((0 + 0) + 0) + 0) + 0 ≤ _)⟩)
        dsimp only [Pt.U, Pt.locs, Pt.cells, Pt.slots] at X294 l294 y294 z294 st294 hQ294
        subst l294 y294 z294
        obtain ⟨rfl, Nq294, eq294⟩ := hQ294
        have N294 := Fr.app N267 Nq294
        refine ov (B := T294.setTop (mkF m 138 #[rv aT, iv sT, .val (.double wT), .second, iv (2 : Int32), iv (5 : Int32)] [(.int (own_bit (own_rk (own_mv tt sT yT) eC < own_rk (own_mv tt sT yT) sT)))])) (fun t k => st294.trans k) ?_
        have hc138 : ¬ (own_rk (own_mv tt sT yT) eC < own_rk (own_mv tt sT yT) sT) := by omega
        refine ov (B := T294.setTop (mkF m 141 #[rv aT, iv sT, .val (.double wT), .second, iv (2 : Int32), iv (5 : Int32)] [])) (fun t k => XS.ifNo X294.here hx rfl (hb hby own_d5_138) rfl ((if0 _ _).trans (teq (own_bit0.mpr hc138)).2) k) ?_
        refine oGO (n := 164) X294 hx (hb hby own_d5_141) (by decide) (by decide) ?_
        refine oALN (n := 165) X294 hx (hb hby own_d5_164) rfl rfl rfl ?_
        refine oILN (n := 166) X294 hx (hb hby own_d5_165) rfl rfl ?_
        refine oIL (n := 168) X294 hx (hb hby own_d5_166) rfl rfl ?_
        obtain ⟨cq295, q295, q295'⟩ := ((Eo.wr W3).keep Kq264).cell
        obtain ⟨_, _, ⟨T295, L295, k295, n295⟩, -, X295, ⟨Lc295, hQ295, l295, y295, z295⟩, st295⟩ := X294.privateBack hx (y := (⟨"com/example/meerkat/meerkat/simulate/Completions", "move", "(II)V"⟩ : MethodName)) hown (mvT hZ (oW hw 36 rfl)) (mvT hZ (oW hw 37 rfl)) (own_selP (y' := (⟨"com/example/meerkat/meerkat/simulate/Completions", "set", "(ID)V"⟩ : MethodName)) rfl (mvT hZ (oW hw 30 rfl)) (Cond.privateMethod_at (mvP hZ (oW hw 38 rfl) (args := #[]))) (mvT hZ (oW hw 37 rfl)) (by decide)) (Cond.privateMethod_at (mvP hZ (oW hw 38 rfl) (args := #[]))) (mvT hZ (oW hw 39 rfl)) (by decide) (backOf (W := 0) (rmM l Z a0 hw [] aT sT (2 : Int32) hT pT kh kp [eA, eB, eC, eD, eE, eC] (own_mv PP eC (5 : Int32)) T264.heap n0 (Nat.le_trans (Nat.le_trans Z0 (Keep.of_wr W3).1) Kq264.1) ((Eo.wr W3).keep Kq264) ((Fh.other W3 (Or.inl (Exa.neArv (Eo.wr W3) V3 (oW hw 1 rfl)))).keep Kq264 (ninS (Exa.neArv ((Eo.wr W3).keep Kq264) Vh264 (oW hw 1 rfl)) (ninS (Exa.neArv ((Eo.wr W3).keep Kq264) f264_1 (oW hw 1 rfl)) nin0))) ((Fp.other W3 (Or.inl (Exa.neArv (Eo.wr W3) V3 (oW hw 1 rfl)))).keep Kq264 (ninS (Exa.neArv ((Eo.wr W3).keep Kq264) Vh264 (oW hw 1 rfl)) (ninS (Exa.neArv ((Eo.wr W3).keep Kq264) f264_1 (oW hw 1 rfl)) nin0))) Vh264 f264_1 nhp g_hT g_pT rfl (own_mvl qL) qR ⟨by decide, by decide⟩) hZ (oW hw 39 rfl) (oW hw 2 rfl) (by decide) (by decide)) (g := (mkF m 168 #[rv aT, iv sT, .val (.double wT), .second, iv (2 : Int32), iv (5 : Int32)] [(.int (2 : Int32)), (.int sT), (.ref aT)])) rfl (by rw [hml]; rfl) (Steps.refl _) (a := aT) (by rw [eq294]; exact q295) q295' (argsL := [(.int sT), (.int (2 : Int32))]) (rest := []) (lenOf own_pd1 rfl) rfl (by show 2 * 0 + _ ≤ _; exact Nat.le_of_eq rfl) (hb hby own_d5_168) (fun _ _ => ⟨rfl, eq294, (by decide : ((((0 + 0) + 0) + 0) + 0) + 0 ≤ _), (by decide : ((((0 + 0) + 0) + 0) + 0) + 0 ≤ _)⟩)
        dsimp only [Pt.U, Pt.locs, Pt.cells, Pt.slots] at X295 l295 y295 z295 st295 hQ295
        subst l295 y295 z295
        obtain ⟨rfl, Nq295, Kq295, f295_0, f295_1⟩ := hQ295
        have N295 := Fr.app N294 Nq295
        have Vh295 : Arv Z T295.heap hT kh .int (6 : Int32) [(.int eA), (.int eB), (.int sT), (.int eD), (.int eE), (.int eC)] (.int (0 : Int32)) := f295_0
        refine ov (B := T295.setTop (mkF m 171 #[rv aT, iv sT, .val (.double wT), .second, iv (2 : Int32), iv (5 : Int32)] [])) (fun t k => st295.trans k) ?_
        refine own_leafV X295 hx hlk Bd.returns (hb hby own_d5_171) (by decide) (by decide) ?_
        show QT Z aT sT wT gT hT pT kt kh kp tt PP eA eB eC eD eE eF yT h0 n0 _ T295.heap _
        refine ⟨eA, eB, sT, eD, eE, eC, (own_mv (own_mv PP eC (5 : Int32)) sT (2 : Int32)), ?_, N295, ((((Keep.refl h0 [gT, hT, pT]).wr W3 (Or.inl (List.mem_of_getElem? (i := 0) rfl))).trans Kq264 (allS (Or.inl (List.mem_of_getElem? (i := 1) rfl)) (allS (Or.inl (List.mem_of_getElem? (i := 2) rfl)) all0))).trans Kq295 (allS (Or.inl (List.mem_of_getElem? (i := 1) rfl)) (allS (Or.inl (List.mem_of_getElem? (i := 2) rfl)) all0))), ?_, ?_, ?_, ?_, ((V3.keep Kq264 (ninS ngh (ninS ngp nin0))).keep Kq295 (ninS ngh (ninS ngp nin0))), Vh295, f295_1⟩
        · rfl
        · exact own_I1mv qI qR qY
        · exact ⟨(own_mvl (own_mvl qL)), reA, reB, qR, reD, reE, reC, ((own_mvN neA qR reA).trans ((own_mvN (own_ppne peC peA (by decide)) reC reA).trans peA)), ((own_mvN neB qR reB).trans ((own_mvN (own_ppne peC peB (by decide)) reC reB).trans peB)), (own_mvS (own_mvl qL) qR), ((own_mvN neD qR reD).trans ((own_mvN (own_ppne peC peD (by decide)) reC reD).trans peD)), ((own_mvN neE qR reE).trans ((own_mvN (own_ppne peC peE (by decide)) reC reE).trans peE)), ((own_mvN neC qR reC).trans (own_mvS qL reC))⟩
        · intro q hq'
          rcases qS q hq' with h | h | h | h | h | h
          · exact Or.inl (h)
          · exact Or.inr (Or.inl (h))
          · exact Or.inr (Or.inr (Or.inr (Or.inr (Or.inr ((h))))))
          · exact Or.inr (Or.inr (Or.inr (Or.inl (h))))
          · exact Or.inr (Or.inr (Or.inr (Or.inr (Or.inl (h)))))
          · exact Or.inr (Or.inr (Or.inl (h.trans hq.symm)))
        · exact ⟨by omega, by omega, by omega, by omega, by omega⟩
    · refine ov (B := T261.setTop (mkF m 67 #[rv aT, iv sT, .val (.double wT), .second, iv (5 : Int32), uu] [])) (fun t k => XS.ifYes X261.here hx rfl (pc0 := 36) (pc' := 67) rfl (hb hby own_d5_36) rfl ((if0 _ _).trans (teq (own_bit0.mpr hc36)).1) (by decide) (by decide) k) ?_
      refine oIC (n := 68) X261 hx (2 : Int32) (hb hby own_d5_67) (by decide) rfl ?_
      refine oIL (n := 70) X261 hx (hb hby own_d5_68) rfl rfl ?_
      refine ov (B := T261.setTop (mkF m 71 #[rv aT, iv sT, .val (.double wT), .second, iv (5 : Int32), uu] [(.int (10 : Int32))])) (fun t k => XS.imul X261.here hx rfl (hb hby own_d5_70) rfl k) ?_
      refine oIC (n := 72) X261 hx (1 : Int32) (hb hby own_d5_71) (by decide) rfl ?_
      refine ov (B := T261.setTop (mkF m 73 #[rv aT, iv sT, .val (.double wT), .second, iv (5 : Int32), uu] [(.int (11 : Int32))])) (fun t k => XS.iadd X261.here hx rfl (hb hby own_d5_72) rfl k) ?_
      refine ov (B := T261.setTop (mkF m 75 #[rv aT, iv sT, .val (.double wT), .second, iv (5 : Int32), iv (11 : Int32)] [])) (fun t k => XS.istore X261.here hx rfl (hb hby own_d5_73) rfl (l' := #[rv aT, iv sT, .val (.double wT), .second, iv (5 : Int32), iv (11 : Int32)]) rfl k) ?_
      refine oIL (n := 77) X261 hx (hb hby own_d5_75) rfl rfl ?_
      refine oALN (n := 78) X261 hx (hb hby own_d5_77) rfl rfl rfl ?_
      obtain ⟨T296, X296, e296, st296⟩ := getF X261 hx hZ hown (host := "") (Or.inl (oW hw 13 rfl)) Via.refl eq261 (Fh.other W3 (Or.inl (Exa.neArv (Eo.wr W3) V3 (oW hw 1 rfl)))) (g := (mkF m 78 #[rv aT, iv sT, .val (.double wT), .second, iv (5 : Int32), iv (11 : Int32)] [(.ref aT), (.int (11 : Int32))])) rfl rfl (hb hby own_d5_78)
      refine ov (B := T296.setTop (mkF m 81 #[rv aT, iv sT, .val (.double wT), .second, iv (5 : Int32), iv (11 : Int32)] [(.ref hT), (.int (11 : Int32))])) (fun t k => st296 t k) ?_
      obtain ⟨cl297, Ar297, q297, S297, M297, H297, G297⟩ := id (Vh.other W3 (Ne.symm ngh))
      refine ov (B := T296.setTop (mkF m 82 #[rv aT, iv sT, .val (.double wT), .second, iv (5 : Int32), iv (11 : Int32)] [(.int (6 : Int32)), (.int (11 : Int32))])) (fun t k => X296.arraylength hx (by rw [e296]; exact Ar297.1) (State.isArrayOf_alike hZ.alike Ar297.2.1) (g := (mkF m 81 #[rv aT, iv sT, .val (.double wT), .second, iv (5 : Int32), iv (11 : Int32)] [(.ref hT), (.int (11 : Int32))])) rfl rfl (hb hby own_d5_81) _ (by rw [len_of S297 M297]; exact k)) ?_
      have hc82 : ¬ ((11 : Int32) < (6 : Int32)) := by decide
      refine ov (B := T296.setTop (mkF m 85 #[rv aT, iv sT, .val (.double wT), .second, iv (5 : Int32), iv (11 : Int32)] [])) (fun t k => XS.icmpNo X296.here hx rfl (hb hby own_d5_82) rfl (flt hc82).1 k) ?_
      refine oGO (n := 164) X296 hx (hb hby own_d5_85) (by decide) (by decide) ?_
      refine oALN (n := 165) X296 hx (hb hby own_d5_164) rfl rfl rfl ?_
      refine oILN (n := 166) X296 hx (hb hby own_d5_165) rfl rfl ?_
      refine oIL (n := 168) X296 hx (hb hby own_d5_166) rfl rfl ?_
      obtain ⟨cq298, q298, q298'⟩ := (Eo.wr W3).cell
      obtain ⟨_, _, ⟨T298, L298, k298, n298⟩, -, X298, ⟨Lc298, hQ298, l298, y298, z298⟩, st298⟩ := X296.privateBack hx (y := (⟨"com/example/meerkat/meerkat/simulate/Completions", "move", "(II)V"⟩ : MethodName)) hown (mvT hZ (oW hw 36 rfl)) (mvT hZ (oW hw 37 rfl)) (own_selP (y' := (⟨"com/example/meerkat/meerkat/simulate/Completions", "set", "(ID)V"⟩ : MethodName)) rfl (mvT hZ (oW hw 30 rfl)) (Cond.privateMethod_at (mvP hZ (oW hw 38 rfl) (args := #[]))) (mvT hZ (oW hw 37 rfl)) (by decide)) (Cond.privateMethod_at (mvP hZ (oW hw 38 rfl) (args := #[]))) (mvT hZ (oW hw 39 rfl)) (by decide) (backOf (W := 0) (rmM l Z a0 hw [] aT sT (5 : Int32) hT pT kh kp [eA, eB, eC, eD, eE, eF] PP h3 n0 (Nat.le_trans Z0 (Keep.of_wr W3).1) (Eo.wr W3) (Fh.other W3 (Or.inl (Exa.neArv (Eo.wr W3) V3 (oW hw 1 rfl)))) (Fp.other W3 (Or.inl (Exa.neArv (Eo.wr W3) V3 (oW hw 1 rfl)))) (Vh.other W3 (Ne.symm ngh)) (Vp.other W3 (Ne.symm ngp)) nhp g_hT g_pT rfl qL qR ⟨by decide, by decide⟩) hZ (oW hw 39 rfl) (oW hw 2 rfl) (by decide) (by decide)) (g := (mkF m 168 #[rv aT, iv sT, .val (.double wT), .second, iv (5 : Int32), iv (11 : Int32)] [(.int (5 : Int32)), (.int sT), (.ref aT)])) rfl (by rw [hml]; rfl) (Steps.refl _) (a := aT) (by rw [e296]; exact q298) q298' (argsL := [(.int sT), (.int (5 : Int32))]) (rest := []) (lenOf own_pd1 rfl) rfl (by show 2 * 0 + _ ≤ _; exact Nat.le_of_eq rfl) (hb hby own_d5_168) (fun _ _ => ⟨rfl, e296, (by decide : (0 + 0) + 0 ≤ _), (by decide : (0 + 0) + 0 ≤ _)⟩)
      dsimp only [Pt.U, Pt.locs, Pt.cells, Pt.slots] at X298 l298 y298 z298 st298 hQ298
      subst l298 y298 z298
      obtain ⟨rfl, Nq298, Kq298, f298_0, f298_1⟩ := hQ298
      have N298 := Fr.app N261 Nq298
      have Vh298 : Arv Z T298.heap hT kh .int (6 : Int32) [(.int eA), (.int eB), (.int eC), (.int eD), (.int eE), (.int sT)] (.int (0 : Int32)) := f298_0
      refine ov (B := T298.setTop (mkF m 171 #[rv aT, iv sT, .val (.double wT), .second, iv (5 : Int32), iv (11 : Int32)] [])) (fun t k => st298.trans k) ?_
      refine own_leafV X298 hx hlk Bd.returns (hb hby own_d5_171) (by decide) (by decide) ?_
      show QT Z aT sT wT gT hT pT kt kh kp tt PP eA eB eC eD eE eF yT h0 n0 _ T298.heap _
      refine ⟨eA, eB, eC, eD, eE, sT, (own_mv PP sT (5 : Int32)), ?_, N298, (((Keep.refl h0 [gT, hT, pT]).wr W3 (Or.inl (List.mem_of_getElem? (i := 0) rfl))).trans Kq298 (allS (Or.inl (List.mem_of_getElem? (i := 1) rfl)) (allS (Or.inl (List.mem_of_getElem? (i := 2) rfl)) all0))), ?_, ?_, ?_, ?_, (V3.keep Kq298 (ninS ngh (ninS ngp nin0))), Vh298, f298_1⟩
      · rfl
      · exact own_I1mv qI qR qY
      · exact ⟨(own_mvl qL), reA, reB, reC, reD, reE, qR, ((own_mvN neA qR reA).trans peA), ((own_mvN neB qR reB).trans peB), ((own_mvN neC qR reC).trans peC), ((own_mvN neD qR reD).trans peD), ((own_mvN neE qR reE).trans peE), (own_mvS qL qR)⟩
      · intro q hq'
        rcases qS q hq' with h | h | h | h | h | h
        · exact Or.inl (h)
        · exact Or.inr (Or.inl (h))
        · exact Or.inr (Or.inr (Or.inl (h)))
        · exact Or.inr (Or.inr (Or.inr (Or.inl (h))))
        · exact Or.inr (Or.inr (Or.inr (Or.inr (Or.inl (h)))))
        · exact Or.inr (Or.inr (Or.inr (Or.inr (Or.inr ((h.trans hq.symm))))))
      · exact ⟨by omega, by omega, by omega, by omega, by omega⟩
theorem own_pd2 : parseMethodDescriptor "()D" = some ⟨[], some .double⟩ := by decide +kernel
theorem own_pd3 : parseMethodDescriptor "(ID)V" = some ⟨[.int, .double], none⟩ := by decide +kernel
theorem own_pd4 : parseMethodDescriptor "()I" = some ⟨[], some .int⟩ := by decide +kernel
theorem own_pd5 : parseMethodDescriptor "([I)I" = some ⟨[(.array .int)], some .int⟩ := by decide +kernel
theorem own_d4_0 : decode method_4_code 0 = .ok (.iload_n 2, 1) := by decide +kernel
theorem own_d4_1 : decode method_4_code 1 = .ok (.ldc 9, 2) := by decide +kernel
theorem own_d4_3 : decode method_4_code 3 = .ok (.iand, 1) := by decide +kernel
theorem own_d4_4 : decode method_4_code 4 = .ok (.bipush 6, 2) := by decide +kernel
theorem own_d4_6 : decode method_4_code 6 = .ok (.irem, 1) := by decide +kernel
theorem own_d4_7 : decode method_4_code 7 = .ok (.istore_n 3, 1) := by decide +kernel
theorem own_d4_8 : decode method_4_code 8 = .ok (.iload_n 2, 1) := by decide +kernel
theorem own_d4_9 : decode method_4_code 9 = .ok (.bipush 29, 2) := by decide +kernel
theorem own_d4_11 : decode method_4_code 11 = .ok (.iushr, 1) := by decide +kernel
theorem own_d4_12 : decode method_4_code 12 = .ok (.bipush 7, 2) := by decide +kernel
theorem own_d4_14 : decode method_4_code 14 = .ok (.iand, 1) := by decide +kernel
theorem own_d4_15 : decode method_4_code 15 = .ok (.istore 4, 2) := by decide +kernel
theorem own_d4_17 : decode method_4_code 17 = .ok (.aload_n 1, 1) := by decide +kernel
theorem own_d4_18 : decode method_4_code 18 = .ok (.iload_n 3, 1) := by decide +kernel
theorem own_d4_19 : decode method_4_code 19 = .ok (.iload 4, 2) := by decide +kernel
theorem own_d4_21 : decode method_4_code 21 = .ok (.iastore, 1) := by decide +kernel
theorem own_d4_22 : decode method_4_code 22 = .ok (.aload_n 0, 1) := by decide +kernel
theorem own_d4_23 : decode method_4_code 23 = .ok (.iload_n 3, 1) := by decide +kernel
theorem own_d4_24 : decode method_4_code 24 = .ok (.iload 4, 2) := by decide +kernel
theorem own_d4_26 : decode method_4_code 26 = .ok (.bipush 7, 2) := by decide +kernel
theorem own_d4_28 : decode method_4_code 28 = .ok (.if_icmp .ne 9, 3) := by decide +kernel
theorem own_d4_31 : decode method_4_code 31 = .ok (.invokestatic 10, 3) := by decide +kernel
theorem own_d4_34 : decode method_4_code 34 = .ok (.goto 6, 3) := by decide +kernel
theorem own_d4_37 : decode method_4_code 37 = .ok (.iload 4, 2) := by decide +kernel
theorem own_d4_39 : decode method_4_code 39 = .ok (.i2d, 1) := by decide +kernel
theorem own_d4_40 : decode method_4_code 40 = .ok (.invokevirtual 16, 3) := by decide +kernel
theorem own_d4_43 : decode method_4_code 43 = .ok (.aload_n 0, 1) := by decide +kernel
theorem own_d4_44 : decode method_4_code 44 = .ok (.invokevirtual 22, 3) := by decide +kernel
theorem own_d4_47 : decode method_4_code 47 = .ok (.aload_n 1, 1) := by decide +kernel
theorem own_d4_48 : decode method_4_code 48 = .ok (.invokestatic 26, 3) := by decide +kernel
theorem own_d4_51 : decode method_4_code 51 = .ok (.if_icmp .ne 7, 3) := by decide +kernel
theorem own_d4_54 : decode method_4_code 54 = .ok (.iconst 1, 1) := by decide +kernel
theorem own_d4_55 : decode method_4_code 55 = .ok (.goto 4, 3) := by decide +kernel
theorem own_d4_59 : decode method_4_code 59 = .ok (.ireturn, 1) := by decide +kernel
theorem own_efP (m : MethodId) (x0 : Addr) (x1 : Addr) (x2 : Int32) : entryFrame m #[(.ref x0), (.ref x1), (.int x2)] 5 = mkF m 0 #[rv x0, rv x1, iv x2, uu, uu] [] := by first | (simp [entryFrame, mkF, argsToLocals, Value.category]; done) | rfl
def QP (Z : State) (cP : Addr) (rP : Addr) (xP : Int32) (gP : Addr) (hP : Addr) (pP : Addr) (kt : ClassId) (kh : ClassId) (kp : ClassId) (tt : List Int32) (PP : List Int32) (eA : Int32) (eB : Int32) (eC : Int32) (eD : Int32) (eE : Int32) (eF : Int32) (kr : ClassId) (h0 : Heap) (n0 : Nat) (v : Option Value) (h : Heap) (L : List Loc) : Prop := ∃ (tq : List Int32) (fA : Int32) (fB : Int32) (fC : Int32) (fD : Int32) (fE : Int32) (fF : Int32) (PQ : List Int32), v = some (.int (1 : Int32)) ∧ Fr n0 L ∧ Keep h0 h [gP, hP, pP, rP] ∧ (own_I1 tq) ∧ (own_I2 PQ fA fB fC fD fE fF) ∧ (own_I3 fA fB fC fD fE fF) ∧ (own_I4 tq fA fB fC fD fE fF) ∧ (Arv Z h gP kt .double (6 : Int32) (tq.map own_tv) (.double (own_tw 0))) ∧ (Arv Z h hP kh .int (6 : Int32) [(.int fA), (.int fB), (.int fC), (.int fD), (.int fE), (.int fF)] (.int (0 : Int32))) ∧ (Arv Z h pP kp .int (6 : Int32) (PQ.map Value.int) (.int (0 : Int32))) ∧ (Arv Z h rP kr .int (6 : Int32) (tq.map Value.int) (.int (0 : Int32)))
set_option maxRecDepth 65536 in
set_option maxHeartbeats 40000000 in
theorem rmP (l : Launch) (Z : State) (a0 : Array Value) (hw : ∀ d ∈ tables_1, d.before a0 Z = true) (ws : List Jvm.Cond) (cP : Addr) (rP : Addr) (xP : Int32) (gP : Addr) (hP : Addr) (pP : Addr) (kt : ClassId) (kh : ClassId) (kp : ClassId) (tt : List Int32) (PP : List Int32) (eA : Int32) (eB : Int32) (eC : Int32) (eD : Int32) (eE : Int32) (eF : Int32) (kr : ClassId) (h0 : Heap) (n0 : Nat) (Z0 : n0 ≤ h0.size) (Eo : Exa Z h0 cP "com/example/meerkat/meerkat/simulate/Completions") (Ft : Fld Z h0 cP "com/example/meerkat/meerkat/simulate/Completions" "times" "[D" (.ref gP)) (Fh : Fld Z h0 cP "com/example/meerkat/meerkat/simulate/Completions" "heap" "[I" (.ref hP)) (Fp : Fld Z h0 cP "com/example/meerkat/meerkat/simulate/Completions" "places" "[I" (.ref pP)) (Vt : Arv Z h0 gP kt .double (6 : Int32) (tt.map own_tv) (.double (own_tw 0))) (Vh : Arv Z h0 hP kh .int (6 : Int32) [(.int eA), (.int eB), (.int eC), (.int eD), (.int eE), (.int eF)] (.int (0 : Int32))) (Vp : Arv Z h0 pP kp .int (6 : Int32) (PP.map Value.int) (.int (0 : Int32))) (ngh : gP ≠ hP) (ngp : gP ≠ pP) (nhp : hP ≠ pP) (g_gP : n0 ≤ gP) (g_hP : n0 ≤ hP) (g_pP : n0 ≤ pP) (Vr : Arv Z h0 rP kr .int (6 : Int32) (tt.map Value.int) (.int (0 : Int32))) (nrg : rP ≠ gP) (nrh : rP ≠ hP) (nrp : rP ≠ pP) (g_rP : n0 ≤ rP) (qI : own_I1 tt) (qP : own_I2 PP eA eB eC eD eE eF) (qS : own_I3 eA eB eC eD eE eF) (qO : own_I4 tt eA eB eC eD eE eF) :
    MetFree l (⟨"com/example/meerkat/meerkat/simulate/CompletionsSetPinLaw", "step", "(Lcom/example/meerkat/meerkat/simulate/Completions;[II)Z"⟩ : MethodName) (head1 (Jvm.Cond.code (⟨"com/example/meerkat/meerkat/simulate/CompletionsSetPinLaw", "step", "(Lcom/example/meerkat/meerkat/simulate/Completions;[II)Z"⟩ : MethodName) method_4_code 5 (some .boolean) :: ws) (oR 2 0 0 56)) (fun a U => a = #[(.ref cP), (.ref rP), (.int xP)] ∧ Z.Warmed39 U.vm ∧ U.heap = h0) (fun _ _ _ _ _ => True) (fun _ U o U' => ∃ v L, o = .returned v ∧ QP Z cP rP xP gP hP pP kt kh kp tt PP eA eB eC eD eE eF kr h0 n0 v U'.heap L ∧ FrameEnd U o U' L (oR 2 0 0 56).cells (oR 2 0 0 56).slots) := by
  refine MetFree.of_bodySF (plainFor_of_name own_pn2) hisR ?_
  intro p e s m args below meth c s₁ Bd hml0 hP hK
  obtain ⟨rfl, hZ, hh⟩ := hP
  have hx := Bd.exec
  have hby := Bd.bytes
  have hlk : meth.locks = false := Bd.notSynchronized
  have hml : c.maxLocals = 5 := hml0
  have hown : s.vm.findClass "com/example/meerkat/meerkat/simulate/CompletionsSetPinLaw" = some m.cls := findClass_of_methodNamed Bd.named
  have hnm := (name_of_methodNamed Bd.named Bd.method).1
  have X0 : Stand p l e (oR 2 0 0 56) s m #[(.ref cP), (.ref rP), (.int xP)] below meth c s₁ [] 0 0 := Stand.of_body Bd
  have e0 : s₁.heap = h0 := by rw [← hh, Bd.state]; rfl
  have N0 := Fr.nil n0
  refine own_body (A := s₁.setTop (mkF m 0 #[rv cP, rv rP, iv xP, uu, uu] [])) (Q := QP Z cP rP xP gP hP pP kt kh kp tt PP eA eB eC eD eE eF kr h0 n0) (fun t k => castTop (own_efP m cP rP xP) k) ?_
  refine oILN (n := 1) X0 hx (hb hby own_d4_0) rfl rfl ?_
  refine ov (B := s₁.setTop (mkF m 3 #[rv cP, rv rP, iv xP, uu, uu] [(.int (65535 : Int32)), (.int xP)])) (fun t k => X0.ldcInt hx hown (mvT hZ (oW hw 26 rfl)) (g := (mkF m 1 #[rv cP, rv rP, iv xP, uu, uu] [(.int xP)])) rfl (hb hby own_d4_1) _ k) ?_
  refine ov (B := s₁.setTop (mkF m 4 #[rv cP, rv rP, iv xP, uu, uu] [(.int (xP &&& (65535 : Int32)))])) (fun t k => XS.iand X0.here hx rfl (hb hby own_d4_3) rfl k) ?_
  refine oBP (n := 6) X0 hx (6 : Int32) (hb hby own_d4_4) (by decide) rfl ?_
  refine ov (B := s₁.setTop (mkF m 7 #[rv cP, rv rP, iv xP, uu, uu] [(.int ((xP &&& (65535 : Int32)) % (6 : Int32)))])) (fun t k => iremM X0 hx rfl (hb hby own_d4_6) rfl (by decide) k) ?_
  refine ov (B := s₁.setTop (mkF m 8 #[rv cP, rv rP, iv xP, iv ((xP &&& (65535 : Int32)) % (6 : Int32)), uu] [])) (fun t k => XS.istoreN X0.here hx rfl (hb hby own_d4_7) rfl (l' := #[rv cP, rv rP, iv xP, iv ((xP &&& (65535 : Int32)) % (6 : Int32)), uu]) rfl k) ?_
  generalize hs7 : ((xP &&& (65535 : Int32)) % (6 : Int32)) = s7
  refine oILN (n := 9) X0 hx (hb hby own_d4_8) rfl rfl ?_
  refine oBP (n := 11) X0 hx (29 : Int32) (hb hby own_d4_9) (by decide) rfl ?_
  refine ov (B := s₁.setTop (mkF m 12 #[rv cP, rv rP, iv xP, iv s7, uu] [(.int ((xP.toUInt32 >>> ((29 : Int32) &&& 31).toUInt32).toInt32))])) (fun t k => XS.iushr X0.here hx rfl (hb hby own_d4_11) rfl k) ?_
  refine oBP (n := 14) X0 hx (7 : Int32) (hb hby own_d4_12) (by decide) rfl ?_
  refine ov (B := s₁.setTop (mkF m 15 #[rv cP, rv rP, iv xP, iv s7, uu] [(.int (((xP.toUInt32 >>> ((29 : Int32) &&& 31).toUInt32).toInt32) &&& (7 : Int32)))])) (fun t k => XS.iand X0.here hx rfl (hb hby own_d4_14) rfl k) ?_
  refine ov (B := s₁.setTop (mkF m 17 #[rv cP, rv rP, iv xP, iv s7, iv (((xP.toUInt32 >>> ((29 : Int32) &&& 31).toUInt32).toInt32) &&& (7 : Int32))] [])) (fun t k => XS.istore X0.here hx rfl (hb hby own_d4_15) rfl (l' := #[rv cP, rv rP, iv xP, iv s7, iv (((xP.toUInt32 >>> ((29 : Int32) &&& 31).toUInt32).toInt32) &&& (7 : Int32))]) rfl k) ?_
  generalize hs15 : (((xP.toUInt32 >>> ((29 : Int32) &&& 31).toUInt32).toInt32) &&& (7 : Int32)) = s15
  refine oALN (n := 18) X0 hx (hb hby own_d4_17) rfl rfl rfl ?_
  refine oILN (n := 19) X0 hx (hb hby own_d4_18) rfl rfl ?_
  refine oIL (n := 21) X0 hx (hb hby own_d4_19) rfl rfl ?_
  obtain ⟨cl1, Ar1, q1, S1, M1, H1, G1⟩ := id Vr
  obtain ⟨T2, h2, X2, e2, W2, st2⟩ := stI X0 hx hZ e0 Ar1 (j := s7) (inb_of S1 (own_Rb (by rw [← hs7]; exact own_s6 xP))) (g := (mkF m 21 #[rv cP, rv rP, iv xP, iv s7, iv s15] [(.int s15), (.int s7), (.ref rP)])) rfl rfl (hb hby own_d4_21)
  have V2 : Arv Z h2 rP kr .int (6 : Int32) ((tt.set s7.toNatClampNeg s15).map Value.int) (.int (0 : Int32)) := by have q := Arv.set Ar1 q1 S1 M1 H1 G1 rfl W2 s7.toNatClampNeg rfl (by rw [List.length_map, qI.1]; exact own_Rn (by rw [← hs7]; exact own_s6 xP)); rw [own_msI] at q; exact q
  have N2 := Fr.snoc X2 N0 g_rP
  refine ov (B := T2.setTop (mkF m 22 #[rv cP, rv rP, iv xP, iv s7, iv s15] [])) (fun t k => st2 t k) ?_
  refine oALN (n := 23) X2 hx (hb hby own_d4_22) rfl rfl rfl ?_
  refine oILN (n := 24) X2 hx (hb hby own_d4_23) rfl rfl ?_
  refine oIL (n := 26) X2 hx (hb hby own_d4_24) rfl rfl ?_
  refine oBP (n := 28) X2 hx (7 : Int32) (hb hby own_d4_26) (by decide) rfl ?_
  by_cases hc28 : s15 = (7 : Int32)
  · refine ov (B := T2.setTop (mkF m 31 #[rv cP, rv rP, iv xP, iv s7, iv s15] [(.int s7), (.ref cP)])) (fun t k => XS.icmpNo X2.here hx rfl (hb hby own_d4_28) rfl (teq hc28).2 k) ?_
    obtain ⟨_, _, ⟨T3, L3, k3, n3⟩, -, X3, ⟨Lc3, hQ3, l3, y3, z3⟩, st3⟩ := Jvm.LawKit.callS X2 hx (y := (⟨"com/example/meerkat/meerkat/simulate/CompletionsSetPinLaw", "inf", "()D"⟩ : MethodName)) hown (mvT hZ (oW hw 53 rfl)) (mvT hZ (oW hw 54 rfl)) (mvT hZ (oW hw 24 rfl)) (mvT hZ (oW hw 55 rfl)) (by decide) (backOf (W := 2) (rmF l Z a0 hw []  h2 n0 (Nat.le_trans Z0 (Keep.of_wr W2).1) ) hZ (oW hw 55 rfl) (oW hw 24 rfl) (by decide) (by decide)) (g := (mkF m 31 #[rv cP, rv rP, iv xP, iv s7, iv s15] [(.int s7), (.ref cP)])) rfl (by rw [hml]; rfl) (argsL := []) (rest := [(.int s7), (.ref cP)]) (lenOf own_pd2 rfl) rfl (by show 2 * 0 + _ ≤ _; exact Nat.le_of_eq rfl) (hb hby own_d4_31) (fun _ _ => ⟨rfl, e2, (by decide : 0 + 0 ≤ _), (by decide : 0 + 0 ≤ _)⟩)
    dsimp only [Pt.U, Pt.locs, Pt.cells, Pt.slots] at X3 l3 y3 z3 st3 hQ3
    subst l3 y3 z3
    obtain ⟨rfl, Nq3, eq3⟩ := hQ3
    have N3 := Fr.app N2 Nq3
    refine ov (B := T3.setTop (mkF m 34 #[rv cP, rv rP, iv xP, iv s7, iv s15] [(.double (9218868437227405312 : UInt64)), (.int s7), (.ref cP)])) (fun t k => st3 t k) ?_
    refine oGO (n := 40) X3 hx (hb hby own_d4_34) (by decide) (by decide) ?_
    obtain ⟨cq4, kq4, q4a, q4b, q4c⟩ := isOf hZ eq3 (Eo.wr W2)
    obtain ⟨_, _, ⟨T4, L4, k4, n4⟩, -, X4, ⟨Lc4, hQ4, l4, y4, z4⟩, st4⟩ := X3.virtualBack hx (y := (⟨"com/example/meerkat/meerkat/simulate/Completions", "set", "(ID)V"⟩ : MethodName)) (z := (⟨"com/example/meerkat/meerkat/simulate/Completions", "set", "(ID)V"⟩ : MethodName)) hown (mvT hZ (oW hw 27 rfl)) (mvT hZ (oW hw 28 rfl)) (notFace_of_selects (args := #[]) (mvT hZ (oW hw 30 rfl))) (mvT hZ (oW hw 30 rfl)) (mvT hZ (oW hw 29 rfl)) (by decide) (backOf (W := 0) (rmT l Z a0 hw [] cP s7 (9218868437227405312 : UInt64) gP hP pP kt kh kp tt PP eA eB eC eD eE eF s15 h2 n0 (Nat.le_trans Z0 (Keep.of_wr W2).1) (Eo.wr W2) (Ft.other W2 (Or.inl (Exa.neArv (Eo.wr W2) V2 (oW hw 1 rfl)))) (Fh.other W2 (Or.inl (Exa.neArv (Eo.wr W2) V2 (oW hw 1 rfl)))) (Fp.other W2 (Or.inl (Exa.neArv (Eo.wr W2) V2 (oW hw 1 rfl)))) (Vt.other W2 (Ne.symm nrg)) (Vh.other W2 (Ne.symm nrh)) (Vp.other W2 (Ne.symm nrp)) ngh ngp nhp g_gP g_hP g_pP (by assumption) (by assumption) (by assumption) (by assumption) (by rw [← hs7]; exact own_s6 xP) (by rw [← hs15]; exact own_y7 _) (own_tw7 hc28)) hZ (oW hw 31 rfl) (oW hw 2 rfl) (by decide) (by decide)) q4a q4c (g := (mkF m 40 #[rv cP, rv rP, iv xP, iv s7, iv s15] [(.double (9218868437227405312 : UInt64)), (.int s7), (.ref cP)])) rfl (by rw [hml]; rfl) (Steps.refl _) (argsL := [(.int s7), (.double (9218868437227405312 : UInt64))]) (rest := []) (lenOf own_pd3 rfl) rfl (by show 2 * 0 + _ ≤ _; exact Nat.le_of_eq rfl) (hb hby own_d4_40) (fun _ _ => ⟨rfl, eq3, (by decide : (0 + 0) + 0 ≤ _), (by decide : (0 + 0) + 0 ≤ _)⟩)
    dsimp only [Pt.U, Pt.locs, Pt.cells, Pt.slots] at X4 l4 y4 z4 st4 hQ4
    subst l4 y4 z4
    obtain ⟨fA_4, fB_4, fC_4, fD_4, fE_4, fF_4, PQ_4, rfl, Nq4, Kq4, qI_4, qP_4, qS_4, qO_4, f4_0, f4_1, f4_2⟩ := hQ4
    have N4 := Fr.app N3 Nq4
    refine ov (B := T4.setTop (mkF m 43 #[rv cP, rv rP, iv xP, iv s7, iv s15] [])) (fun t k => st4.trans k) ?_
    refine oALN (n := 44) X4 hx (hb hby own_d4_43) rfl rfl rfl ?_
    obtain ⟨cq5, kq5, q5a, q5b, q5c⟩ := isOf hZ rfl ((Eo.wr W2).keep Kq4)
    obtain ⟨_, _, ⟨T5, L5, k5, n5⟩, -, X5, ⟨Lc5, hQ5, l5, y5, z5⟩, st5⟩ := X4.virtualBack hx (y := (⟨"com/example/meerkat/meerkat/simulate/Completions", "earliest", "()I"⟩ : MethodName)) (z := (⟨"com/example/meerkat/meerkat/simulate/Completions", "earliest", "()I"⟩ : MethodName)) hown (mvT hZ (oW hw 40 rfl)) (mvT hZ (oW hw 41 rfl)) (notFace_of_selects (args := #[]) (mvT hZ (oW hw 43 rfl))) (mvT hZ (oW hw 43 rfl)) (mvT hZ (oW hw 42 rfl)) (by decide) (backOf (W := 0) (rmE l Z a0 hw [] cP hP kh fA_4 fB_4 fC_4 fD_4 fE_4 fF_4 T4.heap n0 (Nat.le_trans (Nat.le_trans Z0 (Keep.of_wr W2).1) Kq4.1) ((Fh.other W2 (Or.inl (Exa.neArv (Eo.wr W2) V2 (oW hw 1 rfl)))).keep Kq4 (ninS (Exa.neArv ((Eo.wr W2).keep Kq4) f4_0 (oW hw 1 rfl)) (ninS (Exa.neArv ((Eo.wr W2).keep Kq4) f4_1 (oW hw 1 rfl)) (ninS (Exa.neArv ((Eo.wr W2).keep Kq4) f4_2 (oW hw 1 rfl)) nin0)))) f4_1) hZ (oW hw 44 rfl) (oW hw 2 rfl) (by decide) (by decide)) q5a q5c (g := (mkF m 44 #[rv cP, rv rP, iv xP, iv s7, iv s15] [(.ref cP)])) rfl (by rw [hml]; rfl) (Steps.refl _) (argsL := []) (rest := []) (lenOf own_pd4 rfl) rfl (by show 2 * 0 + _ ≤ _; exact Nat.le_of_eq rfl) (hb hby own_d4_44) (fun _ _ => ⟨rfl, rfl, (by decide : ((0 + 0) + 0) + 0 ≤ _), (by decide : ((0 + 0) + 0) + 0 ≤ _)⟩)
    dsimp only [Pt.U, Pt.locs, Pt.cells, Pt.slots] at X5 l5 y5 z5 st5 hQ5
    subst l5 y5 z5
    obtain ⟨rfl, Nq5, eq5⟩ := hQ5
    have N5 := Fr.app N4 Nq5
    refine ov (B := T5.setTop (mkF m 47 #[rv cP, rv rP, iv xP, iv s7, iv s15] [(.int fA_4)])) (fun t k => st5.trans k) ?_
    refine oALN (n := 48) X5 hx (hb hby own_d4_47) rfl rfl rfl ?_
    obtain ⟨_, _, ⟨T6, L6, k6, n6⟩, -, X6, ⟨Lc6, hQ6, l6, y6, z6⟩, st6⟩ := Jvm.LawKit.callS X5 hx (y := (⟨"com/example/meerkat/meerkat/simulate/CompletionsSetPinLaw", "least", "([I)I"⟩ : MethodName)) hown (mvT hZ (oW hw 45 rfl)) (mvT hZ (oW hw 46 rfl)) (mvT hZ (oW hw 24 rfl)) (mvT hZ (oW hw 47 rfl)) (by decide) (backOf (W := 1) (rmL l Z a0 hw [] rP kr (own_mv tt s7 s15) T4.heap n0 (Nat.le_trans (Nat.le_trans Z0 (Keep.of_wr W2).1) Kq4.1) (V2.keep Kq4 (ninS nrg (ninS nrh (ninS nrp nin0))))) hZ (oW hw 47 rfl) (oW hw 24 rfl) (by decide) (by decide)) (g := (mkF m 48 #[rv cP, rv rP, iv xP, iv s7, iv s15] [(.ref rP), (.int fA_4)])) rfl (by rw [hml]; rfl) (argsL := [(.ref rP)]) (rest := [(.int fA_4)]) (lenOf own_pd5 rfl) rfl (by show 2 * 0 + _ ≤ _; exact Nat.le_of_eq rfl) (hb hby own_d4_48) (fun _ _ => ⟨rfl, eq5, (by decide : (((0 + 0) + 0) + 0) + 0 ≤ _), (by decide : (((0 + 0) + 0) + 0) + 0 ≤ _)⟩)
    dsimp only [Pt.U, Pt.locs, Pt.cells, Pt.slots] at X6 l6 y6 z6 st6 hQ6
    subst l6 y6 z6
    obtain ⟨rfl, Nq6, eq6⟩ := hQ6
    have N6 := Fr.app N5 Nq6
    refine ov (B := T6.setTop (mkF m 51 #[rv cP, rv rP, iv xP, iv s7, iv s15] [(.int (own_b (own_mv tt s7 s15) 5)), (.int fA_4)])) (fun t k => st6 t k) ?_
    have hc51 : fA_4 = (own_b (own_mv tt s7 s15) 5) := own_min qP_4 qS_4 qO_4
    refine ov (B := T6.setTop (mkF m 54 #[rv cP, rv rP, iv xP, iv s7, iv s15] [])) (fun t k => XS.icmpNo X6.here hx rfl (hb hby own_d4_51) rfl (teq hc51).2 k) ?_
    refine oIC (n := 55) X6 hx (1 : Int32) (hb hby own_d4_54) (by decide) rfl ?_
    refine oGO (n := 59) X6 hx (hb hby own_d4_55) (by decide) (by decide) ?_
    refine own_leaf X6 hx hlk (t := .boolean) Bd.returns (by decide) (Or.inl ⟨rfl, by simp, _, rfl⟩) (hb hby own_d4_59) (by decide) (by decide) ?_
    show QP Z cP rP xP gP hP pP kt kh kp tt PP eA eB eC eD eE eF kr h0 n0 _ T6.heap _
    rw [eq6]
    refine ⟨(own_mv tt s7 s15), fA_4, fB_4, fC_4, fD_4, fE_4, fF_4, PQ_4, ?_, N6, (((Keep.refl h0 [gP, hP, pP, rP]).wr W2 (Or.inl (List.mem_of_getElem? (i := 3) rfl))).trans Kq4 (allS (Or.inl (List.mem_of_getElem? (i := 0) rfl)) (allS (Or.inl (List.mem_of_getElem? (i := 1) rfl)) (allS (Or.inl (List.mem_of_getElem? (i := 2) rfl)) all0)))), ?_, ?_, ?_, ?_, f4_0, f4_1, f4_2, (V2.keep Kq4 (ninS nrg (ninS nrh (ninS nrp nin0))))⟩
    · rfl
    · exact qI_4
    · exact qP_4
    · exact qS_4
    · exact qO_4
  · refine ov (B := T2.setTop (mkF m 37 #[rv cP, rv rP, iv xP, iv s7, iv s15] [(.int s7), (.ref cP)])) (fun t k => XS.icmpYes X2.here hx rfl (pc0 := 28) (pc' := 37) rfl (hb hby own_d4_28) rfl (feq hc28).2 (by decide) (by decide) k) ?_
    refine oIL (n := 39) X2 hx (hb hby own_d4_37) rfl rfl ?_
    refine ov (B := T2.setTop (mkF m 40 #[rv cP, rv rP, iv xP, iv s7, iv s15] [(.double (FP.i2d s15)), (.int s7), (.ref cP)])) (fun t k => XS.i2dS X2.here hx rfl (hb hby own_d4_39) rfl rfl k) ?_
    obtain ⟨cq7, kq7, q7a, q7b, q7c⟩ := isOf hZ e2 (Eo.wr W2)
    obtain ⟨_, _, ⟨T7, L7, k7, n7⟩, -, X7, ⟨Lc7, hQ7, l7, y7, z7⟩, st7⟩ := X2.virtualBack hx (y := (⟨"com/example/meerkat/meerkat/simulate/Completions", "set", "(ID)V"⟩ : MethodName)) (z := (⟨"com/example/meerkat/meerkat/simulate/Completions", "set", "(ID)V"⟩ : MethodName)) hown (mvT hZ (oW hw 27 rfl)) (mvT hZ (oW hw 28 rfl)) (notFace_of_selects (args := #[]) (mvT hZ (oW hw 30 rfl))) (mvT hZ (oW hw 30 rfl)) (mvT hZ (oW hw 29 rfl)) (by decide) (backOf (W := 0) (rmT l Z a0 hw [] cP s7 (FP.i2d s15) gP hP pP kt kh kp tt PP eA eB eC eD eE eF s15 h2 n0 (Nat.le_trans Z0 (Keep.of_wr W2).1) (Eo.wr W2) (Ft.other W2 (Or.inl (Exa.neArv (Eo.wr W2) V2 (oW hw 1 rfl)))) (Fh.other W2 (Or.inl (Exa.neArv (Eo.wr W2) V2 (oW hw 1 rfl)))) (Fp.other W2 (Or.inl (Exa.neArv (Eo.wr W2) V2 (oW hw 1 rfl)))) (Vt.other W2 (Ne.symm nrg)) (Vh.other W2 (Ne.symm nrh)) (Vp.other W2 (Ne.symm nrp)) ngh ngp nhp g_gP g_hP g_pP (by assumption) (by assumption) (by assumption) (by assumption) (by rw [← hs7]; exact own_s6 xP) (by rw [← hs15]; exact own_y7 _) (own_twn hc28)) hZ (oW hw 31 rfl) (oW hw 2 rfl) (by decide) (by decide)) q7a q7c (g := (mkF m 40 #[rv cP, rv rP, iv xP, iv s7, iv s15] [(.double (FP.i2d s15)), (.int s7), (.ref cP)])) rfl (by rw [hml]; rfl) (Steps.refl _) (argsL := [(.int s7), (.double (FP.i2d s15))]) (rest := []) (lenOf own_pd3 rfl) rfl (by show 2 * 0 + _ ≤ _; exact Nat.le_of_eq rfl) (hb hby own_d4_40) (fun _ _ => ⟨rfl, e2, (by decide : 0 + 0 ≤ _), (by decide : 0 + 0 ≤ _)⟩)
    dsimp only [Pt.U, Pt.locs, Pt.cells, Pt.slots] at X7 l7 y7 z7 st7 hQ7
    subst l7 y7 z7
    obtain ⟨fA_7, fB_7, fC_7, fD_7, fE_7, fF_7, PQ_7, rfl, Nq7, Kq7, qI_7, qP_7, qS_7, qO_7, f7_0, f7_1, f7_2⟩ := hQ7
    have N7 := Fr.app N2 Nq7
    refine ov (B := T7.setTop (mkF m 43 #[rv cP, rv rP, iv xP, iv s7, iv s15] [])) (fun t k => st7.trans k) ?_
    refine oALN (n := 44) X7 hx (hb hby own_d4_43) rfl rfl rfl ?_
    obtain ⟨cq8, kq8, q8a, q8b, q8c⟩ := isOf hZ rfl ((Eo.wr W2).keep Kq7)
    obtain ⟨_, _, ⟨T8, L8, k8, n8⟩, -, X8, ⟨Lc8, hQ8, l8, y8, z8⟩, st8⟩ := X7.virtualBack hx (y := (⟨"com/example/meerkat/meerkat/simulate/Completions", "earliest", "()I"⟩ : MethodName)) (z := (⟨"com/example/meerkat/meerkat/simulate/Completions", "earliest", "()I"⟩ : MethodName)) hown (mvT hZ (oW hw 40 rfl)) (mvT hZ (oW hw 41 rfl)) (notFace_of_selects (args := #[]) (mvT hZ (oW hw 43 rfl))) (mvT hZ (oW hw 43 rfl)) (mvT hZ (oW hw 42 rfl)) (by decide) (backOf (W := 0) (rmE l Z a0 hw [] cP hP kh fA_7 fB_7 fC_7 fD_7 fE_7 fF_7 T7.heap n0 (Nat.le_trans (Nat.le_trans Z0 (Keep.of_wr W2).1) Kq7.1) ((Fh.other W2 (Or.inl (Exa.neArv (Eo.wr W2) V2 (oW hw 1 rfl)))).keep Kq7 (ninS (Exa.neArv ((Eo.wr W2).keep Kq7) f7_0 (oW hw 1 rfl)) (ninS (Exa.neArv ((Eo.wr W2).keep Kq7) f7_1 (oW hw 1 rfl)) (ninS (Exa.neArv ((Eo.wr W2).keep Kq7) f7_2 (oW hw 1 rfl)) nin0)))) f7_1) hZ (oW hw 44 rfl) (oW hw 2 rfl) (by decide) (by decide)) q8a q8c (g := (mkF m 44 #[rv cP, rv rP, iv xP, iv s7, iv s15] [(.ref cP)])) rfl (by rw [hml]; rfl) (Steps.refl _) (argsL := []) (rest := []) (lenOf own_pd4 rfl) rfl (by show 2 * 0 + _ ≤ _; exact Nat.le_of_eq rfl) (hb hby own_d4_44) (fun _ _ => ⟨rfl, rfl, (by decide : (0 + 0) + 0 ≤ _), (by decide : (0 + 0) + 0 ≤ _)⟩)
    dsimp only [Pt.U, Pt.locs, Pt.cells, Pt.slots] at X8 l8 y8 z8 st8 hQ8
    subst l8 y8 z8
    obtain ⟨rfl, Nq8, eq8⟩ := hQ8
    have N8 := Fr.app N7 Nq8
    refine ov (B := T8.setTop (mkF m 47 #[rv cP, rv rP, iv xP, iv s7, iv s15] [(.int fA_7)])) (fun t k => st8.trans k) ?_
    refine oALN (n := 48) X8 hx (hb hby own_d4_47) rfl rfl rfl ?_
    obtain ⟨_, _, ⟨T9, L9, k9, n9⟩, -, X9, ⟨Lc9, hQ9, l9, y9, z9⟩, st9⟩ := Jvm.LawKit.callS X8 hx (y := (⟨"com/example/meerkat/meerkat/simulate/CompletionsSetPinLaw", "least", "([I)I"⟩ : MethodName)) hown (mvT hZ (oW hw 45 rfl)) (mvT hZ (oW hw 46 rfl)) (mvT hZ (oW hw 24 rfl)) (mvT hZ (oW hw 47 rfl)) (by decide) (backOf (W := 1) (rmL l Z a0 hw [] rP kr (own_mv tt s7 s15) T7.heap n0 (Nat.le_trans (Nat.le_trans Z0 (Keep.of_wr W2).1) Kq7.1) (V2.keep Kq7 (ninS nrg (ninS nrh (ninS nrp nin0))))) hZ (oW hw 47 rfl) (oW hw 24 rfl) (by decide) (by decide)) (g := (mkF m 48 #[rv cP, rv rP, iv xP, iv s7, iv s15] [(.ref rP), (.int fA_7)])) rfl (by rw [hml]; rfl) (argsL := [(.ref rP)]) (rest := [(.int fA_7)]) (lenOf own_pd5 rfl) rfl (by show 2 * 0 + _ ≤ _; exact Nat.le_of_eq rfl) (hb hby own_d4_48) (fun _ _ => ⟨rfl, eq8, (by decide : ((0 + 0) + 0) + 0 ≤ _), (by decide : ((0 + 0) + 0) + 0 ≤ _)⟩)
    dsimp only [Pt.U, Pt.locs, Pt.cells, Pt.slots] at X9 l9 y9 z9 st9 hQ9
    subst l9 y9 z9
    obtain ⟨rfl, Nq9, eq9⟩ := hQ9
    have N9 := Fr.app N8 Nq9
    refine ov (B := T9.setTop (mkF m 51 #[rv cP, rv rP, iv xP, iv s7, iv s15] [(.int (own_b (own_mv tt s7 s15) 5)), (.int fA_7)])) (fun t k => st9 t k) ?_
    have hc51 : fA_7 = (own_b (own_mv tt s7 s15) 5) := own_min qP_7 qS_7 qO_7
    refine ov (B := T9.setTop (mkF m 54 #[rv cP, rv rP, iv xP, iv s7, iv s15] [])) (fun t k => XS.icmpNo X9.here hx rfl (hb hby own_d4_51) rfl (teq hc51).2 k) ?_
    refine oIC (n := 55) X9 hx (1 : Int32) (hb hby own_d4_54) (by decide) rfl ?_
    refine oGO (n := 59) X9 hx (hb hby own_d4_55) (by decide) (by decide) ?_
    refine own_leaf X9 hx hlk (t := .boolean) Bd.returns (by decide) (Or.inl ⟨rfl, by simp, _, rfl⟩) (hb hby own_d4_59) (by decide) (by decide) ?_
    show QP Z cP rP xP gP hP pP kt kh kp tt PP eA eB eC eD eE eF kr h0 n0 _ T9.heap _
    rw [eq9]
    refine ⟨(own_mv tt s7 s15), fA_7, fB_7, fC_7, fD_7, fE_7, fF_7, PQ_7, ?_, N9, (((Keep.refl h0 [gP, hP, pP, rP]).wr W2 (Or.inl (List.mem_of_getElem? (i := 3) rfl))).trans Kq7 (allS (Or.inl (List.mem_of_getElem? (i := 0) rfl)) (allS (Or.inl (List.mem_of_getElem? (i := 1) rfl)) (allS (Or.inl (List.mem_of_getElem? (i := 2) rfl)) all0)))), ?_, ?_, ?_, ?_, f7_0, f7_1, f7_2, (V2.keep Kq7 (ninS nrg (ninS nrh (ninS nrp nin0))))⟩
    · rfl
    · exact qI_7
    · exact qP_7
    · exact qS_7
    · exact qO_7
theorem own_pd6 : parseMethodDescriptor "([DD)V" = some ⟨[(.array .double), .double], none⟩ := by decide +kernel
theorem own_d1_0 : decode prog_26_method_1_code 0 = .ok (.aload_n 0, 1) := by decide +kernel
theorem own_d1_1 : decode prog_26_method_1_code 1 = .ok (.invokespecial 1, 3) := by decide +kernel
theorem own_d1_4 : decode prog_26_method_1_code 4 = .ok (.aload_n 0, 1) := by decide +kernel
theorem own_d1_5 : decode prog_26_method_1_code 5 = .ok (.iload_n 1, 1) := by decide +kernel
theorem own_d1_6 : decode prog_26_method_1_code 6 = .ok (.newarray .double, 2) := by decide +kernel
theorem own_d1_8 : decode prog_26_method_1_code 8 = .ok (.putfield 7, 3) := by decide +kernel
theorem own_d1_11 : decode prog_26_method_1_code 11 = .ok (.aload_n 0, 1) := by decide +kernel
theorem own_d1_12 : decode prog_26_method_1_code 12 = .ok (.iload_n 1, 1) := by decide +kernel
theorem own_d1_13 : decode prog_26_method_1_code 13 = .ok (.newarray .int, 2) := by decide +kernel
theorem own_d1_15 : decode prog_26_method_1_code 15 = .ok (.putfield 13, 3) := by decide +kernel
theorem own_d1_18 : decode prog_26_method_1_code 18 = .ok (.aload_n 0, 1) := by decide +kernel
theorem own_d1_19 : decode prog_26_method_1_code 19 = .ok (.iload_n 1, 1) := by decide +kernel
theorem own_d1_20 : decode prog_26_method_1_code 20 = .ok (.newarray .int, 2) := by decide +kernel
theorem own_d1_22 : decode prog_26_method_1_code 22 = .ok (.putfield 17, 3) := by decide +kernel
theorem own_d1_25 : decode prog_26_method_1_code 25 = .ok (.aload_n 0, 1) := by decide +kernel
theorem own_d1_26 : decode prog_26_method_1_code 26 = .ok (.getfield 7, 3) := by decide +kernel
theorem own_d1_29 : decode prog_26_method_1_code 29 = .ok (.ldc2_w 22, 3) := by decide +kernel
theorem own_d1_32 : decode prog_26_method_1_code 32 = .ok (.invokestatic 24, 3) := by decide +kernel
theorem own_d1_35 : decode prog_26_method_1_code 35 = .ok (.iconst 0, 1) := by decide +kernel
theorem own_d1_36 : decode prog_26_method_1_code 36 = .ok (.istore_n 2, 1) := by decide +kernel
theorem own_d1_37 : decode prog_26_method_1_code 37 = .ok (.iload_n 2, 1) := by decide +kernel
theorem own_d1_38 : decode prog_26_method_1_code 38 = .ok (.iload_n 1, 1) := by decide +kernel
theorem own_d1_39 : decode prog_26_method_1_code 39 = .ok (.if_icmp .ge 23, 3) := by decide +kernel
theorem own_d1_42 : decode prog_26_method_1_code 42 = .ok (.aload_n 0, 1) := by decide +kernel
theorem own_d1_43 : decode prog_26_method_1_code 43 = .ok (.getfield 13, 3) := by decide +kernel
theorem own_d1_46 : decode prog_26_method_1_code 46 = .ok (.iload_n 2, 1) := by decide +kernel
theorem own_d1_47 : decode prog_26_method_1_code 47 = .ok (.iload_n 2, 1) := by decide +kernel
theorem own_d1_48 : decode prog_26_method_1_code 48 = .ok (.iastore, 1) := by decide +kernel
theorem own_d1_49 : decode prog_26_method_1_code 49 = .ok (.aload_n 0, 1) := by decide +kernel
theorem own_d1_50 : decode prog_26_method_1_code 50 = .ok (.getfield 17, 3) := by decide +kernel
theorem own_d1_53 : decode prog_26_method_1_code 53 = .ok (.iload_n 2, 1) := by decide +kernel
theorem own_d1_54 : decode prog_26_method_1_code 54 = .ok (.iload_n 2, 1) := by decide +kernel
theorem own_d1_55 : decode prog_26_method_1_code 55 = .ok (.iastore, 1) := by decide +kernel
theorem own_d1_56 : decode prog_26_method_1_code 56 = .ok (.iinc 2 1, 3) := by decide +kernel
theorem own_d1_59 : decode prog_26_method_1_code 59 = .ok (.goto (-22), 3) := by decide +kernel
theorem own_d1_62 : decode prog_26_method_1_code 62 = .ok (.return_, 1) := by decide +kernel
theorem own_efI (m : MethodId) (x0 : Addr) (x1 : Int32) : entryFrame m #[(.ref x0), (.int x1)] 3 = mkF m 0 #[rv x0, iv x1, uu] [] := by first | (simp [entryFrame, mkF, argsToLocals, Value.category]; done) | rfl
def QI (Z : State) (a1 : Addr) (u0 : Value) (u1 : Value) (u3 : Value) (h0 : Heap) (n0 : Nat) (v : Option Value) (h : Heap) (L : List Loc) : Prop := ∃ (g1 : Addr) (d1 : Addr) (p1 : Addr) (kt : ClassId) (kh : ClassId) (kp : ClassId), v = none ∧ Fr n0 L ∧ Keep h0 h [a1] ∧ (h0.size ≤ g1) ∧ (h0.size ≤ d1) ∧ (h0.size ≤ p1) ∧ (g1 ≠ d1) ∧ (g1 ≠ p1) ∧ (d1 ≠ p1) ∧ (Fld Z h a1 "com/example/meerkat/meerkat/simulate/Completions" "times" "[D" (.ref g1)) ∧ (Fld Z h a1 "com/example/meerkat/meerkat/simulate/Completions" "heap" "[I" (.ref d1)) ∧ (Fld Z h a1 "com/example/meerkat/meerkat/simulate/Completions" "places" "[I" (.ref p1)) ∧ (Arv Z h g1 kt .double (6 : Int32) (([7, 7, 7, 7, 7, 7] : List Int32).map own_tv) (.double (own_tw 0))) ∧ (Arv Z h d1 kh .int (6 : Int32) [(.int (0 : Int32)), (.int (1 : Int32)), (.int (2 : Int32)), (.int (3 : Int32)), (.int (4 : Int32)), (.int (5 : Int32))] (.int (0 : Int32))) ∧ (Arv Z h p1 kp .int (6 : Int32) (([0, 1, 2, 3, 4, 5] : List Int32).map Value.int) (.int (0 : Int32)))
set_option maxRecDepth 65536 in
set_option maxHeartbeats 40000000 in
theorem rmI (l : Launch) (Z : State) (a0 : Array Value) (hw : ∀ d ∈ tables_1, d.before a0 Z = true) (ws : List Jvm.Cond) (a1 : Addr) (u0 : Value) (u1 : Value) (u3 : Value) (h0 : Heap) (n0 : Nat) (Z0 : n0 ≤ h0.size) (E1 : Exa Z h0 a1 "com/example/meerkat/meerkat/simulate/Completions") (F0 : Fld Z h0 a1 "com/example/meerkat/meerkat/simulate/Completions" "times" "[D" u0) (F1 : Fld Z h0 a1 "com/example/meerkat/meerkat/simulate/Completions" "heap" "[I" u1) (F2 : Fld Z h0 a1 "com/example/meerkat/meerkat/simulate/Completions" "places" "[I" u3) (g_a1 : n0 ≤ a1) :
    MetFree l (⟨"com/example/meerkat/meerkat/simulate/Completions", "<init>", "(I)V"⟩ : MethodName) (head1 (Jvm.Cond.code (⟨"com/example/meerkat/meerkat/simulate/Completions", "<init>", "(I)V"⟩ : MethodName) prog_26_method_1_code 3 none :: ws) (oR 1 3 18 24)) (fun a U => a = #[(.ref a1), (.int (6 : Int32))] ∧ Z.Warmed39 U.vm ∧ U.heap = h0) (fun _ _ _ _ _ => True) (fun _ U o U' => ∃ v L, o = .returned v ∧ QI Z a1 u0 u1 u3 h0 n0 v U'.heap L ∧ FrameEnd U o U' L (oR 1 3 18 24).cells (oR 1 3 18 24).slots) := by
  refine MetFree.of_bodySF (plainFor_of_name own_pn1) hisR ?_
  intro p e s m args below meth c s₁ Bd hml0 hP hK
  obtain ⟨rfl, hZ, hh⟩ := hP
  have hx := Bd.exec
  have hby := Bd.bytes
  have hlk : meth.locks = false := Bd.notSynchronized
  have hml : c.maxLocals = 3 := hml0
  have hown : s.vm.findClass "com/example/meerkat/meerkat/simulate/Completions" = some m.cls := findClass_of_methodNamed Bd.named
  have hnm := (name_of_methodNamed Bd.named Bd.method).1
  have X0 : Stand p l e (oR 1 3 18 24) s m #[(.ref a1), (.int (6 : Int32))] below meth c s₁ [] 0 0 := Stand.of_body Bd
  have e0 : s₁.heap = h0 := by rw [← hh, Bd.state]; rfl
  have N0 := Fr.nil n0
  refine own_body (A := s₁.setTop (mkF m 0 #[rv a1, iv (6 : Int32), uu] [])) (Q := QI Z a1 u0 u1 u3 h0 n0) (fun t k => castTop (own_efI m a1 (6 : Int32)) k) ?_
  refine oALN (n := 1) X0 hx (hb hby own_d1_0) rfl rfl rfl ?_
  obtain ⟨T1, X1, e1, st1⟩ := initO X0 hx hZ hown (oW hw 6 rfl) (oW hw 7 rfl) (oW hw 8 rfl) e0 (g := (mkF m 1 #[rv a1, iv (6 : Int32), uu] [(.ref a1)])) rfl (by rw [hml]; rfl) rfl (hb hby own_d1_1) (by decide) (W := 0) (by show 2 * 0 + _ ≤ _; exact Nat.le_of_eq rfl) (by decide)
  refine ov (B := T1.setTop (mkF m 4 #[rv a1, iv (6 : Int32), uu] [])) (fun t k => st1 t k) ?_
  refine oALN (n := 5) X1 hx (hb hby own_d1_4) rfl rfl rfl ?_
  refine oILN (n := 6) X1 hx (hb hby own_d1_5) rfl rfl ?_
  obtain ⟨T2, h2, kc2, X2, e2, E2, A2, st2⟩ := newP X1 hx hZ (oW hw 9 rfl) e1 (g := (mkF m 6 #[rv a1, iv (6 : Int32), uu] [(.int (6 : Int32)), (.ref a1)])) rfl (hb hby own_d1_6) rfl (by decide) (cap := 6) (by decide) (by decide) (by decide) (by decide)
  obtain ⟨bT, g2⟩ : ∃ z, z = h0.size := ⟨_, rfl⟩
  rw [← g2] at A2 st2
  have g_bT : n0 ≤ bT := Nat.le_trans Z0 (Nat.le_of_eq g2.symm)
  have V2 : Arv Z h2 bT kc2 .double (6 : Int32) [] (.double (0 : UInt64)) := Arv.new A2 (by decide)
  refine ov (B := T2.setTop (mkF m 8 #[rv a1, iv (6 : Int32), uu] [(.ref bT), (.ref a1)])) (fun t k => st2 t k) ?_
  obtain ⟨T3, h3, X3, e3, W3, st3⟩ := putF X2 hx hZ hown (host := "") (Or.inl (oW hw 10 rfl)) Via.refl e2 (F0.ext E2) (E1.ext E2) (Or.inr ⟨(oW hw 11 rfl), rfl, hnm⟩) (oW hw 1 rfl) (ty := (.array .double)) (by decide) rfl rfl (g := (mkF m 8 #[rv a1, iv (6 : Int32), uu] [(.ref bT), (.ref a1)])) rfl rfl (hb hby own_d1_8)
  have Fw3 := (F0.ext E2).same W3
  have N3 := Fr.snoc X3 N0 g_a1
  refine ov (B := T3.setTop (mkF m 11 #[rv a1, iv (6 : Int32), uu] [])) (fun t k => st3 t k) ?_
  refine oALN (n := 12) X3 hx (hb hby own_d1_11) rfl rfl rfl ?_
  refine oILN (n := 13) X3 hx (hb hby own_d1_12) rfl rfl ?_
  obtain ⟨T4, h4, kc4, X4, e4, E4, A4, st4⟩ := newP X3 hx hZ (oW hw 12 rfl) e3 (g := (mkF m 13 #[rv a1, iv (6 : Int32), uu] [(.int (6 : Int32)), (.ref a1)])) rfl (hb hby own_d1_13) rfl (by decide) (cap := 6) (by decide) (by decide) (by decide) (by decide)
  obtain ⟨bH, g4⟩ : ∃ z, z = h3.size := ⟨_, rfl⟩
  rw [← g4] at A4 st4
  have g_bH : n0 ≤ bH := Nat.le_trans (Nat.le_trans (Nat.le_trans Z0 E2.1) (Keep.of_wr W3).1) (Nat.le_of_eq g4.symm)
  have V4 : Arv Z h4 bH kc4 .int (6 : Int32) [(.int (0 : Int32)), (.int (0 : Int32)), (.int (0 : Int32)), (.int (0 : Int32)), (.int (0 : Int32)), (.int (0 : Int32))] (.int (0 : Int32)) := (Arv.new A4 (by decide)).pad (pad_rep [] (.int (0 : Int32)) 6)
  refine ov (B := T4.setTop (mkF m 15 #[rv a1, iv (6 : Int32), uu] [(.ref bH), (.ref a1)])) (fun t k => st4 t k) ?_
  obtain ⟨T5, h5, X5, e5, W5, st5⟩ := putF X4 hx hZ hown (host := "") (Or.inl (oW hw 13 rfl)) Via.refl e4 (((F1.ext E2).other W3 (Or.inr (slot_ne (Or.inr (oW hw 14 rfl)) (Or.inr (oW hw 11 rfl)) (by decide +kernel) (t := (.array .int)) (t' := (.array .double)) (by decide +kernel) (by decide +kernel)))).ext E4) (((E1.ext E2).wr W3).ext E4) (Or.inr ⟨(oW hw 14 rfl), rfl, hnm⟩) (oW hw 1 rfl) (ty := (.array .int)) (by decide) rfl rfl (g := (mkF m 15 #[rv a1, iv (6 : Int32), uu] [(.ref bH), (.ref a1)])) rfl rfl (hb hby own_d1_15)
  have Fw5 := (((F1.ext E2).other W3 (Or.inr (slot_ne (Or.inr (oW hw 14 rfl)) (Or.inr (oW hw 11 rfl)) (by decide +kernel) (t := (.array .int)) (t' := (.array .double)) (by decide +kernel) (by decide +kernel)))).ext E4).same W5
  have N5 := Fr.snoc X5 N3 g_a1
  refine ov (B := T5.setTop (mkF m 18 #[rv a1, iv (6 : Int32), uu] [])) (fun t k => st5 t k) ?_
  refine oALN (n := 19) X5 hx (hb hby own_d1_18) rfl rfl rfl ?_
  refine oILN (n := 20) X5 hx (hb hby own_d1_19) rfl rfl ?_
  obtain ⟨T6, h6, kc6, X6, e6, E6, A6, st6⟩ := newP X5 hx hZ (oW hw 12 rfl) e5 (g := (mkF m 20 #[rv a1, iv (6 : Int32), uu] [(.int (6 : Int32)), (.ref a1)])) rfl (hb hby own_d1_20) rfl (by decide) (cap := 6) (by decide) (by decide) (by decide) (by decide)
  obtain ⟨bP, g6⟩ : ∃ z, z = h5.size := ⟨_, rfl⟩
  rw [← g6] at A6 st6
  have g_bP : n0 ≤ bP := Nat.le_trans (Nat.le_trans (Nat.le_trans (Nat.le_trans (Nat.le_trans Z0 E2.1) (Keep.of_wr W3).1) E4.1) (Keep.of_wr W5).1) (Nat.le_of_eq g6.symm)
  have V6 : Arv Z h6 bP kc6 .int (6 : Int32) [(.int (0 : Int32)), (.int (0 : Int32)), (.int (0 : Int32)), (.int (0 : Int32)), (.int (0 : Int32)), (.int (0 : Int32))] (.int (0 : Int32)) := (Arv.new A6 (by decide)).pad (pad_rep [] (.int (0 : Int32)) 6)
  refine ov (B := T6.setTop (mkF m 22 #[rv a1, iv (6 : Int32), uu] [(.ref bP), (.ref a1)])) (fun t k => st6 t k) ?_
  obtain ⟨T7, h7, X7, e7, W7, st7⟩ := putF X6 hx hZ hown (host := "") (Or.inl (oW hw 15 rfl)) Via.refl e6 (((((F2.ext E2).other W3 (Or.inr (slot_ne (Or.inr (oW hw 16 rfl)) (Or.inr (oW hw 11 rfl)) (by decide +kernel) (t := (.array .int)) (t' := (.array .double)) (by decide +kernel) (by decide +kernel)))).ext E4).other W5 (Or.inr (slot_ne (Or.inr (oW hw 16 rfl)) (Or.inr (oW hw 14 rfl)) (by decide +kernel) (t := (.array .int)) (t' := (.array .int)) (by decide +kernel) (by decide +kernel)))).ext E6) (((((E1.ext E2).wr W3).ext E4).wr W5).ext E6) (Or.inr ⟨(oW hw 16 rfl), rfl, hnm⟩) (oW hw 1 rfl) (ty := (.array .int)) (by decide) rfl rfl (g := (mkF m 22 #[rv a1, iv (6 : Int32), uu] [(.ref bP), (.ref a1)])) rfl rfl (hb hby own_d1_22)
  have Fw7 := (((((F2.ext E2).other W3 (Or.inr (slot_ne (Or.inr (oW hw 16 rfl)) (Or.inr (oW hw 11 rfl)) (by decide +kernel) (t := (.array .int)) (t' := (.array .double)) (by decide +kernel) (by decide +kernel)))).ext E4).other W5 (Or.inr (slot_ne (Or.inr (oW hw 16 rfl)) (Or.inr (oW hw 14 rfl)) (by decide +kernel) (t := (.array .int)) (t' := (.array .int)) (by decide +kernel) (by decide +kernel)))).ext E6).same W7
  have N7 := Fr.snoc X7 N5 g_a1
  refine ov (B := T7.setTop (mkF m 25 #[rv a1, iv (6 : Int32), uu] [])) (fun t k => st7 t k) ?_
  refine oALN (n := 26) X7 hx (hb hby own_d1_25) rfl rfl rfl ?_
  obtain ⟨T8, X8, e8, st8⟩ := getF X7 hx hZ hown (host := "") (Or.inl (oW hw 10 rfl)) Via.refl e7 ((((Fw3.ext E4).other W5 (Or.inr (slot_ne (Or.inr (oW hw 11 rfl)) (Or.inr (oW hw 14 rfl)) (by decide +kernel) (t := (.array .double)) (t' := (.array .int)) (by decide +kernel) (by decide +kernel)))).ext E6).other W7 (Or.inr (slot_ne (Or.inr (oW hw 11 rfl)) (Or.inr (oW hw 16 rfl)) (by decide +kernel) (t := (.array .double)) (t' := (.array .int)) (by decide +kernel) (by decide +kernel)))) (g := (mkF m 26 #[rv a1, iv (6 : Int32), uu] [(.ref a1)])) rfl rfl (hb hby own_d1_26)
  refine ov (B := T8.setTop (mkF m 29 #[rv a1, iv (6 : Int32), uu] [(.ref bT)])) (fun t k => st8 t k) ?_
  refine ov (B := T8.setTop (mkF m 32 #[rv a1, iv (6 : Int32), uu] [(.double (9218868437227405312 : UInt64)), (.ref bT)])) (fun t k => X8.ldc2DoubleC hx hown (mvT hZ (oW hw 17 rfl)) (g := (mkF m 29 #[rv a1, iv (6 : Int32), uu] [(.ref bT)])) rfl (hb hby own_d1_29) _ k) ?_
  obtain ⟨_, _, ⟨T9, L9, k9, n9⟩, -, X9, ⟨Lc9, hQ9, l9, y9, z9⟩, st9⟩ := Jvm.LawKit.callS X8 hx (y := (⟨"java/util/Arrays", "fill", "([DD)V"⟩ : MethodName)) hown (mvT hZ (oW hw 18 rfl)) (mvT hZ (oW hw 19 rfl)) (mvT hZ (oW hw 20 rfl)) (mvT hZ (oW hw 21 rfl)) (by decide) (backOf (W := 0) (rm3 l Z a0 hw [] bT (9218868437227405312 : UInt64) kc2 (6 : Int32) (.double (0 : UInt64)) h7 n0 (Nat.le_trans (Nat.le_trans (Nat.le_trans (Nat.le_trans (Nat.le_trans (Nat.le_trans Z0 E2.1) (Keep.of_wr W3).1) E4.1) (Keep.of_wr W5).1) E6.1) (Keep.of_wr W7).1) (((((V2.other W3 (Ne.symm (Nat.ne_of_lt (Nat.lt_of_lt_of_le E1.lt (Nat.le_of_eq g2.symm))))).ext E4).other W5 (Ne.symm (Nat.ne_of_lt (Nat.lt_of_lt_of_le E1.lt (Nat.le_of_eq g2.symm))))).ext E6).other W7 (Ne.symm (Nat.ne_of_lt (Nat.lt_of_lt_of_le E1.lt (Nat.le_of_eq g2.symm))))) g_bT) hZ (oW hw 21 rfl) (oW hw 20 rfl) (by decide) (by decide)) (g := (mkF m 32 #[rv a1, iv (6 : Int32), uu] [(.double (9218868437227405312 : UInt64)), (.ref bT)])) rfl (by rw [hml]; rfl) (argsL := [(.ref bT), (.double (9218868437227405312 : UInt64))]) (rest := []) (lenOf own_pd6 rfl) rfl (by show 2 * 0 + _ ≤ _; exact Nat.le_of_eq rfl) (hb hby own_d1_32) (fun _ _ => ⟨rfl, e8, (by decide : (((0 + 1) + 1) + 1) + 0 ≤ _), (by decide : (((0 + 6) + 6) + 6) + 0 ≤ _)⟩)
  dsimp only [Pt.U, Pt.locs, Pt.cells, Pt.slots] at X9 l9 y9 z9 st9 hQ9
  subst l9 y9 z9
  obtain ⟨rfl, Nq9, Kq9, f9_0⟩ := hQ9
  have N9 := Fr.app N7 Nq9
  refine ov (B := T9.setTop (mkF m 35 #[rv a1, iv (6 : Int32), uu] [])) (fun t k => st9 t k) ?_
  refine oIC (n := 36) X9 hx (0 : Int32) (hb hby own_d1_35) (by decide) rfl ?_
  refine ov (B := T9.setTop (mkF m 37 #[rv a1, iv (6 : Int32), iv (0 : Int32)] [])) (fun t k => XS.istoreN X9.here hx rfl (hb hby own_d1_36) rfl (l' := #[rv a1, iv (6 : Int32), iv (0 : Int32)]) rfl k) ?_
  refine oILN (n := 38) X9 hx (hb hby own_d1_37) rfl rfl ?_
  refine oILN (n := 39) X9 hx (hb hby own_d1_38) rfl rfl ?_
  have hc39 : (0 : Int32) < (6 : Int32) := by decide
  refine ov (B := T9.setTop (mkF m 42 #[rv a1, iv (6 : Int32), iv (0 : Int32)] [])) (fun t k => XS.icmpNo X9.here hx rfl (hb hby own_d1_39) rfl (tlt hc39).2.1 k) ?_
  refine oALN (n := 43) X9 hx (hb hby own_d1_42) rfl rfl rfl ?_
  obtain ⟨T10, X10, e10, st10⟩ := getF X9 hx hZ hown (host := "") (Or.inl (oW hw 13 rfl)) Via.refl rfl (((Fw5.ext E6).other W7 (Or.inr (slot_ne (Or.inr (oW hw 14 rfl)) (Or.inr (oW hw 16 rfl)) (by decide +kernel) (t := (.array .int)) (t' := (.array .int)) (by decide +kernel) (by decide +kernel)))).keep Kq9 (ninS (Nat.ne_of_lt (Nat.lt_of_lt_of_le E1.lt (Nat.le_of_eq g2.symm))) nin0)) (g := (mkF m 43 #[rv a1, iv (6 : Int32), iv (0 : Int32)] [(.ref a1)])) rfl rfl (hb hby own_d1_43)
  refine ov (B := T10.setTop (mkF m 46 #[rv a1, iv (6 : Int32), iv (0 : Int32)] [(.ref bH)])) (fun t k => st10 t k) ?_
  refine oILN (n := 47) X10 hx (hb hby own_d1_46) rfl rfl ?_
  refine oILN (n := 48) X10 hx (hb hby own_d1_47) rfl rfl ?_
  obtain ⟨cl11, Ar11, q11, S11, M11, H11, G11⟩ := id ((((V4.other W5 (Ne.symm (Nat.ne_of_lt (Nat.lt_of_lt_of_le ((E1.ext E2).wr W3).lt (Nat.le_of_eq g4.symm))))).ext E6).other W7 (Ne.symm (Nat.ne_of_lt (Nat.lt_of_lt_of_le ((E1.ext E2).wr W3).lt (Nat.le_of_eq g4.symm))))).keep Kq9 (ninS (Ne.symm (Nat.ne_of_lt (Nat.lt_of_lt_of_le (Nat.lt_of_lt_of_le V2.lt (Nat.le_trans (Nat.le_refl _) (Keep.of_wr W3).1)) (Nat.le_of_eq g4.symm)))) nin0))
  obtain ⟨T12, h12, X12, e12, W12, st12⟩ := stI X10 hx hZ e10 Ar11 (j := (0 : Int32)) (inb_of S11 ⟨by decide, by decide⟩) (g := (mkF m 48 #[rv a1, iv (6 : Int32), iv (0 : Int32)] [(.int (0 : Int32)), (.int (0 : Int32)), (.ref bH)])) rfl rfl (hb hby own_d1_48)
  have V12 : Arv Z h12 bH kc4 .int (6 : Int32) [(.int (0 : Int32)), (.int (0 : Int32)), (.int (0 : Int32)), (.int (0 : Int32)), (.int (0 : Int32)), (.int (0 : Int32))] (.int (0 : Int32)) := Arv.set Ar11 q11 S11 M11 H11 G11 rfl W12 0 rfl (Nat.le_of_ble_eq_true rfl)
  have N12 := Fr.snoc X12 N9 g_bH
  refine ov (B := T12.setTop (mkF m 49 #[rv a1, iv (6 : Int32), iv (0 : Int32)] [])) (fun t k => st12 t k) ?_
  refine oALN (n := 50) X12 hx (hb hby own_d1_49) rfl rfl rfl ?_
  obtain ⟨T13, X13, e13, st13⟩ := getF X12 hx hZ hown (host := "") (Or.inl (oW hw 15 rfl)) Via.refl e12 ((Fw7.keep Kq9 (ninS (Nat.ne_of_lt (Nat.lt_of_lt_of_le E1.lt (Nat.le_of_eq g2.symm))) nin0)).other W12 (Or.inl (Nat.ne_of_lt (Nat.lt_of_lt_of_le ((E1.ext E2).wr W3).lt (Nat.le_of_eq g4.symm))))) (g := (mkF m 50 #[rv a1, iv (6 : Int32), iv (0 : Int32)] [(.ref a1)])) rfl rfl (hb hby own_d1_50)
  refine ov (B := T13.setTop (mkF m 53 #[rv a1, iv (6 : Int32), iv (0 : Int32)] [(.ref bP)])) (fun t k => st13 t k) ?_
  refine oILN (n := 54) X13 hx (hb hby own_d1_53) rfl rfl ?_
  refine oILN (n := 55) X13 hx (hb hby own_d1_54) rfl rfl ?_
  obtain ⟨cl14, Ar14, q14, S14, M14, H14, G14⟩ := id (((V6.other W7 (Ne.symm (Nat.ne_of_lt (Nat.lt_of_lt_of_le ((((E1.ext E2).wr W3).ext E4).wr W5).lt (Nat.le_of_eq g6.symm))))).keep Kq9 (ninS (Ne.symm (Nat.ne_of_lt (Nat.lt_of_lt_of_le (Nat.lt_of_lt_of_le V2.lt (Nat.le_trans (Nat.le_trans (Nat.le_trans (Nat.le_refl _) (Keep.of_wr W3).1) E4.1) (Keep.of_wr W5).1)) (Nat.le_of_eq g6.symm)))) nin0)).other W12 (Ne.symm (Nat.ne_of_lt (Nat.lt_of_lt_of_le (Nat.lt_of_lt_of_le V4.lt (Nat.le_trans (Nat.le_refl _) (Keep.of_wr W5).1)) (Nat.le_of_eq g6.symm)))))
  obtain ⟨T15, h15, X15, e15, W15, st15⟩ := stI X13 hx hZ e13 Ar14 (j := (0 : Int32)) (inb_of S14 ⟨by decide, by decide⟩) (g := (mkF m 55 #[rv a1, iv (6 : Int32), iv (0 : Int32)] [(.int (0 : Int32)), (.int (0 : Int32)), (.ref bP)])) rfl rfl (hb hby own_d1_55)
  have V15 : Arv Z h15 bP kc6 .int (6 : Int32) [(.int (0 : Int32)), (.int (0 : Int32)), (.int (0 : Int32)), (.int (0 : Int32)), (.int (0 : Int32)), (.int (0 : Int32))] (.int (0 : Int32)) := Arv.set Ar14 q14 S14 M14 H14 G14 rfl W15 0 rfl (Nat.le_of_ble_eq_true rfl)
  have N15 := Fr.snoc X15 N12 g_bP
  refine ov (B := T15.setTop (mkF m 56 #[rv a1, iv (6 : Int32), iv (0 : Int32)] [])) (fun t k => st15 t k) ?_
  refine ov (B := T15.setTop (mkF m 59 #[rv a1, iv (6 : Int32), iv (1 : Int32)] [])) (fun t k => XS.iinc X15.here hx rfl (hb hby own_d1_56) rfl (l' := #[rv a1, iv (6 : Int32), iv (1 : Int32)]) rfl k) ?_
  refine oGO (n := 37) X15 hx (hb hby own_d1_59) (by decide) (by decide) ?_
  refine oILN (n := 38) X15 hx (hb hby own_d1_37) rfl rfl ?_
  refine oILN (n := 39) X15 hx (hb hby own_d1_38) rfl rfl ?_
  have hc39 : (1 : Int32) < (6 : Int32) := by decide
  refine ov (B := T15.setTop (mkF m 42 #[rv a1, iv (6 : Int32), iv (1 : Int32)] [])) (fun t k => XS.icmpNo X15.here hx rfl (hb hby own_d1_39) rfl (tlt hc39).2.1 k) ?_
  refine oALN (n := 43) X15 hx (hb hby own_d1_42) rfl rfl rfl ?_
  obtain ⟨T16, X16, e16, st16⟩ := getF X15 hx hZ hown (host := "") (Or.inl (oW hw 13 rfl)) Via.refl e15 (((((Fw5.ext E6).other W7 (Or.inr (slot_ne (Or.inr (oW hw 14 rfl)) (Or.inr (oW hw 16 rfl)) (by decide +kernel) (t := (.array .int)) (t' := (.array .int)) (by decide +kernel) (by decide +kernel)))).keep Kq9 (ninS (Nat.ne_of_lt (Nat.lt_of_lt_of_le E1.lt (Nat.le_of_eq g2.symm))) nin0)).other W12 (Or.inl (Nat.ne_of_lt (Nat.lt_of_lt_of_le ((E1.ext E2).wr W3).lt (Nat.le_of_eq g4.symm))))).other W15 (Or.inl (Nat.ne_of_lt (Nat.lt_of_lt_of_le ((((E1.ext E2).wr W3).ext E4).wr W5).lt (Nat.le_of_eq g6.symm))))) (g := (mkF m 43 #[rv a1, iv (6 : Int32), iv (1 : Int32)] [(.ref a1)])) rfl rfl (hb hby own_d1_43)
  refine ov (B := T16.setTop (mkF m 46 #[rv a1, iv (6 : Int32), iv (1 : Int32)] [(.ref bH)])) (fun t k => st16 t k) ?_
  refine oILN (n := 47) X16 hx (hb hby own_d1_46) rfl rfl ?_
  refine oILN (n := 48) X16 hx (hb hby own_d1_47) rfl rfl ?_
  obtain ⟨cl17, Ar17, q17, S17, M17, H17, G17⟩ := id (V12.other W15 (Nat.ne_of_lt (Nat.lt_of_lt_of_le (Nat.lt_of_lt_of_le V4.lt (Nat.le_trans (Nat.le_refl _) (Keep.of_wr W5).1)) (Nat.le_of_eq g6.symm))))
  obtain ⟨T18, h18, X18, e18, W18, st18⟩ := stI X16 hx hZ e16 Ar17 (j := (1 : Int32)) (inb_of S17 ⟨by decide, by decide⟩) (g := (mkF m 48 #[rv a1, iv (6 : Int32), iv (1 : Int32)] [(.int (1 : Int32)), (.int (1 : Int32)), (.ref bH)])) rfl rfl (hb hby own_d1_48)
  have V18 : Arv Z h18 bH kc4 .int (6 : Int32) [(.int (0 : Int32)), (.int (1 : Int32)), (.int (0 : Int32)), (.int (0 : Int32)), (.int (0 : Int32)), (.int (0 : Int32))] (.int (0 : Int32)) := Arv.set Ar17 q17 S17 M17 H17 G17 rfl W18 1 rfl (Nat.le_of_ble_eq_true rfl)
  have N18 := Fr.snoc X18 N15 g_bH
  refine ov (B := T18.setTop (mkF m 49 #[rv a1, iv (6 : Int32), iv (1 : Int32)] [])) (fun t k => st18 t k) ?_
  refine oALN (n := 50) X18 hx (hb hby own_d1_49) rfl rfl rfl ?_
  obtain ⟨T19, X19, e19, st19⟩ := getF X18 hx hZ hown (host := "") (Or.inl (oW hw 15 rfl)) Via.refl e18 ((((Fw7.keep Kq9 (ninS (Nat.ne_of_lt (Nat.lt_of_lt_of_le E1.lt (Nat.le_of_eq g2.symm))) nin0)).other W12 (Or.inl (Nat.ne_of_lt (Nat.lt_of_lt_of_le ((E1.ext E2).wr W3).lt (Nat.le_of_eq g4.symm))))).other W15 (Or.inl (Nat.ne_of_lt (Nat.lt_of_lt_of_le ((((E1.ext E2).wr W3).ext E4).wr W5).lt (Nat.le_of_eq g6.symm))))).other W18 (Or.inl (Nat.ne_of_lt (Nat.lt_of_lt_of_le ((E1.ext E2).wr W3).lt (Nat.le_of_eq g4.symm))))) (g := (mkF m 50 #[rv a1, iv (6 : Int32), iv (1 : Int32)] [(.ref a1)])) rfl rfl (hb hby own_d1_50)
  refine ov (B := T19.setTop (mkF m 53 #[rv a1, iv (6 : Int32), iv (1 : Int32)] [(.ref bP)])) (fun t k => st19 t k) ?_
  refine oILN (n := 54) X19 hx (hb hby own_d1_53) rfl rfl ?_
  refine oILN (n := 55) X19 hx (hb hby own_d1_54) rfl rfl ?_
  obtain ⟨cl20, Ar20, q20, S20, M20, H20, G20⟩ := id (V15.other W18 (Ne.symm (Nat.ne_of_lt (Nat.lt_of_lt_of_le (Nat.lt_of_lt_of_le V4.lt (Nat.le_trans (Nat.le_refl _) (Keep.of_wr W5).1)) (Nat.le_of_eq g6.symm)))))
  obtain ⟨T21, h21, X21, e21, W21, st21⟩ := stI X19 hx hZ e19 Ar20 (j := (1 : Int32)) (inb_of S20 ⟨by decide, by decide⟩) (g := (mkF m 55 #[rv a1, iv (6 : Int32), iv (1 : Int32)] [(.int (1 : Int32)), (.int (1 : Int32)), (.ref bP)])) rfl rfl (hb hby own_d1_55)
  have V21 : Arv Z h21 bP kc6 .int (6 : Int32) [(.int (0 : Int32)), (.int (1 : Int32)), (.int (0 : Int32)), (.int (0 : Int32)), (.int (0 : Int32)), (.int (0 : Int32))] (.int (0 : Int32)) := Arv.set Ar20 q20 S20 M20 H20 G20 rfl W21 1 rfl (Nat.le_of_ble_eq_true rfl)
  have N21 := Fr.snoc X21 N18 g_bP
  refine ov (B := T21.setTop (mkF m 56 #[rv a1, iv (6 : Int32), iv (1 : Int32)] [])) (fun t k => st21 t k) ?_
  refine ov (B := T21.setTop (mkF m 59 #[rv a1, iv (6 : Int32), iv (2 : Int32)] [])) (fun t k => XS.iinc X21.here hx rfl (hb hby own_d1_56) rfl (l' := #[rv a1, iv (6 : Int32), iv (2 : Int32)]) rfl k) ?_
  refine oGO (n := 37) X21 hx (hb hby own_d1_59) (by decide) (by decide) ?_
  refine oILN (n := 38) X21 hx (hb hby own_d1_37) rfl rfl ?_
  refine oILN (n := 39) X21 hx (hb hby own_d1_38) rfl rfl ?_
  have hc39 : (2 : Int32) < (6 : Int32) := by decide
  refine ov (B := T21.setTop (mkF m 42 #[rv a1, iv (6 : Int32), iv (2 : Int32)] [])) (fun t k => XS.icmpNo X21.here hx rfl (hb hby own_d1_39) rfl (tlt hc39).2.1 k) ?_
  refine oALN (n := 43) X21 hx (hb hby own_d1_42) rfl rfl rfl ?_
  obtain ⟨T22, X22, e22, st22⟩ := getF X21 hx hZ hown (host := "") (Or.inl (oW hw 13 rfl)) Via.refl e21 (((((((Fw5.ext E6).other W7 (Or.inr (slot_ne (Or.inr (oW hw 14 rfl)) (Or.inr (oW hw 16 rfl)) (by decide +kernel) (t := (.array .int)) (t' := (.array .int)) (by decide +kernel) (by decide +kernel)))).keep Kq9 (ninS (Nat.ne_of_lt (Nat.lt_of_lt_of_le E1.lt (Nat.le_of_eq g2.symm))) nin0)).other W12 (Or.inl (Nat.ne_of_lt (Nat.lt_of_lt_of_le ((E1.ext E2).wr W3).lt (Nat.le_of_eq g4.symm))))).other W15 (Or.inl (Nat.ne_of_lt (Nat.lt_of_lt_of_le ((((E1.ext E2).wr W3).ext E4).wr W5).lt (Nat.le_of_eq g6.symm))))).other W18 (Or.inl (Nat.ne_of_lt (Nat.lt_of_lt_of_le ((E1.ext E2).wr W3).lt (Nat.le_of_eq g4.symm))))).other W21 (Or.inl (Nat.ne_of_lt (Nat.lt_of_lt_of_le ((((E1.ext E2).wr W3).ext E4).wr W5).lt (Nat.le_of_eq g6.symm))))) (g := (mkF m 43 #[rv a1, iv (6 : Int32), iv (2 : Int32)] [(.ref a1)])) rfl rfl (hb hby own_d1_43)
  refine ov (B := T22.setTop (mkF m 46 #[rv a1, iv (6 : Int32), iv (2 : Int32)] [(.ref bH)])) (fun t k => st22 t k) ?_
  refine oILN (n := 47) X22 hx (hb hby own_d1_46) rfl rfl ?_
  refine oILN (n := 48) X22 hx (hb hby own_d1_47) rfl rfl ?_
  obtain ⟨cl23, Ar23, q23, S23, M23, H23, G23⟩ := id (V18.other W21 (Nat.ne_of_lt (Nat.lt_of_lt_of_le (Nat.lt_of_lt_of_le V4.lt (Nat.le_trans (Nat.le_refl _) (Keep.of_wr W5).1)) (Nat.le_of_eq g6.symm))))
  obtain ⟨T24, h24, X24, e24, W24, st24⟩ := stI X22 hx hZ e22 Ar23 (j := (2 : Int32)) (inb_of S23 ⟨by decide, by decide⟩) (g := (mkF m 48 #[rv a1, iv (6 : Int32), iv (2 : Int32)] [(.int (2 : Int32)), (.int (2 : Int32)), (.ref bH)])) rfl rfl (hb hby own_d1_48)
  have V24 : Arv Z h24 bH kc4 .int (6 : Int32) [(.int (0 : Int32)), (.int (1 : Int32)), (.int (2 : Int32)), (.int (0 : Int32)), (.int (0 : Int32)), (.int (0 : Int32))] (.int (0 : Int32)) := Arv.set Ar23 q23 S23 M23 H23 G23 rfl W24 2 rfl (Nat.le_of_ble_eq_true rfl)
  have N24 := Fr.snoc X24 N21 g_bH
  refine ov (B := T24.setTop (mkF m 49 #[rv a1, iv (6 : Int32), iv (2 : Int32)] [])) (fun t k => st24 t k) ?_
  refine oALN (n := 50) X24 hx (hb hby own_d1_49) rfl rfl rfl ?_
  obtain ⟨T25, X25, e25, st25⟩ := getF X24 hx hZ hown (host := "") (Or.inl (oW hw 15 rfl)) Via.refl e24 ((((((Fw7.keep Kq9 (ninS (Nat.ne_of_lt (Nat.lt_of_lt_of_le E1.lt (Nat.le_of_eq g2.symm))) nin0)).other W12 (Or.inl (Nat.ne_of_lt (Nat.lt_of_lt_of_le ((E1.ext E2).wr W3).lt (Nat.le_of_eq g4.symm))))).other W15 (Or.inl (Nat.ne_of_lt (Nat.lt_of_lt_of_le ((((E1.ext E2).wr W3).ext E4).wr W5).lt (Nat.le_of_eq g6.symm))))).other W18 (Or.inl (Nat.ne_of_lt (Nat.lt_of_lt_of_le ((E1.ext E2).wr W3).lt (Nat.le_of_eq g4.symm))))).other W21 (Or.inl (Nat.ne_of_lt (Nat.lt_of_lt_of_le ((((E1.ext E2).wr W3).ext E4).wr W5).lt (Nat.le_of_eq g6.symm))))).other W24 (Or.inl (Nat.ne_of_lt (Nat.lt_of_lt_of_le ((E1.ext E2).wr W3).lt (Nat.le_of_eq g4.symm))))) (g := (mkF m 50 #[rv a1, iv (6 : Int32), iv (2 : Int32)] [(.ref a1)])) rfl rfl (hb hby own_d1_50)
  refine ov (B := T25.setTop (mkF m 53 #[rv a1, iv (6 : Int32), iv (2 : Int32)] [(.ref bP)])) (fun t k => st25 t k) ?_
  refine oILN (n := 54) X25 hx (hb hby own_d1_53) rfl rfl ?_
  refine oILN (n := 55) X25 hx (hb hby own_d1_54) rfl rfl ?_
  obtain ⟨cl26, Ar26, q26, S26, M26, H26, G26⟩ := id (V21.other W24 (Ne.symm (Nat.ne_of_lt (Nat.lt_of_lt_of_le (Nat.lt_of_lt_of_le V4.lt (Nat.le_trans (Nat.le_refl _) (Keep.of_wr W5).1)) (Nat.le_of_eq g6.symm)))))
  obtain ⟨T27, h27, X27, e27, W27, st27⟩ := stI X25 hx hZ e25 Ar26 (j := (2 : Int32)) (inb_of S26 ⟨by decide, by decide⟩) (g := (mkF m 55 #[rv a1, iv (6 : Int32), iv (2 : Int32)] [(.int (2 : Int32)), (.int (2 : Int32)), (.ref bP)])) rfl rfl (hb hby own_d1_55)
  have V27 : Arv Z h27 bP kc6 .int (6 : Int32) [(.int (0 : Int32)), (.int (1 : Int32)), (.int (2 : Int32)), (.int (0 : Int32)), (.int (0 : Int32)), (.int (0 : Int32))] (.int (0 : Int32)) := Arv.set Ar26 q26 S26 M26 H26 G26 rfl W27 2 rfl (Nat.le_of_ble_eq_true rfl)
  have N27 := Fr.snoc X27 N24 g_bP
  refine ov (B := T27.setTop (mkF m 56 #[rv a1, iv (6 : Int32), iv (2 : Int32)] [])) (fun t k => st27 t k) ?_
  refine ov (B := T27.setTop (mkF m 59 #[rv a1, iv (6 : Int32), iv (3 : Int32)] [])) (fun t k => XS.iinc X27.here hx rfl (hb hby own_d1_56) rfl (l' := #[rv a1, iv (6 : Int32), iv (3 : Int32)]) rfl k) ?_
  refine oGO (n := 37) X27 hx (hb hby own_d1_59) (by decide) (by decide) ?_
  refine oILN (n := 38) X27 hx (hb hby own_d1_37) rfl rfl ?_
  refine oILN (n := 39) X27 hx (hb hby own_d1_38) rfl rfl ?_
  have hc39 : (3 : Int32) < (6 : Int32) := by decide
  refine ov (B := T27.setTop (mkF m 42 #[rv a1, iv (6 : Int32), iv (3 : Int32)] [])) (fun t k => XS.icmpNo X27.here hx rfl (hb hby own_d1_39) rfl (tlt hc39).2.1 k) ?_
  refine oALN (n := 43) X27 hx (hb hby own_d1_42) rfl rfl rfl ?_
  obtain ⟨T28, X28, e28, st28⟩ := getF X27 hx hZ hown (host := "") (Or.inl (oW hw 13 rfl)) Via.refl e27 (((((((((Fw5.ext E6).other W7 (Or.inr (slot_ne (Or.inr (oW hw 14 rfl)) (Or.inr (oW hw 16 rfl)) (by decide +kernel) (t := (.array .int)) (t' := (.array .int)) (by decide +kernel) (by decide +kernel)))).keep Kq9 (ninS (Nat.ne_of_lt (Nat.lt_of_lt_of_le E1.lt (Nat.le_of_eq g2.symm))) nin0)).other W12 (Or.inl (Nat.ne_of_lt (Nat.lt_of_lt_of_le ((E1.ext E2).wr W3).lt (Nat.le_of_eq g4.symm))))).other W15 (Or.inl (Nat.ne_of_lt (Nat.lt_of_lt_of_le ((((E1.ext E2).wr W3).ext E4).wr W5).lt (Nat.le_of_eq g6.symm))))).other W18 (Or.inl (Nat.ne_of_lt (Nat.lt_of_lt_of_le ((E1.ext E2).wr W3).lt (Nat.le_of_eq g4.symm))))).other W21 (Or.inl (Nat.ne_of_lt (Nat.lt_of_lt_of_le ((((E1.ext E2).wr W3).ext E4).wr W5).lt (Nat.le_of_eq g6.symm))))).other W24 (Or.inl (Nat.ne_of_lt (Nat.lt_of_lt_of_le ((E1.ext E2).wr W3).lt (Nat.le_of_eq g4.symm))))).other W27 (Or.inl (Nat.ne_of_lt (Nat.lt_of_lt_of_le ((((E1.ext E2).wr W3).ext E4).wr W5).lt (Nat.le_of_eq g6.symm))))) (g := (mkF m 43 #[rv a1, iv (6 : Int32), iv (3 : Int32)] [(.ref a1)])) rfl rfl (hb hby own_d1_43)
  refine ov (B := T28.setTop (mkF m 46 #[rv a1, iv (6 : Int32), iv (3 : Int32)] [(.ref bH)])) (fun t k => st28 t k) ?_
  refine oILN (n := 47) X28 hx (hb hby own_d1_46) rfl rfl ?_
  refine oILN (n := 48) X28 hx (hb hby own_d1_47) rfl rfl ?_
  obtain ⟨cl29, Ar29, q29, S29, M29, H29, G29⟩ := id (V24.other W27 (Nat.ne_of_lt (Nat.lt_of_lt_of_le (Nat.lt_of_lt_of_le V4.lt (Nat.le_trans (Nat.le_refl _) (Keep.of_wr W5).1)) (Nat.le_of_eq g6.symm))))
  obtain ⟨T30, h30, X30, e30, W30, st30⟩ := stI X28 hx hZ e28 Ar29 (j := (3 : Int32)) (inb_of S29 ⟨by decide, by decide⟩) (g := (mkF m 48 #[rv a1, iv (6 : Int32), iv (3 : Int32)] [(.int (3 : Int32)), (.int (3 : Int32)), (.ref bH)])) rfl rfl (hb hby own_d1_48)
  have V30 : Arv Z h30 bH kc4 .int (6 : Int32) [(.int (0 : Int32)), (.int (1 : Int32)), (.int (2 : Int32)), (.int (3 : Int32)), (.int (0 : Int32)), (.int (0 : Int32))] (.int (0 : Int32)) := Arv.set Ar29 q29 S29 M29 H29 G29 rfl W30 3 rfl (Nat.le_of_ble_eq_true rfl)
  have N30 := Fr.snoc X30 N27 g_bH
  refine ov (B := T30.setTop (mkF m 49 #[rv a1, iv (6 : Int32), iv (3 : Int32)] [])) (fun t k => st30 t k) ?_
  refine oALN (n := 50) X30 hx (hb hby own_d1_49) rfl rfl rfl ?_
  obtain ⟨T31, X31, e31, st31⟩ := getF X30 hx hZ hown (host := "") (Or.inl (oW hw 15 rfl)) Via.refl e30 ((((((((Fw7.keep Kq9 (ninS (Nat.ne_of_lt (Nat.lt_of_lt_of_le E1.lt (Nat.le_of_eq g2.symm))) nin0)).other W12 (Or.inl (Nat.ne_of_lt (Nat.lt_of_lt_of_le ((E1.ext E2).wr W3).lt (Nat.le_of_eq g4.symm))))).other W15 (Or.inl (Nat.ne_of_lt (Nat.lt_of_lt_of_le ((((E1.ext E2).wr W3).ext E4).wr W5).lt (Nat.le_of_eq g6.symm))))).other W18 (Or.inl (Nat.ne_of_lt (Nat.lt_of_lt_of_le ((E1.ext E2).wr W3).lt (Nat.le_of_eq g4.symm))))).other W21 (Or.inl (Nat.ne_of_lt (Nat.lt_of_lt_of_le ((((E1.ext E2).wr W3).ext E4).wr W5).lt (Nat.le_of_eq g6.symm))))).other W24 (Or.inl (Nat.ne_of_lt (Nat.lt_of_lt_of_le ((E1.ext E2).wr W3).lt (Nat.le_of_eq g4.symm))))).other W27 (Or.inl (Nat.ne_of_lt (Nat.lt_of_lt_of_le ((((E1.ext E2).wr W3).ext E4).wr W5).lt (Nat.le_of_eq g6.symm))))).other W30 (Or.inl (Nat.ne_of_lt (Nat.lt_of_lt_of_le ((E1.ext E2).wr W3).lt (Nat.le_of_eq g4.symm))))) (g := (mkF m 50 #[rv a1, iv (6 : Int32), iv (3 : Int32)] [(.ref a1)])) rfl rfl (hb hby own_d1_50)
  refine ov (B := T31.setTop (mkF m 53 #[rv a1, iv (6 : Int32), iv (3 : Int32)] [(.ref bP)])) (fun t k => st31 t k) ?_
  refine oILN (n := 54) X31 hx (hb hby own_d1_53) rfl rfl ?_
  refine oILN (n := 55) X31 hx (hb hby own_d1_54) rfl rfl ?_
  obtain ⟨cl32, Ar32, q32, S32, M32, H32, G32⟩ := id (V27.other W30 (Ne.symm (Nat.ne_of_lt (Nat.lt_of_lt_of_le (Nat.lt_of_lt_of_le V4.lt (Nat.le_trans (Nat.le_refl _) (Keep.of_wr W5).1)) (Nat.le_of_eq g6.symm)))))
  obtain ⟨T33, h33, X33, e33, W33, st33⟩ := stI X31 hx hZ e31 Ar32 (j := (3 : Int32)) (inb_of S32 ⟨by decide, by decide⟩) (g := (mkF m 55 #[rv a1, iv (6 : Int32), iv (3 : Int32)] [(.int (3 : Int32)), (.int (3 : Int32)), (.ref bP)])) rfl rfl (hb hby own_d1_55)
  have V33 : Arv Z h33 bP kc6 .int (6 : Int32) [(.int (0 : Int32)), (.int (1 : Int32)), (.int (2 : Int32)), (.int (3 : Int32)), (.int (0 : Int32)), (.int (0 : Int32))] (.int (0 : Int32)) := Arv.set Ar32 q32 S32 M32 H32 G32 rfl W33 3 rfl (Nat.le_of_ble_eq_true rfl)
  have N33 := Fr.snoc X33 N30 g_bP
  refine ov (B := T33.setTop (mkF m 56 #[rv a1, iv (6 : Int32), iv (3 : Int32)] [])) (fun t k => st33 t k) ?_
  refine ov (B := T33.setTop (mkF m 59 #[rv a1, iv (6 : Int32), iv (4 : Int32)] [])) (fun t k => XS.iinc X33.here hx rfl (hb hby own_d1_56) rfl (l' := #[rv a1, iv (6 : Int32), iv (4 : Int32)]) rfl k) ?_
  refine oGO (n := 37) X33 hx (hb hby own_d1_59) (by decide) (by decide) ?_
  refine oILN (n := 38) X33 hx (hb hby own_d1_37) rfl rfl ?_
  refine oILN (n := 39) X33 hx (hb hby own_d1_38) rfl rfl ?_
  have hc39 : (4 : Int32) < (6 : Int32) := by decide
  refine ov (B := T33.setTop (mkF m 42 #[rv a1, iv (6 : Int32), iv (4 : Int32)] [])) (fun t k => XS.icmpNo X33.here hx rfl (hb hby own_d1_39) rfl (tlt hc39).2.1 k) ?_
  refine oALN (n := 43) X33 hx (hb hby own_d1_42) rfl rfl rfl ?_
  obtain ⟨T34, X34, e34, st34⟩ := getF X33 hx hZ hown (host := "") (Or.inl (oW hw 13 rfl)) Via.refl e33 (((((((((((Fw5.ext E6).other W7 (Or.inr (slot_ne (Or.inr (oW hw 14 rfl)) (Or.inr (oW hw 16 rfl)) (by decide +kernel) (t := (.array .int)) (t' := (.array .int)) (by decide +kernel) (by decide +kernel)))).keep Kq9 (ninS (Nat.ne_of_lt (Nat.lt_of_lt_of_le E1.lt (Nat.le_of_eq g2.symm))) nin0)).other W12 (Or.inl (Nat.ne_of_lt (Nat.lt_of_lt_of_le ((E1.ext E2).wr W3).lt (Nat.le_of_eq g4.symm))))).other W15 (Or.inl (Nat.ne_of_lt (Nat.lt_of_lt_of_le ((((E1.ext E2).wr W3).ext E4).wr W5).lt (Nat.le_of_eq g6.symm))))).other W18 (Or.inl (Nat.ne_of_lt (Nat.lt_of_lt_of_le ((E1.ext E2).wr W3).lt (Nat.le_of_eq g4.symm))))).other W21 (Or.inl (Nat.ne_of_lt (Nat.lt_of_lt_of_le ((((E1.ext E2).wr W3).ext E4).wr W5).lt (Nat.le_of_eq g6.symm))))).other W24 (Or.inl (Nat.ne_of_lt (Nat.lt_of_lt_of_le ((E1.ext E2).wr W3).lt (Nat.le_of_eq g4.symm))))).other W27 (Or.inl (Nat.ne_of_lt (Nat.lt_of_lt_of_le ((((E1.ext E2).wr W3).ext E4).wr W5).lt (Nat.le_of_eq g6.symm))))).other W30 (Or.inl (Nat.ne_of_lt (Nat.lt_of_lt_of_le ((E1.ext E2).wr W3).lt (Nat.le_of_eq g4.symm))))).other W33 (Or.inl (Nat.ne_of_lt (Nat.lt_of_lt_of_le ((((E1.ext E2).wr W3).ext E4).wr W5).lt (Nat.le_of_eq g6.symm))))) (g := (mkF m 43 #[rv a1, iv (6 : Int32), iv (4 : Int32)] [(.ref a1)])) rfl rfl (hb hby own_d1_43)
  refine ov (B := T34.setTop (mkF m 46 #[rv a1, iv (6 : Int32), iv (4 : Int32)] [(.ref bH)])) (fun t k => st34 t k) ?_
  refine oILN (n := 47) X34 hx (hb hby own_d1_46) rfl rfl ?_
  refine oILN (n := 48) X34 hx (hb hby own_d1_47) rfl rfl ?_
  obtain ⟨cl35, Ar35, q35, S35, M35, H35, G35⟩ := id (V30.other W33 (Nat.ne_of_lt (Nat.lt_of_lt_of_le (Nat.lt_of_lt_of_le V4.lt (Nat.le_trans (Nat.le_refl _) (Keep.of_wr W5).1)) (Nat.le_of_eq g6.symm))))
  obtain ⟨T36, h36, X36, e36, W36, st36⟩ := stI X34 hx hZ e34 Ar35 (j := (4 : Int32)) (inb_of S35 ⟨by decide, by decide⟩) (g := (mkF m 48 #[rv a1, iv (6 : Int32), iv (4 : Int32)] [(.int (4 : Int32)), (.int (4 : Int32)), (.ref bH)])) rfl rfl (hb hby own_d1_48)
  have V36 : Arv Z h36 bH kc4 .int (6 : Int32) [(.int (0 : Int32)), (.int (1 : Int32)), (.int (2 : Int32)), (.int (3 : Int32)), (.int (4 : Int32)), (.int (0 : Int32))] (.int (0 : Int32)) := Arv.set Ar35 q35 S35 M35 H35 G35 rfl W36 4 rfl (Nat.le_of_ble_eq_true rfl)
  have N36 := Fr.snoc X36 N33 g_bH
  refine ov (B := T36.setTop (mkF m 49 #[rv a1, iv (6 : Int32), iv (4 : Int32)] [])) (fun t k => st36 t k) ?_
  refine oALN (n := 50) X36 hx (hb hby own_d1_49) rfl rfl rfl ?_
  obtain ⟨T37, X37, e37, st37⟩ := getF X36 hx hZ hown (host := "") (Or.inl (oW hw 15 rfl)) Via.refl e36 ((((((((((Fw7.keep Kq9 (ninS (Nat.ne_of_lt (Nat.lt_of_lt_of_le E1.lt (Nat.le_of_eq g2.symm))) nin0)).other W12 (Or.inl (Nat.ne_of_lt (Nat.lt_of_lt_of_le ((E1.ext E2).wr W3).lt (Nat.le_of_eq g4.symm))))).other W15 (Or.inl (Nat.ne_of_lt (Nat.lt_of_lt_of_le ((((E1.ext E2).wr W3).ext E4).wr W5).lt (Nat.le_of_eq g6.symm))))).other W18 (Or.inl (Nat.ne_of_lt (Nat.lt_of_lt_of_le ((E1.ext E2).wr W3).lt (Nat.le_of_eq g4.symm))))).other W21 (Or.inl (Nat.ne_of_lt (Nat.lt_of_lt_of_le ((((E1.ext E2).wr W3).ext E4).wr W5).lt (Nat.le_of_eq g6.symm))))).other W24 (Or.inl (Nat.ne_of_lt (Nat.lt_of_lt_of_le ((E1.ext E2).wr W3).lt (Nat.le_of_eq g4.symm))))).other W27 (Or.inl (Nat.ne_of_lt (Nat.lt_of_lt_of_le ((((E1.ext E2).wr W3).ext E4).wr W5).lt (Nat.le_of_eq g6.symm))))).other W30 (Or.inl (Nat.ne_of_lt (Nat.lt_of_lt_of_le ((E1.ext E2).wr W3).lt (Nat.le_of_eq g4.symm))))).other W33 (Or.inl (Nat.ne_of_lt (Nat.lt_of_lt_of_le ((((E1.ext E2).wr W3).ext E4).wr W5).lt (Nat.le_of_eq g6.symm))))).other W36 (Or.inl (Nat.ne_of_lt (Nat.lt_of_lt_of_le ((E1.ext E2).wr W3).lt (Nat.le_of_eq g4.symm))))) (g := (mkF m 50 #[rv a1, iv (6 : Int32), iv (4 : Int32)] [(.ref a1)])) rfl rfl (hb hby own_d1_50)
  refine ov (B := T37.setTop (mkF m 53 #[rv a1, iv (6 : Int32), iv (4 : Int32)] [(.ref bP)])) (fun t k => st37 t k) ?_
  refine oILN (n := 54) X37 hx (hb hby own_d1_53) rfl rfl ?_
  refine oILN (n := 55) X37 hx (hb hby own_d1_54) rfl rfl ?_
  obtain ⟨cl38, Ar38, q38, S38, M38, H38, G38⟩ := id (V33.other W36 (Ne.symm (Nat.ne_of_lt (Nat.lt_of_lt_of_le (Nat.lt_of_lt_of_le V4.lt (Nat.le_trans (Nat.le_refl _) (Keep.of_wr W5).1)) (Nat.le_of_eq g6.symm)))))
  obtain ⟨T39, h39, X39, e39, W39, st39⟩ := stI X37 hx hZ e37 Ar38 (j := (4 : Int32)) (inb_of S38 ⟨by decide, by decide⟩) (g := (mkF m 55 #[rv a1, iv (6 : Int32), iv (4 : Int32)] [(.int (4 : Int32)), (.int (4 : Int32)), (.ref bP)])) rfl rfl (hb hby own_d1_55)
  have V39 : Arv Z h39 bP kc6 .int (6 : Int32) [(.int (0 : Int32)), (.int (1 : Int32)), (.int (2 : Int32)), (.int (3 : Int32)), (.int (4 : Int32)), (.int (0 : Int32))] (.int (0 : Int32)) := Arv.set Ar38 q38 S38 M38 H38 G38 rfl W39 4 rfl (Nat.le_of_ble_eq_true rfl)
  have N39 := Fr.snoc X39 N36 g_bP
  refine ov (B := T39.setTop (mkF m 56 #[rv a1, iv (6 : Int32), iv (4 : Int32)] [])) (fun t k => st39 t k) ?_
  refine ov (B := T39.setTop (mkF m 59 #[rv a1, iv (6 : Int32), iv (5 : Int32)] [])) (fun t k => XS.iinc X39.here hx rfl (hb hby own_d1_56) rfl (l' := #[rv a1, iv (6 : Int32), iv (5 : Int32)]) rfl k) ?_
  refine oGO (n := 37) X39 hx (hb hby own_d1_59) (by decide) (by decide) ?_
  refine oILN (n := 38) X39 hx (hb hby own_d1_37) rfl rfl ?_
  refine oILN (n := 39) X39 hx (hb hby own_d1_38) rfl rfl ?_
  have hc39 : (5 : Int32) < (6 : Int32) := by decide
  refine ov (B := T39.setTop (mkF m 42 #[rv a1, iv (6 : Int32), iv (5 : Int32)] [])) (fun t k => XS.icmpNo X39.here hx rfl (hb hby own_d1_39) rfl (tlt hc39).2.1 k) ?_
  refine oALN (n := 43) X39 hx (hb hby own_d1_42) rfl rfl rfl ?_
  obtain ⟨T40, X40, e40, st40⟩ := getF X39 hx hZ hown (host := "") (Or.inl (oW hw 13 rfl)) Via.refl e39 (((((((((((((Fw5.ext E6).other W7 (Or.inr (slot_ne (Or.inr (oW hw 14 rfl)) (Or.inr (oW hw 16 rfl)) (by decide +kernel) (t := (.array .int)) (t' := (.array .int)) (by decide +kernel) (by decide +kernel)))).keep Kq9 (ninS (Nat.ne_of_lt (Nat.lt_of_lt_of_le E1.lt (Nat.le_of_eq g2.symm))) nin0)).other W12 (Or.inl (Nat.ne_of_lt (Nat.lt_of_lt_of_le ((E1.ext E2).wr W3).lt (Nat.le_of_eq g4.symm))))).other W15 (Or.inl (Nat.ne_of_lt (Nat.lt_of_lt_of_le ((((E1.ext E2).wr W3).ext E4).wr W5).lt (Nat.le_of_eq g6.symm))))).other W18 (Or.inl (Nat.ne_of_lt (Nat.lt_of_lt_of_le ((E1.ext E2).wr W3).lt (Nat.le_of_eq g4.symm))))).other W21 (Or.inl (Nat.ne_of_lt (Nat.lt_of_lt_of_le ((((E1.ext E2).wr W3).ext E4).wr W5).lt (Nat.le_of_eq g6.symm))))).other W24 (Or.inl (Nat.ne_of_lt (Nat.lt_of_lt_of_le ((E1.ext E2).wr W3).lt (Nat.le_of_eq g4.symm))))).other W27 (Or.inl (Nat.ne_of_lt (Nat.lt_of_lt_of_le ((((E1.ext E2).wr W3).ext E4).wr W5).lt (Nat.le_of_eq g6.symm))))).other W30 (Or.inl (Nat.ne_of_lt (Nat.lt_of_lt_of_le ((E1.ext E2).wr W3).lt (Nat.le_of_eq g4.symm))))).other W33 (Or.inl (Nat.ne_of_lt (Nat.lt_of_lt_of_le ((((E1.ext E2).wr W3).ext E4).wr W5).lt (Nat.le_of_eq g6.symm))))).other W36 (Or.inl (Nat.ne_of_lt (Nat.lt_of_lt_of_le ((E1.ext E2).wr W3).lt (Nat.le_of_eq g4.symm))))).other W39 (Or.inl (Nat.ne_of_lt (Nat.lt_of_lt_of_le ((((E1.ext E2).wr W3).ext E4).wr W5).lt (Nat.le_of_eq g6.symm))))) (g := (mkF m 43 #[rv a1, iv (6 : Int32), iv (5 : Int32)] [(.ref a1)])) rfl rfl (hb hby own_d1_43)
  refine ov (B := T40.setTop (mkF m 46 #[rv a1, iv (6 : Int32), iv (5 : Int32)] [(.ref bH)])) (fun t k => st40 t k) ?_
  refine oILN (n := 47) X40 hx (hb hby own_d1_46) rfl rfl ?_
  refine oILN (n := 48) X40 hx (hb hby own_d1_47) rfl rfl ?_
  obtain ⟨cl41, Ar41, q41, S41, M41, H41, G41⟩ := id (V36.other W39 (Nat.ne_of_lt (Nat.lt_of_lt_of_le (Nat.lt_of_lt_of_le V4.lt (Nat.le_trans (Nat.le_refl _) (Keep.of_wr W5).1)) (Nat.le_of_eq g6.symm))))
  obtain ⟨T42, h42, X42, e42, W42, st42⟩ := stI X40 hx hZ e40 Ar41 (j := (5 : Int32)) (inb_of S41 ⟨by decide, by decide⟩) (g := (mkF m 48 #[rv a1, iv (6 : Int32), iv (5 : Int32)] [(.int (5 : Int32)), (.int (5 : Int32)), (.ref bH)])) rfl rfl (hb hby own_d1_48)
  have V42 : Arv Z h42 bH kc4 .int (6 : Int32) [(.int (0 : Int32)), (.int (1 : Int32)), (.int (2 : Int32)), (.int (3 : Int32)), (.int (4 : Int32)), (.int (5 : Int32))] (.int (0 : Int32)) := Arv.set Ar41 q41 S41 M41 H41 G41 rfl W42 5 rfl (Nat.le_of_ble_eq_true rfl)
  have N42 := Fr.snoc X42 N39 g_bH
  refine ov (B := T42.setTop (mkF m 49 #[rv a1, iv (6 : Int32), iv (5 : Int32)] [])) (fun t k => st42 t k) ?_
  refine oALN (n := 50) X42 hx (hb hby own_d1_49) rfl rfl rfl ?_
  obtain ⟨T43, X43, e43, st43⟩ := getF X42 hx hZ hown (host := "") (Or.inl (oW hw 15 rfl)) Via.refl e42 ((((((((((((Fw7.keep Kq9 (ninS (Nat.ne_of_lt (Nat.lt_of_lt_of_le E1.lt (Nat.le_of_eq g2.symm))) nin0)).other W12 (Or.inl (Nat.ne_of_lt (Nat.lt_of_lt_of_le ((E1.ext E2).wr W3).lt (Nat.le_of_eq g4.symm))))).other W15 (Or.inl (Nat.ne_of_lt (Nat.lt_of_lt_of_le ((((E1.ext E2).wr W3).ext E4).wr W5).lt (Nat.le_of_eq g6.symm))))).other W18 (Or.inl (Nat.ne_of_lt (Nat.lt_of_lt_of_le ((E1.ext E2).wr W3).lt (Nat.le_of_eq g4.symm))))).other W21 (Or.inl (Nat.ne_of_lt (Nat.lt_of_lt_of_le ((((E1.ext E2).wr W3).ext E4).wr W5).lt (Nat.le_of_eq g6.symm))))).other W24 (Or.inl (Nat.ne_of_lt (Nat.lt_of_lt_of_le ((E1.ext E2).wr W3).lt (Nat.le_of_eq g4.symm))))).other W27 (Or.inl (Nat.ne_of_lt (Nat.lt_of_lt_of_le ((((E1.ext E2).wr W3).ext E4).wr W5).lt (Nat.le_of_eq g6.symm))))).other W30 (Or.inl (Nat.ne_of_lt (Nat.lt_of_lt_of_le ((E1.ext E2).wr W3).lt (Nat.le_of_eq g4.symm))))).other W33 (Or.inl (Nat.ne_of_lt (Nat.lt_of_lt_of_le ((((E1.ext E2).wr W3).ext E4).wr W5).lt (Nat.le_of_eq g6.symm))))).other W36 (Or.inl (Nat.ne_of_lt (Nat.lt_of_lt_of_le ((E1.ext E2).wr W3).lt (Nat.le_of_eq g4.symm))))).other W39 (Or.inl (Nat.ne_of_lt (Nat.lt_of_lt_of_le ((((E1.ext E2).wr W3).ext E4).wr W5).lt (Nat.le_of_eq g6.symm))))).other W42 (Or.inl (Nat.ne_of_lt (Nat.lt_of_lt_of_le ((E1.ext E2).wr W3).lt (Nat.le_of_eq g4.symm))))) (g := (mkF m 50 #[rv a1, iv (6 : Int32), iv (5 : Int32)] [(.ref a1)])) rfl rfl (hb hby own_d1_50)
  refine ov (B := T43.setTop (mkF m 53 #[rv a1, iv (6 : Int32), iv (5 : Int32)] [(.ref bP)])) (fun t k => st43 t k) ?_
  refine oILN (n := 54) X43 hx (hb hby own_d1_53) rfl rfl ?_
  refine oILN (n := 55) X43 hx (hb hby own_d1_54) rfl rfl ?_
  obtain ⟨cl44, Ar44, q44, S44, M44, H44, G44⟩ := id (V39.other W42 (Ne.symm (Nat.ne_of_lt (Nat.lt_of_lt_of_le (Nat.lt_of_lt_of_le V4.lt (Nat.le_trans (Nat.le_refl _) (Keep.of_wr W5).1)) (Nat.le_of_eq g6.symm)))))
  obtain ⟨T45, h45, X45, e45, W45, st45⟩ := stI X43 hx hZ e43 Ar44 (j := (5 : Int32)) (inb_of S44 ⟨by decide, by decide⟩) (g := (mkF m 55 #[rv a1, iv (6 : Int32), iv (5 : Int32)] [(.int (5 : Int32)), (.int (5 : Int32)), (.ref bP)])) rfl rfl (hb hby own_d1_55)
  have V45 : Arv Z h45 bP kc6 .int (6 : Int32) [(.int (0 : Int32)), (.int (1 : Int32)), (.int (2 : Int32)), (.int (3 : Int32)), (.int (4 : Int32)), (.int (5 : Int32))] (.int (0 : Int32)) := Arv.set Ar44 q44 S44 M44 H44 G44 rfl W45 5 rfl (Nat.le_of_ble_eq_true rfl)
  have N45 := Fr.snoc X45 N42 g_bP
  refine ov (B := T45.setTop (mkF m 56 #[rv a1, iv (6 : Int32), iv (5 : Int32)] [])) (fun t k => st45 t k) ?_
  refine ov (B := T45.setTop (mkF m 59 #[rv a1, iv (6 : Int32), iv (6 : Int32)] [])) (fun t k => XS.iinc X45.here hx rfl (hb hby own_d1_56) rfl (l' := #[rv a1, iv (6 : Int32), iv (6 : Int32)]) rfl k) ?_
  refine oGO (n := 37) X45 hx (hb hby own_d1_59) (by decide) (by decide) ?_
  refine oILN (n := 38) X45 hx (hb hby own_d1_37) rfl rfl ?_
  refine oILN (n := 39) X45 hx (hb hby own_d1_38) rfl rfl ?_
  have hc39 : ¬ ((6 : Int32) < (6 : Int32)) := by decide
  refine ov (B := T45.setTop (mkF m 62 #[rv a1, iv (6 : Int32), iv (6 : Int32)] [])) (fun t k => XS.icmpYes X45.here hx rfl (pc0 := 39) (pc' := 62) rfl (hb hby own_d1_39) rfl (flt hc39).2.1 (by decide) (by decide) k) ?_
  refine own_leafV X45 hx hlk Bd.returns (hb hby own_d1_62) (by decide) (by decide) ?_
  show QI Z a1 u0 u1 u3 h0 n0 _ T45.heap _
  rw [e45]
  refine ⟨bT, bH, bP, kc2, kc4, kc6, ?_, N45, ((((((((((((((((((((Keep.refl h0 [a1]).ext E2).wr W3 (Or.inl (List.mem_of_getElem? (i := 0) rfl))).ext E4).wr W5 (Or.inl (List.mem_of_getElem? (i := 0) rfl))).ext E6).wr W7 (Or.inl (List.mem_of_getElem? (i := 0) rfl))).trans Kq9 (allS (Or.inr (Nat.le_of_eq g2.symm)) all0)).wr W12 (Or.inr (Nat.le_trans (Nat.le_trans (Nat.le_trans (Nat.le_refl _) E2.1) (Keep.of_wr W3).1) (Nat.le_of_eq g4.symm)))).wr W15 (Or.inr (Nat.le_trans (Nat.le_trans (Nat.le_trans (Nat.le_trans (Nat.le_trans (Nat.le_refl _) E2.1) (Keep.of_wr W3).1) E4.1) (Keep.of_wr W5).1) (Nat.le_of_eq g6.symm)))).wr W18 (Or.inr (Nat.le_trans (Nat.le_trans (Nat.le_trans (Nat.le_refl _) E2.1) (Keep.of_wr W3).1) (Nat.le_of_eq g4.symm)))).wr W21 (Or.inr (Nat.le_trans (Nat.le_trans (Nat.le_trans (Nat.le_trans (Nat.le_trans (Nat.le_refl _) E2.1) (Keep.of_wr W3).1) E4.1) (Keep.of_wr W5).1) (Nat.le_of_eq g6.symm)))).wr W24 (Or.inr (Nat.le_trans (Nat.le_trans (Nat.le_trans (Nat.le_refl _) E2.1) (Keep.of_wr W3).1) (Nat.le_of_eq g4.symm)))).wr W27 (Or.inr (Nat.le_trans (Nat.le_trans (Nat.le_trans (Nat.le_trans (Nat.le_trans (Nat.le_refl _) E2.1) (Keep.of_wr W3).1) E4.1) (Keep.of_wr W5).1) (Nat.le_of_eq g6.symm)))).wr W30 (Or.inr (Nat.le_trans (Nat.le_trans (Nat.le_trans (Nat.le_refl _) E2.1) (Keep.of_wr W3).1) (Nat.le_of_eq g4.symm)))).wr W33 (Or.inr (Nat.le_trans (Nat.le_trans (Nat.le_trans (Nat.le_trans (Nat.le_trans (Nat.le_refl _) E2.1) (Keep.of_wr W3).1) E4.1) (Keep.of_wr W5).1) (Nat.le_of_eq g6.symm)))).wr W36 (Or.inr (Nat.le_trans (Nat.le_trans (Nat.le_trans (Nat.le_refl _) E2.1) (Keep.of_wr W3).1) (Nat.le_of_eq g4.symm)))).wr W39 (Or.inr (Nat.le_trans (Nat.le_trans (Nat.le_trans (Nat.le_trans (Nat.le_trans (Nat.le_refl _) E2.1) (Keep.of_wr W3).1) E4.1) (Keep.of_wr W5).1) (Nat.le_of_eq g6.symm)))).wr W42 (Or.inr (Nat.le_trans (Nat.le_trans (Nat.le_trans (Nat.le_refl _) E2.1) (Keep.of_wr W3).1) (Nat.le_of_eq g4.symm)))).wr W45 (Or.inr (Nat.le_trans (Nat.le_trans (Nat.le_trans (Nat.le_trans (Nat.le_trans (Nat.le_refl _) E2.1) (Keep.of_wr W3).1) E4.1) (Keep.of_wr W5).1) (Nat.le_of_eq g6.symm)))), ?_, ?_, ?_, ?_, ?_, ?_, (((((((((((((((((Fw3.ext E4).other W5 (Or.inr (slot_ne (Or.inr (oW hw 11 rfl)) (Or.inr (oW hw 14 rfl)) (by decide +kernel) (t := (.array .double)) (t' := (.array .int)) (by decide +kernel) (by decide +kernel)))).ext E6).other W7 (Or.inr (slot_ne (Or.inr (oW hw 11 rfl)) (Or.inr (oW hw 16 rfl)) (by decide +kernel) (t := (.array .double)) (t' := (.array .int)) (by decide +kernel) (by decide +kernel)))).keep Kq9 (ninS (Nat.ne_of_lt (Nat.lt_of_lt_of_le E1.lt (Nat.le_of_eq g2.symm))) nin0)).other W12 (Or.inl (Nat.ne_of_lt (Nat.lt_of_lt_of_le ((E1.ext E2).wr W3).lt (Nat.le_of_eq g4.symm))))).other W15 (Or.inl (Nat.ne_of_lt (Nat.lt_of_lt_of_le ((((E1.ext E2).wr W3).ext E4).wr W5).lt (Nat.le_of_eq g6.symm))))).other W18 (Or.inl (Nat.ne_of_lt (Nat.lt_of_lt_of_le ((E1.ext E2).wr W3).lt (Nat.le_of_eq g4.symm))))).other W21 (Or.inl (Nat.ne_of_lt (Nat.lt_of_lt_of_le ((((E1.ext E2).wr W3).ext E4).wr W5).lt (Nat.le_of_eq g6.symm))))).other W24 (Or.inl (Nat.ne_of_lt (Nat.lt_of_lt_of_le ((E1.ext E2).wr W3).lt (Nat.le_of_eq g4.symm))))).other W27 (Or.inl (Nat.ne_of_lt (Nat.lt_of_lt_of_le ((((E1.ext E2).wr W3).ext E4).wr W5).lt (Nat.le_of_eq g6.symm))))).other W30 (Or.inl (Nat.ne_of_lt (Nat.lt_of_lt_of_le ((E1.ext E2).wr W3).lt (Nat.le_of_eq g4.symm))))).other W33 (Or.inl (Nat.ne_of_lt (Nat.lt_of_lt_of_le ((((E1.ext E2).wr W3).ext E4).wr W5).lt (Nat.le_of_eq g6.symm))))).other W36 (Or.inl (Nat.ne_of_lt (Nat.lt_of_lt_of_le ((E1.ext E2).wr W3).lt (Nat.le_of_eq g4.symm))))).other W39 (Or.inl (Nat.ne_of_lt (Nat.lt_of_lt_of_le ((((E1.ext E2).wr W3).ext E4).wr W5).lt (Nat.le_of_eq g6.symm))))).other W42 (Or.inl (Nat.ne_of_lt (Nat.lt_of_lt_of_le ((E1.ext E2).wr W3).lt (Nat.le_of_eq g4.symm))))).other W45 (Or.inl (Nat.ne_of_lt (Nat.lt_of_lt_of_le ((((E1.ext E2).wr W3).ext E4).wr W5).lt (Nat.le_of_eq g6.symm))))), (((((((((((((((Fw5.ext E6).other W7 (Or.inr (slot_ne (Or.inr (oW hw 14 rfl)) (Or.inr (oW hw 16 rfl)) (by decide +kernel) (t := (.array .int)) (t' := (.array .int)) (by decide +kernel) (by decide +kernel)))).keep Kq9 (ninS (Nat.ne_of_lt (Nat.lt_of_lt_of_le E1.lt (Nat.le_of_eq g2.symm))) nin0)).other W12 (Or.inl (Nat.ne_of_lt (Nat.lt_of_lt_of_le ((E1.ext E2).wr W3).lt (Nat.le_of_eq g4.symm))))).other W15 (Or.inl (Nat.ne_of_lt (Nat.lt_of_lt_of_le ((((E1.ext E2).wr W3).ext E4).wr W5).lt (Nat.le_of_eq g6.symm))))).other W18 (Or.inl (Nat.ne_of_lt (Nat.lt_of_lt_of_le ((E1.ext E2).wr W3).lt (Nat.le_of_eq g4.symm))))).other W21 (Or.inl (Nat.ne_of_lt (Nat.lt_of_lt_of_le ((((E1.ext E2).wr W3).ext E4).wr W5).lt (Nat.le_of_eq g6.symm))))).other W24 (Or.inl (Nat.ne_of_lt (Nat.lt_of_lt_of_le ((E1.ext E2).wr W3).lt (Nat.le_of_eq g4.symm))))).other W27 (Or.inl (Nat.ne_of_lt (Nat.lt_of_lt_of_le ((((E1.ext E2).wr W3).ext E4).wr W5).lt (Nat.le_of_eq g6.symm))))).other W30 (Or.inl (Nat.ne_of_lt (Nat.lt_of_lt_of_le ((E1.ext E2).wr W3).lt (Nat.le_of_eq g4.symm))))).other W33 (Or.inl (Nat.ne_of_lt (Nat.lt_of_lt_of_le ((((E1.ext E2).wr W3).ext E4).wr W5).lt (Nat.le_of_eq g6.symm))))).other W36 (Or.inl (Nat.ne_of_lt (Nat.lt_of_lt_of_le ((E1.ext E2).wr W3).lt (Nat.le_of_eq g4.symm))))).other W39 (Or.inl (Nat.ne_of_lt (Nat.lt_of_lt_of_le ((((E1.ext E2).wr W3).ext E4).wr W5).lt (Nat.le_of_eq g6.symm))))).other W42 (Or.inl (Nat.ne_of_lt (Nat.lt_of_lt_of_le ((E1.ext E2).wr W3).lt (Nat.le_of_eq g4.symm))))).other W45 (Or.inl (Nat.ne_of_lt (Nat.lt_of_lt_of_le ((((E1.ext E2).wr W3).ext E4).wr W5).lt (Nat.le_of_eq g6.symm))))), (((((((((((((Fw7.keep Kq9 (ninS (Nat.ne_of_lt (Nat.lt_of_lt_of_le E1.lt (Nat.le_of_eq g2.symm))) nin0)).other W12 (Or.inl (Nat.ne_of_lt (Nat.lt_of_lt_of_le ((E1.ext E2).wr W3).lt (Nat.le_of_eq g4.symm))))).other W15 (Or.inl (Nat.ne_of_lt (Nat.lt_of_lt_of_le ((((E1.ext E2).wr W3).ext E4).wr W5).lt (Nat.le_of_eq g6.symm))))).other W18 (Or.inl (Nat.ne_of_lt (Nat.lt_of_lt_of_le ((E1.ext E2).wr W3).lt (Nat.le_of_eq g4.symm))))).other W21 (Or.inl (Nat.ne_of_lt (Nat.lt_of_lt_of_le ((((E1.ext E2).wr W3).ext E4).wr W5).lt (Nat.le_of_eq g6.symm))))).other W24 (Or.inl (Nat.ne_of_lt (Nat.lt_of_lt_of_le ((E1.ext E2).wr W3).lt (Nat.le_of_eq g4.symm))))).other W27 (Or.inl (Nat.ne_of_lt (Nat.lt_of_lt_of_le ((((E1.ext E2).wr W3).ext E4).wr W5).lt (Nat.le_of_eq g6.symm))))).other W30 (Or.inl (Nat.ne_of_lt (Nat.lt_of_lt_of_le ((E1.ext E2).wr W3).lt (Nat.le_of_eq g4.symm))))).other W33 (Or.inl (Nat.ne_of_lt (Nat.lt_of_lt_of_le ((((E1.ext E2).wr W3).ext E4).wr W5).lt (Nat.le_of_eq g6.symm))))).other W36 (Or.inl (Nat.ne_of_lt (Nat.lt_of_lt_of_le ((E1.ext E2).wr W3).lt (Nat.le_of_eq g4.symm))))).other W39 (Or.inl (Nat.ne_of_lt (Nat.lt_of_lt_of_le ((((E1.ext E2).wr W3).ext E4).wr W5).lt (Nat.le_of_eq g6.symm))))).other W42 (Or.inl (Nat.ne_of_lt (Nat.lt_of_lt_of_le ((E1.ext E2).wr W3).lt (Nat.le_of_eq g4.symm))))).other W45 (Or.inl (Nat.ne_of_lt (Nat.lt_of_lt_of_le ((((E1.ext E2).wr W3).ext E4).wr W5).lt (Nat.le_of_eq g6.symm))))), (own_t0 ((((((((((((f9_0.other W12 (Nat.ne_of_lt (Nat.lt_of_lt_of_le (Nat.lt_of_lt_of_le V2.lt (Nat.le_trans (Nat.le_refl _) (Keep.of_wr W3).1)) (Nat.le_of_eq g4.symm)))).other W15 (Nat.ne_of_lt (Nat.lt_of_lt_of_le (Nat.lt_of_lt_of_le V2.lt (Nat.le_trans (Nat.le_trans (Nat.le_trans (Nat.le_refl _) (Keep.of_wr W3).1) E4.1) (Keep.of_wr W5).1)) (Nat.le_of_eq g6.symm)))).other W18 (Nat.ne_of_lt (Nat.lt_of_lt_of_le (Nat.lt_of_lt_of_le V2.lt (Nat.le_trans (Nat.le_refl _) (Keep.of_wr W3).1)) (Nat.le_of_eq g4.symm)))).other W21 (Nat.ne_of_lt (Nat.lt_of_lt_of_le (Nat.lt_of_lt_of_le V2.lt (Nat.le_trans (Nat.le_trans (Nat.le_trans (Nat.le_refl _) (Keep.of_wr W3).1) E4.1) (Keep.of_wr W5).1)) (Nat.le_of_eq g6.symm)))).other W24 (Nat.ne_of_lt (Nat.lt_of_lt_of_le (Nat.lt_of_lt_of_le V2.lt (Nat.le_trans (Nat.le_refl _) (Keep.of_wr W3).1)) (Nat.le_of_eq g4.symm)))).other W27 (Nat.ne_of_lt (Nat.lt_of_lt_of_le (Nat.lt_of_lt_of_le V2.lt (Nat.le_trans (Nat.le_trans (Nat.le_trans (Nat.le_refl _) (Keep.of_wr W3).1) E4.1) (Keep.of_wr W5).1)) (Nat.le_of_eq g6.symm)))).other W30 (Nat.ne_of_lt (Nat.lt_of_lt_of_le (Nat.lt_of_lt_of_le V2.lt (Nat.le_trans (Nat.le_refl _) (Keep.of_wr W3).1)) (Nat.le_of_eq g4.symm)))).other W33 (Nat.ne_of_lt (Nat.lt_of_lt_of_le (Nat.lt_of_lt_of_le V2.lt (Nat.le_trans (Nat.le_trans (Nat.le_trans (Nat.le_refl _) (Keep.of_wr W3).1) E4.1) (Keep.of_wr W5).1)) (Nat.le_of_eq g6.symm)))).other W36 (Nat.ne_of_lt (Nat.lt_of_lt_of_le (Nat.lt_of_lt_of_le V2.lt (Nat.le_trans (Nat.le_refl _) (Keep.of_wr W3).1)) (Nat.le_of_eq g4.symm)))).other W39 (Nat.ne_of_lt (Nat.lt_of_lt_of_le (Nat.lt_of_lt_of_le V2.lt (Nat.le_trans (Nat.le_trans (Nat.le_trans (Nat.le_refl _) (Keep.of_wr W3).1) E4.1) (Keep.of_wr W5).1)) (Nat.le_of_eq g6.symm)))).other W42 (Nat.ne_of_lt (Nat.lt_of_lt_of_le (Nat.lt_of_lt_of_le V2.lt (Nat.le_trans (Nat.le_refl _) (Keep.of_wr W3).1)) (Nat.le_of_eq g4.symm)))).other W45 (Nat.ne_of_lt (Nat.lt_of_lt_of_le (Nat.lt_of_lt_of_le V2.lt (Nat.le_trans (Nat.le_trans (Nat.le_trans (Nat.le_refl _) (Keep.of_wr W3).1) E4.1) (Keep.of_wr W5).1)) (Nat.le_of_eq g6.symm))))), (V42.other W45 (Nat.ne_of_lt (Nat.lt_of_lt_of_le (Nat.lt_of_lt_of_le V4.lt (Nat.le_trans (Nat.le_refl _) (Keep.of_wr W5).1)) (Nat.le_of_eq g6.symm)))), V45⟩
  · rfl
  · exact (Nat.le_of_eq g2.symm)
  · exact (Nat.le_trans (Nat.le_trans (Nat.le_trans (Nat.le_refl _) E2.1) (Keep.of_wr W3).1) (Nat.le_of_eq g4.symm))
  · exact (Nat.le_trans (Nat.le_trans (Nat.le_trans (Nat.le_trans (Nat.le_trans (Nat.le_refl _) E2.1) (Keep.of_wr W3).1) E4.1) (Keep.of_wr W5).1) (Nat.le_of_eq g6.symm))
  · exact (Nat.ne_of_lt (Nat.lt_of_lt_of_le (Nat.lt_of_lt_of_le V2.lt (Nat.le_trans (Nat.le_refl _) (Keep.of_wr W3).1)) (Nat.le_of_eq g4.symm)))
  · exact (Nat.ne_of_lt (Nat.lt_of_lt_of_le (Nat.lt_of_lt_of_le V2.lt (Nat.le_trans (Nat.le_trans (Nat.le_trans (Nat.le_refl _) (Keep.of_wr W3).1) E4.1) (Keep.of_wr W5).1)) (Nat.le_of_eq g6.symm)))
  · exact (Nat.ne_of_lt (Nat.lt_of_lt_of_le (Nat.lt_of_lt_of_le V4.lt (Nat.le_trans (Nat.le_refl _) (Keep.of_wr W5).1)) (Nat.le_of_eq g6.symm)))
theorem own_pd7 : parseMethodDescriptor "(I)V" = some ⟨[.int], none⟩ := by decide +kernel
theorem own_pd8 : parseMethodDescriptor "(Lcom/example/meerkat/meerkat/simulate/Completions;[II)Z" = some ⟨[(.object "com/example/meerkat/meerkat/simulate/Completions"), (.array .int), .int], some .boolean⟩ := by decide +kernel
theorem own_pd9 : parseMethodDescriptor "(I)D" = some ⟨[.int], some .double⟩ := by decide +kernel
theorem own_ef0 (m : MethodId) (x0 : Int32) (x1 : Int32) (x2 : Int32) (x3 : Int32) (x4 : Int32) : entryFrame m #[(.int x0), (.int x1), (.int x2), (.int x3), (.int x4)] maxLocals = mkF m 0 #[iv x0, iv x1, iv x2, iv x3, iv x4, uu, uu, uu, uu, uu, uu, uu, uu, uu, uu] [] := by first | (simp [entryFrame, mkF, argsToLocals, Value.category, maxLocals]; done) | rfl
def Q0 (Z : State) (i0 : Int32) (i1 : Int32) (i2 : Int32) (i3 : Int32) (i4 : Int32) (h0 : Heap) (n0 : Nat) (v : Option Value) (h : Heap) (L : List Loc) : Prop := v = some (.int 1) ∧ Fr n0 L
set_option maxRecDepth 65536 in
set_option maxHeartbeats 40000000 in
theorem rm0 (l : Launch) (Z : State) (a0 : Array Value) (hw : ∀ d ∈ tables_1, d.before a0 Z = true) (ws : List Jvm.Cond) (i0 : Int32) (i1 : Int32) (i2 : Int32) (i3 : Int32) (i4 : Int32) (h0 : Heap) (n0 : Nat) (Z0 : n0 ≤ h0.size) :
    MetFree l x (head1 (Jvm.Cond.code x code maxLocals ret :: ws) room_1) (fun a U => a = #[(.int i0), (.int i1), (.int i2), (.int i3), (.int i4)] ∧ Z.Warmed39 U.vm ∧ U.heap = h0) (fun _ _ _ _ _ => True) (fun _ U o U' => ∃ v L, o = .returned v ∧ Q0 Z i0 i1 i2 i3 i4 h0 n0 v U'.heap L ∧ FrameEnd U o U' L room_1.cells room_1.slots) := by
  refine MetFree.of_bodySF (plainFor_of_name own_pn2) hisR ?_
  intro p e s m args below meth c s₁ Bd hml0 hP hK
  obtain ⟨rfl, hZ, hh⟩ := hP
  have hx := Bd.exec
  have hby := Bd.bytes
  have hlk : meth.locks = false := Bd.notSynchronized
  have hml : c.maxLocals = 15 := hml0
  have hown : s.vm.findClass "com/example/meerkat/meerkat/simulate/CompletionsSetPinLaw" = some m.cls := findClass_of_methodNamed Bd.named
  have hnm := (name_of_methodNamed Bd.named Bd.method).1
  have X0 : Stand p l e room_1 s m #[(.int i0), (.int i1), (.int i2), (.int i3), (.int i4)] below meth c s₁ [] 0 0 := Stand.of_body Bd
  have e0 : s₁.heap = h0 := by rw [← hh, Bd.state]; rfl
  have N0 := Fr.nil n0
  refine own_body (A := s₁.setTop (mkF m 0 #[iv i0, iv i1, iv i2, iv i3, iv i4, uu, uu, uu, uu, uu, uu, uu, uu, uu, uu] [])) (Q := Q0 Z i0 i1 i2 i3 i4 h0 n0) (fun t k => castTop (own_ef0 m i0 i1 i2 i3 i4) k) ?_
  obtain ⟨T1, h1, X1, e1, E1, A1, D1, -, st1⟩ := newO X0 hx hZ hown (oW hw 0 rfl) (oW hw 1 rfl) (oW hw 2 rfl) e0 (g := (mkF m 0 #[iv i0, iv i1, iv i2, iv i3, iv i4, uu, uu, uu, uu, uu, uu, uu, uu, uu, uu] [])) rfl (hb hby at_0) (by decide) (by decide)
  obtain ⟨bS, g1⟩ : ∃ z, z = h0.size := ⟨_, rfl⟩
  rw [← g1] at A1 D1 st1
  have g_bS : n0 ≤ bS := Nat.le_trans Z0 (Nat.le_of_eq g1.symm)
  have F1_times : Fld Z h1 bS "com/example/meerkat/meerkat/simulate/Completions" "times" "[D" .null := D1 (Or.inr (oW hw 11 rfl)) (ty := (.array .double)) (by decide)
  have F1_heap : Fld Z h1 bS "com/example/meerkat/meerkat/simulate/Completions" "heap" "[I" .null := D1 (Or.inr (oW hw 14 rfl)) (ty := (.array .int)) (by decide)
  have F1_places : Fld Z h1 bS "com/example/meerkat/meerkat/simulate/Completions" "places" "[I" .null := D1 (Or.inr (oW hw 16 rfl)) (ty := (.array .int)) (by decide)
  refine ov (B := T1.setTop (mkF m 3 #[iv i0, iv i1, iv i2, iv i3, iv i4, uu, uu, uu, uu, uu, uu, uu, uu, uu, uu] [(.ref bS)])) (fun t k => st1 t k) ?_
  refine oDU (n := 4) X1 hx (hb hby at_3) rfl rfl ?_
  refine oBP (n := 6) X1 hx (6 : Int32) (hb hby at_4) (by decide) rfl ?_
  obtain ⟨_, _, ⟨T2, L2, k2, n2⟩, -, X2, ⟨Lc2, hQ2, l2, y2, z2⟩, st2⟩ := X1.specialBack hx (y := (⟨"com/example/meerkat/meerkat/simulate/Completions", "<init>", "(I)V"⟩ : MethodName)) rfl hown (mvT hZ (oW hw 3 rfl)) (mvT hZ (oW hw 4 rfl)) (mvT hZ (oW hw 5 rfl)) (by decide) (backOf (W := 1) (rmI l Z a0 hw [] bS .null .null .null h1 n0 (Nat.le_trans Z0 E1.1) A1 F1_times F1_heap F1_places g_bS) hZ (oW hw 5 rfl) (oW hw 2 rfl) (by decide) (by decide)) (g := (mkF m 6 #[iv i0, iv i1, iv i2, iv i3, iv i4, uu, uu, uu, uu, uu, uu, uu, uu, uu, uu] [(.int (6 : Int32)), (.ref bS), (.ref bS)])) rfl (by rw [hml]; rfl) (Steps.refl _) (a := bS) (argsL := [(.int (6 : Int32))]) (rest := [(.ref bS)]) (lenOf own_pd7 rfl) rfl (by show 2 * 0 + _ ≤ _; exact Nat.le_of_eq rfl) (hb hby at_6) (fun _ _ => ⟨rfl, e1, (by decide : (0 + 1) + 3 ≤ _), (by decide : (0 + 3) + 18 ≤ _)⟩)
  dsimp only [Pt.U, Pt.locs, Pt.cells, Pt.slots] at X2 l2 y2 z2 st2 hQ2
  subst l2 y2 z2
  obtain ⟨g1_2, d1_2, p1_2, kt_2, kh_2, kp_2, rfl, Nq2, Kq2, hg_2, hd_2, hp_2, nA_2, nB_2, nC_2, f2_0, f2_1, f2_2, f2_3, f2_4, f2_5⟩ := hQ2
  have N2 := Fr.app N0 Nq2
  have g_g1_2 : n0 ≤ g1_2 := Nat.le_trans (Nat.le_trans Z0 E1.1) hg_2
  have g_d1_2 : n0 ≤ d1_2 := Nat.le_trans (Nat.le_trans Z0 E1.1) hd_2
  have g_p1_2 : n0 ≤ p1_2 := Nat.le_trans (Nat.le_trans Z0 E1.1) hp_2
  refine ov (B := T2.setTop (mkF m 9 #[iv i0, iv i1, iv i2, iv i3, iv i4, uu, uu, uu, uu, uu, uu, uu, uu, uu, uu] [(.ref bS)])) (fun t k => st2.trans k) ?_
  refine ov (B := T2.setTop (mkF m 11 #[iv i0, iv i1, iv i2, iv i3, iv i4, rv bS, uu, uu, uu, uu, uu, uu, uu, uu, uu] [])) (fun t k => XS.astore X2.here hx rfl (hb hby at_9) rfl rfl (l' := #[iv i0, iv i1, iv i2, iv i3, iv i4, rv bS, uu, uu, uu, uu, uu, uu, uu, uu, uu]) rfl k) ?_
  refine oBP (n := 13) X2 hx (6 : Int32) (hb hby at_11) (by decide) rfl ?_
  obtain ⟨T3, h3, kc3, X3, e3, E3, A3, st3⟩ := newP X2 hx hZ (oW hw 12 rfl) rfl (g := (mkF m 13 #[iv i0, iv i1, iv i2, iv i3, iv i4, rv bS, uu, uu, uu, uu, uu, uu, uu, uu, uu] [(.int (6 : Int32))])) rfl (hb hby at_13) rfl (by decide) (cap := 6) (by decide) (by decide) (by decide) (by decide)
  obtain ⟨bR, g3⟩ : ∃ z, z = T2.heap.size := ⟨_, rfl⟩
  rw [← g3] at A3 st3
  have g_bR : n0 ≤ bR := Nat.le_trans (Nat.le_trans (Nat.le_trans Z0 E1.1) Kq2.1) (Nat.le_of_eq g3.symm)
  have V3 : Arv Z h3 bR kc3 .int (6 : Int32) [(.int (0 : Int32)), (.int (0 : Int32)), (.int (0 : Int32)), (.int (0 : Int32)), (.int (0 : Int32)), (.int (0 : Int32))] (.int (0 : Int32)) := (Arv.new A3 (by decide)).pad (pad_rep [] (.int (0 : Int32)) 6)
  refine ov (B := T3.setTop (mkF m 15 #[iv i0, iv i1, iv i2, iv i3, iv i4, rv bS, uu, uu, uu, uu, uu, uu, uu, uu, uu] [(.ref bR)])) (fun t k => st3 t k) ?_
  refine oDU (n := 16) X3 hx (hb hby at_15) rfl rfl ?_
  refine oIC (n := 17) X3 hx (0 : Int32) (hb hby at_16) (by decide) rfl ?_
  refine oBP (n := 19) X3 hx (7 : Int32) (hb hby at_17) (by decide) rfl ?_
  obtain ⟨cl4, Ar4, q4, S4, M4, H4, G4⟩ := id V3
  obtain ⟨T5, h5, X5, e5, W5, st5⟩ := stI X3 hx hZ e3 Ar4 (j := (0 : Int32)) (inb_of S4 ⟨by decide, by decide⟩) (g := (mkF m 19 #[iv i0, iv i1, iv i2, iv i3, iv i4, rv bS, uu, uu, uu, uu, uu, uu, uu, uu, uu] [(.int (7 : Int32)), (.int (0 : Int32)), (.ref bR), (.ref bR)])) rfl rfl (hb hby at_19)
  have V5 : Arv Z h5 bR kc3 .int (6 : Int32) [(.int (7 : Int32)), (.int (0 : Int32)), (.int (0 : Int32)), (.int (0 : Int32)), (.int (0 : Int32)), (.int (0 : Int32))] (.int (0 : Int32)) := Arv.set Ar4 q4 S4 M4 H4 G4 rfl W5 0 rfl (Nat.le_of_ble_eq_true rfl)
  have N5 := Fr.snoc X5 N2 g_bR
  refine ov (B := T5.setTop (mkF m 20 #[iv i0, iv i1, iv i2, iv i3, iv i4, rv bS, uu, uu, uu, uu, uu, uu, uu, uu, uu] [(.ref bR)])) (fun t k => st5 t k) ?_
  refine oDU (n := 21) X5 hx (hb hby at_20) rfl rfl ?_
  refine oIC (n := 22) X5 hx (1 : Int32) (hb hby at_21) (by decide) rfl ?_
  refine oBP (n := 24) X5 hx (7 : Int32) (hb hby at_22) (by decide) rfl ?_
  obtain ⟨cl6, Ar6, q6, S6, M6, H6, G6⟩ := id V5
  obtain ⟨T7, h7, X7, e7, W7, st7⟩ := stI X5 hx hZ e5 Ar6 (j := (1 : Int32)) (inb_of S6 ⟨by decide, by decide⟩) (g := (mkF m 24 #[iv i0, iv i1, iv i2, iv i3, iv i4, rv bS, uu, uu, uu, uu, uu, uu, uu, uu, uu] [(.int (7 : Int32)), (.int (1 : Int32)), (.ref bR), (.ref bR)])) rfl rfl (hb hby at_24)
  have V7 : Arv Z h7 bR kc3 .int (6 : Int32) [(.int (7 : Int32)), (.int (7 : Int32)), (.int (0 : Int32)), (.int (0 : Int32)), (.int (0 : Int32)), (.int (0 : Int32))] (.int (0 : Int32)) := Arv.set Ar6 q6 S6 M6 H6 G6 rfl W7 1 rfl (Nat.le_of_ble_eq_true rfl)
  have N7 := Fr.snoc X7 N5 g_bR
  refine ov (B := T7.setTop (mkF m 25 #[iv i0, iv i1, iv i2, iv i3, iv i4, rv bS, uu, uu, uu, uu, uu, uu, uu, uu, uu] [(.ref bR)])) (fun t k => st7 t k) ?_
  refine oDU (n := 26) X7 hx (hb hby at_25) rfl rfl ?_
  refine oIC (n := 27) X7 hx (2 : Int32) (hb hby at_26) (by decide) rfl ?_
  refine oBP (n := 29) X7 hx (7 : Int32) (hb hby at_27) (by decide) rfl ?_
  obtain ⟨cl8, Ar8, q8, S8, M8, H8, G8⟩ := id V7
  obtain ⟨T9, h9, X9, e9, W9, st9⟩ := stI X7 hx hZ e7 Ar8 (j := (2 : Int32)) (inb_of S8 ⟨by decide, by decide⟩) (g := (mkF m 29 #[iv i0, iv i1, iv i2, iv i3, iv i4, rv bS, uu, uu, uu, uu, uu, uu, uu, uu, uu] [(.int (7 : Int32)), (.int (2 : Int32)), (.ref bR), (.ref bR)])) rfl rfl (hb hby at_29)
  have V9 : Arv Z h9 bR kc3 .int (6 : Int32) [(.int (7 : Int32)), (.int (7 : Int32)), (.int (7 : Int32)), (.int (0 : Int32)), (.int (0 : Int32)), (.int (0 : Int32))] (.int (0 : Int32)) := Arv.set Ar8 q8 S8 M8 H8 G8 rfl W9 2 rfl (Nat.le_of_ble_eq_true rfl)
  have N9 := Fr.snoc X9 N7 g_bR
  refine ov (B := T9.setTop (mkF m 30 #[iv i0, iv i1, iv i2, iv i3, iv i4, rv bS, uu, uu, uu, uu, uu, uu, uu, uu, uu] [(.ref bR)])) (fun t k => st9 t k) ?_
  refine oDU (n := 31) X9 hx (hb hby at_30) rfl rfl ?_
  refine oIC (n := 32) X9 hx (3 : Int32) (hb hby at_31) (by decide) rfl ?_
  refine oBP (n := 34) X9 hx (7 : Int32) (hb hby at_32) (by decide) rfl ?_
  obtain ⟨cl10, Ar10, q10, S10, M10, H10, G10⟩ := id V9
  obtain ⟨T11, h11, X11, e11, W11, st11⟩ := stI X9 hx hZ e9 Ar10 (j := (3 : Int32)) (inb_of S10 ⟨by decide, by decide⟩) (g := (mkF m 34 #[iv i0, iv i1, iv i2, iv i3, iv i4, rv bS, uu, uu, uu, uu, uu, uu, uu, uu, uu] [(.int (7 : Int32)), (.int (3 : Int32)), (.ref bR), (.ref bR)])) rfl rfl (hb hby at_34)
  have V11 : Arv Z h11 bR kc3 .int (6 : Int32) [(.int (7 : Int32)), (.int (7 : Int32)), (.int (7 : Int32)), (.int (7 : Int32)), (.int (0 : Int32)), (.int (0 : Int32))] (.int (0 : Int32)) := Arv.set Ar10 q10 S10 M10 H10 G10 rfl W11 3 rfl (Nat.le_of_ble_eq_true rfl)
  have N11 := Fr.snoc X11 N9 g_bR
  refine ov (B := T11.setTop (mkF m 35 #[iv i0, iv i1, iv i2, iv i3, iv i4, rv bS, uu, uu, uu, uu, uu, uu, uu, uu, uu] [(.ref bR)])) (fun t k => st11 t k) ?_
  refine oDU (n := 36) X11 hx (hb hby at_35) rfl rfl ?_
  refine oIC (n := 37) X11 hx (4 : Int32) (hb hby at_36) (by decide) rfl ?_
  refine oBP (n := 39) X11 hx (7 : Int32) (hb hby at_37) (by decide) rfl ?_
  obtain ⟨cl12, Ar12, q12, S12, M12, H12, G12⟩ := id V11
  obtain ⟨T13, h13, X13, e13, W13, st13⟩ := stI X11 hx hZ e11 Ar12 (j := (4 : Int32)) (inb_of S12 ⟨by decide, by decide⟩) (g := (mkF m 39 #[iv i0, iv i1, iv i2, iv i3, iv i4, rv bS, uu, uu, uu, uu, uu, uu, uu, uu, uu] [(.int (7 : Int32)), (.int (4 : Int32)), (.ref bR), (.ref bR)])) rfl rfl (hb hby at_39)
  have V13 : Arv Z h13 bR kc3 .int (6 : Int32) [(.int (7 : Int32)), (.int (7 : Int32)), (.int (7 : Int32)), (.int (7 : Int32)), (.int (7 : Int32)), (.int (0 : Int32))] (.int (0 : Int32)) := Arv.set Ar12 q12 S12 M12 H12 G12 rfl W13 4 rfl (Nat.le_of_ble_eq_true rfl)
  have N13 := Fr.snoc X13 N11 g_bR
  refine ov (B := T13.setTop (mkF m 40 #[iv i0, iv i1, iv i2, iv i3, iv i4, rv bS, uu, uu, uu, uu, uu, uu, uu, uu, uu] [(.ref bR)])) (fun t k => st13 t k) ?_
  refine oDU (n := 41) X13 hx (hb hby at_40) rfl rfl ?_
  refine oIC (n := 42) X13 hx (5 : Int32) (hb hby at_41) (by decide) rfl ?_
  refine oBP (n := 44) X13 hx (7 : Int32) (hb hby at_42) (by decide) rfl ?_
  obtain ⟨cl14, Ar14, q14, S14, M14, H14, G14⟩ := id V13
  obtain ⟨T15, h15, X15, e15, W15, st15⟩ := stI X13 hx hZ e13 Ar14 (j := (5 : Int32)) (inb_of S14 ⟨by decide, by decide⟩) (g := (mkF m 44 #[iv i0, iv i1, iv i2, iv i3, iv i4, rv bS, uu, uu, uu, uu, uu, uu, uu, uu, uu] [(.int (7 : Int32)), (.int (5 : Int32)), (.ref bR), (.ref bR)])) rfl rfl (hb hby at_44)
  have V15 : Arv Z h15 bR kc3 .int (6 : Int32) [(.int (7 : Int32)), (.int (7 : Int32)), (.int (7 : Int32)), (.int (7 : Int32)), (.int (7 : Int32)), (.int (7 : Int32))] (.int (0 : Int32)) := Arv.set Ar14 q14 S14 M14 H14 G14 rfl W15 5 rfl (Nat.le_of_ble_eq_true rfl)
  have N15 := Fr.snoc X15 N13 g_bR
  refine ov (B := T15.setTop (mkF m 45 #[iv i0, iv i1, iv i2, iv i3, iv i4, rv bS, uu, uu, uu, uu, uu, uu, uu, uu, uu] [(.ref bR)])) (fun t k => st15 t k) ?_
  refine ov (B := T15.setTop (mkF m 47 #[iv i0, iv i1, iv i2, iv i3, iv i4, rv bS, rv bR, uu, uu, uu, uu, uu, uu, uu, uu] [])) (fun t k => XS.astore X15.here hx rfl (hb hby at_45) rfl rfl (l' := #[iv i0, iv i1, iv i2, iv i3, iv i4, rv bS, rv bR, uu, uu, uu, uu, uu, uu, uu, uu]) rfl k) ?_
  refine oAL (n := 49) X15 hx (hb hby at_47) rfl rfl rfl ?_
  refine oAL (n := 51) X15 hx (hb hby at_49) rfl rfl rfl ?_
  refine oILN (n := 52) X15 hx (hb hby at_51) rfl rfl ?_
  obtain ⟨_, _, ⟨T16, L16, k16, n16⟩, -, X16, ⟨Lc16, hQ16, l16, y16, z16⟩, st16⟩ := Jvm.LawKit.callS X15 hx (y := (⟨"com/example/meerkat/meerkat/simulate/CompletionsSetPinLaw", "step", "(Lcom/example/meerkat/meerkat/simulate/Completions;[II)Z"⟩ : MethodName)) hown (mvT hZ (oW hw 22 rfl)) (mvT hZ (oW hw 23 rfl)) (mvT hZ (oW hw 24 rfl)) (mvT hZ (oW hw 25 rfl)) (by decide) (backOf (W := 0) (rmP l Z a0 hw [] bS bR i0 g1_2 d1_2 p1_2 kt_2 kh_2 kp_2 ([7, 7, 7, 7, 7, 7] : List Int32) ([0, 1, 2, 3, 4, 5] : List Int32) (0 : Int32) (1 : Int32) (2 : Int32) (3 : Int32) (4 : Int32) (5 : Int32) kc3 h15 n0 (Nat.le_trans (Nat.le_trans (Nat.le_trans (Nat.le_trans (Nat.le_trans (Nat.le_trans (Nat.le_trans (Nat.le_trans (Nat.le_trans Z0 E1.1) Kq2.1) E3.1) (Keep.of_wr W5).1) (Keep.of_wr W7).1) (Keep.of_wr W9).1) (Keep.of_wr W11).1) (Keep.of_wr W13).1) (Keep.of_wr W15).1) ((((((((A1.keep Kq2).ext E3).wr W5).wr W7).wr W9).wr W11).wr W13).wr W15) (((((((f2_0.ext E3).other W5 (Or.inl (Nat.ne_of_lt (Nat.lt_of_lt_of_le (A1.keep Kq2).lt (Nat.le_of_eq g3.symm))))).other W7 (Or.inl (Nat.ne_of_lt (Nat.lt_of_lt_of_le (A1.keep Kq2).lt (Nat.le_of_eq g3.symm))))).other W9 (Or.inl (Nat.ne_of_lt (Nat.lt_of_lt_of_le (A1.keep Kq2).lt (Nat.le_of_eq g3.symm))))).other W11 (Or.inl (Nat.ne_of_lt (Nat.lt_of_lt_of_le (A1.keep Kq2).lt (Nat.le_of_eq g3.symm))))).other W13 (Or.inl (Nat.ne_of_lt (Nat.lt_of_lt_of_le (A1.keep Kq2).lt (Nat.le_of_eq g3.symm))))).other W15 (Or.inl (Nat.ne_of_lt (Nat.lt_of_lt_of_le (A1.keep Kq2).lt (Nat.le_of_eq g3.symm))))) (((((((f2_1.ext E3).other W5 (Or.inl (Nat.ne_of_lt (Nat.lt_of_lt_of_le (A1.keep Kq2).lt (Nat.le_of_eq g3.symm))))).other W7 (Or.inl (Nat.ne_of_lt (Nat.lt_of_lt_of_le (A1.keep Kq2).lt (Nat.le_of_eq g3.symm))))).other W9 (Or.inl (Nat.ne_of_lt (Nat.lt_of_lt_of_le (A1.keep Kq2).lt (Nat.le_of_eq g3.symm))))).other W11 (Or.inl (Nat.ne_of_lt (Nat.lt_of_lt_of_le (A1.keep Kq2).lt (Nat.le_of_eq g3.symm))))).other W13 (Or.inl (Nat.ne_of_lt (Nat.lt_of_lt_of_le (A1.keep Kq2).lt (Nat.le_of_eq g3.symm))))).other W15 (Or.inl (Nat.ne_of_lt (Nat.lt_of_lt_of_le (A1.keep Kq2).lt (Nat.le_of_eq g3.symm))))) (((((((f2_2.ext E3).other W5 (Or.inl (Nat.ne_of_lt (Nat.lt_of_lt_of_le (A1.keep Kq2).lt (Nat.le_of_eq g3.symm))))).other W7 (Or.inl (Nat.ne_of_lt (Nat.lt_of_lt_of_le (A1.keep Kq2).lt (Nat.le_of_eq g3.symm))))).other W9 (Or.inl (Nat.ne_of_lt (Nat.lt_of_lt_of_le (A1.keep Kq2).lt (Nat.le_of_eq g3.symm))))).other W11 (Or.inl (Nat.ne_of_lt (Nat.lt_of_lt_of_le (A1.keep Kq2).lt (Nat.le_of_eq g3.symm))))).other W13 (Or.inl (Nat.ne_of_lt (Nat.lt_of_lt_of_le (A1.keep Kq2).lt (Nat.le_of_eq g3.symm))))).other W15 (Or.inl (Nat.ne_of_lt (Nat.lt_of_lt_of_le (A1.keep Kq2).lt (Nat.le_of_eq g3.symm))))) (((((((f2_3.ext E3).other W5 (Nat.ne_of_lt (Nat.lt_of_lt_of_le f2_3.lt (Nat.le_of_eq g3.symm)))).other W7 (Nat.ne_of_lt (Nat.lt_of_lt_of_le f2_3.lt (Nat.le_of_eq g3.symm)))).other W9 (Nat.ne_of_lt (Nat.lt_of_lt_of_le f2_3.lt (Nat.le_of_eq g3.symm)))).other W11 (Nat.ne_of_lt (Nat.lt_of_lt_of_le f2_3.lt (Nat.le_of_eq g3.symm)))).other W13 (Nat.ne_of_lt (Nat.lt_of_lt_of_le f2_3.lt (Nat.le_of_eq g3.symm)))).other W15 (Nat.ne_of_lt (Nat.lt_of_lt_of_le f2_3.lt (Nat.le_of_eq g3.symm)))) (((((((f2_4.ext E3).other W5 (Nat.ne_of_lt (Nat.lt_of_lt_of_le f2_4.lt (Nat.le_of_eq g3.symm)))).other W7 (Nat.ne_of_lt (Nat.lt_of_lt_of_le f2_4.lt (Nat.le_of_eq g3.symm)))).other W9 (Nat.ne_of_lt (Nat.lt_of_lt_of_le f2_4.lt (Nat.le_of_eq g3.symm)))).other W11 (Nat.ne_of_lt (Nat.lt_of_lt_of_le f2_4.lt (Nat.le_of_eq g3.symm)))).other W13 (Nat.ne_of_lt (Nat.lt_of_lt_of_le f2_4.lt (Nat.le_of_eq g3.symm)))).other W15 (Nat.ne_of_lt (Nat.lt_of_lt_of_le f2_4.lt (Nat.le_of_eq g3.symm)))) (((((((f2_5.ext E3).other W5 (Nat.ne_of_lt (Nat.lt_of_lt_of_le f2_5.lt (Nat.le_of_eq g3.symm)))).other W7 (Nat.ne_of_lt (Nat.lt_of_lt_of_le f2_5.lt (Nat.le_of_eq g3.symm)))).other W9 (Nat.ne_of_lt (Nat.lt_of_lt_of_le f2_5.lt (Nat.le_of_eq g3.symm)))).other W11 (Nat.ne_of_lt (Nat.lt_of_lt_of_le f2_5.lt (Nat.le_of_eq g3.symm)))).other W13 (Nat.ne_of_lt (Nat.lt_of_lt_of_le f2_5.lt (Nat.le_of_eq g3.symm)))).other W15 (Nat.ne_of_lt (Nat.lt_of_lt_of_le f2_5.lt (Nat.le_of_eq g3.symm)))) nA_2 nB_2 nC_2 g_g1_2 g_d1_2 g_p1_2 V15 (Ne.symm (Nat.ne_of_lt (Nat.lt_of_lt_of_le f2_3.lt (Nat.le_of_eq g3.symm)))) (Ne.symm (Nat.ne_of_lt (Nat.lt_of_lt_of_le f2_4.lt (Nat.le_of_eq g3.symm)))) (Ne.symm (Nat.ne_of_lt (Nat.lt_of_lt_of_le f2_5.lt (Nat.le_of_eq g3.symm)))) g_bR own_i1 own_i2 own_i3 own_i4) hZ (oW hw 25 rfl) (oW hw 24 rfl) (by decide) (by decide)) (g := (mkF m 52 #[iv i0, iv i1, iv i2, iv i3, iv i4, rv bS, rv bR, uu, uu, uu, uu, uu, uu, uu, uu] [(.int i0), (.ref bR), (.ref bS)])) rfl (by rw [hml]; rfl) (argsL := [(.ref bS), (.ref bR), (.int i0)]) (rest := []) (lenOf own_pd8 rfl) rfl (by show 2 * 0 + _ ≤ _; exact Nat.le_of_eq rfl) (hb hby at_52) (fun _ _ => ⟨rfl, e15, (by decide : (((0 + 1) + 3) + 1) + 0 ≤ _), (by decide : (((0 + 3) + 18) + 6) + 0 ≤ _)⟩)
  dsimp only [Pt.U, Pt.locs, Pt.cells, Pt.slots] at X16 l16 y16 z16 st16 hQ16
  subst l16 y16 z16
  obtain ⟨tq_16, fA_16, fB_16, fC_16, fD_16, fE_16, fF_16, PQ_16, rfl, Nq16, Kq16, qI_16, qP_16, qS_16, qO_16, f16_0, f16_1, f16_2, f16_3⟩ := hQ16
  have N16 := Fr.app N15 Nq16
  refine ov (B := T16.setTop (mkF m 55 #[iv i0, iv i1, iv i2, iv i3, iv i4, rv bS, rv bR, uu, uu, uu, uu, uu, uu, uu, uu] [(.int (1 : Int32))])) (fun t k => st16 t k) ?_
  refine ov (B := T16.setTop (mkF m 57 #[iv i0, iv i1, iv i2, iv i3, iv i4, rv bS, rv bR, iv (1 : Int32), uu, uu, uu, uu, uu, uu, uu] [])) (fun t k => XS.istore X16.here hx rfl (hb hby at_55) rfl (l' := #[iv i0, iv i1, iv i2, iv i3, iv i4, rv bS, rv bR, iv (1 : Int32), uu, uu, uu, uu, uu, uu, uu]) rfl k) ?_
  refine oAL (n := 59) X16 hx (hb hby at_57) rfl rfl rfl ?_
  refine oAL (n := 61) X16 hx (hb hby at_59) rfl rfl rfl ?_
  refine oILN (n := 62) X16 hx (hb hby at_61) rfl rfl ?_
  obtain ⟨_, _, ⟨T17, L17, k17, n17⟩, -, X17, ⟨Lc17, hQ17, l17, y17, z17⟩, st17⟩ := Jvm.LawKit.callS X16 hx (y := (⟨"com/example/meerkat/meerkat/simulate/CompletionsSetPinLaw", "step", "(Lcom/example/meerkat/meerkat/simulate/Completions;[II)Z"⟩ : MethodName)) hown (mvT hZ (oW hw 22 rfl)) (mvT hZ (oW hw 23 rfl)) (mvT hZ (oW hw 24 rfl)) (mvT hZ (oW hw 25 rfl)) (by decide) (backOf (W := 0) (rmP l Z a0 hw [] bS bR i1 g1_2 d1_2 p1_2 kt_2 kh_2 kp_2 tq_16 PQ_16 fA_16 fB_16 fC_16 fD_16 fE_16 fF_16 kc3 T16.heap n0 (Nat.le_trans (Nat.le_trans (Nat.le_trans (Nat.le_trans (Nat.le_trans (Nat.le_trans (Nat.le_trans (Nat.le_trans (Nat.le_trans (Nat.le_trans Z0 E1.1) Kq2.1) E3.1) (Keep.of_wr W5).1) (Keep.of_wr W7).1) (Keep.of_wr W9).1) (Keep.of_wr W11).1) (Keep.of_wr W13).1) (Keep.of_wr W15).1) Kq16.1) (((((((((A1.keep Kq2).ext E3).wr W5).wr W7).wr W9).wr W11).wr W13).wr W15).keep Kq16) ((((((((f2_0.ext E3).other W5 (Or.inl (Nat.ne_of_lt (Nat.lt_of_lt_of_le (A1.keep Kq2).lt (Nat.le_of_eq g3.symm))))).other W7 (Or.inl (Nat.ne_of_lt (Nat.lt_of_lt_of_le (A1.keep Kq2).lt (Nat.le_of_eq g3.symm))))).other W9 (Or.inl (Nat.ne_of_lt (Nat.lt_of_lt_of_le (A1.keep Kq2).lt (Nat.le_of_eq g3.symm))))).other W11 (Or.inl (Nat.ne_of_lt (Nat.lt_of_lt_of_le (A1.keep Kq2).lt (Nat.le_of_eq g3.symm))))).other W13 (Or.inl (Nat.ne_of_lt (Nat.lt_of_lt_of_le (A1.keep Kq2).lt (Nat.le_of_eq g3.symm))))).other W15 (Or.inl (Nat.ne_of_lt (Nat.lt_of_lt_of_le (A1.keep Kq2).lt (Nat.le_of_eq g3.symm))))).keep Kq16 (ninS (Nat.ne_of_lt (Nat.lt_of_lt_of_le A1.lt hg_2)) (ninS (Nat.ne_of_lt (Nat.lt_of_lt_of_le A1.lt hd_2)) (ninS (Nat.ne_of_lt (Nat.lt_of_lt_of_le A1.lt hp_2)) (ninS (Nat.ne_of_lt (Nat.lt_of_lt_of_le (A1.keep Kq2).lt (Nat.le_of_eq g3.symm))) nin0))))) ((((((((f2_1.ext E3).other W5 (Or.inl (Nat.ne_of_lt (Nat.lt_of_lt_of_le (A1.keep Kq2).lt (Nat.le_of_eq g3.symm))))).other W7 (Or.inl (Nat.ne_of_lt (Nat.lt_of_lt_of_le (A1.keep Kq2).lt (Nat.le_of_eq g3.symm))))).other W9 (Or.inl (Nat.ne_of_lt (Nat.lt_of_lt_of_le (A1.keep Kq2).lt (Nat.le_of_eq g3.symm))))).other W11 (Or.inl (Nat.ne_of_lt (Nat.lt_of_lt_of_le (A1.keep Kq2).lt (Nat.le_of_eq g3.symm))))).other W13 (Or.inl (Nat.ne_of_lt (Nat.lt_of_lt_of_le (A1.keep Kq2).lt (Nat.le_of_eq g3.symm))))).other W15 (Or.inl (Nat.ne_of_lt (Nat.lt_of_lt_of_le (A1.keep Kq2).lt (Nat.le_of_eq g3.symm))))).keep Kq16 (ninS (Nat.ne_of_lt (Nat.lt_of_lt_of_le A1.lt hg_2)) (ninS (Nat.ne_of_lt (Nat.lt_of_lt_of_le A1.lt hd_2)) (ninS (Nat.ne_of_lt (Nat.lt_of_lt_of_le A1.lt hp_2)) (ninS (Nat.ne_of_lt (Nat.lt_of_lt_of_le (A1.keep Kq2).lt (Nat.le_of_eq g3.symm))) nin0))))) ((((((((f2_2.ext E3).other W5 (Or.inl (Nat.ne_of_lt (Nat.lt_of_lt_of_le (A1.keep Kq2).lt (Nat.le_of_eq g3.symm))))).other W7 (Or.inl (Nat.ne_of_lt (Nat.lt_of_lt_of_le (A1.keep Kq2).lt (Nat.le_of_eq g3.symm))))).other W9 (Or.inl (Nat.ne_of_lt (Nat.lt_of_lt_of_le (A1.keep Kq2).lt (Nat.le_of_eq g3.symm))))).other W11 (Or.inl (Nat.ne_of_lt (Nat.lt_of_lt_of_le (A1.keep Kq2).lt (Nat.le_of_eq g3.symm))))).other W13 (Or.inl (Nat.ne_of_lt (Nat.lt_of_lt_of_le (A1.keep Kq2).lt (Nat.le_of_eq g3.symm))))).other W15 (Or.inl (Nat.ne_of_lt (Nat.lt_of_lt_of_le (A1.keep Kq2).lt (Nat.le_of_eq g3.symm))))).keep Kq16 (ninS (Nat.ne_of_lt (Nat.lt_of_lt_of_le A1.lt hg_2)) (ninS (Nat.ne_of_lt (Nat.lt_of_lt_of_le A1.lt hd_2)) (ninS (Nat.ne_of_lt (Nat.lt_of_lt_of_le A1.lt hp_2)) (ninS (Nat.ne_of_lt (Nat.lt_of_lt_of_le (A1.keep Kq2).lt (Nat.le_of_eq g3.symm))) nin0))))) f16_0 f16_1 f16_2 nA_2 nB_2 nC_2 g_g1_2 g_d1_2 g_p1_2 f16_3 (Ne.symm (Nat.ne_of_lt (Nat.lt_of_lt_of_le (Nat.lt_of_lt_of_le f2_3.lt (Nat.le_refl _)) (Nat.le_of_eq g3.symm)))) (Ne.symm (Nat.ne_of_lt (Nat.lt_of_lt_of_le (Nat.lt_of_lt_of_le f2_4.lt (Nat.le_refl _)) (Nat.le_of_eq g3.symm)))) (Ne.symm (Nat.ne_of_lt (Nat.lt_of_lt_of_le (Nat.lt_of_lt_of_le f2_5.lt (Nat.le_refl _)) (Nat.le_of_eq g3.symm)))) g_bR qI_16 qP_16 qS_16 qO_16) hZ (oW hw 25 rfl) (oW hw 24 rfl) (by decide) (by decide)) (g := (mkF m 62 #[iv i0, iv i1, iv i2, iv i3, iv i4, rv bS, rv bR, iv (1 : Int32), uu, uu, uu, uu, uu, uu, uu] [(.int i1), (.ref bR), (.ref bS)])) rfl (by rw [hml]; rfl) (argsL := [(.ref bS), (.ref bR), (.int i1)]) (rest := []) (lenOf own_pd8 rfl) rfl (by show 2 * 0 + _ ≤ _; exact Nat.le_of_eq rfl) (hb hby at_62) (fun _ _ => ⟨rfl, rfl, (by decide : ((((0 + 1) + 3) + 1) + 0) + 0 ≤ _), (by decide : ((((0 + 3) + 18) + 6) + 0) + 0 ≤ _)⟩)
  dsimp only [Pt.U, Pt.locs, Pt.cells, Pt.slots] at X17 l17 y17 z17 st17 hQ17
  subst l17 y17 z17
  obtain ⟨tq_17, fA_17, fB_17, fC_17, fD_17, fE_17, fF_17, PQ_17, rfl, Nq17, Kq17, qI_17, qP_17, qS_17, qO_17, f17_0, f17_1, f17_2, f17_3⟩ := hQ17
  have N17 := Fr.app N16 Nq17
  refine ov (B := T17.setTop (mkF m 65 #[iv i0, iv i1, iv i2, iv i3, iv i4, rv bS, rv bR, iv (1 : Int32), uu, uu, uu, uu, uu, uu, uu] [(.int (1 : Int32))])) (fun t k => st17 t k) ?_
  refine ov (B := T17.setTop (mkF m 67 #[iv i0, iv i1, iv i2, iv i3, iv i4, rv bS, rv bR, iv (1 : Int32), iv (1 : Int32), uu, uu, uu, uu, uu, uu] [])) (fun t k => XS.istore X17.here hx rfl (hb hby at_65) rfl (l' := #[iv i0, iv i1, iv i2, iv i3, iv i4, rv bS, rv bR, iv (1 : Int32), iv (1 : Int32), uu, uu, uu, uu, uu, uu]) rfl k) ?_
  refine oAL (n := 69) X17 hx (hb hby at_67) rfl rfl rfl ?_
  refine oAL (n := 71) X17 hx (hb hby at_69) rfl rfl rfl ?_
  refine oILN (n := 72) X17 hx (hb hby at_71) rfl rfl ?_
  obtain ⟨_, _, ⟨T18, L18, k18, n18⟩, -, X18, ⟨Lc18, hQ18, l18, y18, z18⟩, st18⟩ := Jvm.LawKit.callS X17 hx (y := (⟨"com/example/meerkat/meerkat/simulate/CompletionsSetPinLaw", "step", "(Lcom/example/meerkat/meerkat/simulate/Completions;[II)Z"⟩ : MethodName)) hown (mvT hZ (oW hw 22 rfl)) (mvT hZ (oW hw 23 rfl)) (mvT hZ (oW hw 24 rfl)) (mvT hZ (oW hw 25 rfl)) (by decide) (backOf (W := 0) (rmP l Z a0 hw [] bS bR i2 g1_2 d1_2 p1_2 kt_2 kh_2 kp_2 tq_17 PQ_17 fA_17 fB_17 fC_17 fD_17 fE_17 fF_17 kc3 T17.heap n0 (Nat.le_trans (Nat.le_trans (Nat.le_trans (Nat.le_trans (Nat.le_trans (Nat.le_trans (Nat.le_trans (Nat.le_trans (Nat.le_trans (Nat.le_trans (Nat.le_trans Z0 E1.1) Kq2.1) E3.1) (Keep.of_wr W5).1) (Keep.of_wr W7).1) (Keep.of_wr W9).1) (Keep.of_wr W11).1) (Keep.of_wr W13).1) (Keep.of_wr W15).1) Kq16.1) Kq17.1) ((((((((((A1.keep Kq2).ext E3).wr W5).wr W7).wr W9).wr W11).wr W13).wr W15).keep Kq16).keep Kq17) (((((((((f2_0.ext E3).other W5 (Or.inl (Nat.ne_of_lt (Nat.lt_of_lt_of_le (A1.keep Kq2).lt (Nat.le_of_eq g3.symm))))).other W7 (Or.inl (Nat.ne_of_lt (Nat.lt_of_lt_of_le (A1.keep Kq2).lt (Nat.le_of_eq g3.symm))))).other W9 (Or.inl (Nat.ne_of_lt (Nat.lt_of_lt_of_le (A1.keep Kq2).lt (Nat.le_of_eq g3.symm))))).other W11 (Or.inl (Nat.ne_of_lt (Nat.lt_of_lt_of_le (A1.keep Kq2).lt (Nat.le_of_eq g3.symm))))).other W13 (Or.inl (Nat.ne_of_lt (Nat.lt_of_lt_of_le (A1.keep Kq2).lt (Nat.le_of_eq g3.symm))))).other W15 (Or.inl (Nat.ne_of_lt (Nat.lt_of_lt_of_le (A1.keep Kq2).lt (Nat.le_of_eq g3.symm))))).keep Kq16 (ninS (Nat.ne_of_lt (Nat.lt_of_lt_of_le A1.lt hg_2)) (ninS (Nat.ne_of_lt (Nat.lt_of_lt_of_le A1.lt hd_2)) (ninS (Nat.ne_of_lt (Nat.lt_of_lt_of_le A1.lt hp_2)) (ninS (Nat.ne_of_lt (Nat.lt_of_lt_of_le (A1.keep Kq2).lt (Nat.le_of_eq g3.symm))) nin0))))).keep Kq17 (ninS (Nat.ne_of_lt (Nat.lt_of_lt_of_le A1.lt hg_2)) (ninS (Nat.ne_of_lt (Nat.lt_of_lt_of_le A1.lt hd_2)) (ninS (Nat.ne_of_lt (Nat.lt_of_lt_of_le A1.lt hp_2)) (ninS (Nat.ne_of_lt (Nat.lt_of_lt_of_le (A1.keep Kq2).lt (Nat.le_of_eq g3.symm))) nin0))))) (((((((((f2_1.ext E3).other W5 (Or.inl (Nat.ne_of_lt (Nat.lt_of_lt_of_le (A1.keep Kq2).lt (Nat.le_of_eq g3.symm))))).other W7 (Or.inl (Nat.ne_of_lt (Nat.lt_of_lt_of_le (A1.keep Kq2).lt (Nat.le_of_eq g3.symm))))).other W9 (Or.inl (Nat.ne_of_lt (Nat.lt_of_lt_of_le (A1.keep Kq2).lt (Nat.le_of_eq g3.symm))))).other W11 (Or.inl (Nat.ne_of_lt (Nat.lt_of_lt_of_le (A1.keep Kq2).lt (Nat.le_of_eq g3.symm))))).other W13 (Or.inl (Nat.ne_of_lt (Nat.lt_of_lt_of_le (A1.keep Kq2).lt (Nat.le_of_eq g3.symm))))).other W15 (Or.inl (Nat.ne_of_lt (Nat.lt_of_lt_of_le (A1.keep Kq2).lt (Nat.le_of_eq g3.symm))))).keep Kq16 (ninS (Nat.ne_of_lt (Nat.lt_of_lt_of_le A1.lt hg_2)) (ninS (Nat.ne_of_lt (Nat.lt_of_lt_of_le A1.lt hd_2)) (ninS (Nat.ne_of_lt (Nat.lt_of_lt_of_le A1.lt hp_2)) (ninS (Nat.ne_of_lt (Nat.lt_of_lt_of_le (A1.keep Kq2).lt (Nat.le_of_eq g3.symm))) nin0))))).keep Kq17 (ninS (Nat.ne_of_lt (Nat.lt_of_lt_of_le A1.lt hg_2)) (ninS (Nat.ne_of_lt (Nat.lt_of_lt_of_le A1.lt hd_2)) (ninS (Nat.ne_of_lt (Nat.lt_of_lt_of_le A1.lt hp_2)) (ninS (Nat.ne_of_lt (Nat.lt_of_lt_of_le (A1.keep Kq2).lt (Nat.le_of_eq g3.symm))) nin0))))) (((((((((f2_2.ext E3).other W5 (Or.inl (Nat.ne_of_lt (Nat.lt_of_lt_of_le (A1.keep Kq2).lt (Nat.le_of_eq g3.symm))))).other W7 (Or.inl (Nat.ne_of_lt (Nat.lt_of_lt_of_le (A1.keep Kq2).lt (Nat.le_of_eq g3.symm))))).other W9 (Or.inl (Nat.ne_of_lt (Nat.lt_of_lt_of_le (A1.keep Kq2).lt (Nat.le_of_eq g3.symm))))).other W11 (Or.inl (Nat.ne_of_lt (Nat.lt_of_lt_of_le (A1.keep Kq2).lt (Nat.le_of_eq g3.symm))))).other W13 (Or.inl (Nat.ne_of_lt (Nat.lt_of_lt_of_le (A1.keep Kq2).lt (Nat.le_of_eq g3.symm))))).other W15 (Or.inl (Nat.ne_of_lt (Nat.lt_of_lt_of_le (A1.keep Kq2).lt (Nat.le_of_eq g3.symm))))).keep Kq16 (ninS (Nat.ne_of_lt (Nat.lt_of_lt_of_le A1.lt hg_2)) (ninS (Nat.ne_of_lt (Nat.lt_of_lt_of_le A1.lt hd_2)) (ninS (Nat.ne_of_lt (Nat.lt_of_lt_of_le A1.lt hp_2)) (ninS (Nat.ne_of_lt (Nat.lt_of_lt_of_le (A1.keep Kq2).lt (Nat.le_of_eq g3.symm))) nin0))))).keep Kq17 (ninS (Nat.ne_of_lt (Nat.lt_of_lt_of_le A1.lt hg_2)) (ninS (Nat.ne_of_lt (Nat.lt_of_lt_of_le A1.lt hd_2)) (ninS (Nat.ne_of_lt (Nat.lt_of_lt_of_le A1.lt hp_2)) (ninS (Nat.ne_of_lt (Nat.lt_of_lt_of_le (A1.keep Kq2).lt (Nat.le_of_eq g3.symm))) nin0))))) f17_0 f17_1 f17_2 nA_2 nB_2 nC_2 g_g1_2 g_d1_2 g_p1_2 f17_3 (Ne.symm (Nat.ne_of_lt (Nat.lt_of_lt_of_le (Nat.lt_of_lt_of_le f2_3.lt (Nat.le_refl _)) (Nat.le_of_eq g3.symm)))) (Ne.symm (Nat.ne_of_lt (Nat.lt_of_lt_of_le (Nat.lt_of_lt_of_le f2_4.lt (Nat.le_refl _)) (Nat.le_of_eq g3.symm)))) (Ne.symm (Nat.ne_of_lt (Nat.lt_of_lt_of_le (Nat.lt_of_lt_of_le f2_5.lt (Nat.le_refl _)) (Nat.le_of_eq g3.symm)))) g_bR qI_17 qP_17 qS_17 qO_17) hZ (oW hw 25 rfl) (oW hw 24 rfl) (by decide) (by decide)) (g := (mkF m 72 #[iv i0, iv i1, iv i2, iv i3, iv i4, rv bS, rv bR, iv (1 : Int32), iv (1 : Int32), uu, uu, uu, uu, uu, uu] [(.int i2), (.ref bR), (.ref bS)])) rfl (by rw [hml]; rfl) (argsL := [(.ref bS), (.ref bR), (.int i2)]) (rest := []) (lenOf own_pd8 rfl) rfl (by show 2 * 0 + _ ≤ _; exact Nat.le_of_eq rfl) (hb hby at_72) (fun _ _ => ⟨rfl, rfl, (by decide : (((((0 + 1) + 3) + 1) + 0) + 0) + 0 ≤ _), (by decide : (((((0 + 3) + 18) + 6) + 0) + 0) + 0 ≤ _)⟩)
  dsimp only [Pt.U, Pt.locs, Pt.cells, Pt.slots] at X18 l18 y18 z18 st18 hQ18
  subst l18 y18 z18
  obtain ⟨tq_18, fA_18, fB_18, fC_18, fD_18, fE_18, fF_18, PQ_18, rfl, Nq18, Kq18, qI_18, qP_18, qS_18, qO_18, f18_0, f18_1, f18_2, f18_3⟩ := hQ18
  have N18 := Fr.app N17 Nq18
  refine ov (B := T18.setTop (mkF m 75 #[iv i0, iv i1, iv i2, iv i3, iv i4, rv bS, rv bR, iv (1 : Int32), iv (1 : Int32), uu, uu, uu, uu, uu, uu] [(.int (1 : Int32))])) (fun t k => st18 t k) ?_
  refine ov (B := T18.setTop (mkF m 77 #[iv i0, iv i1, iv i2, iv i3, iv i4, rv bS, rv bR, iv (1 : Int32), iv (1 : Int32), iv (1 : Int32), uu, uu, uu, uu, uu] [])) (fun t k => XS.istore X18.here hx rfl (hb hby at_75) rfl (l' := #[iv i0, iv i1, iv i2, iv i3, iv i4, rv bS, rv bR, iv (1 : Int32), iv (1 : Int32), iv (1 : Int32), uu, uu, uu, uu, uu]) rfl k) ?_
  refine oAL (n := 79) X18 hx (hb hby at_77) rfl rfl rfl ?_
  refine oAL (n := 81) X18 hx (hb hby at_79) rfl rfl rfl ?_
  refine oILN (n := 82) X18 hx (hb hby at_81) rfl rfl ?_
  obtain ⟨_, _, ⟨T19, L19, k19, n19⟩, -, X19, ⟨Lc19, hQ19, l19, y19, z19⟩, st19⟩ := Jvm.LawKit.callS X18 hx (y := (⟨"com/example/meerkat/meerkat/simulate/CompletionsSetPinLaw", "step", "(Lcom/example/meerkat/meerkat/simulate/Completions;[II)Z"⟩ : MethodName)) hown (mvT hZ (oW hw 22 rfl)) (mvT hZ (oW hw 23 rfl)) (mvT hZ (oW hw 24 rfl)) (mvT hZ (oW hw 25 rfl)) (by decide) (backOf (W := 0) (rmP l Z a0 hw [] bS bR i3 g1_2 d1_2 p1_2 kt_2 kh_2 kp_2 tq_18 PQ_18 fA_18 fB_18 fC_18 fD_18 fE_18 fF_18 kc3 T18.heap n0 (Nat.le_trans (Nat.le_trans (Nat.le_trans (Nat.le_trans (Nat.le_trans (Nat.le_trans (Nat.le_trans (Nat.le_trans (Nat.le_trans (Nat.le_trans (Nat.le_trans (Nat.le_trans Z0 E1.1) Kq2.1) E3.1) (Keep.of_wr W5).1) (Keep.of_wr W7).1) (Keep.of_wr W9).1) (Keep.of_wr W11).1) (Keep.of_wr W13).1) (Keep.of_wr W15).1) Kq16.1) Kq17.1) Kq18.1) (((((((((((A1.keep Kq2).ext E3).wr W5).wr W7).wr W9).wr W11).wr W13).wr W15).keep Kq16).keep Kq17).keep Kq18) ((((((((((f2_0.ext E3).other W5 (Or.inl (Nat.ne_of_lt (Nat.lt_of_lt_of_le (A1.keep Kq2).lt (Nat.le_of_eq g3.symm))))).other W7 (Or.inl (Nat.ne_of_lt (Nat.lt_of_lt_of_le (A1.keep Kq2).lt (Nat.le_of_eq g3.symm))))).other W9 (Or.inl (Nat.ne_of_lt (Nat.lt_of_lt_of_le (A1.keep Kq2).lt (Nat.le_of_eq g3.symm))))).other W11 (Or.inl (Nat.ne_of_lt (Nat.lt_of_lt_of_le (A1.keep Kq2).lt (Nat.le_of_eq g3.symm))))).other W13 (Or.inl (Nat.ne_of_lt (Nat.lt_of_lt_of_le (A1.keep Kq2).lt (Nat.le_of_eq g3.symm))))).other W15 (Or.inl (Nat.ne_of_lt (Nat.lt_of_lt_of_le (A1.keep Kq2).lt (Nat.le_of_eq g3.symm))))).keep Kq16 (ninS (Nat.ne_of_lt (Nat.lt_of_lt_of_le A1.lt hg_2)) (ninS (Nat.ne_of_lt (Nat.lt_of_lt_of_le A1.lt hd_2)) (ninS (Nat.ne_of_lt (Nat.lt_of_lt_of_le A1.lt hp_2)) (ninS (Nat.ne_of_lt (Nat.lt_of_lt_of_le (A1.keep Kq2).lt (Nat.le_of_eq g3.symm))) nin0))))).keep Kq17 (ninS (Nat.ne_of_lt (Nat.lt_of_lt_of_le A1.lt hg_2)) (ninS (Nat.ne_of_lt (Nat.lt_of_lt_of_le A1.lt hd_2)) (ninS (Nat.ne_of_lt (Nat.lt_of_lt_of_le A1.lt hp_2)) (ninS (Nat.ne_of_lt (Nat.lt_of_lt_of_le (A1.keep Kq2).lt (Nat.le_of_eq g3.symm))) nin0))))).keep Kq18 (ninS (Nat.ne_of_lt (Nat.lt_of_lt_of_le A1.lt hg_2)) (ninS (Nat.ne_of_lt (Nat.lt_of_lt_of_le A1.lt hd_2)) (ninS (Nat.ne_of_lt (Nat.lt_of_lt_of_le A1.lt hp_2)) (ninS (Nat.ne_of_lt (Nat.lt_of_lt_of_le (A1.keep Kq2).lt (Nat.le_of_eq g3.symm))) nin0))))) ((((((((((f2_1.ext E3).other W5 (Or.inl (Nat.ne_of_lt (Nat.lt_of_lt_of_le (A1.keep Kq2).lt (Nat.le_of_eq g3.symm))))).other W7 (Or.inl (Nat.ne_of_lt (Nat.lt_of_lt_of_le (A1.keep Kq2).lt (Nat.le_of_eq g3.symm))))).other W9 (Or.inl (Nat.ne_of_lt (Nat.lt_of_lt_of_le (A1.keep Kq2).lt (Nat.le_of_eq g3.symm))))).other W11 (Or.inl (Nat.ne_of_lt (Nat.lt_of_lt_of_le (A1.keep Kq2).lt (Nat.le_of_eq g3.symm))))).other W13 (Or.inl (Nat.ne_of_lt (Nat.lt_of_lt_of_le (A1.keep Kq2).lt (Nat.le_of_eq g3.symm))))).other W15 (Or.inl (Nat.ne_of_lt (Nat.lt_of_lt_of_le (A1.keep Kq2).lt (Nat.le_of_eq g3.symm))))).keep Kq16 (ninS (Nat.ne_of_lt (Nat.lt_of_lt_of_le A1.lt hg_2)) (ninS (Nat.ne_of_lt (Nat.lt_of_lt_of_le A1.lt hd_2)) (ninS (Nat.ne_of_lt (Nat.lt_of_lt_of_le A1.lt hp_2)) (ninS (Nat.ne_of_lt (Nat.lt_of_lt_of_le (A1.keep Kq2).lt (Nat.le_of_eq g3.symm))) nin0))))).keep Kq17 (ninS (Nat.ne_of_lt (Nat.lt_of_lt_of_le A1.lt hg_2)) (ninS (Nat.ne_of_lt (Nat.lt_of_lt_of_le A1.lt hd_2)) (ninS (Nat.ne_of_lt (Nat.lt_of_lt_of_le A1.lt hp_2)) (ninS (Nat.ne_of_lt (Nat.lt_of_lt_of_le (A1.keep Kq2).lt (Nat.le_of_eq g3.symm))) nin0))))).keep Kq18 (ninS (Nat.ne_of_lt (Nat.lt_of_lt_of_le A1.lt hg_2)) (ninS (Nat.ne_of_lt (Nat.lt_of_lt_of_le A1.lt hd_2)) (ninS (Nat.ne_of_lt (Nat.lt_of_lt_of_le A1.lt hp_2)) (ninS (Nat.ne_of_lt (Nat.lt_of_lt_of_le (A1.keep Kq2).lt (Nat.le_of_eq g3.symm))) nin0))))) ((((((((((f2_2.ext E3).other W5 (Or.inl (Nat.ne_of_lt (Nat.lt_of_lt_of_le (A1.keep Kq2).lt (Nat.le_of_eq g3.symm))))).other W7 (Or.inl (Nat.ne_of_lt (Nat.lt_of_lt_of_le (A1.keep Kq2).lt (Nat.le_of_eq g3.symm))))).other W9 (Or.inl (Nat.ne_of_lt (Nat.lt_of_lt_of_le (A1.keep Kq2).lt (Nat.le_of_eq g3.symm))))).other W11 (Or.inl (Nat.ne_of_lt (Nat.lt_of_lt_of_le (A1.keep Kq2).lt (Nat.le_of_eq g3.symm))))).other W13 (Or.inl (Nat.ne_of_lt (Nat.lt_of_lt_of_le (A1.keep Kq2).lt (Nat.le_of_eq g3.symm))))).other W15 (Or.inl (Nat.ne_of_lt (Nat.lt_of_lt_of_le (A1.keep Kq2).lt (Nat.le_of_eq g3.symm))))).keep Kq16 (ninS (Nat.ne_of_lt (Nat.lt_of_lt_of_le A1.lt hg_2)) (ninS (Nat.ne_of_lt (Nat.lt_of_lt_of_le A1.lt hd_2)) (ninS (Nat.ne_of_lt (Nat.lt_of_lt_of_le A1.lt hp_2)) (ninS (Nat.ne_of_lt (Nat.lt_of_lt_of_le (A1.keep Kq2).lt (Nat.le_of_eq g3.symm))) nin0))))).keep Kq17 (ninS (Nat.ne_of_lt (Nat.lt_of_lt_of_le A1.lt hg_2)) (ninS (Nat.ne_of_lt (Nat.lt_of_lt_of_le A1.lt hd_2)) (ninS (Nat.ne_of_lt (Nat.lt_of_lt_of_le A1.lt hp_2)) (ninS (Nat.ne_of_lt (Nat.lt_of_lt_of_le (A1.keep Kq2).lt (Nat.le_of_eq g3.symm))) nin0))))).keep Kq18 (ninS (Nat.ne_of_lt (Nat.lt_of_lt_of_le A1.lt hg_2)) (ninS (Nat.ne_of_lt (Nat.lt_of_lt_of_le A1.lt hd_2)) (ninS (Nat.ne_of_lt (Nat.lt_of_lt_of_le A1.lt hp_2)) (ninS (Nat.ne_of_lt (Nat.lt_of_lt_of_le (A1.keep Kq2).lt (Nat.le_of_eq g3.symm))) nin0))))) f18_0 f18_1 f18_2 nA_2 nB_2 nC_2 g_g1_2 g_d1_2 g_p1_2 f18_3 (Ne.symm (Nat.ne_of_lt (Nat.lt_of_lt_of_le (Nat.lt_of_lt_of_le f2_3.lt (Nat.le_refl _)) (Nat.le_of_eq g3.symm)))) (Ne.symm (Nat.ne_of_lt (Nat.lt_of_lt_of_le (Nat.lt_of_lt_of_le f2_4.lt (Nat.le_refl _)) (Nat.le_of_eq g3.symm)))) (Ne.symm (Nat.ne_of_lt (Nat.lt_of_lt_of_le (Nat.lt_of_lt_of_le f2_5.lt (Nat.le_refl _)) (Nat.le_of_eq g3.symm)))) g_bR qI_18 qP_18 qS_18 qO_18) hZ (oW hw 25 rfl) (oW hw 24 rfl) (by decide) (by decide)) (g := (mkF m 82 #[iv i0, iv i1, iv i2, iv i3, iv i4, rv bS, rv bR, iv (1 : Int32), iv (1 : Int32), iv (1 : Int32), uu, uu, uu, uu, uu] [(.int i3), (.ref bR), (.ref bS)])) rfl (by rw [hml]; rfl) (argsL := [(.ref bS), (.ref bR), (.int i3)]) (rest := []) (lenOf own_pd8 rfl) rfl (by show 2 * 0 + _ ≤ _; exact Nat.le_of_eq rfl) (hb hby at_82) (fun _ _ => ⟨rfl, rfl, (by decide : ((((((0 + 1) + 3) + 1) + 0) + 0) + 0) + 0 ≤ _), (by decide : ((((((0 + 3) + 18) + 6) + 0) + 0) + 0) + 0 ≤ _)⟩)
  dsimp only [Pt.U, Pt.locs, Pt.cells, Pt.slots] at X19 l19 y19 z19 st19 hQ19
  subst l19 y19 z19
  obtain ⟨tq_19, fA_19, fB_19, fC_19, fD_19, fE_19, fF_19, PQ_19, rfl, Nq19, Kq19, qI_19, qP_19, qS_19, qO_19, f19_0, f19_1, f19_2, f19_3⟩ := hQ19
  have N19 := Fr.app N18 Nq19
  refine ov (B := T19.setTop (mkF m 85 #[iv i0, iv i1, iv i2, iv i3, iv i4, rv bS, rv bR, iv (1 : Int32), iv (1 : Int32), iv (1 : Int32), uu, uu, uu, uu, uu] [(.int (1 : Int32))])) (fun t k => st19 t k) ?_
  refine ov (B := T19.setTop (mkF m 87 #[iv i0, iv i1, iv i2, iv i3, iv i4, rv bS, rv bR, iv (1 : Int32), iv (1 : Int32), iv (1 : Int32), iv (1 : Int32), uu, uu, uu, uu] [])) (fun t k => XS.istore X19.here hx rfl (hb hby at_85) rfl (l' := #[iv i0, iv i1, iv i2, iv i3, iv i4, rv bS, rv bR, iv (1 : Int32), iv (1 : Int32), iv (1 : Int32), iv (1 : Int32), uu, uu, uu, uu]) rfl k) ?_
  refine oIL (n := 89) X19 hx (hb hby at_87) rfl rfl ?_
  refine ov (B := T19.setTop (mkF m 91 #[iv i0, iv i1, iv i2, iv i3, iv i4, rv bS, rv bR, iv (1 : Int32), iv (1 : Int32), iv (1 : Int32), iv (1 : Int32), uu, uu, uu, uu] [(.int (65535 : Int32)), (.int i4)])) (fun t k => X19.ldcInt hx hown (mvT hZ (oW hw 26 rfl)) (g := (mkF m 89 #[iv i0, iv i1, iv i2, iv i3, iv i4, rv bS, rv bR, iv (1 : Int32), iv (1 : Int32), iv (1 : Int32), iv (1 : Int32), uu, uu, uu, uu] [(.int i4)])) rfl (hb hby at_89) _ k) ?_
  refine ov (B := T19.setTop (mkF m 92 #[iv i0, iv i1, iv i2, iv i3, iv i4, rv bS, rv bR, iv (1 : Int32), iv (1 : Int32), iv (1 : Int32), iv (1 : Int32), uu, uu, uu, uu] [(.int (i4 &&& (65535 : Int32)))])) (fun t k => XS.iand X19.here hx rfl (hb hby at_91) rfl k) ?_
  refine oBP (n := 94) X19 hx (6 : Int32) (hb hby at_92) (by decide) rfl ?_
  refine ov (B := T19.setTop (mkF m 95 #[iv i0, iv i1, iv i2, iv i3, iv i4, rv bS, rv bR, iv (1 : Int32), iv (1 : Int32), iv (1 : Int32), iv (1 : Int32), uu, uu, uu, uu] [(.int ((i4 &&& (65535 : Int32)) % (6 : Int32)))])) (fun t k => iremM X19 hx rfl (hb hby at_94) rfl (by decide) k) ?_
  refine ov (B := T19.setTop (mkF m 97 #[iv i0, iv i1, iv i2, iv i3, iv i4, rv bS, rv bR, iv (1 : Int32), iv (1 : Int32), iv (1 : Int32), iv (1 : Int32), iv ((i4 &&& (65535 : Int32)) % (6 : Int32)), uu, uu, uu] [])) (fun t k => XS.istore X19.here hx rfl (hb hby at_95) rfl (l' := #[iv i0, iv i1, iv i2, iv i3, iv i4, rv bS, rv bR, iv (1 : Int32), iv (1 : Int32), iv (1 : Int32), iv (1 : Int32), iv ((i4 &&& (65535 : Int32)) % (6 : Int32)), uu, uu, uu]) rfl k) ?_
  generalize hs95 : ((i4 &&& (65535 : Int32)) % (6 : Int32)) = s95
  refine oAL (n := 99) X19 hx (hb hby at_97) rfl rfl rfl ?_
  refine oIL (n := 101) X19 hx (hb hby at_99) rfl rfl ?_
  obtain ⟨cq20, kq20, q20a, q20b, q20c⟩ := isOf hZ rfl ((((((((((((A1.keep Kq2).ext E3).wr W5).wr W7).wr W9).wr W11).wr W13).wr W15).keep Kq16).keep Kq17).keep Kq18).keep Kq19)
  obtain ⟨_, _, ⟨T20, L20, k20, n20⟩, -, X20, ⟨Lc20, hQ20, l20, y20, z20⟩, st20⟩ := X19.virtualBack hx (y := (⟨"com/example/meerkat/meerkat/simulate/Completions", "time", "(I)D"⟩ : MethodName)) (z := (⟨"com/example/meerkat/meerkat/simulate/Completions", "time", "(I)D"⟩ : MethodName)) hown (mvT hZ (oW hw 48 rfl)) (mvT hZ (oW hw 49 rfl)) (notFace_of_selects (args := #[]) (mvT hZ (oW hw 51 rfl))) (mvT hZ (oW hw 51 rfl)) (mvT hZ (oW hw 50 rfl)) (by decide) (backOf (W := 0) (rmD l Z a0 hw [] bS s95 g1_2 kt_2 tq_19 T19.heap n0 (Nat.le_trans (Nat.le_trans (Nat.le_trans (Nat.le_trans (Nat.le_trans (Nat.le_trans (Nat.le_trans (Nat.le_trans (Nat.le_trans (Nat.le_trans (Nat.le_trans (Nat.le_trans (Nat.le_trans Z0 E1.1) Kq2.1) E3.1) (Keep.of_wr W5).1) (Keep.of_wr W7).1) (Keep.of_wr W9).1) (Keep.of_wr W11).1) (Keep.of_wr W13).1) (Keep.of_wr W15).1) Kq16.1) Kq17.1) Kq18.1) Kq19.1) (((((((((((f2_0.ext E3).other W5 (Or.inl (Nat.ne_of_lt (Nat.lt_of_lt_of_le (A1.keep Kq2).lt (Nat.le_of_eq g3.symm))))).other W7 (Or.inl (Nat.ne_of_lt (Nat.lt_of_lt_of_le (A1.keep Kq2).lt (Nat.le_of_eq g3.symm))))).other W9 (Or.inl (Nat.ne_of_lt (Nat.lt_of_lt_of_le (A1.keep Kq2).lt (Nat.le_of_eq g3.symm))))).other W11 (Or.inl (Nat.ne_of_lt (Nat.lt_of_lt_of_le (A1.keep Kq2).lt (Nat.le_of_eq g3.symm))))).other W13 (Or.inl (Nat.ne_of_lt (Nat.lt_of_lt_of_le (A1.keep Kq2).lt (Nat.le_of_eq g3.symm))))).other W15 (Or.inl (Nat.ne_of_lt (Nat.lt_of_lt_of_le (A1.keep Kq2).lt (Nat.le_of_eq g3.symm))))).keep Kq16 (ninS (Nat.ne_of_lt (Nat.lt_of_lt_of_le A1.lt hg_2)) (ninS (Nat.ne_of_lt (Nat.lt_of_lt_of_le A1.lt hd_2)) (ninS (Nat.ne_of_lt (Nat.lt_of_lt_of_le A1.lt hp_2)) (ninS (Nat.ne_of_lt (Nat.lt_of_lt_of_le (A1.keep Kq2).lt (Nat.le_of_eq g3.symm))) nin0))))).keep Kq17 (ninS (Nat.ne_of_lt (Nat.lt_of_lt_of_le A1.lt hg_2)) (ninS (Nat.ne_of_lt (Nat.lt_of_lt_of_le A1.lt hd_2)) (ninS (Nat.ne_of_lt (Nat.lt_of_lt_of_le A1.lt hp_2)) (ninS (Nat.ne_of_lt (Nat.lt_of_lt_of_le (A1.keep Kq2).lt (Nat.le_of_eq g3.symm))) nin0))))).keep Kq18 (ninS (Nat.ne_of_lt (Nat.lt_of_lt_of_le A1.lt hg_2)) (ninS (Nat.ne_of_lt (Nat.lt_of_lt_of_le A1.lt hd_2)) (ninS (Nat.ne_of_lt (Nat.lt_of_lt_of_le A1.lt hp_2)) (ninS (Nat.ne_of_lt (Nat.lt_of_lt_of_le (A1.keep Kq2).lt (Nat.le_of_eq g3.symm))) nin0))))).keep Kq19 (ninS (Nat.ne_of_lt (Nat.lt_of_lt_of_le A1.lt hg_2)) (ninS (Nat.ne_of_lt (Nat.lt_of_lt_of_le A1.lt hd_2)) (ninS (Nat.ne_of_lt (Nat.lt_of_lt_of_le A1.lt hp_2)) (ninS (Nat.ne_of_lt (Nat.lt_of_lt_of_le (A1.keep Kq2).lt (Nat.le_of_eq g3.symm))) nin0))))) f19_0 (by rw [← hs95]; exact own_s6 i4)) hZ (oW hw 52 rfl) (oW hw 2 rfl) (by decide) (by decide)) q20a q20c (g := (mkF m 101 #[iv i0, iv i1, iv i2, iv i3, iv i4, rv bS, rv bR, iv (1 : Int32), iv (1 : Int32), iv (1 : Int32), iv (1 : Int32), iv s95, uu, uu, uu] [(.int s95), (.ref bS)])) rfl (by rw [hml]; rfl) (Steps.refl _) (argsL := [(.int s95)]) (rest := []) (lenOf own_pd9 rfl) rfl (by show 2 * 0 + _ ≤ _; exact Nat.le_of_eq rfl) (hb hby at_101) (fun _ _ => ⟨rfl, rfl, (by decide : (((((((0 + 1) + 3) + 1) + 0) + 0) + 0) + 0) + 0 ≤ _), (by decide : (((((((0 + 3) + 18) + 6) + 0) + 0) + 0) + 0) + 0 ≤ _)⟩)
  dsimp only [Pt.U, Pt.locs, Pt.cells, Pt.slots] at X20 l20 y20 z20 st20 hQ20
  subst l20 y20 z20
  obtain ⟨rfl, Nq20, eq20⟩ := hQ20
  have N20 := Fr.app N19 Nq20
  refine ov (B := T20.setTop (mkF m 104 #[iv i0, iv i1, iv i2, iv i3, iv i4, rv bS, rv bR, iv (1 : Int32), iv (1 : Int32), iv (1 : Int32), iv (1 : Int32), iv s95, uu, uu, uu] [(.double (own_tw (tq_19.getD s95.toNatClampNeg 0)))])) (fun t k => st20.trans k) ?_
  refine ov (B := T20.setTop (mkF m 106 #[iv i0, iv i1, iv i2, iv i3, iv i4, rv bS, rv bR, iv (1 : Int32), iv (1 : Int32), iv (1 : Int32), iv (1 : Int32), iv s95, .val (.double (own_tw (tq_19.getD s95.toNatClampNeg 0))), .second, uu] [])) (fun t k => XS.dstore X20.here hx rfl (hb hby at_104) rfl (l' := #[iv i0, iv i1, iv i2, iv i3, iv i4, rv bS, rv bR, iv (1 : Int32), iv (1 : Int32), iv (1 : Int32), iv (1 : Int32), iv s95, .val (.double (own_tw (tq_19.getD s95.toNatClampNeg 0))), .second, uu]) rfl k) ?_
  refine oAL (n := 108) X20 hx (hb hby at_106) rfl rfl rfl ?_
  refine oIL (n := 110) X20 hx (hb hby at_108) rfl rfl ?_
  obtain ⟨cl21, Ar21, q21, S21, M21, H21, G21⟩ := id f19_3
  have hin21 : ¬ (s95 < 0 ∨ cl21.slots.size ≤ (s95).toNatClampNeg) := inb_of S21 (own_Rb (by rw [← hs95]; exact own_s6 i4))
  refine ov (B := T20.setTop (mkF m 111 #[iv i0, iv i1, iv i2, iv i3, iv i4, rv bS, rv bR, iv (1 : Int32), iv (1 : Int32), iv (1 : Int32), iv (1 : Int32), iv s95, .val (.double (own_tw (tq_19.getD s95.toNatClampNeg 0))), .second, uu] [(.int (tq_19.getD s95.toNatClampNeg 0))])) (fun t k => X20.iaload hx (j := s95) (v := (.int (tq_19.getD s95.toNatClampNeg 0))) (by rw [eq20]; exact Ar21.1) (State.isArrayOf_alike hZ.alike Ar21.2.1) Ar21.2.2 hin21 (Has.at H21 hin21 (own_mgI _ _)) (g := (mkF m 110 #[iv i0, iv i1, iv i2, iv i3, iv i4, rv bS, rv bR, iv (1 : Int32), iv (1 : Int32), iv (1 : Int32), iv (1 : Int32), iv s95, .val (.double (own_tw (tq_19.getD s95.toNatClampNeg 0))), .second, uu] [(.int s95), (.ref bR)])) rfl rfl (hb hby at_110) _ k) ?_
  refine oBP (n := 113) X20 hx (7 : Int32) (hb hby at_111) (by decide) rfl ?_
  by_cases hc113 : (tq_19.getD s95.toNatClampNeg 0) = (7 : Int32)
  · refine ov (B := T20.setTop (mkF m 116 #[iv i0, iv i1, iv i2, iv i3, iv i4, rv bS, rv bR, iv (1 : Int32), iv (1 : Int32), iv (1 : Int32), iv (1 : Int32), iv s95, .val (.double (own_tw (tq_19.getD s95.toNatClampNeg 0))), .second, uu] [])) (fun t k => XS.icmpNo X20.here hx rfl (hb hby at_113) rfl (teq hc113).2 k) ?_
    refine ov (B := T20.setTop (mkF m 118 #[iv i0, iv i1, iv i2, iv i3, iv i4, rv bS, rv bR, iv (1 : Int32), iv (1 : Int32), iv (1 : Int32), iv (1 : Int32), iv s95, .val (.double (own_tw (tq_19.getD s95.toNatClampNeg 0))), .second, uu] [(.double (own_tw (tq_19.getD s95.toNatClampNeg 0)))])) (fun t k => XS.dload X20.here hx rfl (hb hby at_116) rfl k) ?_
    obtain ⟨_, _, ⟨T22, L22, k22, n22⟩, -, X22, ⟨Lc22, hQ22, l22, y22, z22⟩, st22⟩ := Jvm.LawKit.callS X20 hx (y := (⟨"com/example/meerkat/meerkat/simulate/CompletionsSetPinLaw", "inf", "()D"⟩ : MethodName)) hown (mvT hZ (oW hw 53 rfl)) (mvT hZ (oW hw 54 rfl)) (mvT hZ (oW hw 24 rfl)) (mvT hZ (oW hw 55 rfl)) (by decide) (backOf (W := 2) (rmF l Z a0 hw []  T19.heap n0 (Nat.le_trans (Nat.le_trans (Nat.le_trans (Nat.le_trans (Nat.le_trans (Nat.le_trans (Nat.le_trans (Nat.le_trans (Nat.le_trans (Nat.le_trans (Nat.le_trans (Nat.le_trans (Nat.le_trans Z0 E1.1) Kq2.1) E3.1) (Keep.of_wr W5).1) (Keep.of_wr W7).1) (Keep.of_wr W9).1) (Keep.of_wr W11).1) (Keep.of_wr W13).1) (Keep.of_wr W15).1) Kq16.1) Kq17.1) Kq18.1) Kq19.1) ) hZ (oW hw 55 rfl) (oW hw 24 rfl) (by decide) (by decide)) (g := (mkF m 118 #[iv i0, iv i1, iv i2, iv i3, iv i4, rv bS, rv bR, iv (1 : Int32), iv (1 : Int32), iv (1 : Int32), iv (1 : Int32), iv s95, .val (.double (own_tw (tq_19.getD s95.toNatClampNeg 0))), .second, uu] [(.double (own_tw (tq_19.getD s95.toNatClampNeg 0)))])) rfl (by rw [hml]; rfl) (argsL := []) (rest := [(.double (own_tw (tq_19.getD s95.toNatClampNeg 0)))]) (lenOf own_pd2 rfl) rfl (by show 2 * 0 + _ ≤ _; exact Nat.le_of_eq rfl) (hb hby at_118) (fun _ _ => ⟨rfl, eq20, (by decide : ((((((((0 + 1) + 3) + 1) + 0) + 0) + 0) + 0) + 0) + 0 ≤ _), (by decide : ((((((((0 + 3) + 18) + 6) + 0) + 0) + 0) + 0) + 0) + 0 ≤ _)⟩)
    dsimp only [Pt.U, Pt.locs, Pt.cells, Pt.slots] at X22 l22 y22 z22 st22 hQ22
    subst l22 y22 z22
    obtain ⟨rfl, Nq22, eq22⟩ := hQ22
    have N22 := Fr.app N20 Nq22
    refine ov (B := T22.setTop (mkF m 121 #[iv i0, iv i1, iv i2, iv i3, iv i4, rv bS, rv bR, iv (1 : Int32), iv (1 : Int32), iv (1 : Int32), iv (1 : Int32), iv s95, .val (.double (own_tw (tq_19.getD s95.toNatClampNeg 0))), .second, uu] [(.double (9218868437227405312 : UInt64)), (.double (own_tw (tq_19.getD s95.toNatClampNeg 0)))])) (fun t k => st22 t k) ?_
    refine ov (B := T22.setTop (mkF m 122 #[iv i0, iv i1, iv i2, iv i3, iv i4, rv bS, rv bR, iv (1 : Int32), iv (1 : Int32), iv (1 : Int32), iv (1 : Int32), iv s95, .val (.double (own_tw (tq_19.getD s95.toNatClampNeg 0))), .second, uu] [(.int (cmpValue (FP.dcmp (own_tw (tq_19.getD s95.toNatClampNeg 0)) (9218868437227405312 : UInt64)) .l))])) (fun t k => XS.dcmpS X22.here hx rfl (hb hby at_121) rfl rfl k) ?_
    have hc122 : (cmpValue (FP.dcmp (own_tw (tq_19.getD s95.toNatClampNeg 0)) (9218868437227405312 : UInt64)) .l) = (0 : Int32) := own_got7 hc113
    refine ov (B := T22.setTop (mkF m 125 #[iv i0, iv i1, iv i2, iv i3, iv i4, rv bS, rv bR, iv (1 : Int32), iv (1 : Int32), iv (1 : Int32), iv (1 : Int32), iv s95, .val (.double (own_tw (tq_19.getD s95.toNatClampNeg 0))), .second, uu] [])) (fun t k => XS.ifNo X22.here hx rfl (hb hby at_122) rfl ((if0 _ _).trans (teq hc122).2) k) ?_
    refine oIC (n := 126) X22 hx (1 : Int32) (hb hby at_125) (by decide) rfl ?_
    refine oGO (n := 150) X22 hx (hb hby at_126) (by decide) (by decide) ?_
    refine ov (B := T22.setTop (mkF m 152 #[iv i0, iv i1, iv i2, iv i3, iv i4, rv bS, rv bR, iv (1 : Int32), iv (1 : Int32), iv (1 : Int32), iv (1 : Int32), iv s95, .val (.double (own_tw (tq_19.getD s95.toNatClampNeg 0))), .second, iv (1 : Int32)] [])) (fun t k => XS.istore X22.here hx rfl (hb hby at_150) rfl (l' := #[iv i0, iv i1, iv i2, iv i3, iv i4, rv bS, rv bR, iv (1 : Int32), iv (1 : Int32), iv (1 : Int32), iv (1 : Int32), iv s95, .val (.double (own_tw (tq_19.getD s95.toNatClampNeg 0))), .second, iv (1 : Int32)]) rfl k) ?_
    refine oIL (n := 154) X22 hx (hb hby at_152) rfl rfl ?_
    have hc154 : ¬ ((1 : Int32) = (0 : Int32)) := by decide
    refine ov (B := T22.setTop (mkF m 157 #[iv i0, iv i1, iv i2, iv i3, iv i4, rv bS, rv bR, iv (1 : Int32), iv (1 : Int32), iv (1 : Int32), iv (1 : Int32), iv s95, .val (.double (own_tw (tq_19.getD s95.toNatClampNeg 0))), .second, iv (1 : Int32)] [])) (fun t k => XS.ifNo X22.here hx rfl (hb hby at_154) rfl ((if0 _ _).trans (feq hc154).1) k) ?_
    refine oIL (n := 159) X22 hx (hb hby at_157) rfl rfl ?_
    have hc159 : ¬ ((1 : Int32) = (0 : Int32)) := by decide
    refine ov (B := T22.setTop (mkF m 162 #[iv i0, iv i1, iv i2, iv i3, iv i4, rv bS, rv bR, iv (1 : Int32), iv (1 : Int32), iv (1 : Int32), iv (1 : Int32), iv s95, .val (.double (own_tw (tq_19.getD s95.toNatClampNeg 0))), .second, iv (1 : Int32)] [])) (fun t k => XS.ifNo X22.here hx rfl (hb hby at_159) rfl ((if0 _ _).trans (feq hc159).1) k) ?_
    refine oIL (n := 164) X22 hx (hb hby at_162) rfl rfl ?_
    have hc164 : ¬ ((1 : Int32) = (0 : Int32)) := by decide
    refine ov (B := T22.setTop (mkF m 167 #[iv i0, iv i1, iv i2, iv i3, iv i4, rv bS, rv bR, iv (1 : Int32), iv (1 : Int32), iv (1 : Int32), iv (1 : Int32), iv s95, .val (.double (own_tw (tq_19.getD s95.toNatClampNeg 0))), .second, iv (1 : Int32)] [])) (fun t k => XS.ifNo X22.here hx rfl (hb hby at_164) rfl ((if0 _ _).trans (feq hc164).1) k) ?_
    refine oIL (n := 169) X22 hx (hb hby at_167) rfl rfl ?_
    have hc169 : ¬ ((1 : Int32) = (0 : Int32)) := by decide
    refine ov (B := T22.setTop (mkF m 172 #[iv i0, iv i1, iv i2, iv i3, iv i4, rv bS, rv bR, iv (1 : Int32), iv (1 : Int32), iv (1 : Int32), iv (1 : Int32), iv s95, .val (.double (own_tw (tq_19.getD s95.toNatClampNeg 0))), .second, iv (1 : Int32)] [])) (fun t k => XS.ifNo X22.here hx rfl (hb hby at_169) rfl ((if0 _ _).trans (feq hc169).1) k) ?_
    refine oIL (n := 174) X22 hx (hb hby at_172) rfl rfl ?_
    have hc174 : ¬ ((1 : Int32) = (0 : Int32)) := by decide
    refine ov (B := T22.setTop (mkF m 177 #[iv i0, iv i1, iv i2, iv i3, iv i4, rv bS, rv bR, iv (1 : Int32), iv (1 : Int32), iv (1 : Int32), iv (1 : Int32), iv s95, .val (.double (own_tw (tq_19.getD s95.toNatClampNeg 0))), .second, iv (1 : Int32)] [])) (fun t k => XS.ifNo X22.here hx rfl (hb hby at_174) rfl ((if0 _ _).trans (feq hc174).1) k) ?_
    refine oIC (n := 178) X22 hx (1 : Int32) (hb hby at_177) (by decide) rfl ?_
    refine oGO (n := 182) X22 hx (hb hby at_178) (by decide) (by decide) ?_
    refine own_leaf X22 hx hlk (t := .boolean) Bd.returns (by decide) (Or.inl ⟨rfl, by simp, _, rfl⟩) (hb hby at_182) (by decide) (by decide) ?_
    show Q0 Z i0 i1 i2 i3 i4 h0 n0 _ T22.heap _
    rw [eq22]
    refine ⟨?_, N22⟩
    rfl
  · refine ov (B := T20.setTop (mkF m 133 #[iv i0, iv i1, iv i2, iv i3, iv i4, rv bS, rv bR, iv (1 : Int32), iv (1 : Int32), iv (1 : Int32), iv (1 : Int32), iv s95, .val (.double (own_tw (tq_19.getD s95.toNatClampNeg 0))), .second, uu] [])) (fun t k => XS.icmpYes X20.here hx rfl (pc0 := 113) (pc' := 133) rfl (hb hby at_113) rfl (feq hc113).2 (by decide) (by decide) k) ?_
    refine ov (B := T20.setTop (mkF m 135 #[iv i0, iv i1, iv i2, iv i3, iv i4, rv bS, rv bR, iv (1 : Int32), iv (1 : Int32), iv (1 : Int32), iv (1 : Int32), iv s95, .val (.double (own_tw (tq_19.getD s95.toNatClampNeg 0))), .second, uu] [(.double (own_tw (tq_19.getD s95.toNatClampNeg 0)))])) (fun t k => XS.dload X20.here hx rfl (hb hby at_133) rfl k) ?_
    refine oAL (n := 137) X20 hx (hb hby at_135) rfl rfl rfl ?_
    refine oIL (n := 139) X20 hx (hb hby at_137) rfl rfl ?_
    obtain ⟨cl23, Ar23, q23, S23, M23, H23, G23⟩ := id f19_3
    have hin23 : ¬ (s95 < 0 ∨ cl23.slots.size ≤ (s95).toNatClampNeg) := inb_of S23 (own_Rb (by rw [← hs95]; exact own_s6 i4))
    refine ov (B := T20.setTop (mkF m 140 #[iv i0, iv i1, iv i2, iv i3, iv i4, rv bS, rv bR, iv (1 : Int32), iv (1 : Int32), iv (1 : Int32), iv (1 : Int32), iv s95, .val (.double (own_tw (tq_19.getD s95.toNatClampNeg 0))), .second, uu] [(.int (tq_19.getD s95.toNatClampNeg 0)), (.double (own_tw (tq_19.getD s95.toNatClampNeg 0)))])) (fun t k => X20.iaload hx (j := s95) (v := (.int (tq_19.getD s95.toNatClampNeg 0))) (by rw [eq20]; exact Ar23.1) (State.isArrayOf_alike hZ.alike Ar23.2.1) Ar23.2.2 hin23 (Has.at H23 hin23 (own_mgI _ _)) (g := (mkF m 139 #[iv i0, iv i1, iv i2, iv i3, iv i4, rv bS, rv bR, iv (1 : Int32), iv (1 : Int32), iv (1 : Int32), iv (1 : Int32), iv s95, .val (.double (own_tw (tq_19.getD s95.toNatClampNeg 0))), .second, uu] [(.int s95), (.ref bR), (.double (own_tw (tq_19.getD s95.toNatClampNeg 0)))])) rfl rfl (hb hby at_139) _ k) ?_
    refine ov (B := T20.setTop (mkF m 141 #[iv i0, iv i1, iv i2, iv i3, iv i4, rv bS, rv bR, iv (1 : Int32), iv (1 : Int32), iv (1 : Int32), iv (1 : Int32), iv s95, .val (.double (own_tw (tq_19.getD s95.toNatClampNeg 0))), .second, uu] [(.double (FP.i2d (tq_19.getD s95.toNatClampNeg 0))), (.double (own_tw (tq_19.getD s95.toNatClampNeg 0)))])) (fun t k => XS.i2dS X20.here hx rfl (hb hby at_140) rfl rfl k) ?_
    refine ov (B := T20.setTop (mkF m 142 #[iv i0, iv i1, iv i2, iv i3, iv i4, rv bS, rv bR, iv (1 : Int32), iv (1 : Int32), iv (1 : Int32), iv (1 : Int32), iv s95, .val (.double (own_tw (tq_19.getD s95.toNatClampNeg 0))), .second, uu] [(.int (cmpValue (FP.dcmp (own_tw (tq_19.getD s95.toNatClampNeg 0)) (FP.i2d (tq_19.getD s95.toNatClampNeg 0))) .l))])) (fun t k => XS.dcmpS X20.here hx rfl (hb hby at_141) rfl rfl k) ?_
    have hc142 : (cmpValue (FP.dcmp (own_tw (tq_19.getD s95.toNatClampNeg 0)) (FP.i2d (tq_19.getD s95.toNatClampNeg 0))) .l) = (0 : Int32) := own_gotn hc113
    refine ov (B := T20.setTop (mkF m 145 #[iv i0, iv i1, iv i2, iv i3, iv i4, rv bS, rv bR, iv (1 : Int32), iv (1 : Int32), iv (1 : Int32), iv (1 : Int32), iv s95, .val (.double (own_tw (tq_19.getD s95.toNatClampNeg 0))), .second, uu] [])) (fun t k => XS.ifNo X20.here hx rfl (hb hby at_142) rfl ((if0 _ _).trans (teq hc142).2) k) ?_
    refine oIC (n := 146) X20 hx (1 : Int32) (hb hby at_145) (by decide) rfl ?_
    refine oGO (n := 150) X20 hx (hb hby at_146) (by decide) (by decide) ?_
    refine ov (B := T20.setTop (mkF m 152 #[iv i0, iv i1, iv i2, iv i3, iv i4, rv bS, rv bR, iv (1 : Int32), iv (1 : Int32), iv (1 : Int32), iv (1 : Int32), iv s95, .val (.double (own_tw (tq_19.getD s95.toNatClampNeg 0))), .second, iv (1 : Int32)] [])) (fun t k => XS.istore X20.here hx rfl (hb hby at_150) rfl (l' := #[iv i0, iv i1, iv i2, iv i3, iv i4, rv bS, rv bR, iv (1 : Int32), iv (1 : Int32), iv (1 : Int32), iv (1 : Int32), iv s95, .val (.double (own_tw (tq_19.getD s95.toNatClampNeg 0))), .second, iv (1 : Int32)]) rfl k) ?_
    refine oIL (n := 154) X20 hx (hb hby at_152) rfl rfl ?_
    have hc154 : ¬ ((1 : Int32) = (0 : Int32)) := by decide
    refine ov (B := T20.setTop (mkF m 157 #[iv i0, iv i1, iv i2, iv i3, iv i4, rv bS, rv bR, iv (1 : Int32), iv (1 : Int32), iv (1 : Int32), iv (1 : Int32), iv s95, .val (.double (own_tw (tq_19.getD s95.toNatClampNeg 0))), .second, iv (1 : Int32)] [])) (fun t k => XS.ifNo X20.here hx rfl (hb hby at_154) rfl ((if0 _ _).trans (feq hc154).1) k) ?_
    refine oIL (n := 159) X20 hx (hb hby at_157) rfl rfl ?_
    have hc159 : ¬ ((1 : Int32) = (0 : Int32)) := by decide
    refine ov (B := T20.setTop (mkF m 162 #[iv i0, iv i1, iv i2, iv i3, iv i4, rv bS, rv bR, iv (1 : Int32), iv (1 : Int32), iv (1 : Int32), iv (1 : Int32), iv s95, .val (.double (own_tw (tq_19.getD s95.toNatClampNeg 0))), .second, iv (1 : Int32)] [])) (fun t k => XS.ifNo X20.here hx rfl (hb hby at_159) rfl ((if0 _ _).trans (feq hc159).1) k) ?_
    refine oIL (n := 164) X20 hx (hb hby at_162) rfl rfl ?_
    have hc164 : ¬ ((1 : Int32) = (0 : Int32)) := by decide
    refine ov (B := T20.setTop (mkF m 167 #[iv i0, iv i1, iv i2, iv i3, iv i4, rv bS, rv bR, iv (1 : Int32), iv (1 : Int32), iv (1 : Int32), iv (1 : Int32), iv s95, .val (.double (own_tw (tq_19.getD s95.toNatClampNeg 0))), .second, iv (1 : Int32)] [])) (fun t k => XS.ifNo X20.here hx rfl (hb hby at_164) rfl ((if0 _ _).trans (feq hc164).1) k) ?_
    refine oIL (n := 169) X20 hx (hb hby at_167) rfl rfl ?_
    have hc169 : ¬ ((1 : Int32) = (0 : Int32)) := by decide
    refine ov (B := T20.setTop (mkF m 172 #[iv i0, iv i1, iv i2, iv i3, iv i4, rv bS, rv bR, iv (1 : Int32), iv (1 : Int32), iv (1 : Int32), iv (1 : Int32), iv s95, .val (.double (own_tw (tq_19.getD s95.toNatClampNeg 0))), .second, iv (1 : Int32)] [])) (fun t k => XS.ifNo X20.here hx rfl (hb hby at_169) rfl ((if0 _ _).trans (feq hc169).1) k) ?_
    refine oIL (n := 174) X20 hx (hb hby at_172) rfl rfl ?_
    have hc174 : ¬ ((1 : Int32) = (0 : Int32)) := by decide
    refine ov (B := T20.setTop (mkF m 177 #[iv i0, iv i1, iv i2, iv i3, iv i4, rv bS, rv bR, iv (1 : Int32), iv (1 : Int32), iv (1 : Int32), iv (1 : Int32), iv s95, .val (.double (own_tw (tq_19.getD s95.toNatClampNeg 0))), .second, iv (1 : Int32)] [])) (fun t k => XS.ifNo X20.here hx rfl (hb hby at_174) rfl ((if0 _ _).trans (feq hc174).1) k) ?_
    refine oIC (n := 178) X20 hx (1 : Int32) (hb hby at_177) (by decide) rfl ?_
    refine oGO (n := 182) X20 hx (hb hby at_178) (by decide) (by decide) ?_
    refine own_leaf X20 hx hlk (t := .boolean) Bd.returns (by decide) (Or.inl ⟨rfl, by simp, _, rfl⟩) (hb hby at_182) (by decide) (by decide) ?_
    show Q0 Z i0 i1 i2 i3 i4 h0 n0 _ T20.heap _
    rw [eq20]
    refine ⟨?_, N20⟩
    rfl
set_option maxRecDepth 65536 in
set_option maxHeartbeats 40000000 in
theorem comes_1 {Post : Tables → Env → Array Value → State → Outcome → State → Prop} (hpost : ∀ tb e args s v u, (limb_1_1.after args s (.returned v) u = true ∧ limb_1_2.after args s (.returned v) u = true ∧ True) → FrameEnd s (.returned v) u (Jvm.fieldLocs frame_1_writes args s ++ Jvm.arrayLocs frame_1_arrays args s ++ Jvm.staticLocs frame_1_statics s) 24 128 → Post tb e args s (.returned v) u) :
    ArmFor flags0 classFile x code maxLocals ret World_1 tables_1 room_1 Calls_1 rest_1 Pre_1 Post := by
  intro l hfl _ _ p e ha hc hk s m args below hf hA hF happ hP
  obtain ⟨hcalls, hrest, hpre⟩ := hP
  obtain ⟨-, -, -, hnamed, -, -, -, hat⟩ := (Spec.applies_iff hf).mp happ
  obtain ⟨hg, hn⟩ := and_e (Cond.before_iff.mp (show (Jvm.Cond.and given_1 narrow_1).before args s = true from hpre))
  obtain ⟨g1, g2⟩ := and_e hg
  obtain ⟨g3, g4⟩ := and_e g2
  obtain ⟨g5, g6⟩ := and_e g4
  obtain ⟨g7, g8⟩ := and_e g6
  obtain ⟨g9, g10⟩ := and_e g8
  obtain ⟨w0, w1, w2, w3, w4, rfl⟩ : ∃ w0 w1 w2 w3 w4 : Value, args = #[w0, w1, w2, w3, w4] := by
    have hs : args.size = 5 := by simpa [Cond.value, given_1] using g1
    obtain ⟨L⟩ := args
    match L, hs with
    | [w0, w1, w2, w3, w4], _ => exact ⟨w0, w1, w2, w3, w4, rfl⟩
  have hw := fun d (hd : d ∈ tables_1) => atoms_spec (ws := Jvm.Cond.code x code maxLocals ret :: tables_1) hat d (List.mem_cons_of_mem _ hd)
  have hfit : Fit s := fun {y c} hc i hi => by
    obtain ⟨ha, rfl⟩ := Array.getElem?_eq_some_iff.mp hc
    have q := List.all_eq_true.mp ((Array.all_eq_true_iff_forall_mem.mp hF) _ (Array.getElem_mem ha)) i (List.mem_range.mpr hi)
    simpa [Array.getElem?_eq_getElem hi] using q
  obtain ⟨i0, ei0⟩ := is_v g3
  obtain rfl : w0 = (.int i0) := Option.some.inj ei0
  obtain ⟨i1, ei1⟩ := is_v g5
  obtain rfl : w1 = (.int i1) := Option.some.inj ei1
  obtain ⟨i2, ei2⟩ := is_v g7
  obtain rfl : w2 = (.int i2) := Option.some.inj ei2
  obtain ⟨i3, ei3⟩ := is_v g9
  obtain rfl : w3 = (.int i3) := Option.some.inj ei3
  obtain ⟨i4, ei4⟩ := is_v g10
  obtain rfl : w4 = (.int i4) := Option.some.inj ei4
  obtain ⟨n, o, h1, h2, h3, _, L, rfl, ⟨rfl, N⟩, hq⟩ := rm0 l s _ hw tables_1 i0 i1 i2 i3 i4 s.heap s.heap.size (Nat.le_refl _)  p e ha hc hk s m _ below hf ((Spec.applies_iff_loose hf).mp happ).1 ⟨rfl, State.Warmed39.refl s, rfl⟩ trivial
  refine ⟨n, _, h1, h2, h3, hpost _ _ _ _ _ _ ⟨Cond.after_iff.mpr rfl, Cond.after_iff.mpr (eq_i res_at (Term.int_eval (1)) rfl), trivial⟩ ⟨hq.1, hq.2.1, (hq.2.2.sift fun y hy => Or.inr (N y hy)).mono (by decide) (by decide)⟩⟩
theorem main_1_1 : Claimed_1_1 := comes_1 fun _ _ _ _ _ _ h hF => ⟨h.1, hF⟩
theorem main_1_2 : Claimed_1_2 := comes_1 fun _ _ _ _ _ _ h hF => ⟨h.2.1, hF⟩
end Jvm.Pilot.@@N@@
namespace Jvm.Pilot.@@N@@
open Jvm Jvm.ClassFile Sem Op Lib Jvm.Free Jvm.Stand Jvm.Pilot.@@N@@.Jvm.D
/-! MADE BY PROGRAM (witnessworld.py) out of the Statement's table words and the real class files: 10 classes; the members and pool entries that the words name. The judged class is class 1, her method 4. -/
namespace start1
open Jvm.ClassFile
def u (s : String) : CpInfo := .utf8 (stringToUtf16 s)
/-- a pool by its gaps: so many unusable entries, then the entry; so many at the end -/
def gap : Nat → List CpInfo → List CpInfo
  | 0, r => r
  | n + 1, r => .unusable :: gap n r
def poolList (es : List (Nat × CpInfo)) (last : Nat) : List CpInfo := es.foldr (fun e r => gap e.1 (e.2 :: r)) (gap last [])
def pool (es : List (Nat × CpInfo)) (last : Nat) : Array CpInfo := ⟨poolList es last⟩
def fileOf (pool : Array CpInfo) (this : Nat) (attrs : Array Attribute := #[]) (ms : Array MethodInfo := #[]) (fl : Nat := 33) (sup : Nat := 0) (ifs : Array Nat := #[]) (fds : Array FieldInfo := #[]) : ClassFile where
  minorVersion := 0
  majorVersion := 65
  constantPool := pool
  accessFlags := fl
  thisClass := this
  superClass := sup
  interfaces := ifs
  fields := fds
  methods := ms
  attributes := attrs
def plain (name : String) (sup : Option ClassId) : Class where
  name := name
  kind := .ordinary
  loader := none
  accessFlags := 33
  super := sup
  interfaces := #[]
  cf := none
  fields := #[]
  methods := #[]
  instanceTypes := #[]
  staticTypes := #[]
  resolved := #[]
  callSites := []
  init := .initialized
  statics := none
  mirror := none

def pool0 : Array CpInfo := pool [(5, u "<init>"), (0, u "()V"), (1, .class_ 10), (1, u "java/lang/Object")] 113

def k0c0 : Code := { maxStack := 0, maxLocals := 1, code := object_method_1_code, exceptionTable := #[], attributes := #[] }
def k0m0 : Method := { name := "<init>", desc := "()V", sig := { parameters := [], returnType := none }, accessFlags := 1, code := some k0c0 }
/-- java/lang/Object -/
def k0 : Class := { plain "java/lang/Object" none with
  accessFlags := 33
  interfaces := #[]
  cf := some (fileOf pool0 8 #[] #[{ accessFlags := 1, nameIndex := 5, descriptorIndex := 6, attributes := #[] }] 33 0 #[] #[])
  fields := #[]
  methods := #[k0m0]
  instanceTypes := #[]
  staticTypes := #[]
  resolved := Array.replicate 124 none
  statics := none }

def pool1 : Array CpInfo := pool [(2, .class_ 4), (1, u "java/lang/Object"), (0, u "<init>"), (0, u "()V"), (0, .double 9218868437227405312), (1, .integer 65535), (0, .methodref 11 12), (0, .class_ 13), (0, .nameAndType 14 15), (0, u "com/example/meerkat/meerkat/simulate/CompletionsSetPinLaw"), (0, u "inf"), (0, u "()D"), (0, .methodref 17 18), (0, .class_ 19), (0, .nameAndType 20 21), (0, u "com/example/meerkat/meerkat/simulate/Completions"), (0, u "set"), (0, u "(ID)V"), (0, .methodref 17 23), (0, .nameAndType 24 25), (0, u "earliest"), (0, u "()I"), (0, .methodref 11 27), (0, .nameAndType 28 29), (0, u "least"), (0, u "([I)I"), (0, .methodref 17 31), (0, .nameAndType 5 32), (0, u "(I)V"), (0, .methodref 11 34), (0, .nameAndType 35 36), (0, u "step"), (0, u "(Lcom/example/meerkat/meerkat/simulate/Completions;[II)Z"), (0, .methodref 17 38), (0, .nameAndType 39 40), (0, u "time"), (0, u "(I)D"), (5, u "law"), (0, u "(IIIII)Z")] 2

def k1m0 : Method := { name := "<init>", desc := "()V", sig := { parameters := [], returnType := none }, accessFlags := 1, code := none }
def k1c1 : Code := { maxStack := 2, maxLocals := 0, code := method_2_code, exceptionTable := #[], attributes := #[] }
def k1m1 : Method := { name := "inf", desc := "()D", sig := { parameters := [], returnType := some .double }, accessFlags := 10, code := some k1c1 }
def k1c2 : Code := { maxStack := 3, maxLocals := 2, code := method_3_code, exceptionTable := #[], attributes := #[] }
def k1m2 : Method := { name := "least", desc := "([I)I", sig := { parameters := [(.array .int)], returnType := some .int }, accessFlags := 10, code := some k1c2 }
def k1c3 : Code := { maxStack := 4, maxLocals := 5, code := method_4_code, exceptionTable := #[], attributes := #[] }
def k1m3 : Method := { name := "step", desc := "(Lcom/example/meerkat/meerkat/simulate/Completions;[II)Z", sig := { parameters := [(.object "com/example/meerkat/meerkat/simulate/Completions"), (.array .int), .int], returnType := some .boolean }, accessFlags := 10, code := some k1c3 }
def k1c4 : Code := { maxStack := 4, maxLocals := 15, code := code, exceptionTable := #[], attributes := #[] }
def k1m4 : Method := { name := "law", desc := "(IIIII)Z", sig := { parameters := [.int, .int, .int, .int, .int], returnType := some .boolean }, accessFlags := 9, code := some k1c4 }
/-- com/example/meerkat/meerkat/simulate/CompletionsSetPinLaw -/
def k1 : Class := { plain "com/example/meerkat/meerkat/simulate/CompletionsSetPinLaw" (some 0) with
  accessFlags := 49
  interfaces := #[]
  cf := some (fileOf pool1 11 #[] #[{ accessFlags := 1, nameIndex := 5, descriptorIndex := 6, attributes := #[] }, { accessFlags := 10, nameIndex := 14, descriptorIndex := 15, attributes := #[] }, { accessFlags := 10, nameIndex := 28, descriptorIndex := 29, attributes := #[] }, { accessFlags := 10, nameIndex := 35, descriptorIndex := 36, attributes := #[] }, { accessFlags := 9, nameIndex := 46, descriptorIndex := 47, attributes := #[] }] 49 2 #[] #[])
  fields := #[]
  methods := #[k1m0, k1m1, k1m2, k1m3, k1m4]
  instanceTypes := #[]
  staticTypes := #[]
  resolved := Array.replicate 50 none
  statics := none }

def pool2 : Array CpInfo := pool [(1, .methodref 2 3), (0, .class_ 4), (0, .nameAndType 5 6), (0, u "java/lang/Object"), (0, u "<init>"), (0, u "()V"), (0, .fieldref 8 9), (0, .class_ 10), (0, .nameAndType 11 12), (0, u "com/example/meerkat/meerkat/simulate/Completions"), (0, u "times"), (0, u "[D"), (0, .fieldref 8 14), (0, .nameAndType 15 16), (0, u "heap"), (0, u "[I"), (0, .fieldref 8 18), (0, .nameAndType 19 16), (0, u "places"), (2, .double 9218868437227405312), (1, .methodref 25 26), (0, .class_ 27), (0, .nameAndType 28 29), (0, u "java/util/Arrays"), (0, u "fill"), (0, u "([DD)V"), (0, .methodref 8 31), (0, .nameAndType 32 33), (0, u "before"), (0, u "(II)Z"), (0, .methodref 8 35), (0, .nameAndType 36 37), (0, u "move"), (0, u "(II)V"), (0, u "(I)V"), (3, u "earliest"), (0, u "()I"), (0, u "time"), (0, u "(I)D"), (0, u "set"), (0, u "(ID)V")] 2

def k2c0 : Code := { maxStack := 3, maxLocals := 3, code := prog_26_method_1_code, exceptionTable := #[], attributes := #[] }
def k2m0 : Method := { name := "<init>", desc := "(I)V", sig := { parameters := [.int], returnType := none }, accessFlags := 0, code := some k2c0 }
def k2c1 : Code := { maxStack := 2, maxLocals := 1, code := prog_26_method_2_code, exceptionTable := #[], attributes := #[] }
def k2m1 : Method := { name := "earliest", desc := "()I", sig := { parameters := [], returnType := some .int }, accessFlags := 0, code := some k2c1 }
def k2c2 : Code := { maxStack := 2, maxLocals := 2, code := prog_26_method_3_code, exceptionTable := #[], attributes := #[] }
def k2m2 : Method := { name := "time", desc := "(I)D", sig := { parameters := [.int], returnType := some .double }, accessFlags := 0, code := some k2c2 }
def k2c3 : Code := { maxStack := 5, maxLocals := 6, code := prog_26_method_4_code, exceptionTable := #[], attributes := #[] }
def k2m3 : Method := { name := "set", desc := "(ID)V", sig := { parameters := [.int, .double], returnType := none }, accessFlags := 0, code := some k2c3 }
def k2c4 : Code := { maxStack := 4, maxLocals := 3, code := prog_26_method_5_code, exceptionTable := #[], attributes := #[] }
def k2m4 : Method := { name := "before", desc := "(II)Z", sig := { parameters := [.int, .int], returnType := some .boolean }, accessFlags := 2, code := some k2c4 }
def k2c5 : Code := { maxStack := 3, maxLocals := 3, code := prog_26_method_6_code, exceptionTable := #[], attributes := #[] }
def k2m5 : Method := { name := "move", desc := "(II)V", sig := { parameters := [.int, .int], returnType := none }, accessFlags := 2, code := some k2c5 }
/-- com/example/meerkat/meerkat/simulate/Completions -/
def k2 : Class := { plain "com/example/meerkat/meerkat/simulate/Completions" (some 0) with
  accessFlags := 32
  interfaces := #[]
  cf := some (fileOf pool2 8 #[] #[{ accessFlags := 0, nameIndex := 5, descriptorIndex := 38, attributes := #[] }, { accessFlags := 0, nameIndex := 42, descriptorIndex := 43, attributes := #[] }, { accessFlags := 0, nameIndex := 44, descriptorIndex := 45, attributes := #[] }, { accessFlags := 0, nameIndex := 46, descriptorIndex := 47, attributes := #[] }, { accessFlags := 2, nameIndex := 32, descriptorIndex := 33, attributes := #[] }, { accessFlags := 2, nameIndex := 36, descriptorIndex := 37, attributes := #[] }] 32 2 #[] #[{ accessFlags := 18, nameIndex := 11, descriptorIndex := 12, attributes := #[] }, { accessFlags := 18, nameIndex := 15, descriptorIndex := 16, attributes := #[] }, { accessFlags := 18, nameIndex := 19, descriptorIndex := 16, attributes := #[] }])
  fields := #[{ name := "times", type := (.array .double), accessFlags := 18, slot := 0, constantValue := 0 }, { name := "heap", type := (.array .int), accessFlags := 18, slot := 1, constantValue := 0 }, { name := "places", type := (.array .int), accessFlags := 18, slot := 2, constantValue := 0 }]
  methods := #[k2m0, k2m1, k2m2, k2m3, k2m4, k2m5]
  instanceTypes := #[(.array .double), (.array .int), (.array .int)]
  staticTypes := #[]
  resolved := Array.replicate 50 none
  statics := none }

def pool3 : Array CpInfo := pool [(2, .class_ 4), (1, u "java/lang/Object"), (0, u "<init>"), (0, u "()V"), (7, .class_ 16), (1, u "java/util/Arrays"), (57, .class_ 76), (1, u "java/util/Arrays$NaturalOrder"), (36, .class_ 115), (1, u "java/util/Arrays$LegacyMergeSort"), (1, u "Z"), (257, .class_ 376), (0, u "java/util/Arrays$ArrayList"), (68, u "$assertionsDisabled"), (269, u "MIN_ARRAY_SORT_GRAN"), (0, u "I"), (2, u "INSERTIONSORT_THRESHOLD"), (120, u "fill"), (13, u "([DD)V"), (120, .class_ 976), (0, u "java/util/Arrays$ArrayItr")] 52

def k3m0 : Method := { name := "<init>", desc := "()V", sig := { parameters := [], returnType := none }, accessFlags := 2, code := none }
def k3c1 : Code := { maxStack := 4, maxLocals := 5, code := jdk_65_method_113_code, exceptionTable := #[], attributes := #[] }
def k3m1 : Method := { name := "fill", desc := "([DD)V", sig := { parameters := [(.array .double), .double], returnType := none }, accessFlags := 9, code := some k3c1 }
/-- java/util/Arrays -/
def k3 : Class := { plain "java/util/Arrays" (some 0) with
  accessFlags := 49
  interfaces := #[]
  cf := some (fileOf pool3 14 #[.nestMembers #[975, 375, 113, 74]] #[{ accessFlags := 2, nameIndex := 5, descriptorIndex := 6, attributes := #[] }, { accessFlags := 9, nameIndex := 840, descriptorIndex := 854, attributes := #[] }] 49 2 #[] #[{ accessFlags := 26, nameIndex := 715, descriptorIndex := 716, attributes := #[] }, { accessFlags := 26, nameIndex := 719, descriptorIndex := 716, attributes := #[] }, { accessFlags := 4120, nameIndex := 445, descriptorIndex := 117, attributes := #[] }])
  fields := #[{ name := "MIN_ARRAY_SORT_GRAN", type := .int, accessFlags := 26, slot := 0, constantValue := 0 }, { name := "INSERTIONSORT_THRESHOLD", type := .int, accessFlags := 26, slot := 1, constantValue := 0 }, { name := "$assertionsDisabled", type := .boolean, accessFlags := 4120, slot := 2, constantValue := 0 }]
  methods := #[k3m0, k3m1]
  instanceTypes := #[]
  staticTypes := #[.int, .int, .boolean]
  resolved := Array.replicate 1029 none
  statics := none }

def pool4 : Array CpInfo := pool [(1, u "java/lang/Cloneable"), (0, .class_ 1), (0, u "java/lang/Object"), (0, .class_ 3)] 3

/-- java/lang/Cloneable -/
def k4 : Class := { plain "java/lang/Cloneable" (some 0) with
  accessFlags := 1537
  interfaces := #[]
  cf := some (fileOf pool4 2 #[] #[] 1537 4 #[] #[])
  fields := #[]
  methods := #[]
  instanceTypes := #[]
  staticTypes := #[]
  resolved := Array.replicate 8 none
  statics := none }

def pool5 : Array CpInfo := pool [(1, u "java/io/Serializable"), (0, .class_ 1), (0, u "java/lang/Object"), (0, .class_ 3)] 3

/-- java/io/Serializable -/
def k5 : Class := { plain "java/io/Serializable" (some 0) with
  accessFlags := 1537
  interfaces := #[]
  cf := some (fileOf pool5 2 #[] #[] 1537 4 #[] #[])
  fields := #[]
  methods := #[]
  instanceTypes := #[]
  staticTypes := #[]
  resolved := Array.replicate 8 none
  statics := none }

/-- the primitive byte -/
def k6 : Class := { plain "byte" none with kind := .primitive 'B', accessFlags := 0x411 }
/-- [B -/
def k7 : Class := { plain "[B" (some 0) with kind := .array 6 .byte, interfaces := #[4, 5], accessFlags := 1041 }

/-- the primitive int -/
def k8 : Class := { plain "int" none with kind := .primitive 'I', accessFlags := 0x411 }
/-- [I -/
def k9 : Class := { plain "[I" (some 0) with kind := .array 8 .int, interfaces := #[4, 5], accessFlags := 1041 }

def heap : Heap := #[]
def k10 : Class := { plain "double" none with kind := .primitive 'D', accessFlags := 0x411 }
def k11 : Class := { plain "[D" (some 0) with kind := .array 10 .double, interfaces := #[4, 5], accessFlags := 1041 }
def classes : Array Class := #[k0, k1, k2, k3, k4, k5, k6, k7, k8, k9, k10, k11]
def interned : List (Array UInt16 × Addr) := []
def slotsUsed : Nat := 0
def theMethod : MethodId := ⟨1, 4⟩
def args0 : Array Value := #[.int 5, .int 6, .int 7, .int 8, .int 9]
def aboutOver (below : List Frame) : State where
  vm := { classes := classes, interned := interned.toArray }
  heap := heap
  slotsUsed := slotsUsed
  threads := #[{ frames := .invoking theMethod args0 :: below }]
def below0 : List Frame := [.native { method := ⟨0, 0⟩, args := #[] }]
def about1 : State := aboutOver below0
def p0 : Program := .bare "" "" ""
def e0 : Env := launch0.env 0 0 0
theorem w_frames : about1.frames = Frame.invoking theMethod args0 :: below0 := rfl
set_option maxRecDepth 65536 in
theorem w_args : argsFit about1.vm theMethod args0 = true := by decide +kernel
set_option maxRecDepth 65536 in
theorem w_heap : heapFits about1 = true := by decide +kernel
set_option maxRecDepth 65536 in
theorem w_runnable : about1.curStatus? = some .runnable := by decide +kernel
set_option maxRecDepth 65536 in
theorem w_alone : about1.alone = true := by decide +kernel
set_option maxRecDepth 65536 in
theorem w_named : about1.methodNamed? x = some theMethod := by decide +kernel
set_option maxRecDepth 65536 in
theorem w_hears : about1.hears theMethod below0 = true := by decide +kernel
set_option maxRecDepth 65536 in
theorem w_ripe : about1.ripe theMethod args0 below0 = true := by decide +kernel
theorem w_running : about1.status = .running := rfl
set_option maxRecDepth 65536 in
theorem w_room : about1.hasRoom e0.platform room_1 = true :=
  launch0.hasRoom_least _ room_1 (by decide +kernel) (by decide +kernel) (by decide +kernel) (by decide +kernel) (by decide +kernel) (by decide +kernel)
theorem allAtoms_all (ts : List Jvm.Cond) (a : Array Jvm.Value) (st : Jvm.State) : (allAtoms ts).before a st = ts.all (fun c => c.before a st) := by
  induction ts with
  | nil => rfl
  | cons c t ih =>
    show (Jvm.Cond.and c (allAtoms t)).before a st = _
    rw [Jvm.Cond.before_and, ih, List.all_cons]
def words1 : List Jvm.Cond := Jvm.Cond.code x code maxLocals ret :: tables_1
/-- a 'code' word, met by the world's own term for the bytes: nothing is compared byte by byte -/
theorem code_word {y : MethodName} {bytes : ByteArray} {mx : Nat} {rt : Option FieldType} {a : Array Value} {s : State} {m : MethodId} {meth : Method} {c : Code} (h1 : s.methodNamed? y = some m) (h2 : s.vm.method? m = some meth) (h3 : meth.code = some c) (h4 : c.code = bytes)
    (h5 : (c.maxLocals == mx && c.exceptionTable.isEmpty && decide (c.maxStack ≤ mostOperands) && decide (meth.sig.returnType = rt) && !meth.locks && decide (parseMethodDescriptor y.desc = some meth.sig)) = true) : (Jvm.Cond.code y bytes mx rt).before a s = true := by
  simp only [Bool.and_eq_true, beq_iff_eq, Bool.not_eq_true', decide_eq_true_eq] at h5
  obtain ⟨⟨⟨⟨⟨g1, g2⟩, g3⟩, g4⟩, g5⟩, g6⟩ := h5
  simp [Cond.before, Cond.holds, Cond.value, h1, h2, h3, h4, g1, g2, g3, g4, g5, g6]
def isCode : Jvm.Cond → Bool
  | .code _ _ _ _ => true
  | _ => false
theorem all_split {L : List Jvm.Cond} {P : Jvm.Cond → Bool} (h1 : L.all (fun c => isCode c || P c) = true) (h2 : ∀ c ∈ L.filter isCode, P c = true) : L.all P = true := by
  refine List.all_eq_true.mpr fun c hc => ?_
  have h := List.all_eq_true.mp h1 c hc
  rcases Bool.eq_false_or_eq_true (isCode c) with hi | hi
  · exact h2 c (List.mem_filter.mpr ⟨hc, hi⟩)
  · simpa [hi] using h
set_option maxRecDepth 65536 in
theorem w_c0 : (Jvm.Cond.code x code maxLocals ret).before args0 about1 = true := code_word (m := ⟨1, 4⟩) (meth := k1m4) (c := k1c4) (by decide +kernel) rfl rfl rfl (by decide +kernel)
set_option maxRecDepth 65536 in
theorem w_c1 : (Jvm.Cond.code ({ cls := "com/example/meerkat/meerkat/simulate/Completions", name := "<init>", desc := "(I)V" } : Jvm.MethodName) prog_26_method_1_code (3 : Nat) (Option.none : Option Jvm.ClassFile.FieldType)).before args0 about1 = true := code_word (m := ⟨2, 0⟩) (meth := k2m0) (c := k2c0) (by decide +kernel) rfl rfl rfl (by decide +kernel)
set_option maxRecDepth 65536 in
theorem w_c2 : (Jvm.Cond.code ({ cls := "java/lang/Object", name := "<init>", desc := "()V" } : Jvm.MethodName) object_method_1_code (1 : Nat) (Option.none : Option Jvm.ClassFile.FieldType)).before args0 about1 = true := code_word (m := ⟨0, 0⟩) (meth := k0m0) (c := k0c0) (by decide +kernel) rfl rfl rfl (by decide +kernel)
set_option maxRecDepth 65536 in
theorem w_c3 : (Jvm.Cond.code ({ cls := "java/util/Arrays", name := "fill", desc := "([DD)V" } : Jvm.MethodName) jdk_65_method_113_code (5 : Nat) (Option.none : Option Jvm.ClassFile.FieldType)).before args0 about1 = true := code_word (m := ⟨3, 1⟩) (meth := k3m1) (c := k3c1) (by decide +kernel) rfl rfl rfl (by decide +kernel)
set_option maxRecDepth 65536 in
theorem w_c4 : (Jvm.Cond.code ({ cls := "com/example/meerkat/meerkat/simulate/CompletionsSetPinLaw", name := "step", desc := "(Lcom/example/meerkat/meerkat/simulate/Completions;[II)Z" } : Jvm.MethodName) method_4_code (5 : Nat) (Option.some Jvm.ClassFile.FieldType.boolean)).before args0 about1 = true := code_word (m := ⟨1, 3⟩) (meth := k1m3) (c := k1c3) (by decide +kernel) rfl rfl rfl (by decide +kernel)
set_option maxRecDepth 65536 in
theorem w_c5 : (Jvm.Cond.code ({ cls := "com/example/meerkat/meerkat/simulate/Completions", name := "set", desc := "(ID)V" } : Jvm.MethodName) prog_26_method_4_code (6 : Nat) (Option.none : Option Jvm.ClassFile.FieldType)).before args0 about1 = true := code_word (m := ⟨2, 3⟩) (meth := k2m3) (c := k2c3) (by decide +kernel) rfl rfl rfl (by decide +kernel)
set_option maxRecDepth 65536 in
theorem w_c6 : (Jvm.Cond.code ({ cls := "com/example/meerkat/meerkat/simulate/Completions", name := "before", desc := "(II)Z" } : Jvm.MethodName) prog_26_method_5_code (3 : Nat) (Option.some Jvm.ClassFile.FieldType.boolean)).before args0 about1 = true := code_word (m := ⟨2, 4⟩) (meth := k2m4) (c := k2c4) (by decide +kernel) rfl rfl rfl (by decide +kernel)
set_option maxRecDepth 65536 in
theorem w_c7 : (Jvm.Cond.code ({ cls := "com/example/meerkat/meerkat/simulate/Completions", name := "move", desc := "(II)V" } : Jvm.MethodName) prog_26_method_6_code (3 : Nat) (Option.none : Option Jvm.ClassFile.FieldType)).before args0 about1 = true := code_word (m := ⟨2, 5⟩) (meth := k2m5) (c := k2c5) (by decide +kernel) rfl rfl rfl (by decide +kernel)
set_option maxRecDepth 65536 in
theorem w_c8 : (Jvm.Cond.code ({ cls := "com/example/meerkat/meerkat/simulate/Completions", name := "earliest", desc := "()I" } : Jvm.MethodName) prog_26_method_2_code (1 : Nat) (Option.some Jvm.ClassFile.FieldType.int)).before args0 about1 = true := code_word (m := ⟨2, 1⟩) (meth := k2m1) (c := k2c1) (by decide +kernel) rfl rfl rfl (by decide +kernel)
set_option maxRecDepth 65536 in
theorem w_c9 : (Jvm.Cond.code ({ cls := "com/example/meerkat/meerkat/simulate/CompletionsSetPinLaw", name := "least", desc := "([I)I" } : Jvm.MethodName) method_3_code (2 : Nat) (Option.some Jvm.ClassFile.FieldType.int)).before args0 about1 = true := code_word (m := ⟨1, 2⟩) (meth := k1m2) (c := k1c2) (by decide +kernel) rfl rfl rfl (by decide +kernel)
set_option maxRecDepth 65536 in
theorem w_c10 : (Jvm.Cond.code ({ cls := "com/example/meerkat/meerkat/simulate/Completions", name := "time", desc := "(I)D" } : Jvm.MethodName) prog_26_method_3_code (2 : Nat) (Option.some Jvm.ClassFile.FieldType.double)).before args0 about1 = true := code_word (m := ⟨2, 2⟩) (meth := k2m2) (c := k2c2) (by decide +kernel) rfl rfl rfl (by decide +kernel)
set_option maxRecDepth 65536 in
theorem w_c11 : (Jvm.Cond.code ({ cls := "com/example/meerkat/meerkat/simulate/CompletionsSetPinLaw", name := "inf", desc := "()D" } : Jvm.MethodName) method_2_code (0 : Nat) (Option.some Jvm.ClassFile.FieldType.double)).before args0 about1 = true := code_word (m := ⟨1, 1⟩) (meth := k1m1) (c := k1c1) (by decide +kernel) rfl rfl rfl (by decide +kernel)
def codes1 : List Jvm.Cond := [Jvm.Cond.code x code maxLocals ret, Jvm.Cond.code ({ cls := "com/example/meerkat/meerkat/simulate/Completions", name := "<init>", desc := "(I)V" } : Jvm.MethodName) prog_26_method_1_code (3 : Nat) (Option.none : Option Jvm.ClassFile.FieldType), Jvm.Cond.code ({ cls := "java/lang/Object", name := "<init>", desc := "()V" } : Jvm.MethodName) object_method_1_code (1 : Nat) (Option.none : Option Jvm.ClassFile.FieldType), Jvm.Cond.code ({ cls := "java/util/Arrays", name := "fill", desc := "([DD)V" } : Jvm.MethodName) jdk_65_method_113_code (5 : Nat) (Option.none : Option Jvm.ClassFile.FieldType), Jvm.Cond.code ({ cls := "com/example/meerkat/meerkat/simulate/CompletionsSetPinLaw", name := "step", desc := "(Lcom/example/meerkat/meerkat/simulate/Completions;[II)Z" } : Jvm.MethodName) method_4_code (5 : Nat) (Option.some Jvm.ClassFile.FieldType.boolean), Jvm.Cond.code ({ cls := "com/example/meerkat/meerkat/simulate/Completions", name := "set", desc := "(ID)V" } : Jvm.MethodName) prog_26_method_4_code (6 : Nat) (Option.none : Option Jvm.ClassFile.FieldType), Jvm.Cond.code ({ cls := "com/example/meerkat/meerkat/simulate/Completions", name := "before", desc := "(II)Z" } : Jvm.MethodName) prog_26_method_5_code (3 : Nat) (Option.some Jvm.ClassFile.FieldType.boolean), Jvm.Cond.code ({ cls := "com/example/meerkat/meerkat/simulate/Completions", name := "move", desc := "(II)V" } : Jvm.MethodName) prog_26_method_6_code (3 : Nat) (Option.none : Option Jvm.ClassFile.FieldType), Jvm.Cond.code ({ cls := "com/example/meerkat/meerkat/simulate/Completions", name := "earliest", desc := "()I" } : Jvm.MethodName) prog_26_method_2_code (1 : Nat) (Option.some Jvm.ClassFile.FieldType.int), Jvm.Cond.code ({ cls := "com/example/meerkat/meerkat/simulate/CompletionsSetPinLaw", name := "least", desc := "([I)I" } : Jvm.MethodName) method_3_code (2 : Nat) (Option.some Jvm.ClassFile.FieldType.int), Jvm.Cond.code ({ cls := "com/example/meerkat/meerkat/simulate/Completions", name := "time", desc := "(I)D" } : Jvm.MethodName) prog_26_method_3_code (2 : Nat) (Option.some Jvm.ClassFile.FieldType.double), Jvm.Cond.code ({ cls := "com/example/meerkat/meerkat/simulate/CompletionsSetPinLaw", name := "inf", desc := "()D" } : Jvm.MethodName) method_2_code (0 : Nat) (Option.some Jvm.ClassFile.FieldType.double)]
set_option maxRecDepth 65536 in
theorem codes_eq : words1.filter isCode = codes1 := rfl
theorem w_codes : ∀ c ∈ words1.filter isCode, c.before args0 about1 = true := by
  rw [codes_eq]
  intro c hc
  simp only [codes1, List.mem_cons, List.not_mem_nil, or_false] at hc
  rcases hc with rfl | rfl | rfl | rfl | rfl | rfl | rfl | rfl | rfl | rfl | rfl | rfl
  · exact w_c0
  · exact w_c1
  · exact w_c2
  · exact w_c3
  · exact w_c4
  · exact w_c5
  · exact w_c6
  · exact w_c7
  · exact w_c8
  · exact w_c9
  · exact w_c10
  · exact w_c11
set_option maxRecDepth 65536 in
theorem w_t1 : (words1.take 24).all (fun c => isCode c || c.before args0 about1) = true := by decide +kernel
set_option maxRecDepth 65536 in
theorem w_t2 : ((words1.drop 24).take 24).all (fun c => isCode c || c.before args0 about1) = true := by decide +kernel
set_option maxRecDepth 65536 in
theorem w_t3 : ((words1.drop 24).drop 24).all (fun c => isCode c || c.before args0 about1) = true := by decide +kernel
theorem w_tables : (allAtoms (Jvm.Cond.code x code maxLocals ret :: tables_1)).before args0 about1 = true := by
  rw [allAtoms_all]
  show words1.all (fun c => c.before args0 about1) = true
  refine all_split ?_ w_codes
  rw [← List.take_append_drop 24 words1, List.all_append, w_t1, ← List.take_append_drop 24 (words1.drop 24), List.all_append, w_t2, w_t3]
  rfl
set_option maxRecDepth 65536 in
theorem w_case : (Jvm.Cond.and given_1 narrow_1).before args0 about1 = true := by decide +kernel
theorem w_applies : (headSpec (Jvm.Cond.code x code maxLocals ret :: tables_1) room_1).applies x e0.platform about1 = true :=
  (Spec.applies_iff w_frames).mpr ⟨w_running, w_runnable, w_alone, w_named, w_hears, w_ripe, w_room, w_tables⟩
theorem atStart : AtStart classFile x code maxLocals ret World_1 tables_1 room_1 Calls_1 rest_1 Pre_1 launch0 p0 e0 about1 theMethod args0 below0 :=
  ⟨lists_1, trivial, launch0.admits_env _ _ _, launch0.least_env, fairChoices_fair.cas, fairChoices_fair.clock, w_frames, w_args, w_heap, w_applies, trivial, trivial, w_case⟩
end start1
theorem witness_1 : WitnessClaimed_1 := ⟨start1.p0, start1.e0, start1.about1, start1.theMethod, start1.args0, start1.below0, start1.atStart⟩
end Jvm.Pilot.@@N@@
