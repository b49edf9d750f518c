import JvmDerived
import JvmDerived.Pilot.@@N@@Statement
import JvmDerived.Pilot.@@N@@Code
set_option linter.unusedVariables false
set_option linter.unusedSimpArgs false
namespace Jvm.Pilot.@@N@@
open Jvm Jvm.ClassFile Sem Op Lib Jvm.Free Jvm.Stand Jvm.LawKit Jvm.RoadKit Bundle Jvm.Pilot.@@N@@.Jvm.D
theorem own_selP {s : State} {args : Array Value} {y y' : MethodName} {C : String} (he : y'.cls = y.cls) (h' : (Cond.selects C y' y').before args s = true) (hpriv : s.PrivateAt y) (hinst : (Cond.instanceMethod y).before args s = true) (hy : y.cls ≠ "java/lang/invoke/MethodHandle" ∧ y.cls ≠ "java/lang/invoke/VarHandle") : (Cond.selects y.cls y y).before args s = true := by
  obtain ⟨c2, r2, m2, -, -, q3, -, kP, hkP, hkPi⟩ := Cond.selects_spec h'
  exact Jvm.Stand.selects_self_of_private (he ▸ findClass_of_methodNamed q3) hkP hkPi hpriv hinst hy
abbrev oR (f c s l : Nat) : Room := { frames := f, cells := c, slots := s, locals := l }
/-- what a walk owes from a state on: the run comes to a state of which G speaks -/
def own_Go (p : Program) (e : Env) (below : List Frame) (A : State) (G : State → Prop) : Prop := ∃ B, (∀ t, Steps p.tables e below B t → Steps p.tables e below A t) ∧ G B
theorem own_via {p : Program} {e : Env} {below : List Frame} {A B : State} {G : State → Prop} (h : ∀ t, Steps p.tables e below B t → Steps p.tables e below A t) (k : own_Go p e below B G) : own_Go p e below A G := by
  obtain ⟨C, h1, h2⟩ := k
  exact ⟨C, fun t q => h t (h1 t q), h2⟩
abbrev uu : Slot := .unset
theorem ov {p : Program} {e : Env} {below : List Frame} {A B : State} {G : State → Prop} (h : ∀ t, Steps p.tables e below B t → Steps p.tables e below A t) (k : own_Go p e below B G) : own_Go p e below A G := own_via h k
theorem own_done {p : Program} {e : Env} {below : List Frame} {A : State} {G : State → Prop} (g : G A) : own_Go p e below A G := ⟨A, fun _ q => q, g⟩
theorem own_bind {p : Program} {e : Env} {below : List Frame} {A : State} {G G' : State → Prop} (h : own_Go p e below A G) (k : ∀ B, G B → own_Go p e below B G') : own_Go p e below A G' := by
  obtain ⟨B, h1, h2⟩ := h
  exact own_via h1 (k B h2)
/-- the method ends here -/
def own_End (p : Program) (e : Env) (below : List Frame) (s : State) (Q : Option Value → Heap → List Loc → Prop) (C S : Nat) (B : State) : Prop :=
  ∃ s₂ o, Steps p.tables e below B s₂ ∧ s₂.status = .running ∧ Ended s₂ below o ∧ ∃ v L, o = .returned v ∧ Q v s₂.heap L ∧ FrameEnd s o s₂ L C S
theorem own_body {p : Program} {e : Env} {below : List Frame} {s A A' : State} {Q : Option Value → Heap → List Loc → Prop} {C S : Nat} (q : ∀ t, Steps p.tables e below A t → Steps p.tables e below A' t) (h : own_Go p e below A (own_End p e below s Q C S)) :
    ∃ s₂ o, Steps p.tables e below A' s₂ ∧ s₂.status = .running ∧ Ended s₂ below o ∧ ∃ v L, o = .returned v ∧ Q v s₂.heap L ∧ FrameEnd s o s₂ L C S := by
  obtain ⟨B, h1, s₂, o, h2, h3⟩ := h
  exact ⟨s₂, o, q _ (h1 _ h2), h3⟩
theorem oW {Z : State} {a0 : Array Value} (hw : ∀ d ∈ tables_1, d.before a0 Z = true) (i : Nat) {d : Jvm.Cond} (h : tables_1[i]? = some d) : d.before a0 Z = true := hw _ (List.mem_of_getElem? h)
section Short
variable {p : Program} {l : Launch} {e : Env} {R : Room} {s : State} {m : MethodId} {args : Array Value} {below : List Frame} {meth : Method} {c : Code} {T : State} {locs : List Loc} {cells slots : Nat} {G : State → Prop} {pc n : Nat} {Ls : Array Slot} {st : List Value}
theorem oAL (X : Stand p l e R s m args below meth c T locs cells slots) (hx : p.tables.exec = Jvm.exec) {k : Nat} {v : Value} (hd : decode c.code pc = .ok (.aload k, 2)) (hl : Ls[k]? = some (.val v)) (hv : v.isRef = true) (hn : n = pc + 2) (K : own_Go p e below (T.setTop (mkF m n Ls (v :: st))) G) : own_Go p e below (T.setTop (mkF m pc Ls st)) G := by
  subst hn; exact own_via (fun t k => XS.aload X.here hx rfl hd hl hv k) K
theorem oALN (X : Stand p l e R s m args below meth c T locs cells slots) (hx : p.tables.exec = Jvm.exec) {k : Fin 4} {v : Value} (hd : decode c.code pc = .ok (.aload_n k, 1)) (hl : Ls[k.val]? = some (.val v)) (hv : v.isRef = true) (hn : n = pc + 1) (K : own_Go p e below (T.setTop (mkF m n Ls (v :: st))) G) : own_Go p e below (T.setTop (mkF m pc Ls st)) G := by
  subst hn; exact own_via (fun t k => XS.aloadN X.here hx rfl hd hl hv k) K
theorem oIL (X : Stand p l e R s m args below meth c T locs cells slots) (hx : p.tables.exec = Jvm.exec) {k : Nat} {v : Int32} (hd : decode c.code pc = .ok (.iload k, 2)) (hl : Ls[k]? = some (.val (.int v))) (hn : n = pc + 2) (K : own_Go p e below (T.setTop (mkF m n Ls (.int v :: st))) G) : own_Go p e below (T.setTop (mkF m pc Ls st)) G := by
  subst hn; exact own_via (fun t k => XS.iload X.here hx rfl hd hl k) K
theorem oILN (X : Stand p l e R s m args below meth c T locs cells slots) (hx : p.tables.exec = Jvm.exec) {k : Fin 4} {v : Int32} (hd : decode c.code pc = .ok (.iload_n k, 1)) (hl : Ls[k.val]? = some (.val (.int v))) (hn : n = pc + 1) (K : own_Go p e below (T.setTop (mkF m n Ls (.int v :: st))) G) : own_Go p e below (T.setTop (mkF m pc Ls st)) G := by
  subst hn; exact own_via (fun t k => XS.iloadN X.here hx rfl hd hl k) K
theorem oIC (X : Stand p l e R s m args below meth c T locs cells slots) (hx : p.tables.exec = Jvm.exec) {i : Int} (z : Int32) (hd : decode c.code pc = .ok (.iconst i, 1)) (hz : Int32.ofInt i = z) (hn : n = pc + 1) (K : own_Go p e below (T.setTop (mkF m n Ls (.int z :: st))) G) : own_Go p e below (T.setTop (mkF m pc Ls st)) G := by
  subst hn hz; exact own_via (fun t k => XS.iconst X.here hx rfl hd k) K
theorem oBP (X : Stand p l e R s m args below meth c T locs cells slots) (hx : p.tables.exec = Jvm.exec) {i : Int} (z : Int32) (hd : decode c.code pc = .ok (.bipush i, 2)) (hz : (Int8.ofInt i).toInt32 = z) (hn : n = pc + 2) (K : own_Go p e below (T.setTop (mkF m n Ls (.int z :: st))) G) : own_Go p e below (T.setTop (mkF m pc Ls st)) G := by
  subst hn hz; exact own_via (fun t k => XS.bipush X.here hx rfl hd k) K
theorem oSP (X : Stand p l e R s m args below meth c T locs cells slots) (hx : p.tables.exec = Jvm.exec) {i : Int} (z : Int32) (hd : decode c.code pc = .ok (.sipush i, 3)) (hz : (Int16.ofInt i).toInt32 = z) (hn : n = pc + 3) (K : own_Go p e below (T.setTop (mkF m n Ls (.int z :: st))) G) : own_Go p e below (T.setTop (mkF m pc Ls st)) G := by
  subst hn hz; exact own_via (fun t k => XS.sipush X.here hx rfl hd k) K
theorem oNU (X : Stand p l e R s m args below meth c T locs cells slots) (hx : p.tables.exec = Jvm.exec) (hd : decode c.code pc = .ok (.aconst_null, 1)) (hn : n = pc + 1) (K : own_Go p e below (T.setTop (mkF m n Ls (.null :: st))) G) : own_Go p e below (T.setTop (mkF m pc Ls st)) G := by
  subst hn; exact own_via (fun t k => XS.aconstNull X.here hx rfl hd k) K
theorem oDU (X : Stand p l e R s m args below meth c T locs cells slots) (hx : p.tables.exec = Jvm.exec) {x : Value} (hd : decode c.code pc = .ok (.dup, 1)) (hc : x.category = 1) (hn : n = pc + 1) (K : own_Go p e below (T.setTop (mkF m n Ls (x :: x :: st))) G) : own_Go p e below (T.setTop (mkF m pc Ls (x :: st))) G := by
  subst hn; exact own_via (fun t k => XS.dup X.here hx rfl hd rfl hc k) K
theorem oPO (X : Stand p l e R s m args below meth c T locs cells slots) (hx : p.tables.exec = Jvm.exec) {x : Value} (hd : decode c.code pc = .ok (.pop, 1)) (hc : x.category = 1) (hn : n = pc + 1) (K : own_Go p e below (T.setTop (mkF m n Ls st)) G) : own_Go p e below (T.setTop (mkF m pc Ls (x :: st))) G := by
  subst hn; exact own_via (fun t k => XS.pop X.here hx rfl hd rfl hc k) K
theorem oGO (X : Stand p l e R s m args below meth c T locs cells slots) (hx : p.tables.exec = Jvm.exec) {o : Int} (hd : decode c.code pc = .ok (.goto o, 3)) (ho : 0 ≤ (pc : Int) + o) (hn : ((pc : Int) + o).toNat = n) (K : own_Go p e below (T.setTop (mkF m n Ls st)) G) : own_Go p e below (T.setTop (mkF m pc Ls st)) G :=
  own_via (fun t k => XS.goto X.here hx rfl (pc0 := pc) (pc' := n) rfl hd ho hn k) K
end Short
section Leaf
variable {p : Program} {l : Launch} {e : Env} {R : Room} {s : State} {m : MethodId} {args : Array Value} {below : List Frame} {meth : Method} {c : Code} {T : State} {locs : List Loc} {cells slots : Nat}
theorem own_leaf (X : Stand p l e R s m args below meth c T locs cells slots) (hx : p.tables.exec = Jvm.exec) (hlk : meth.locks = false) {pc : Nat} {Ls : Array Slot} {w : Value} {t : FieldType} {i : Instr} {rest : List Value} (hret : meth.sig.returnType = some t) (hn : narrow t w = w)
    (hi : (i = .ireturn ∧ (t = .int ∨ t = .boolean ∨ t = .byte ∨ t = .char ∨ t = .short) ∧ ∃ z, w = .int z) ∨ (i = .lreturn ∧ t = .long ∧ ∃ z, w = .long z) ∨ (i = .dreturn ∧ t = .double ∧ ∃ z, w = .double z) ∨ (i = .freturn ∧ t = .float ∧ ∃ z, w = .float z) ∨ (i = .areturn ∧ t.isReference = true ∧ w.isRef = true))
    (hd : decode c.code pc = .ok (i, 1)) {Q : Option Value → Heap → List Loc → Prop} {C S : Nat} (hC : cells ≤ C) (hS : slots ≤ S) (hq : Q (some w) T.heap locs) : own_Go p e below (T.setTop (mkF m pc Ls (w :: rest))) (own_End p e below s Q C S) := by
  obtain ⟨fs, hr, hrun, hended, hW, hsame⟩ := X.leave (v := some w) (fun h => by rw [hret] at h; cases h) hlk
  exact own_done ⟨_, _, retOut X hx hret hn hi hd hr, hrun, hended, _, _, rfl, hq, ⟨_, rfl⟩, hW, hsame.mono hC hS⟩
theorem own_leafV (X : Stand p l e R s m args below meth c T locs cells slots) (hx : p.tables.exec = Jvm.exec) (hlk : meth.locks = false) {pc : Nat} {Ls : Array Slot} (hret : meth.sig.returnType = none)
    (hd : decode c.code pc = .ok (.return_, 1)) {Q : Option Value → Heap → List Loc → Prop} {C S : Nat} (hC : cells ≤ C) (hS : slots ≤ S) (hq : Q none T.heap locs) : own_Go p e below (T.setTop (mkF m pc Ls [])) (own_End p e below s Q C S) := by
  obtain ⟨fs, hr, hrun, hended, hW, hsame⟩ := X.leave (v := none) (fun _ => rfl) hlk
  exact own_done ⟨_, _, X.returnOut hx hret hd hr, hrun, hended, _, _, rfl, hq, ⟨_, rfl⟩, hW, hsame.mono hC hS⟩
theorem own_getFR {Z : State} {a0 : Array Value} {h : Heap} (X : Stand p l e R s m args below meth c T locs cells slots) (hx : p.tables.exec = Jvm.exec) (hZ : Z.Warmed39 s.vm) {own R0 O n d : String} {index : Nat} (hown : s.vm.findClass own = some m.cls) (w : (Cond.fieldRef own index R0 n d).before a0 Z = true) (via : Via Z R0 O n d)
    (eT : T.heap = h) {a : Addr} {v : Value} (F : Fld Z h a O n d v) {g : JFrame} (hg : g.method = m) {rest : List Value} (hs : g.stack = .ref a :: rest) (hd : decode c.code g.pc = .ok (.getfield index, 3)) : ∃ T', Stand p l e R s m args below meth c T' locs cells slots ∧ T'.heap = h ∧ ∀ target, Steps p.tables e below (T'.setTop { g with pc := g.pc + 3, stack := v :: rest }) target → Steps p.tables e below (T.setTop g) target := by
  obtain ⟨cell, cf, k, i, f, h1, h2, h3, h4, -, -, h7⟩ := F
  have hW : Z.Warmed39 T.vm := wtrans hZ X.warmed
  have w1 := Cond.fieldRef_warmed39 hW w
  obtain ⟨c', k', i', f', hi, hr⟩ := Cond.fieldRef_spec (cur := m.cls) (show (Z.setVm T.vm).vm.findClass own = some m.cls by show T.vm.findClass own = _; rw [X.warmed.alike.findClass]; exact hown) w1
  obtain ⟨k'', hi', -⟩ := State.fieldFound?_setVm (s := Z) hW.alike (via _ h2)
  cases hi.symm.trans hi'
  refine ⟨T, X, eT, fun target hrest => ?_⟩
  subst hg
  jvm_step X.here [hx, hd, getfield.wp_ready (e := e) (s := T) (f := g) X.here.top hr h3 hs (by rw [eT]; exact h1) h4 h7]
  exact hrest
def own_EndW (p : Program) (e : Env) (below : List Frame) (s : State) (Q : Option Value → Heap → List Loc → Prop) (C S : Nat) (B : State) : Prop :=
  ∃ s₂ o, Steps p.tables e below B s₂ ∧ s₂.status = .running ∧ Ended s₂ below o ∧ ∃ v L, o = .returned v ∧ Q v s₂.heap L ∧ ReturnedEndW s o s₂ L C S
theorem own_bodyW {A A' : State} {Q : Option Value → Heap → List Loc → Prop} {C S : Nat} (q : ∀ t, Steps p.tables e below A t → Steps p.tables e below A' t) (h : own_Go p e below A (own_EndW p e below s Q C S)) :
    ∃ s₂ o, Steps p.tables e below A' s₂ ∧ s₂.status = .running ∧ Ended s₂ below o ∧ ∃ v L, o = .returned v ∧ Q v s₂.heap L ∧ ReturnedEndW s o s₂ L C S := by
  obtain ⟨B, h1, s₂, o, h2, h3⟩ := h
  exact ⟨s₂, o, q _ (h1 _ h2), h3⟩
theorem own_leafW {vm₁ : Vm} (X : Stand p l e R (s.setVm vm₁) m args below meth c T locs cells slots) (hx : p.tables.exec = Jvm.exec) (hlk : meth.locks = false) {n : Nat} (hS : s.Since vm₁ n) (hk : n ≤ T.heap.size) {pc : Nat} {Ls : Array Slot} {w : Value} {t : FieldType} {i : Instr} {rest : List Value} (hret : meth.sig.returnType = some t) (hn : narrow t w = w)
    (hi : (i = .ireturn ∧ (t = .int ∨ t = .boolean ∨ t = .byte ∨ t = .char ∨ t = .short) ∧ ∃ z, w = .int z) ∨ (i = .lreturn ∧ t = .long ∧ ∃ z, w = .long z) ∨ (i = .dreturn ∧ t = .double ∧ ∃ z, w = .double z) ∨ (i = .freturn ∧ t = .float ∧ ∃ z, w = .float z) ∨ (i = .areturn ∧ t.isReference = true ∧ w.isRef = true))
    (hd : decode c.code pc = .ok (i, 1)) {Q : Option Value → Heap → List Loc → Prop} {C S : Nat} (hC : cells ≤ C) (hS' : slots ≤ S) (hq : Q (some w) T.heap locs) : own_Go p e below (T.setTop (mkF m pc Ls (w :: rest))) (own_EndW p e below s Q C S) := by
  obtain ⟨fs, hr, hrun, hended, h1, h2, h3, hsame⟩ := X.leaveW hS hk (v := some w) (fun h => by rw [hret] at h; cases h) hlk
  exact own_done ⟨_, _, retOut X hx hret hn hi hd hr, hrun, hended, _, _, rfl, hq, h1, h2, h3, hsame.mono hC hS'⟩
theorem own_leafVW {vm₁ : Vm} (X : Stand p l e R (s.setVm vm₁) m args below meth c T locs cells slots) (hx : p.tables.exec = Jvm.exec) (hlk : meth.locks = false) {n : Nat} (hS : s.Since vm₁ n) (hk : n ≤ T.heap.size) {pc : Nat} {Ls : Array Slot} (hret : meth.sig.returnType = none)
    (hd : decode c.code pc = .ok (.return_, 1)) {Q : Option Value → Heap → List Loc → Prop} {C S : Nat} (hC : cells ≤ C) (hS' : slots ≤ S) (hq : Q none T.heap locs) : own_Go p e below (T.setTop (mkF m pc Ls [])) (own_EndW p e below s Q C S) := by
  obtain ⟨fs, hr, hrun, hended, h1, h2, h3, hsame⟩ := X.leaveW hS hk (v := none) (fun _ => rfl) hlk
  exact own_done ⟨_, _, X.returnOut hx hret hd hr, hrun, hended, _, _, rfl, hq, h1, h2, h3, hsame.mono hC hS'⟩
def own_bit (P : Prop) [Decidable P] : Int32 := if P then 1 else 0
theorem own_bit01 (P : Prop) [Decidable P] : own_bit P = 0 ∨ own_bit P = 1 := by unfold own_bit; split <;> simp
theorem own_bitT {P : Prop} [Decidable P] (h : P) : own_bit P = 1 := if_pos h
theorem own_bitF {P : Prop} [Decidable P] (h : ¬ P) : own_bit P = 0 := if_neg h
theorem own_bit0 {P : Prop} [Decidable P] : own_bit P = 0 ↔ ¬ P := by unfold own_bit; split <;> simp_all
theorem own_bit1 {P : Prop} [Decidable P] : own_bit P = 1 ↔ P := by unfold own_bit; split <;> simp_all
theorem own_bitne {P : Prop} [Decidable P] (h : P) : ¬ own_bit P = 0 := fun q => own_bit0.mp q h
theorem own_bits {P P' : Prop} [Decidable P] [Decidable P'] (h : P ↔ P') : own_bit P = own_bit P' := by unfold own_bit; simp [h]
theorem own_lt (x y : Int32) : x < y ↔ x.toInt < y.toInt := Int32.lt_iff_toInt_lt
theorem own_eq (x y : Int32) : x = y ↔ x.toInt = y.toInt := Int32.toInt_inj.symm
theorem own_ltL (x y : Int64) : x < y ↔ x.toInt < y.toInt := Int64.lt_iff_toInt_lt
theorem own_eqL (x y : Int64) : x = y ↔ x.toInt = y.toInt := Int64.toInt_inj.symm
theorem own_mask (x : Int32) : 0 ≤ (x &&& (2147483647 : Int32)).toInt := by
  have h : (x &&& (2147483647 : Int32)).toBitVec.msb = false := by
    show (x.toBitVec &&& 2147483647#32).msb = false
    have e : (2147483647#32).msb = false := by decide
    rw [BitVec.msb_and, e]; simp
  have := BitVec.toInt_eq_msb_cond (x &&& (2147483647 : Int32)).toBitVec
  rw [h] at this
  show 0 ≤ (x &&& (2147483647 : Int32)).toBitVec.toInt
  rw [this]
  simp only [Bool.false_eq_true, if_false]
  exact Int.natCast_nonneg _
theorem own_modm (x m : Int32) (hm : 0 < m.toInt) : 0 ≤ ((x &&& (2147483647 : Int32)) % m).toInt ∧ ((x &&& (2147483647 : Int32)) % m).toInt < m.toInt := by
  have h := own_mask x
  rw [Int32.toInt_mod, Int.tmod_eq_emod_of_nonneg h]
  exact ⟨Int.emod_nonneg _ (by omega), Int.emod_lt_of_pos _ hm⟩
theorem own_fb {x : Int32} (h : x = 0 ∨ x = 1) : fits .boolean (.int x) = true := by rcases h with rfl | rfl <;> decide
theorem own_eqI {t : Term} {k : Int32} {args : Array Value} {s : State} (h : (Cond.eq t (Term.int k)).value args s none s [] = some true) : t.eval args s none [] s = some (.int k) := by
  simp only [Cond.value] at h
  have hn : (Term.int k).eval args s none [] s = some (.int k) := rfl
  rw [hn] at h
  cases ht : t.eval args s none [] s with
  | none => simp [ht] at h
  | some v => cases v <;> simp [ht] at h ⊢ <;> first | exact h | (exact h.elim) | simp_all
theorem own_eqR {t u : Term} {a : Addr} {args : Array Value} {s : State} (h : (Cond.eq t u).value args s none s [] = some true) (hu : u.eval args s none [] s = some (.ref a)) : t.eval args s none [] s = some (.ref a) := by
  simp only [Cond.value] at h
  rw [hu] at h
  cases ht : t.eval args s none [] s with
  | none => simp [ht] at h
  | some v => cases v <;> simp [ht] at h ⊢ <;> first | exact h | (exact h.elim) | simp_all
theorem own_eqJ {t : Term} {k : Int64} {args : Array Value} {s : State} (h : (Cond.eq t (Term.long k)).value args s none s [] = some true) : t.eval args s none [] s = some (.long k) := by
  simp only [Cond.value] at h
  have hn : (Term.long k).eval args s none [] s = some (.long k) := rfl
  rw [hn] at h
  cases ht : t.eval args s none [] s with
  | none => simp [ht] at h
  | some v => cases v <;> simp [ht] at h ⊢ <;> first | exact h | (exact h.elim) | simp_all
theorem own_b1 {x : Int32} (h : x = 0 ∨ x = 1) : narrow .boolean (.int x) = .int x := by rcases h with rfl | rfl <;> rfl
end Leaf

def own_S0 (N : Int32) : (List Int32 × Int32 × List Int64) := (List.replicate 16 0, 0, List.replicate N.toNatClampNeg 0)
def own_give (i : Int32) (S : (List Int32 × Int32 × List Int64)) : (List Int32 × Int32 × List Int64) := if S.2.2.getD i.toNatClampNeg 0 = 0 then (S.1.set S.2.1.toNatClampNeg i, S.2.1 + 1, S.2.2) else S
def own_put (i : Int32) (y : Int64) (S : (List Int32 × Int32 × List Int64)) : (List Int32 × Int32 × List Int64) := (S.1, S.2.1, S.2.2.set i.toNatClampNeg y)
def own_set (i : Int32) (y : Int64) (S : (List Int32 × Int32 × List Int64)) : (List Int32 × Int32 × List Int64) := own_put i y (own_give i S)
def own_add (i : Int32) (y : Int64) (S : (List Int32 × Int32 × List Int64)) : (List Int32 × Int32 × List Int64) := own_put i ((own_give i S).2.2.getD i.toNatClampNeg 0 + y) (own_give i S)
def own_in (N i : Int32) : Prop := ¬ i < 0 ∧ i < N
def own_sm (k : Nat) (y : Int64) : Prop := 0 ≤ y.toInt ∧ y.toInt ≤ 8 * k
def own_N (N : Int32) : Prop := 0 < N.toInt ∧ N.toInt ≤ 6
def own_nzp (y : Int64) : Bool := decide (y ≠ 0)
def own_ok (N : Int32) (k : Nat) (S : (List Int32 × Int32 × List Int64)) : Prop := S.1.length = 16 ∧ S.2.2.length = N.toNatClampNeg ∧ ¬ S.2.1 < 0 ∧ S.2.1.toInt ≤ k ∧ S.2.1.toNatClampNeg = S.2.2.countP own_nzp ∧ ∀ q, own_sm k (S.2.2.getD q 0)
theorem own_getset {α : Type} (l : List α) (i q : Nat) (v d : α) : (l.set i v).getD q d = if i = q ∧ i < l.length then v else l.getD q d := by
  simp only [List.getD_eq_getElem?_getD, List.getElem?_set]
  by_cases h : i = q
  · subst h
    by_cases h2 : i < l.length
    · simp [h2]
    · simp [h2]
  · simp [h]
theorem own_n1 {n : Int32} {k : Nat} (h0 : ¬ n < 0) (h1 : n.toInt ≤ k) (hk : k ≤ 100) : (n + 1).toInt = n.toInt + 1 ∧ ¬ n + 1 < 0 ∧ n.toNatClampNeg = n.toInt.toNat ∧ 0 ≤ n.toInt := by
  have z : 0 ≤ n.toInt := by
    rw [Int32.lt_iff_toInt_lt] at h0
    have a : (0 : Int32).toInt = 0 := rfl
    omega
  have e : (n + 1).toInt = n.toInt + 1 := by
    rw [Int32.toInt_add]
    have a : (1 : Int32).toInt = 1 := rfl
    rw [a]; exact Int.bmod_eq_of_le (by omega) (by omega)
  refine ⟨e, ?_, rfl, z⟩
  rw [Int32.lt_iff_toInt_lt, e]
  have a : (0 : Int32).toInt = 0 := rfl
  omega
theorem own_iN {N i : Int32} (h : own_in N i) : i.toNatClampNeg < N.toNatClampNeg := by
  have h1 := h.1; have h2 := h.2
  rw [own_lt] at h1 h2
  have a : (0 : Int32).toInt = 0 := rfl
  show i.toInt.toNat < N.toInt.toNat
  omega
theorem own_okm {N : Int32} {k k' : Nat} {S : (List Int32 × Int32 × List Int64)} (h : own_ok N k S) (q : k ≤ k') : own_ok N k' S := by
  obtain ⟨a, b, c, d, e, f⟩ := h
  exact ⟨a, b, c, by omega, e, fun i => ⟨(f i).1, by have := (f i).2; omega⟩⟩
theorem own_ok0 (N : Int32) : own_ok N 0 (own_S0 N) := by
  refine ⟨by simp [own_S0], by simp [own_S0], by show ¬ (0 : Int32) < 0; decide, by show (0 : Int32).toInt ≤ _; decide, ?_, fun q => ?_⟩
  · show 0 = List.countP own_nzp (List.replicate _ 0)
    rw [List.countP_replicate]; rfl
  · have : (own_S0 N).2.2.getD q 0 = 0 := by
      show ((List.replicate N.toNatClampNeg (0 : Int64)).getD q 0) = 0
      rw [List.getD_eq_getElem?_getD, List.getElem?_replicate]; split <;> rfl
    rw [this]; exact ⟨by decide, by simp⟩
theorem own_givex (i : Int32) (S : (List Int32 × Int32 × List Int64)) : (own_give i S).2.2 = S.2.2 := by unfold own_give; split <;> rfl
/-- a sense is given a weight that isn't zero -/
theorem own_okput {N : Int32} {k : Nat} {S : (List Int32 × Int32 × List Int64)} {i : Int32} {y : Int64} (hk : k ≤ 14) (hi : own_in N i) (h : own_ok N k S) (hy : own_sm (k + 1) y) (hn : y ≠ 0) : own_ok N (k + 1) (own_put i y (own_give i S)) := by
  obtain ⟨a, b, c, d, e, f⟩ := h
  have hl : i.toNatClampNeg < S.2.2.length := b ▸ own_iN hi
  have fx : ∀ q, own_sm (k + 1) ((S.2.2.set i.toNatClampNeg y).getD q 0) := fun q => by
    rw [own_getset]; split
    · exact hy
    · exact ⟨(f q).1, by have := (f q).2; omega⟩
  have ct := List.countP_set (p := own_nzp) (l := S.2.2) (a := y) hl
  have hpy : own_nzp y = true := by simp [own_nzp, hn]
  have hg : S.2.2.getD i.toNatClampNeg 0 = S.2.2[i.toNatClampNeg] := by simp [List.getD_eq_getElem?_getD, hl]
  obtain ⟨n1, n2, n3, n4⟩ := own_n1 c d (by omega)
  have m1 : (S.2.1 + 1).toNatClampNeg = (S.2.1 + 1).toInt.toNat := rfl
  by_cases hz : S.2.2.getD i.toNatClampNeg 0 = 0
  · have eg : own_give i S = (S.1.set S.2.1.toNatClampNeg i, S.2.1 + 1, S.2.2) := if_pos hz
    rw [eg]
    refine ⟨by simpa [own_put] using a, by simpa [own_put] using b, n2, by show (S.2.1 + 1).toInt ≤ _; omega, ?_, fx⟩
    show (S.2.1 + 1).toNatClampNeg = List.countP own_nzp (S.2.2.set i.toNatClampNeg y)
    have hpz : own_nzp S.2.2[i.toNatClampNeg] = false := by rw [← hg, hz]; rfl
    rw [ct, hpy, hpz, m1, n1]
    simp only [if_true, Bool.false_eq_true, if_false]
    omega
  · have eg : own_give i S = S := if_neg hz
    rw [eg]
    refine ⟨a, by simpa [own_put] using b, c, by show S.2.1.toInt ≤ _; omega, ?_, fx⟩
    show S.2.1.toNatClampNeg = List.countP own_nzp (S.2.2.set i.toNatClampNeg y)
    have hpz : own_nzp S.2.2[i.toNatClampNeg] = true := by rw [← hg]; simpa [own_nzp] using hz
    have hp : 0 < S.2.2.countP own_nzp := List.countP_pos_iff.mpr ⟨_, List.getElem_mem hl, hpz⟩
    rw [ct, hpy, hpz]
    simp only [if_true]
    omega
theorem own_okset {N : Int32} {k : Nat} {S : (List Int32 × Int32 × List Int64)} {i : Int32} {y : Int64} (hk : k ≤ 14) (hi : own_in N i) (h : own_ok N k S) (hy : own_sm 1 y) (hn : y ≠ 0) : own_ok N (k + 1) (own_set i y S) :=
  own_okput hk hi h ⟨hy.1, by have := hy.2; omega⟩ hn
theorem own_sum {k : Nat} {x y : Int64} (hk : k ≤ 14) (hx : own_sm k x) (hy : own_sm 1 y) (hn : y ≠ 0) : own_sm (k + 1) (x + y) ∧ x + y ≠ 0 := by
  have e : (x + y).toInt = x.toInt + y.toInt := by
    have h1 := hx.1; have h2 := hx.2; have h3 := hy.1; have h4 := hy.2
    rw [Int64.toInt_add]; exact Int.bmod_eq_of_le (by omega) (by omega)
  have h1 := hx.1; have h2 := hx.2; have h3 := hy.1; have h4 := hy.2
  have n : y.toInt ≠ 0 := fun h => hn (Int64.toInt_inj.mp (by rw [h]; rfl))
  refine ⟨⟨by rw [e]; omega, by rw [e]; omega⟩, fun q => ?_⟩
  rw [q] at e
  have z : (0 : Int64).toInt = 0 := rfl
  omega
theorem own_okadd {N : Int32} {k : Nat} {S : (List Int32 × Int32 × List Int64)} {i : Int32} {y : Int64} (hk : k ≤ 14) (hi : own_in N i) (h : own_ok N k S) (hy : own_sm 1 y) (hn : y ≠ 0) : own_ok N (k + 1) (own_add i y S) := by
  have q := own_sum hk (x := (own_give i S).2.2.getD i.toNatClampNeg 0) (by rw [own_givex]; exact h.2.2.2.2.2 _) hy hn
  exact own_okput hk hi h q.1 q.2
theorem own_hasput {N : Int32} {k : Nat} {S : (List Int32 × Int32 × List Int64)} {i : Int32} {y : Int64} (hi : own_in N i) (h : own_ok N k S) (hn : y ≠ 0) (j : Nat) : (own_put i y (own_give i S)).2.2.getD j 0 ≠ 0 ↔ i.toNatClampNeg = j ∨ S.2.2.getD j 0 ≠ 0 := by
  show ((own_give i S).2.2.set i.toNatClampNeg y).getD j 0 ≠ 0 ↔ _
  rw [own_givex, own_getset]
  have hl : i.toNatClampNeg < S.2.2.length := h.2.1 ▸ own_iN hi
  by_cases e : i.toNatClampNeg = j
  · rw [if_pos ⟨e, hl⟩]; exact ⟨fun _ => Or.inl e, fun _ => hn⟩
  · rw [if_neg (fun q => e q.1)]; exact ⟨Or.inr, fun q => q.resolve_left e⟩
/-- give: what the law's own helper does -/
def own_w (b : Int32) : Int32 := (1 : Int32) + (((b.toUInt32 >>> ((1 : Int32) &&& 31).toUInt32).toInt32) &&& (7 : Int32))
def own_gv (i b : Int32) (S : (List Int32 × Int32 × List Int64)) : (List Int32 × Int32 × List Int64) := if (b &&& (1 : Int32)) = 0 then own_set i (own_w b).toInt64 S else own_add i (own_w b).toInt64 S
theorem own_b7 (x : Int32) : (0 ≤ ((1 : Int32) + (x &&& (7 : Int32))).toInt64.toInt ∧ ((1 : Int32) + (x &&& (7 : Int32))).toInt64.toInt ≤ 8 * (1 : Nat)) ∧ ((1 : Int32) + (x &&& (7 : Int32))).toInt64 ≠ 0 := by
  have h : (x &&& 7).toBitVec.toNat < 8 := by
    simp only [Int32.toBitVec_and, BitVec.toNat_and]
    exact Nat.lt_succ_of_le Nat.and_le_right
  have e : (x &&& 7) = Int32.ofNat (x &&& 7).toBitVec.toNat := by
    apply Int32.toBitVec_inj.mp
    show _ = BitVec.ofNat 32 _
    rw [BitVec.ofNat_toNat]; simp
  rw [e]
  exact (by decide +kernel : ∀ k : Fin 8, (0 ≤ ((1 : Int32) + (Int32.ofNat k.val)).toInt64.toInt ∧ ((1 : Int32) + (Int32.ofNat k.val)).toInt64.toInt ≤ 8 * (1 : Nat)) ∧ ((1 : Int32) + (Int32.ofNat k.val)).toInt64 ≠ 0) ⟨_, h⟩
theorem own_wy (b : Int32) : own_sm 1 (own_w b).toInt64 ∧ (own_w b).toInt64 ≠ 0 := own_b7 _
theorem own_okgv {N : Int32} {k : Nat} {S : (List Int32 × Int32 × List Int64)} {i b : Int32} (hk : k ≤ 14) (hi : own_in N i) (h : own_ok N k S) : own_ok N (k + 1) (own_gv i b S) := by
  unfold own_gv; split
  · exact own_okset hk hi h (own_wy b).1 (own_wy b).2
  · exact own_okadd hk hi h (own_wy b).1 (own_wy b).2
theorem own_hasgv {N : Int32} {k : Nat} {S : (List Int32 × Int32 × List Int64)} {i b : Int32} (hk : k ≤ 14) (hi : own_in N i) (h : own_ok N k S) (j : Nat) : (own_gv i b S).2.2.getD j 0 ≠ 0 ↔ i.toNatClampNeg = j ∨ S.2.2.getD j 0 ≠ 0 := by
  unfold own_gv; split
  · exact own_hasput hi h (own_wy b).2 j
  · exact own_hasput hi h (own_sum hk (x := (own_give i S).2.2.getD i.toNatClampNeg 0) (by rw [own_givex]; exact h.2.2.2.2.2 _) (own_wy b).1 (own_wy b).2).2 j
def own_go (c q i b : Int32) (S : (List Int32 × Int32 × List Int64)) : (List Int32 × Int32 × List Int64) := if q < c then own_gv i b S else S
theorem own_goT {c q i b : Int32} {S : (List Int32 × Int32 × List Int64)} (h : q < c) : own_go c q i b S = own_gv i b S := if_pos h
theorem own_goF {c q i b : Int32} {S : (List Int32 × Int32 × List Int64)} (h : ¬ q < c) : own_go c q i b S = S := if_neg h
theorem own_okgo {N : Int32} {k : Nat} {S : (List Int32 × Int32 × List Int64)} (c q : Int32) {i : Int32} (b : Int32) (hk : k ≤ 14) (hi : own_in N i) (h : own_ok N k S) : own_ok N (k + 1) (own_go c q i b S) := by
  unfold own_go; split
  · exact own_okgv hk hi h
  · exact own_okm h (by omega)
theorem own_hasgo {N : Int32} {k : Nat} {S : (List Int32 × Int32 × List Int64)} (c q : Int32) {i : Int32} (b : Int32) (hk : k ≤ 14) (hi : own_in N i) (h : own_ok N k S) (j : Nat) : (own_go c q i b S).2.2.getD j 0 ≠ 0 ↔ (q < c ∧ i.toNatClampNeg = j) ∨ S.2.2.getD j 0 ≠ 0 := by
  unfold own_go; split
  · rename_i e; rw [own_hasgv hk hi h j]; simp [e]
  · rename_i e; simp [e]
/-- the nonzero places below j, in order -/
def own_so (x : List Int64) (j : Nat) : List Int32 := ((List.range j).filter (fun q => own_nzp (x.getD q 0))).map Int32.ofNat
theorem own_so0 (x : List Int64) : own_so x 0 = [] := rfl
theorem own_soP {x : List Int64} {j : Nat} (h : x.getD j 0 ≠ 0) : own_so x (j + 1) = own_so x j ++ [Int32.ofNat j] := by
  have e : own_nzp (x.getD j 0) = true := by simpa [own_nzp] using h
  simp only [own_so, List.range_succ, List.filter_append, List.map_append]
  congr 1
  simp only [List.filter_cons, List.filter_nil, e, if_true, List.map_cons, List.map_nil]
theorem own_soN {x : List Int64} {j : Nat} (h : x.getD j 0 = 0) : own_so x (j + 1) = own_so x j := by
  have e : own_nzp (x.getD j 0) = false := by rw [h]; rfl
  simp only [own_so, List.range_succ, List.filter_append, List.map_append]
  simp only [List.filter_cons, List.filter_nil, e, Bool.false_eq_true, if_false, List.map_nil, List.append_nil]
theorem own_sole (x : List Int64) (j k : Nat) : ∃ l, own_so x (j + k) = own_so x j ++ l := by
  induction k with
  | zero => exact ⟨[], by simp⟩
  | succ k ih =>
    obtain ⟨l, hl⟩ := ih
    by_cases h : x.getD (j + k) 0 = 0
    · exact ⟨l, by rw [← Nat.add_assoc, own_soN h, hl]⟩
    · exact ⟨l ++ [Int32.ofNat (j + k)], by rw [← Nat.add_assoc, own_soP h, hl, List.append_assoc]⟩
theorem own_sot {x : List Int64} {j N : Nat} (h : j ≤ N) (e : (own_so x j).length = (own_so x N).length) : own_so x j = own_so x N := by
  obtain ⟨l, hl⟩ := own_sole x j (N - j)
  rw [show j + (N - j) = N by omega] at hl
  rw [hl] at e ⊢
  have : l = [] := List.eq_nil_of_length_eq_zero (by rw [List.length_append] at e; omega)
  rw [this, List.append_nil]
theorem own_soc (x : List Int64) : (own_so x x.length).length = x.countP own_nzp := by
  have e : x = (List.range x.length).map (fun q => x.getD q 0) := by
    apply List.ext_getElem
    · simp
    · intro n h1 h2; simp [List.getD_eq_getElem?_getD, h1]
  rw [own_so, List.length_map, ← List.countP_eq_length_filter]
  conv => rhs; rw [e, List.countP_map]
  rfl
theorem own_sos {x : List Int64} {j : Nat} (h : x.length ≤ j) : own_so x j = own_so x x.length := by
  induction j with
  | zero => rw [Nat.le_zero.mp h]
  | succ j ih =>
    by_cases e : x.length = j + 1
    · rw [e]
    · have hj : x.length ≤ j := by omega
      rw [own_soN (by simp [List.getD_eq_getElem?_getD, hj]), ih hj]
theorem own_sol (x : List Int64) (j : Nat) : (own_so x j).length ≤ j := by
  rw [own_so, List.length_map]; exact Nat.le_trans (List.length_filter_le _ _) (by simp)
def own_P (c a0 a1 a2 a3 a4 j : Int32) : Prop := ((0 : Int32) < c ∧ a0 = j) ∨ ((1 : Int32) < c ∧ a1 = j) ∨ ((2 : Int32) < c ∧ a2 = j) ∨ ((3 : Int32) < c ∧ a3 = j) ∨ ((4 : Int32) < c ∧ a4 = j)
instance (c a0 a1 a2 a3 a4 j : Int32) : Decidable (own_P c a0 a1 a2 a3 a4 j) := by unfold own_P; infer_instance
def own_E (c a0 a1 a2 a3 a4 : Int32) (j : Nat) : List Int32 := ((List.range j).filter (fun q => decide (own_P c a0 a1 a2 a3 a4 (Int32.ofNat q)))).map Int32.ofNat
theorem own_EP {c a0 a1 a2 a3 a4 : Int32} {j : Nat} (h : own_P c a0 a1 a2 a3 a4 (Int32.ofNat j)) : own_E c a0 a1 a2 a3 a4 (j + 1) = own_E c a0 a1 a2 a3 a4 j ++ [Int32.ofNat j] := by
  simp only [own_E, List.range_succ, List.filter_append, List.map_append]
  congr 1
  simp only [List.filter_cons, List.filter_nil, h, decide_true, if_true, List.map_cons, List.map_nil]
theorem own_EN {c a0 a1 a2 a3 a4 : Int32} {j : Nat} (h : ¬ own_P c a0 a1 a2 a3 a4 (Int32.ofNat j)) : own_E c a0 a1 a2 a3 a4 (j + 1) = own_E c a0 a1 a2 a3 a4 j := by
  simp only [own_E, List.range_succ, List.filter_append, List.map_append]
  simp only [List.filter_cons, List.filter_nil, h, decide_false, Bool.false_eq_true, if_false, List.map_nil, List.append_nil]
theorem own_El (c a0 a1 a2 a3 a4 : Int32) (j : Nat) : (own_E c a0 a1 a2 a3 a4 j).length ≤ j := by
  rw [own_E, List.length_map]; exact Nat.le_trans (List.length_filter_le _ _) (by simp)
theorem own_ofn {N i : Int32} (hN : own_N N) (h : own_in N i) (j : Nat) (hj : j < 6) : i.toNatClampNeg = j ↔ i = Int32.ofNat j := by
  have h1 := h.1; have h2 := h.2
  rw [own_lt] at h1 h2
  have a : (0 : Int32).toInt = 0 := rfl
  have e : (Int32.ofNat j).toInt = j := Int32.toInt_ofNat_of_lt (by omega)
  rw [own_eq, e]
  show i.toInt.toNat = j ↔ _
  omega
theorem own_fin {N c a0 a1 a2 a3 a4 b0 b1 b2 b3 b4 : Int32} (hN : own_N N) (h0 : own_in N a0) (h1 : own_in N a1) (h2 : own_in N a2) (h3 : own_in N a3) (h4 : own_in N a4) :
    own_so (own_go c 4 a4 b4 (own_go c 3 a3 b3 (own_go c 2 a2 b2 (own_go c 1 a1 b1 (own_go c 0 a0 b0 (own_S0 N)))))).2.2 N.toNatClampNeg = own_E c a0 a1 a2 a3 a4 6 := by
  have k1 := own_okgo c 0 b0 (by omega) h0 (own_ok0 N)
  have k2 := own_okgo c 1 b1 (by omega) h1 k1
  have k3 := own_okgo c 2 b2 (by omega) h2 k2
  have k4 := own_okgo c 3 b3 (by omega) h3 k3
  have k5 := own_okgo c 4 b4 (by omega) h4 k4
  have hN6 : N.toNatClampNeg ≤ 6 := by
    show N.toInt.toNat ≤ 6
    have := hN.2; omega
  rw [← k5.2.1, ← own_sos (j := 6) (by rw [k5.2.1]; exact hN6)]
  unfold own_so own_E
  congr 1
  apply List.filter_congr
  intro j hj
  have hj6 : j < 6 := List.mem_range.mp hj
  unfold own_nzp
  apply decide_eq_decide.mpr
  rw [own_hasgo c 4 b4 (by omega) h4 k4, own_hasgo c 3 b3 (by omega) h3 k3, own_hasgo c 2 b2 (by omega) h2 k2, own_hasgo c 1 b1 (by omega) h1 k1, own_hasgo c 0 b0 (by omega) h0 (own_ok0 N)]
  have z : (own_S0 N).2.2.getD j 0 = 0 := by
    show ((List.replicate N.toNatClampNeg (0 : Int64)).getD j 0) = 0
    rw [List.getD_eq_getElem?_getD, List.getElem?_replicate]; split <;> rfl
  rw [z, own_ofn hN h0 j hj6, own_ofn hN h1 j hj6, own_ofn hN h2 j hj6, own_ofn hN h3 j hj6, own_ofn hN h4 j hj6]
  unfold own_P
  constructor
  · rintro (h | h | h | h | h | h)
    · exact Or.inr (Or.inr (Or.inr (Or.inr h)))
    · exact Or.inr (Or.inr (Or.inr (Or.inl h)))
    · exact Or.inr (Or.inr (Or.inl h))
    · exact Or.inr (Or.inl h)
    · exact Or.inl h
    · exact absurd rfl h
  · rintro (h | h | h | h | h)
    · exact Or.inr (Or.inr (Or.inr (Or.inr (Or.inl h))))
    · exact Or.inr (Or.inr (Or.inr (Or.inl h)))
    · exact Or.inr (Or.inr (Or.inl h))
    · exact Or.inr (Or.inl h)
    · exact Or.inl h
theorem own_nof {N : Int32} {k : Nat} {S : (List Int32 × Int32 × List Int64)} (h : own_ok N k S) (hk : k ≤ 14) : S.2.1 = Int32.ofNat (own_so S.2.2 N.toNatClampNeg).length := by
  obtain ⟨a, b, c, d, e, f⟩ := h
  rw [← b, own_soc, ← e]
  obtain ⟨n1, n2, n3, n4⟩ := own_n1 c d (by omega)
  rw [own_eq, Int32.toInt_ofNat_of_lt (by omega), n3]; omega
theorem own_nN (x : Int32) : own_N ((1 : Int32) + ((x &&& (2147483647 : Int32)) % (6 : Int32))) := by
  have h := own_modm x 6 (by decide)
  have e6 : (6 : Int32).toInt = 6 := rfl
  have e1 : (1 : Int32).toInt = 1 := rfl
  have e : ((1 : Int32) + ((x &&& (2147483647 : Int32)) % (6 : Int32))).toInt = 1 + ((x &&& (2147483647 : Int32)) % (6 : Int32)).toInt := by
    rw [Int32.toInt_add, e1]; exact Int.bmod_eq_of_le (by omega) (by omega)
  exact ⟨by rw [e]; omega, by rw [e]; omega⟩
theorem own_b255L (x : Int64) : 0 ≤ ((x &&& (255 : Int64)).toInt32).toInt := by
  have h : (x &&& 255).toBitVec.toNat < 256 := by
    simp only [Int64.toBitVec_and, BitVec.toNat_and]
    exact Nat.lt_succ_of_le Nat.and_le_right
  have e : (x &&& 255) = Int64.ofNat (x &&& 255).toBitVec.toNat := by
    apply Int64.toBitVec_inj.mp
    show _ = BitVec.ofNat 64 _
    rw [BitVec.ofNat_toNat]; simp
  rw [e]
  exact (by decide +kernel : ∀ k : Fin 256, 0 ≤ ((Int64.ofNat k.val).toInt32).toInt) ⟨_, h⟩
theorem own_sN {N : Int32} (hN : own_N N) (x : Int64) : own_in N (((x &&& (255 : Int64)).toInt32) % N) := by
  have h := own_b255L x
  have e : (((x &&& (255 : Int64)).toInt32) % N).toInt = ((x &&& (255 : Int64)).toInt32).toInt % N.toInt := by
    rw [Int32.toInt_mod, Int.tmod_eq_emod_of_nonneg h]
  have a : (0 : Int32).toInt = 0 := rfl
  have h1 := Int.emod_nonneg ((x &&& (255 : Int64)).toInt32).toInt (b := N.toInt) (by have := hN.1; omega)
  have h2 := Int.emod_lt_of_pos ((x &&& (255 : Int64)).toInt32).toInt hN.1
  exact ⟨by rw [own_lt, e, a]; omega, by rw [own_lt, e]; omega⟩
theorem own_Nn {N : Int32} (hN : own_N N) : ¬ N < 0 ∧ ¬ N = 0 ∧ N.toNatClampNeg ≤ 6 := by
  have a : (0 : Int32).toInt = 0 := rfl
  have h1 := hN.1; have h2 := hN.2
  refine ⟨by rw [own_lt, a]; omega, by rw [own_eq, a]; omega, ?_⟩
  show N.toInt.toNat ≤ 6
  omega

def own_dv (y : Int64) : Value := .double (FP.l2d y)
theorem own_smB {k : Nat} {y : Int64} (h : own_sm k y) (hk : k ≤ 100) : B53 y := by
  have h1 := h.1; have h2 := h.2
  constructor <;> omega
theorem own_mgI (l : List Int32) (n : Nat) : (l.map Value.int).getD n (.int 0) = .int (l.getD n 0) := by rw [List.getD_eq_getElem?_getD, List.getD_eq_getElem?_getD, List.getElem?_map]; cases l[n]? <;> rfl
theorem own_mgD (l : List Int64) (n : Nat) : (l.map own_dv).getD n (.double (FP.l2d 0)) = .double (FP.l2d (l.getD n 0)) := by rw [List.getD_eq_getElem?_getD, List.getD_eq_getElem?_getD, List.getElem?_map]; cases l[n]? <;> rfl
theorem own_msI (l : List Int32) (n : Nat) (v : Int32) : (l.map Value.int).set n (.int v) = (l.set n v).map Value.int := by simp [List.map_set]
theorem own_msD (l : List Int64) (n : Nat) (v : Int64) : (l.map own_dv).set n (.double (FP.l2d v)) = (l.set n v).map own_dv := by simp [List.map_set, own_dv]
theorem own_nz {k : Nat} {y : Int64} (h : own_sm k y) (hk : k ≤ 100) : cmpValue (FP.dcmp (FP.l2d y) FP.dconst0) .l = 0 ↔ y = 0 := by
  have e : FP.dconst0 = FP.l2d 0 := by decide +kernel
  rw [e, dcmpV_w (own_smB h hk) (by constructor <;> decide)]
  have h1 := h.1
  simp only [lcmpW, Int64.lt_iff_toInt_lt, ← Int64.toInt_inj]
  have a : (0 : Int64).toInt = 0 := rfl
  rw [a]
  by_cases q : y.toInt = 0
  · simp [q]
  · have : ¬ y.toInt < 0 := by omega
    have p : 0 < y.toInt := by omega
    simp only [q, this, p, if_true, if_false, iff_false]; decide
theorem own_nzS {N : Int32} {S : List Int32 × Int32 × List Int64} (h : own_ok N 14 S) (i : Nat) : cmpValue (FP.dcmp (FP.l2d (S.2.2.getD i 0)) FP.dconst0) .l = 0 ↔ S.2.2.getD i 0 = 0 := own_nz (h.2.2.2.2.2 i) (by omega)
theorem own_givP {i : Int32} {S : List Int32 × Int32 × List Int64} (h : S.2.2.getD i.toNatClampNeg 0 = 0) : own_give i S = (S.1.set S.2.1.toNatClampNeg i, S.2.1 + 1, S.2.2) := if_pos h
theorem own_givN {i : Int32} {S : List Int32 × Int32 × List Int64} (h : ¬ S.2.2.getD i.toNatClampNeg 0 = 0) : own_give i S = S := if_neg h
theorem own_nb {N : Int32} {S : List Int32 × Int32 × List Int64} (h : own_ok N 14 S) : ¬ S.2.1 < 0 ∧ S.2.1 < (16 : Int32) := by
  obtain ⟨a, b, c, d, e, f⟩ := h
  refine ⟨c, ?_⟩
  rw [Int32.lt_iff_toInt_lt]
  have z : (16 : Int32).toInt = 16 := rfl
  omega
theorem own_n16 {N : Int32} {S : List Int32 × Int32 × List Int64} (h : own_ok N 14 S) : ¬ S.2.1 = (16 : Int32) := fun q => by
  have := (own_nb h).2
  rw [q] at this; exact absurd this (by decide)
theorem own_gl {N : Int32} {S : List Int32 × Int32 × List Int64} (h : own_ok N 14 S) : S.2.1.toNatClampNeg < (S.1.map Value.int).length := by
  have := (own_nb h).2
  rw [List.length_map, h.1]
  have e : S.2.1.toNatClampNeg = S.2.1.toInt.toNat := rfl
  rw [Int32.lt_iff_toInt_lt] at this
  have z : (16 : Int32).toInt = 16 := rfl
  omega
theorem own_nnA {w : UInt64} {a y : Int64} (hw : w = FP.l2d y) (ha : B53 a) (hy : B53 y) : Jvm.Free.Fl.NoNaN64 (FP.dadd (FP.l2d a) w) := nn_w (by rw [hw]; exact dadd_w ha hy)
theorem own_S0d (N : Int32) : (own_S0 N).2.2.map own_dv = [] ++ List.replicate N.toNatClampNeg (.double (FP.l2d 0)) := by simp [own_S0, own_dv]
theorem own_gvT {i b : Int32} {S : List Int32 × Int32 × List Int64} (h : (b &&& (1 : Int32)) = 0) : own_gv i b S = own_set i (own_w b).toInt64 S := if_pos h
theorem own_gvF {i b : Int32} {S : List Int32 × Int32 × List Int64} (h : ¬ (b &&& (1 : Int32)) = 0) : own_gv i b S = own_add i (own_w b).toInt64 S := if_neg h
theorem own_lx {a b c : Int32} (q : a.toInt ≤ b.toInt) (h : ¬ a < c) : ¬ b < c := by rw [own_lt] at *; omega
/-- one value more behind a list in an int array -/
theorem own_stepI {Z : State} {h h1 : Heap} {a : Addr} {k : ClassId} {z : Int32} {l : List Int32} {v kk : Int32} {cl : Cell} (Ar : Arr Z h a cl .int) (q1 : cl.cls = k) (S : cl.slots.size = z.toNatClampNeg) (M : ¬ z < 0) (H : Has cl (l.map Value.int ++ List.replicate 1 (Value.int 0)) (.int 0)) (G : ∀ j, j < cl.slots.size → fits .int ((l.map Value.int ++ List.replicate 1 (Value.int 0)).getD j (.int 0)) = true) (W : Wr h h1 a kk.toNatClampNeg (.int v)) (hk : kk = Int32.ofNat l.length) (hl : l.length ≤ 6) : Arv Z h1 a k .int z ((l ++ [v]).map Value.int) (.int 0) := by
  have q := Arv.set Ar q1 S M H G rfl W l.length (clamp_of hk (by omega)) (by simp)
  rw [List.set_append_right _ _ (by simp)] at q
  simpa using q
theorem own_k0 {kk : Int32} {l : Nat} (hk : kk = Int32.ofNat l) (hl : l ≤ 6) : ¬ kk < 0 := by
  rw [own_lt, hk, Int32.toInt_ofNat_of_lt (by omega)]
  have a : (0 : Int32).toInt = 0 := rfl
  omega
theorem own_k6 {kk : Int32} {l : Nat} (hk : kk = Int32.ofNat l) (hl : l < 6) : ¬ kk < 0 ∧ kk < (6 : Int32) := by
  refine ⟨own_k0 hk (by omega), ?_⟩
  rw [own_lt, hk, Int32.toInt_ofNat_of_lt (by omega)]
  have a : (6 : Int32).toInt = 6 := rfl
  omega
theorem own_sox {x : List Int64} {j N : Nat} {k nn : Int32} (hj : j ≤ N) (hN : N ≤ 6) (hk : k = Int32.ofNat (own_so x j).length) (hn : nn = Int32.ofNat (own_so x N).length) (h : ¬ k < nn) : own_so x j = own_so x N := by
  have l1 := own_sol x j; have l2 := own_sol x N
  refine own_sot hj ?_
  rw [own_lt, hk, hn, Int32.toInt_ofNat_of_lt (by omega), Int32.toInt_ofNat_of_lt (by omega)] at h
  obtain ⟨l, hl⟩ := own_sole x j (N - j)
  rw [show j + (N - j) = N by omega] at hl
  rw [hl, List.length_append] at h ⊢
  omega
theorem own_soe {x : List Int64} {j N : Nat} {k nn : Int32} (hj : j + 0 = N) (hk : k = Int32.ofNat (own_so x j).length) (hn : nn = Int32.ofNat (own_so x N).length) : ¬ k < nn := by
  have e : j = N := by omega
  rw [hk, hn, e, own_lt]; omega
theorem own_ib {j : Nat} {i N : Int32} {f : Nat} (hN : own_N N) (hj : j + (f + 1) = N.toNatClampNeg) (hi : i = Int32.ofNat j) : ¬ i < 0 ∧ i < N := by
  have a : (0 : Int32).toInt = 0 := rfl
  have h1 := hN.1; have h2 := hN.2
  have e : N.toNatClampNeg = N.toInt.toNat := rfl
  rw [own_lt, own_lt, hi, Int32.toInt_ofNat_of_lt (by omega)]
  omega
theorem own_ic {j : Nat} {i N : Int32} {f : Nat} (hN : own_N N) (hj : j + (f + 1) = N.toNatClampNeg) (hi : i = Int32.ofNat j) : i.toNatClampNeg = j := clamp_of hi (by have e := (own_Nn hN).2.2; omega)
section E
variable {c a0 a1 a2 a3 a4 : Int32} {j : Nat}
theorem own_VP {Z : State} {h : Heap} {a : Addr} {k : ClassId} (p : own_P c a0 a1 a2 a3 a4 (Int32.ofNat j)) (V : Arv Z h a k .int 6 ((own_E c a0 a1 a2 a3 a4 j ++ [Int32.ofNat j]).map Value.int) (.int 0)) : Arv Z h a k .int 6 ((own_E c a0 a1 a2 a3 a4 (j + 1)).map Value.int) (.int 0) := by rw [own_EP p]; exact V
theorem own_VN {Z : State} {h : Heap} {a : Addr} {k : ClassId} (p : ¬ own_P c a0 a1 a2 a3 a4 (Int32.ofNat j)) (V : Arv Z h a k .int 6 ((own_E c a0 a1 a2 a3 a4 j).map Value.int) (.int 0)) : Arv Z h a k .int 6 ((own_E c a0 a1 a2 a3 a4 (j + 1)).map Value.int) (.int 0) := by rw [own_EN p]; exact V
theorem own_kP {k : Int32} (p : own_P c a0 a1 a2 a3 a4 (Int32.ofNat j)) (hk : k = Int32.ofNat (own_E c a0 a1 a2 a3 a4 j).length) : k + 1 = Int32.ofNat (own_E c a0 a1 a2 a3 a4 (j + 1)).length := by
  rw [own_EP p, List.length_append, hk]; exact (inc_ofNat _).symm
theorem own_kN {k : Int32} (p : ¬ own_P c a0 a1 a2 a3 a4 (Int32.ofNat j)) (hk : k = Int32.ofNat (own_E c a0 a1 a2 a3 a4 j).length) : k = Int32.ofNat (own_E c a0 a1 a2 a3 a4 (j + 1)).length := by rw [own_EN p]; exact hk
end E
theorem own_pn0 : plainName "com/example/corrib/corrib/lexicon/SenseWeights" = true := by first | (simp [plainName, overriddenIn]; done) | decide +kernel
theorem own_d1_0 : decode prog_19_method_1_code 0 = .ok (.aload_n 0, 1) := by decide +kernel
theorem own_d1_1 : decode prog_19_method_1_code 1 = .ok (.invokespecial 1, 3) := by decide +kernel
theorem own_d1_4 : decode prog_19_method_1_code 4 = .ok (.aload_n 0, 1) := by decide +kernel
theorem own_d1_5 : decode prog_19_method_1_code 5 = .ok (.bipush 16, 2) := by decide +kernel
theorem own_d1_7 : decode prog_19_method_1_code 7 = .ok (.newarray .int, 2) := by decide +kernel
theorem own_d1_9 : decode prog_19_method_1_code 9 = .ok (.putfield 7, 3) := by decide +kernel
theorem own_d1_12 : decode prog_19_method_1_code 12 = .ok (.aload_n 0, 1) := by decide +kernel
theorem own_d1_13 : decode prog_19_method_1_code 13 = .ok (.iload_n 1, 1) := by decide +kernel
theorem own_d1_14 : decode prog_19_method_1_code 14 = .ok (.newarray .double, 2) := by decide +kernel
theorem own_d1_16 : decode prog_19_method_1_code 16 = .ok (.putfield 13, 3) := by decide +kernel
theorem own_d1_19 : decode prog_19_method_1_code 19 = .ok (.return_, 1) := by decide +kernel
theorem own_efI (m : MethodId) (x0 : Addr) (x1 : Int32) : entryFrame m #[(.ref x0), (.int x1)] 2 = mkF m 0 #[rv x0, iv x1] [] := by first | (simp [entryFrame, mkF, argsToLocals, Value.category]; done) | rfl
def QI (Z : State) (a1 : Addr) (c1 : Int32) (u0 : Value) (u1 : Value) (h0 : Heap) (n0 : Nat) (v : Option Value) (h : Heap) (L : List Loc) : Prop := ∃ (g1 : Addr) (d1 : Addr) (kg : ClassId) (kd : ClassId), v = none ∧ Fr n0 L ∧ Keep h0 h [a1] ∧ (h0.size ≤ g1) ∧ (h0.size ≤ d1) ∧ (g1 ≠ d1) ∧ (Fld Z h a1 "com/example/corrib/corrib/lexicon/SenseWeights" "setOut" "[I" .null) ∧ (Fld Z h a1 "com/example/corrib/corrib/lexicon/SenseWeights" "size" "I" (.int (0 : Int32))) ∧ (Fld Z h a1 "com/example/corrib/corrib/lexicon/SenseWeights" "given" "[I" (.ref g1)) ∧ (Fld Z h a1 "com/example/corrib/corrib/lexicon/SenseWeights" "bySense" "[D" (.ref d1)) ∧ (Arv Z h g1 kg .int (16 : Int32) ((own_S0 c1).1.map Value.int) (.int (0 : Int32))) ∧ (Arv Z h d1 kd .double c1 ((own_S0 c1).2.2.map own_dv) (.double (FP.l2d 0)))
set_option maxRecDepth 65536 in
set_option maxHeartbeats 40000000 in
theorem rmI (l : Launch) (Z : State) (a0 : Array Value) (hw : ∀ d ∈ tables_1, d.before a0 Z = true) (ws : List Jvm.Cond) (a1 : Addr) (c1 : Int32) (u0 : Value) (u1 : Value) (h0 : Heap) (n0 : Nat) (Z0 : n0 ≤ h0.size) (E1 : Exa Z h0 a1 "com/example/corrib/corrib/lexicon/SenseWeights") (F0 : Fld Z h0 a1 "com/example/corrib/corrib/lexicon/SenseWeights" "given" "[I" u0) (F1 : Fld Z h0 a1 "com/example/corrib/corrib/lexicon/SenseWeights" "bySense" "[D" u1) (F2 : Fld Z h0 a1 "com/example/corrib/corrib/lexicon/SenseWeights" "setOut" "[I" .null) (F3 : Fld Z h0 a1 "com/example/corrib/corrib/lexicon/SenseWeights" "size" "I" (.int (0 : Int32))) (g_a1 : n0 ≤ a1) (hN : own_N c1) :
    MetFree l (⟨"com/example/corrib/corrib/lexicon/SenseWeights", "<init>", "(I)V"⟩ : MethodName) (head1 (Jvm.Cond.code (⟨"com/example/corrib/corrib/lexicon/SenseWeights", "<init>", "(I)V"⟩ : MethodName) prog_19_method_1_code 2 none :: ws) (oR 1 2 22 12)) (fun a U => a = #[(.ref a1), (.int c1)] ∧ Z.Warmed39 U.vm ∧ U.heap = h0) (fun _ _ _ _ _ => True) (fun _ U o U' => ∃ v L, o = .returned v ∧ QI Z a1 c1 u0 u1 h0 n0 v U'.heap L ∧ FrameEnd U o U' L (oR 1 2 22 12).cells (oR 1 2 22 12).slots) := by
  refine MetFree.of_bodySF (plainFor_of_name own_pn0) hisR ?_
  intro p e s m args below meth c s₁ Bd hml0 hP hK
  obtain ⟨rfl, hZ, hh⟩ := hP
  have hx := Bd.exec
  have hby := Bd.bytes
  have hlk : meth.locks = false := Bd.notSynchronized
  have hml : c.maxLocals = 2 := hml0
  have hown : s.vm.findClass "com/example/corrib/corrib/lexicon/SenseWeights" = some m.cls := findClass_of_methodNamed Bd.named
  have hnm := (name_of_methodNamed Bd.named Bd.method).1
  have X0 : Stand p l e (oR 1 2 22 12) s m #[(.ref a1), (.int c1)] below meth c s₁ [] 0 0 := Stand.of_body Bd
  have e0 : s₁.heap = h0 := by rw [← hh, Bd.state]; rfl
  have N0 := Fr.nil n0
  refine own_body (A := s₁.setTop (mkF m 0 #[rv a1, iv c1] [])) (Q := QI Z a1 c1 u0 u1 h0 n0) (fun t k => castTop (own_efI m a1 c1) k) ?_
  refine oALN (n := 1) X0 hx (hb hby own_d1_0) rfl rfl rfl ?_
  obtain ⟨T1, X1, e1, st1⟩ := initO X0 hx hZ hown (oW hw 8 rfl) (oW hw 9 rfl) (oW hw 10 rfl) e0 (g := (mkF m 1 #[rv a1, iv c1] [(.ref a1)])) rfl (by rw [hml]; rfl) rfl (hb hby own_d1_1) (by decide) (W := 0) (by show 2 * 0 + _ ≤ _; exact Nat.le_of_eq rfl) (by decide)
  refine ov (B := T1.setTop (mkF m 4 #[rv a1, iv c1] [])) (fun t k => st1 t k) ?_
  refine oALN (n := 5) X1 hx (hb hby own_d1_4) rfl rfl rfl ?_
  refine oBP (n := 7) X1 hx (16 : Int32) (hb hby own_d1_5) (by decide) rfl ?_
  obtain ⟨T2, h2, kc2, X2, e2, E2, A2, st2⟩ := newP X1 hx hZ (oW hw 11 rfl) e1 (g := (mkF m 7 #[rv a1, iv c1] [(.int (16 : Int32)), (.ref a1)])) rfl (hb hby own_d1_7) rfl (by decide) (cap := 16) (by decide) (by decide) (by decide) (by decide)
  obtain ⟨bG, g2⟩ : ∃ z, z = h0.size := ⟨_, rfl⟩
  rw [← g2] at A2 st2
  have g_bG : n0 ≤ bG := Nat.le_trans Z0 (Nat.le_of_eq g2.symm)
  have V2 : Arv Z h2 bG kc2 .int (16 : Int32) [(.int (0 : Int32)), (.int (0 : Int32)), (.int (0 : Int32)), (.int (0 : Int32)), (.int (0 : Int32)), (.int (0 : Int32)), (.int (0 : Int32)), (.int (0 : Int32)), (.int (0 : Int32)), (.int (0 : Int32)), (.int (0 : Int32)), (.int (0 : Int32)), (.int (0 : Int32)), (.int (0 : Int32)), (.int (0 : Int32)), (.int (0 : Int32))] (.int (0 : Int32)) := (Arv.new A2 (by decide)).pad (pad_rep [] (.int (0 : Int32)) 16)
  refine ov (B := T2.setTop (mkF m 9 #[rv a1, iv c1] [(.ref bG), (.ref a1)])) (fun t k => st2 t k) ?_
  obtain ⟨T3, h3, X3, e3, W3, st3⟩ := putF X2 hx hZ hown (host := "") (Or.inl (oW hw 12 rfl)) Via.refl e2 (F0.ext E2) (E1.ext E2) (Or.inl (oW hw 13 rfl)) (oW hw 3 rfl) (ty := (.array .int)) (by decide) rfl rfl (g := (mkF m 9 #[rv a1, iv c1] [(.ref bG), (.ref a1)])) rfl rfl (hb hby own_d1_9)
  have Fw3 := (F0.ext E2).same W3
  have N3 := Fr.snoc X3 N0 g_a1
  refine ov (B := T3.setTop (mkF m 12 #[rv a1, iv c1] [])) (fun t k => st3 t k) ?_
  refine oALN (n := 13) X3 hx (hb hby own_d1_12) rfl rfl rfl ?_
  refine oILN (n := 14) X3 hx (hb hby own_d1_13) rfl rfl ?_
  obtain ⟨T4, h4, kc4, X4, e4, E4, A4, st4⟩ := newP X3 hx hZ (oW hw 14 rfl) e3 (g := (mkF m 14 #[rv a1, iv c1] [(.int c1), (.ref a1)])) rfl (hb hby own_d1_14) rfl (own_Nn hN).1 (cap := 6) (own_Nn hN).2.2 (by decide) (by decide) (by decide)
  obtain ⟨bD, g4⟩ : ∃ z, z = h3.size := ⟨_, rfl⟩
  rw [← g4] at A4 st4
  have g_bD : n0 ≤ bD := Nat.le_trans (Nat.le_trans (Nat.le_trans Z0 E2.1) (Keep.of_wr W3).1) (Nat.le_of_eq g4.symm)
  have V4 : Arv Z h4 bD kc4 .double c1 [] (.double (FP.l2d 0)) := Arv.newD A4 (own_Nn hN).1
  refine ov (B := T4.setTop (mkF m 16 #[rv a1, iv c1] [(.ref bD), (.ref a1)])) (fun t k => st4 t k) ?_
  obtain ⟨T5, h5, X5, e5, W5, st5⟩ := putF X4 hx hZ hown (host := "") (Or.inl (oW hw 15 rfl)) Via.refl e4 (((F1.ext E2).other W3 (Or.inr (slot_ne (Or.inr (oW hw 16 rfl)) (Or.inl (oW hw 13 rfl)) (by decide +kernel) (t := (.array .double)) (t' := (.array .int)) (by decide +kernel) (by decide +kernel)))).ext E4) (((E1.ext E2).wr W3).ext E4) (Or.inr ⟨(oW hw 16 rfl), rfl, hnm⟩) (oW hw 3 rfl) (ty := (.array .double)) (by decide) rfl rfl (g := (mkF m 16 #[rv a1, iv c1] [(.ref bD), (.ref a1)])) rfl rfl (hb hby own_d1_16)
  have Fw5 := (((F1.ext E2).other W3 (Or.inr (slot_ne (Or.inr (oW hw 16 rfl)) (Or.inl (oW hw 13 rfl)) (by decide +kernel) (t := (.array .double)) (t' := (.array .int)) (by decide +kernel) (by decide +kernel)))).ext E4).same W5
  have N5 := Fr.snoc X5 N3 g_a1
  refine ov (B := T5.setTop (mkF m 19 #[rv a1, iv c1] [])) (fun t k => st5 t k) ?_
  refine own_leafV X5 hx hlk Bd.returns (hb hby own_d1_19) (by decide) (by decide) ?_
  show QI Z a1 c1 u0 u1 h0 n0 _ T5.heap _
  rw [e5]
  refine ⟨bG, bD, kc2, kc4, ?_, N5, (((((Keep.refl h0 [a1]).ext E2).wr W3 (Or.inl (List.mem_of_getElem? (i := 0) rfl))).ext E4).wr W5 (Or.inl (List.mem_of_getElem? (i := 0) rfl))), ?_, ?_, ?_, ((((F2.ext E2).other W3 (Or.inr (slot_ne (Or.inl (oW hw 31 rfl)) (Or.inl (oW hw 13 rfl)) (by decide +kernel) (t := (.array .int)) (t' := (.array .int)) (by decide +kernel) (by decide +kernel)))).ext E4).other W5 (Or.inr (slot_ne (Or.inl (oW hw 31 rfl)) (Or.inr (oW hw 16 rfl)) (by decide +kernel) (t := (.array .int)) (t' := (.array .double)) (by decide +kernel) (by decide +kernel)))), ((((F3.ext E2).other W3 (Or.inr (slot_ne (Or.inl (oW hw 33 rfl)) (Or.inl (oW hw 13 rfl)) (by decide +kernel) (t := .int) (t' := (.array .int)) (by decide +kernel) (by decide +kernel)))).ext E4).other W5 (Or.inr (slot_ne (Or.inl (oW hw 33 rfl)) (Or.inr (oW hw 16 rfl)) (by decide +kernel) (t := .int) (t' := (.array .double)) (by decide +kernel) (by decide +kernel)))), ((Fw3.ext E4).other W5 (Or.inr (slot_ne (Or.inl (oW hw 13 rfl)) (Or.inr (oW hw 16 rfl)) (by decide +kernel) (t := (.array .int)) (t' := (.array .double)) (by decide +kernel) (by decide +kernel)))), Fw5, (show Arv Z _ _ _ _ _ (List.map Value.int (List.replicate 16 0)) _ from (((V2.other W3 (Ne.symm (Nat.ne_of_lt (Nat.lt_of_lt_of_le E1.lt (Nat.le_of_eq g2.symm))))).ext E4).other W5 (Ne.symm (Nat.ne_of_lt (Nat.lt_of_lt_of_le E1.lt (Nat.le_of_eq g2.symm)))))), (by rw [own_S0d]; exact ((V4.other W5 (Ne.symm (Nat.ne_of_lt (Nat.lt_of_lt_of_le ((E1.ext E2).wr W3).lt (Nat.le_of_eq g4.symm)))))).pad (pad_rep [] _ _))⟩
  · rfl
  · exact (Nat.le_of_eq g2.symm)
  · exact (Nat.le_trans (Nat.le_trans (Nat.le_trans (Nat.le_refl _) E2.1) (Keep.of_wr W3).1) (Nat.le_of_eq g4.symm))
  · exact (Nat.ne_of_lt (Nat.lt_of_lt_of_le (V2.other W3 (Ne.symm (Nat.ne_of_lt (Nat.lt_of_lt_of_le E1.lt (Nat.le_of_eq g2.symm))))).lt (Nat.le_of_eq g4.symm)))
theorem own_d5_0 : decode prog_19_method_5_code 0 = .ok (.aload_n 0, 1) := by decide +kernel
theorem own_d5_1 : decode prog_19_method_5_code 1 = .ok (.aconst_null, 1) := by decide +kernel
theorem own_d5_2 : decode prog_19_method_5_code 2 = .ok (.putfield 21, 3) := by decide +kernel
theorem own_d5_5 : decode prog_19_method_5_code 5 = .ok (.aload_n 0, 1) := by decide +kernel
theorem own_d5_6 : decode prog_19_method_5_code 6 = .ok (.getfield 13, 3) := by decide +kernel
theorem own_d5_9 : decode prog_19_method_5_code 9 = .ok (.iload_n 1, 1) := by decide +kernel
theorem own_d5_10 : decode prog_19_method_5_code 10 = .ok (.daload, 1) := by decide +kernel
theorem own_d5_11 : decode prog_19_method_5_code 11 = .ok (.dconst 0, 1) := by decide +kernel
theorem own_d5_12 : decode prog_19_method_5_code 12 = .ok (.dcmp .l, 1) := by decide +kernel
theorem own_d5_13 : decode prog_19_method_5_code 13 = .ok (.ifCond .ne 52, 3) := by decide +kernel
theorem own_d5_16 : decode prog_19_method_5_code 16 = .ok (.aload_n 0, 1) := by decide +kernel
theorem own_d5_17 : decode prog_19_method_5_code 17 = .ok (.getfield 31, 3) := by decide +kernel
theorem own_d5_20 : decode prog_19_method_5_code 20 = .ok (.aload_n 0, 1) := by decide +kernel
theorem own_d5_21 : decode prog_19_method_5_code 21 = .ok (.getfield 7, 3) := by decide +kernel
theorem own_d5_24 : decode prog_19_method_5_code 24 = .ok (.arraylength, 1) := by decide +kernel
theorem own_d5_25 : decode prog_19_method_5_code 25 = .ok (.if_icmp .ne 20, 3) := by decide +kernel
theorem own_d5_45 : decode prog_19_method_5_code 45 = .ok (.aload_n 0, 1) := by decide +kernel
theorem own_d5_46 : decode prog_19_method_5_code 46 = .ok (.getfield 7, 3) := by decide +kernel
theorem own_d5_49 : decode prog_19_method_5_code 49 = .ok (.aload_n 0, 1) := by decide +kernel
theorem own_d5_50 : decode prog_19_method_5_code 50 = .ok (.getfield 31, 3) := by decide +kernel
theorem own_d5_53 : decode prog_19_method_5_code 53 = .ok (.iload_n 1, 1) := by decide +kernel
theorem own_d5_54 : decode prog_19_method_5_code 54 = .ok (.iastore, 1) := by decide +kernel
theorem own_d5_55 : decode prog_19_method_5_code 55 = .ok (.aload_n 0, 1) := by decide +kernel
theorem own_d5_56 : decode prog_19_method_5_code 56 = .ok (.dup, 1) := by decide +kernel
theorem own_d5_57 : decode prog_19_method_5_code 57 = .ok (.getfield 31, 3) := by decide +kernel
theorem own_d5_60 : decode prog_19_method_5_code 60 = .ok (.iconst 1, 1) := by decide +kernel
theorem own_d5_61 : decode prog_19_method_5_code 61 = .ok (.iadd, 1) := by decide +kernel
theorem own_d5_62 : decode prog_19_method_5_code 62 = .ok (.putfield 31, 3) := by decide +kernel
theorem own_d5_65 : decode prog_19_method_5_code 65 = .ok (.return_, 1) := by decide +kernel
theorem own_efV (m : MethodId) (x0 : Addr) (x1 : Int32) : entryFrame m #[(.ref x0), (.int x1)] 2 = mkF m 0 #[rv x0, iv x1] [] := by first | (simp [entryFrame, mkF, argsToLocals, Value.category]; done) | rfl
def QV (Z : State) (a2 : Addr) (i2 : Int32) (u2 : Value) (g2 : Addr) (d2 : Addr) (S : List Int32 × Int32 × List Int64) (kg : ClassId) (kd : ClassId) (nN : Int32) (h0 : Heap) (n0 : Nat) (v : Option Value) (h : Heap) (L : List Loc) : Prop := v = none ∧ Fr n0 L ∧ Keep h0 h [a2, g2] ∧ (Fld Z h a2 "com/example/corrib/corrib/lexicon/SenseWeights" "size" "I" (.int (own_give i2 S).2.1)) ∧ (Fld Z h a2 "com/example/corrib/corrib/lexicon/SenseWeights" "setOut" "[I" .null) ∧ (Fld Z h a2 "com/example/corrib/corrib/lexicon/SenseWeights" "given" "[I" (.ref g2)) ∧ (Fld Z h a2 "com/example/corrib/corrib/lexicon/SenseWeights" "bySense" "[D" (.ref d2)) ∧ (Arv Z h g2 kg .int (16 : Int32) ((own_give i2 S).1.map Value.int) (.int (0 : Int32))) ∧ (Arv Z h d2 kd .double nN ((own_give i2 S).2.2.map own_dv) (.double (FP.l2d 0)))
set_option maxRecDepth 65536 in
set_option maxHeartbeats 40000000 in
theorem rmV (l : Launch) (Z : State) (a0 : Array Value) (hw : ∀ d ∈ tables_1, d.before a0 Z = true) (ws : List Jvm.Cond) (a2 : Addr) (i2 : Int32) (u2 : Value) (g2 : Addr) (d2 : Addr) (S : List Int32 × Int32 × List Int64) (kg : ClassId) (kd : ClassId) (nN : Int32) (h0 : Heap) (n0 : Nat) (Z0 : n0 ≤ h0.size) (Eo : Exa Z h0 a2 "com/example/corrib/corrib/lexicon/SenseWeights") (Fg : Fld Z h0 a2 "com/example/corrib/corrib/lexicon/SenseWeights" "given" "[I" (.ref g2)) (Fd : Fld Z h0 a2 "com/example/corrib/corrib/lexicon/SenseWeights" "bySense" "[D" (.ref d2)) (Fn : Fld Z h0 a2 "com/example/corrib/corrib/lexicon/SenseWeights" "size" "I" (.int S.2.1)) (Fo : Fld Z h0 a2 "com/example/corrib/corrib/lexicon/SenseWeights" "setOut" "[I" u2) (Vg : Arv Z h0 g2 kg .int (16 : Int32) (S.1.map Value.int) (.int (0 : Int32))) (Vd : Arv Z h0 d2 kd .double nN (S.2.2.map own_dv) (.double (FP.l2d 0))) (hag : a2 ≠ g2) (had : a2 ≠ d2) (hgd : g2 ≠ d2) (g_a2 : n0 ≤ a2) (g_g2 : n0 ≤ g2) (g_d2 : n0 ≤ d2) (hS : own_ok nN 14 S) (hi : own_in nN i2) :
    MetFree l (⟨"com/example/corrib/corrib/lexicon/SenseWeights", "give", "(I)V"⟩ : MethodName) (head1 (Jvm.Cond.code (⟨"com/example/corrib/corrib/lexicon/SenseWeights", "give", "(I)V"⟩ : MethodName) prog_19_method_5_code 2 none :: ws) (oR 0 0 0 0)) (fun a U => a = #[(.ref a2), (.int i2)] ∧ Z.Warmed39 U.vm ∧ U.heap = h0) (fun _ _ _ _ _ => True) (fun _ U o U' => ∃ v L, o = .returned v ∧ QV Z a2 i2 u2 g2 d2 S kg kd nN h0 n0 v U'.heap L ∧ FrameEnd U o U' L (oR 0 0 0 0).cells (oR 0 0 0 0).slots) := by
  refine MetFree.of_bodySF (plainFor_of_name own_pn0) hisR ?_
  intro p e s m args below meth c s₁ Bd hml0 hP hK
  obtain ⟨rfl, hZ, hh⟩ := hP
  have hx := Bd.exec
  have hby := Bd.bytes
  have hlk : meth.locks = false := Bd.notSynchronized
  have hml : c.maxLocals = 2 := hml0
  have hown : s.vm.findClass "com/example/corrib/corrib/lexicon/SenseWeights" = some m.cls := findClass_of_methodNamed Bd.named
  have hnm := (name_of_methodNamed Bd.named Bd.method).1
  have X0 : Stand p l e (oR 0 0 0 0) s m #[(.ref a2), (.int i2)] below meth c s₁ [] 0 0 := Stand.of_body Bd
  have e0 : s₁.heap = h0 := by rw [← hh, Bd.state]; rfl
  have N0 := Fr.nil n0
  refine own_body (A := s₁.setTop (mkF m 0 #[rv a2, iv i2] [])) (Q := QV Z a2 i2 u2 g2 d2 S kg kd nN h0 n0) (fun t k => castTop (own_efV m a2 i2) k) ?_
  refine oALN (n := 1) X0 hx (hb hby own_d5_0) rfl rfl rfl ?_
  refine oNU (n := 2) X0 hx (hb hby own_d5_1) rfl ?_
  obtain ⟨T1, h1, X1, e1, W1, st1⟩ := putF X0 hx hZ hown (host := "") (Or.inl (oW hw 30 rfl)) Via.refl e0 Fo Eo (Or.inl (oW hw 31 rfl)) (oW hw 3 rfl) (ty := (.array .int)) (by decide) rfl rfl (g := (mkF m 2 #[rv a2, iv i2] [.null, (.ref a2)])) rfl rfl (hb hby own_d5_2)
  have Fw1 := Fo.same W1
  have N1 := Fr.snoc X1 N0 g_a2
  refine ov (B := T1.setTop (mkF m 5 #[rv a2, iv i2] [])) (fun t k => st1 t k) ?_
  refine oALN (n := 6) X1 hx (hb hby own_d5_5) rfl rfl rfl ?_
  obtain ⟨T2, X2, e2, st2⟩ := getF X1 hx hZ hown (host := "") (Or.inl (oW hw 15 rfl)) Via.refl e1 (Fd.other W1 (Or.inr (slot_ne (Or.inr (oW hw 16 rfl)) (Or.inl (oW hw 31 rfl)) (by decide +kernel) (t := (.array .double)) (t' := (.array .int)) (by decide +kernel) (by decide +kernel)))) (g := (mkF m 6 #[rv a2, iv i2] [(.ref a2)])) rfl rfl (hb hby own_d5_6)
  refine ov (B := T2.setTop (mkF m 9 #[rv a2, iv i2] [(.ref d2)])) (fun t k => st2 t k) ?_
  refine oILN (n := 10) X2 hx (hb hby own_d5_9) rfl rfl ?_
  obtain ⟨cl3, Ar3, q3, S3, M3, H3, G3⟩ := id (Vd.other W1 (Ne.symm had))
  have hin3 : ¬ (i2 < 0 ∨ cl3.slots.size ≤ (i2).toNatClampNeg) := inb_of S3 hi
  refine ov (B := T2.setTop (mkF m 11 #[rv a2, iv i2] [(.double (FP.l2d (S.2.2.getD i2.toNatClampNeg 0)))])) (fun t k => X2.daload hx (j := i2) (v := (.double (FP.l2d (S.2.2.getD i2.toNatClampNeg 0)))) (by rw [e2]; exact Ar3.1) (State.isArrayOf_alike hZ.alike Ar3.2.1) Ar3.2.2 hin3 (Has.at H3 hin3 (own_mgD _ _)) (g := (mkF m 10 #[rv a2, iv i2] [(.int i2), (.ref d2)])) rfl rfl (hb hby own_d5_10) _ k) ?_
  refine ov (B := T2.setTop (mkF m 12 #[rv a2, iv i2] [(.double FP.dconst0), (.double (FP.l2d (S.2.2.getD i2.toNatClampNeg 0)))])) (fun t k => XS.dconst0 X2.here hx rfl (hb hby own_d5_11) rfl k) ?_
  refine ov (B := T2.setTop (mkF m 13 #[rv a2, iv i2] [(.int (cmpValue (FP.dcmp (FP.l2d (S.2.2.getD i2.toNatClampNeg 0)) FP.dconst0) .l))])) (fun t k => XS.dcmpS X2.here hx rfl (hb hby own_d5_12) rfl rfl k) ?_
  by_cases hc13 : (cmpValue (FP.dcmp (FP.l2d (S.2.2.getD i2.toNatClampNeg 0)) FP.dconst0) .l) = (0 : Int32)
  · refine ov (B := T2.setTop (mkF m 16 #[rv a2, iv i2] [])) (fun t k => XS.ifNo X2.here hx rfl (hb hby own_d5_13) rfl ((if0 _ _).trans (teq hc13).2) k) ?_
    refine oALN (n := 17) X2 hx (hb hby own_d5_16) rfl rfl rfl ?_
    obtain ⟨T4, X4, e4, st4⟩ := getF X2 hx hZ hown (host := "") (Or.inl (oW hw 32 rfl)) Via.refl e2 (Fn.other W1 (Or.inr (slot_ne (Or.inl (oW hw 33 rfl)) (Or.inl (oW hw 31 rfl)) (by decide +kernel) (t := .int) (t' := (.array .int)) (by decide +kernel) (by decide +kernel)))) (g := (mkF m 17 #[rv a2, iv i2] [(.ref a2)])) rfl rfl (hb hby own_d5_17)
    refine ov (B := T4.setTop (mkF m 20 #[rv a2, iv i2] [(.int S.2.1)])) (fun t k => st4 t k) ?_
    refine oALN (n := 21) X4 hx (hb hby own_d5_20) rfl rfl rfl ?_
    obtain ⟨T5, X5, e5, st5⟩ := getF X4 hx hZ hown (host := "") (Or.inl (oW hw 12 rfl)) Via.refl e4 (Fg.other W1 (Or.inr (slot_ne (Or.inl (oW hw 13 rfl)) (Or.inl (oW hw 31 rfl)) (by decide +kernel) (t := (.array .int)) (t' := (.array .int)) (by decide +kernel) (by decide +kernel)))) (g := (mkF m 21 #[rv a2, iv i2] [(.ref a2), (.int S.2.1)])) rfl rfl (hb hby own_d5_21)
    refine ov (B := T5.setTop (mkF m 24 #[rv a2, iv i2] [(.ref g2), (.int S.2.1)])) (fun t k => st5 t k) ?_
    obtain ⟨cl6, Ar6, q6, S6, M6, H6, G6⟩ := id (Vg.other W1 (Ne.symm hag))
    refine ov (B := T5.setTop (mkF m 25 #[rv a2, iv i2] [(.int (16 : Int32)), (.int S.2.1)])) (fun t k => X5.arraylength hx (by rw [e5]; exact Ar6.1) (State.isArrayOf_alike hZ.alike Ar6.2.1) (g := (mkF m 24 #[rv a2, iv i2] [(.ref g2), (.int S.2.1)])) rfl rfl (hb hby own_d5_24) _ (by rw [len_of S6 M6]; exact k)) ?_
    have hc25 : ¬ (S.2.1 = (16 : Int32)) := own_n16 hS
    refine ov (B := T5.setTop (mkF m 45 #[rv a2, iv i2] [])) (fun t k => XS.icmpYes X5.here hx rfl (pc0 := 25) (pc' := 45) rfl (hb hby own_d5_25) rfl (feq hc25).2 (by decide) (by decide) k) ?_
    refine oALN (n := 46) X5 hx (hb hby own_d5_45) rfl rfl rfl ?_
    obtain ⟨T7, X7, e7, st7⟩ := getF X5 hx hZ hown (host := "") (Or.inl (oW hw 12 rfl)) Via.refl e5 (Fg.other W1 (Or.inr (slot_ne (Or.inl (oW hw 13 rfl)) (Or.inl (oW hw 31 rfl)) (by decide +kernel) (t := (.array .int)) (t' := (.array .int)) (by decide +kernel) (by decide +kernel)))) (g := (mkF m 46 #[rv a2, iv i2] [(.ref a2)])) rfl rfl (hb hby own_d5_46)
    refine ov (B := T7.setTop (mkF m 49 #[rv a2, iv i2] [(.ref g2)])) (fun t k => st7 t k) ?_
    refine oALN (n := 50) X7 hx (hb hby own_d5_49) rfl rfl rfl ?_
    obtain ⟨T8, X8, e8, st8⟩ := getF X7 hx hZ hown (host := "") (Or.inl (oW hw 32 rfl)) Via.refl e7 (Fn.other W1 (Or.inr (slot_ne (Or.inl (oW hw 33 rfl)) (Or.inl (oW hw 31 rfl)) (by decide +kernel) (t := .int) (t' := (.array .int)) (by decide +kernel) (by decide +kernel)))) (g := (mkF m 50 #[rv a2, iv i2] [(.ref a2), (.ref g2)])) rfl rfl (hb hby own_d5_50)
    refine ov (B := T8.setTop (mkF m 53 #[rv a2, iv i2] [(.int S.2.1), (.ref g2)])) (fun t k => st8 t k) ?_
    refine oILN (n := 54) X8 hx (hb hby own_d5_53) rfl rfl ?_
    obtain ⟨cl9, Ar9, q9, S9, M9, H9, G9⟩ := id (Vg.other W1 (Ne.symm hag))
    obtain ⟨T10, h10, X10, e10, W10, st10⟩ := stI X8 hx hZ e8 Ar9 (j := S.2.1) (inb_of S9 (own_nb hS)) (g := (mkF m 54 #[rv a2, iv i2] [(.int i2), (.int S.2.1), (.ref g2)])) rfl rfl (hb hby own_d5_54)
    have V10 : Arv Z h10 g2 kg .int (16 : Int32) ((S.1.set S.2.1.toNatClampNeg i2).map Value.int) (.int (0 : Int32)) := by have q := Arv.set Ar9 q9 S9 M9 H9 G9 rfl W10 S.2.1.toNatClampNeg rfl (own_gl hS); rw [own_msI] at q; exact q
    have N10 := Fr.snoc X10 N1 g_g2
    refine ov (B := T10.setTop (mkF m 55 #[rv a2, iv i2] [])) (fun t k => st10 t k) ?_
    refine oALN (n := 56) X10 hx (hb hby own_d5_55) rfl rfl rfl ?_
    refine oDU (n := 57) X10 hx (hb hby own_d5_56) rfl rfl ?_
    obtain ⟨T11, X11, e11, st11⟩ := getF X10 hx hZ hown (host := "") (Or.inl (oW hw 32 rfl)) Via.refl e10 ((Fn.other W1 (Or.inr (slot_ne (Or.inl (oW hw 33 rfl)) (Or.inl (oW hw 31 rfl)) (by decide +kernel) (t := .int) (t' := (.array .int)) (by decide +kernel) (by decide +kernel)))).other W10 (Or.inl hag)) (g := (mkF m 57 #[rv a2, iv i2] [(.ref a2), (.ref a2)])) rfl rfl (hb hby own_d5_57)
    refine ov (B := T11.setTop (mkF m 60 #[rv a2, iv i2] [(.int S.2.1), (.ref a2)])) (fun t k => st11 t k) ?_
    refine oIC (n := 61) X11 hx (1 : Int32) (hb hby own_d5_60) (by decide) rfl ?_
    refine ov (B := T11.setTop (mkF m 62 #[rv a2, iv i2] [(.int (S.2.1 + (1 : Int32))), (.ref a2)])) (fun t k => XS.iadd X11.here hx rfl (hb hby own_d5_61) rfl k) ?_
    obtain ⟨T12, h12, X12, e12, W12, st12⟩ := putF X11 hx hZ hown (host := "") (Or.inl (oW hw 32 rfl)) Via.refl e11 ((Fn.other W1 (Or.inr (slot_ne (Or.inl (oW hw 33 rfl)) (Or.inl (oW hw 31 rfl)) (by decide +kernel) (t := .int) (t' := (.array .int)) (by decide +kernel) (by decide +kernel)))).other W10 (Or.inl hag)) ((Eo.wr W1).wr W10) (Or.inl (oW hw 33 rfl)) (oW hw 3 rfl) (ty := .int) (by decide) rfl rfl (g := (mkF m 62 #[rv a2, iv i2] [(.int (S.2.1 + (1 : Int32))), (.ref a2)])) rfl rfl (hb hby own_d5_62)
    have Fw12 := ((Fn.other W1 (Or.inr (slot_ne (Or.inl (oW hw 33 rfl)) (Or.inl (oW hw 31 rfl)) (by decide +kernel) (t := .int) (t' := (.array .int)) (by decide +kernel) (by decide +kernel)))).other W10 (Or.inl hag)).same W12
    have N12 := Fr.snoc X12 N10 g_a2
    refine ov (B := T12.setTop (mkF m 65 #[rv a2, iv i2] [])) (fun t k => st12 t k) ?_
    refine own_leafV X12 hx hlk Bd.returns (hb hby own_d5_65) (by decide) (by decide) ?_
    show QV Z a2 i2 u2 g2 d2 S kg kd nN h0 n0 _ T12.heap _
    rw [e12]
    refine ⟨?_, N12, ((((Keep.refl h0 [a2, g2]).wr W1 (Or.inl (List.mem_of_getElem? (i := 0) rfl))).wr W10 (Or.inl (List.mem_of_getElem? (i := 1) rfl))).wr W12 (Or.inl (List.mem_of_getElem? (i := 0) rfl))), (by rw [own_givP ((own_nzS hS _).mp hc13)]; exact Fw12), ((Fw1.other W10 (Or.inl hag)).other W12 (Or.inr (slot_ne (Or.inl (oW hw 31 rfl)) (Or.inl (oW hw 33 rfl)) (by decide +kernel) (t := (.array .int)) (t' := .int) (by decide +kernel) (by decide +kernel)))), (((Fg.other W1 (Or.inr (slot_ne (Or.inl (oW hw 13 rfl)) (Or.inl (oW hw 31 rfl)) (by decide +kernel) (t := (.array .int)) (t' := (.array .int)) (by decide +kernel) (by decide +kernel)))).other W10 (Or.inl hag)).other W12 (Or.inr (slot_ne (Or.inl (oW hw 13 rfl)) (Or.inl (oW hw 33 rfl)) (by decide +kernel) (t := (.array .int)) (t' := .int) (by decide +kernel) (by decide +kernel)))), (((Fd.other W1 (Or.inr (slot_ne (Or.inr (oW hw 16 rfl)) (Or.inl (oW hw 31 rfl)) (by decide +kernel) (t := (.array .double)) (t' := (.array .int)) (by decide +kernel) (by decide +kernel)))).other W10 (Or.inl hag)).other W12 (Or.inr (slot_ne (Or.inr (oW hw 16 rfl)) (Or.inl (oW hw 33 rfl)) (by decide +kernel) (t := (.array .double)) (t' := .int) (by decide +kernel) (by decide +kernel)))), (by rw [own_givP ((own_nzS hS _).mp hc13)]; exact (V10.other W12 (Ne.symm hag))), (by rw [own_givP ((own_nzS hS _).mp hc13)]; exact (((Vd.other W1 (Ne.symm had)).other W10 (Ne.symm hgd)).other W12 (Ne.symm had)))⟩
    rfl
  · refine ov (B := T2.setTop (mkF m 65 #[rv a2, iv i2] [])) (fun t k => XS.ifYes X2.here hx rfl (pc0 := 13) (pc' := 65) rfl (hb hby own_d5_13) rfl ((if0 _ _).trans (feq hc13).2) (by decide) (by decide) k) ?_
    refine own_leafV X2 hx hlk Bd.returns (hb hby own_d5_65) (by decide) (by decide) ?_
    show QV Z a2 i2 u2 g2 d2 S kg kd nN h0 n0 _ T2.heap _
    rw [e2]
    refine ⟨?_, N1, ((Keep.refl h0 [a2, g2]).wr W1 (Or.inl (List.mem_of_getElem? (i := 0) rfl))), (by rw [own_givN (mt (own_nzS hS _).mpr hc13)]; exact (Fn.other W1 (Or.inr (slot_ne (Or.inl (oW hw 33 rfl)) (Or.inl (oW hw 31 rfl)) (by decide +kernel) (t := .int) (t' := (.array .int)) (by decide +kernel) (by decide +kernel))))), Fw1, (Fg.other W1 (Or.inr (slot_ne (Or.inl (oW hw 13 rfl)) (Or.inl (oW hw 31 rfl)) (by decide +kernel) (t := (.array .int)) (t' := (.array .int)) (by decide +kernel) (by decide +kernel)))), (Fd.other W1 (Or.inr (slot_ne (Or.inr (oW hw 16 rfl)) (Or.inl (oW hw 31 rfl)) (by decide +kernel) (t := (.array .double)) (t' := (.array .int)) (by decide +kernel) (by decide +kernel)))), (by rw [own_givN (mt (own_nzS hS _).mpr hc13)]; exact (Vg.other W1 (Ne.symm hag))), (by rw [own_givN (mt (own_nzS hS _).mpr hc13)]; exact (Vd.other W1 (Ne.symm had)))⟩
    rfl
theorem own_pd0 : parseMethodDescriptor "(I)V" = some ⟨[.int], none⟩ := by decide +kernel
theorem own_d4_0 : decode prog_19_method_3_code 0 = .ok (.aload_n 0, 1) := by decide +kernel
theorem own_d4_1 : decode prog_19_method_3_code 1 = .ok (.iload_n 1, 1) := by decide +kernel
theorem own_d4_2 : decode prog_19_method_3_code 2 = .ok (.invokevirtual 17, 3) := by decide +kernel
theorem own_d4_5 : decode prog_19_method_3_code 5 = .ok (.aload_n 0, 1) := by decide +kernel
theorem own_d4_6 : decode prog_19_method_3_code 6 = .ok (.getfield 13, 3) := by decide +kernel
theorem own_d4_9 : decode prog_19_method_3_code 9 = .ok (.iload_n 1, 1) := by decide +kernel
theorem own_d4_10 : decode prog_19_method_3_code 10 = .ok (.dload_n 2, 1) := by decide +kernel
theorem own_d4_11 : decode prog_19_method_3_code 11 = .ok (.dastore, 1) := by decide +kernel
theorem own_d4_12 : decode prog_19_method_3_code 12 = .ok (.return_, 1) := by decide +kernel
theorem own_efT (m : MethodId) (x0 : Addr) (x1 : Int32) (x2 : UInt64) : entryFrame m #[(.ref x0), (.int x1), (.double x2)] 4 = mkF m 0 #[rv x0, iv x1, .val (.double x2), .second] [] := by first | (simp [entryFrame, mkF, argsToLocals, Value.category]; done) | rfl
def QT (Z : State) (a2 : Addr) (i2 : Int32) (w2 : UInt64) (u2 : Value) (g2 : Addr) (d2 : Addr) (S : List Int32 × Int32 × List Int64) (kg : ClassId) (kd : ClassId) (nN : Int32) (y2 : Int64) (h0 : Heap) (n0 : Nat) (v : Option Value) (h : Heap) (L : List Loc) : Prop := v = none ∧ Fr n0 L ∧ Keep h0 h [a2, g2, d2] ∧ (Fld Z h a2 "com/example/corrib/corrib/lexicon/SenseWeights" "size" "I" (.int (own_set i2 y2 S).2.1)) ∧ (Fld Z h a2 "com/example/corrib/corrib/lexicon/SenseWeights" "setOut" "[I" .null) ∧ (Fld Z h a2 "com/example/corrib/corrib/lexicon/SenseWeights" "given" "[I" (.ref g2)) ∧ (Fld Z h a2 "com/example/corrib/corrib/lexicon/SenseWeights" "bySense" "[D" (.ref d2)) ∧ (Arv Z h g2 kg .int (16 : Int32) ((own_set i2 y2 S).1.map Value.int) (.int (0 : Int32))) ∧ (Arv Z h d2 kd .double nN ((own_set i2 y2 S).2.2.map own_dv) (.double (FP.l2d 0)))
set_option maxRecDepth 65536 in
set_option maxHeartbeats 40000000 in
theorem rmT (l : Launch) (Z : State) (a0 : Array Value) (hw : ∀ d ∈ tables_1, d.before a0 Z = true) (ws : List Jvm.Cond) (a2 : Addr) (i2 : Int32) (w2 : UInt64) (u2 : Value) (g2 : Addr) (d2 : Addr) (S : List Int32 × Int32 × List Int64) (kg : ClassId) (kd : ClassId) (nN : Int32) (y2 : Int64) (h0 : Heap) (n0 : Nat) (Z0 : n0 ≤ h0.size) (Eo : Exa Z h0 a2 "com/example/corrib/corrib/lexicon/SenseWeights") (Fg : Fld Z h0 a2 "com/example/corrib/corrib/lexicon/SenseWeights" "given" "[I" (.ref g2)) (Fd : Fld Z h0 a2 "com/example/corrib/corrib/lexicon/SenseWeights" "bySense" "[D" (.ref d2)) (Fn : Fld Z h0 a2 "com/example/corrib/corrib/lexicon/SenseWeights" "size" "I" (.int S.2.1)) (Fo : Fld Z h0 a2 "com/example/corrib/corrib/lexicon/SenseWeights" "setOut" "[I" u2) (Vg : Arv Z h0 g2 kg .int (16 : Int32) (S.1.map Value.int) (.int (0 : Int32))) (Vd : Arv Z h0 d2 kd .double nN (S.2.2.map own_dv) (.double (FP.l2d 0))) (hag : a2 ≠ g2) (had : a2 ≠ d2) (hgd : g2 ≠ d2) (g_a2 : n0 ≤ a2) (g_g2 : n0 ≤ g2) (g_d2 : n0 ≤ d2) (hS : own_ok nN 14 S) (hi : own_in nN i2) (hwy : w2 = FP.l2d y2) :
    MetFree l (⟨"com/example/corrib/corrib/lexicon/SenseWeights", "set", "(ID)V"⟩ : MethodName) (head1 (Jvm.Cond.code (⟨"com/example/corrib/corrib/lexicon/SenseWeights", "set", "(ID)V"⟩ : MethodName) prog_19_method_3_code 4 none :: ws) (oR 1 0 0 20)) (fun a U => a = #[(.ref a2), (.int i2), (.double w2)] ∧ Z.Warmed39 U.vm ∧ U.heap = h0) (fun _ _ _ _ _ => True) (fun _ U o U' => ∃ v L, o = .returned v ∧ QT Z a2 i2 w2 u2 g2 d2 S kg kd nN y2 h0 n0 v U'.heap L ∧ FrameEnd U o U' L (oR 1 0 0 20).cells (oR 1 0 0 20).slots) := by
  refine MetFree.of_bodySF (plainFor_of_name own_pn0) hisR ?_
  intro p e s m args below meth c s₁ Bd hml0 hP hK
  obtain ⟨rfl, hZ, hh⟩ := hP
  have hx := Bd.exec
  have hby := Bd.bytes
  have hlk : meth.locks = false := Bd.notSynchronized
  have hml : c.maxLocals = 4 := hml0
  have hown : s.vm.findClass "com/example/corrib/corrib/lexicon/SenseWeights" = some m.cls := findClass_of_methodNamed Bd.named
  have hnm := (name_of_methodNamed Bd.named Bd.method).1
  have X0 : Stand p l e (oR 1 0 0 20) s m #[(.ref a2), (.int i2), (.double w2)] below meth c s₁ [] 0 0 := Stand.of_body Bd
  have e0 : s₁.heap = h0 := by rw [← hh, Bd.state]; rfl
  have N0 := Fr.nil n0
  refine own_body (A := s₁.setTop (mkF m 0 #[rv a2, iv i2, .val (.double w2), .second] [])) (Q := QT Z a2 i2 w2 u2 g2 d2 S kg kd nN y2 h0 n0) (fun t k => castTop (own_efT m a2 i2 w2) k) ?_
  refine oALN (n := 1) X0 hx (hb hby own_d4_0) rfl rfl rfl ?_
  refine oILN (n := 2) X0 hx (hb hby own_d4_1) rfl rfl ?_
  obtain ⟨cq1, q1, q1'⟩ := Eo.cell
  obtain ⟨_, _, ⟨T1, L1, k1, n1⟩, -, X1, ⟨Lc1, hQ1, l1, y1, z1⟩, st1⟩ := X0.privateBack hx (y := (⟨"com/example/corrib/corrib/lexicon/SenseWeights", "give", "(I)V"⟩ : MethodName)) hown (mvT hZ (oW hw 26 rfl)) (mvT hZ (oW hw 27 rfl)) (own_selP (y' := (⟨"com/example/corrib/corrib/lexicon/SenseWeights", "set", "(ID)V"⟩ : MethodName)) rfl (mvT hZ (oW hw 24 rfl)) (Cond.privateMethod_at (mvP hZ (oW hw 28 rfl) (args := #[]))) (mvT hZ (oW hw 27 rfl)) (by decide)) (Cond.privateMethod_at (mvP hZ (oW hw 28 rfl) (args := #[]))) (mvT hZ (oW hw 29 rfl)) (by decide) (backOf (W := 0) (rmV l Z a0 hw [] a2 i2 u2 g2 d2 S kg kd nN h0 n0 Z0 Eo Fg Fd Fn Fo Vg Vd hag had hgd g_a2 g_g2 g_d2 hS hi) hZ (oW hw 29 rfl) (oW hw 4 rfl) (by decide) (by decide)) (g := (mkF m 2 #[rv a2, iv i2, .val (.double w2), .second] [(.int i2), (.ref a2)])) rfl (by rw [hml]; rfl) (Steps.refl _) (a := a2) (by rw [e0]; exact q1) q1' (argsL := [(.int i2)]) (rest := []) (lenOf own_pd0 rfl) rfl (by show 2 * 0 + _ ≤ _; exact Nat.le_of_eq rfl) (hb hby own_d4_2) (fun _ _ => ⟨rfl, e0, (by decide : 0 + 0 ≤ _), (by decide : 0 + 0 ≤ _)⟩)
  dsimp only [Pt.U, Pt.locs, Pt.cells, Pt.slots] at X1 l1 y1 z1 st1 hQ1
  subst l1 y1 z1
  obtain ⟨rfl, Nq1, Kq1, f1_0, f1_1, f1_2, f1_3, f1_4, f1_5⟩ := hQ1
  have N1 := Fr.app N0 Nq1
  refine ov (B := T1.setTop (mkF m 5 #[rv a2, iv i2, .val (.double w2), .second] [])) (fun t k => st1.trans k) ?_
  refine oALN (n := 6) X1 hx (hb hby own_d4_5) rfl rfl rfl ?_
  obtain ⟨T2, X2, e2, st2⟩ := getF X1 hx hZ hown (host := "") (Or.inl (oW hw 15 rfl)) Via.refl rfl f1_3 (g := (mkF m 6 #[rv a2, iv i2, .val (.double w2), .second] [(.ref a2)])) rfl rfl (hb hby own_d4_6)
  refine ov (B := T2.setTop (mkF m 9 #[rv a2, iv i2, .val (.double w2), .second] [(.ref d2)])) (fun t k => st2 t k) ?_
  refine oILN (n := 10) X2 hx (hb hby own_d4_9) rfl rfl ?_
  refine ov (B := T2.setTop (mkF m 11 #[rv a2, iv i2, .val (.double w2), .second] [(.double w2), (.int i2), (.ref d2)])) (fun t k => XS.dloadN X2.here hx rfl (hb hby own_d4_10) rfl k) ?_
  obtain ⟨cl3, Ar3, q3, S3, M3, H3, G3⟩ := id f1_5
  obtain ⟨T4, h4, X4, e4, W4, st4⟩ := stD X2 hx hZ e2 Ar3 (j := i2) (inb_of S3 hi) (g := (mkF m 11 #[rv a2, iv i2, .val (.double w2), .second] [(.double w2), (.int i2), (.ref d2)])) rfl rfl (hb hby own_d4_11)
  have V4 : Arv Z h4 d2 kd .double nN (((own_give i2 S).2.2.set i2.toNatClampNeg y2).map own_dv) (.double (FP.l2d 0)) := by have q := Arv.set Ar3 q3 S3 M3 H3 G3 rfl W4 i2.toNatClampNeg rfl (by rw [List.length_map, own_givex, hS.2.1]; exact own_iN hi); rw [hwy, own_msD] at q; exact q
  have N4 := Fr.snoc X4 N1 g_d2
  refine ov (B := T4.setTop (mkF m 12 #[rv a2, iv i2, .val (.double w2), .second] [])) (fun t k => st4 t k) ?_
  refine own_leafV X4 hx hlk Bd.returns (hb hby own_d4_12) (by decide) (by decide) ?_
  show QT Z a2 i2 w2 u2 g2 d2 S kg kd nN y2 h0 n0 _ T4.heap _
  rw [e4]
  refine ⟨?_, N4, (((Keep.refl h0 [a2, g2, d2]).trans Kq1 (allS (Or.inl (List.mem_of_getElem? (i := 0) rfl)) (allS (Or.inl (List.mem_of_getElem? (i := 1) rfl)) all0))).wr W4 (Or.inl (List.mem_of_getElem? (i := 2) rfl))), (f1_0.other W4 (Or.inl had)), (f1_1.other W4 (Or.inl had)), (f1_2.other W4 (Or.inl had)), (f1_3.other W4 (Or.inl had)), (f1_4.other W4 hgd), V4⟩
  rfl
theorem own_d6_0 : decode prog_19_method_2_code 0 = .ok (.aload_n 0, 1) := by decide +kernel
theorem own_d6_1 : decode prog_19_method_2_code 1 = .ok (.iload_n 1, 1) := by decide +kernel
theorem own_d6_2 : decode prog_19_method_2_code 2 = .ok (.invokevirtual 17, 3) := by decide +kernel
theorem own_d6_5 : decode prog_19_method_2_code 5 = .ok (.aload_n 0, 1) := by decide +kernel
theorem own_d6_6 : decode prog_19_method_2_code 6 = .ok (.getfield 13, 3) := by decide +kernel
theorem own_d6_9 : decode prog_19_method_2_code 9 = .ok (.iload_n 1, 1) := by decide +kernel
theorem own_d6_10 : decode prog_19_method_2_code 10 = .ok (.dup2, 1) := by decide +kernel
theorem own_d6_11 : decode prog_19_method_2_code 11 = .ok (.daload, 1) := by decide +kernel
theorem own_d6_12 : decode prog_19_method_2_code 12 = .ok (.dload_n 2, 1) := by decide +kernel
theorem own_d6_13 : decode prog_19_method_2_code 13 = .ok (.dadd, 1) := by decide +kernel
theorem own_d6_14 : decode prog_19_method_2_code 14 = .ok (.dastore, 1) := by decide +kernel
theorem own_d6_15 : decode prog_19_method_2_code 15 = .ok (.return_, 1) := by decide +kernel
theorem own_efA (m : MethodId) (x0 : Addr) (x1 : Int32) (x2 : UInt64) : entryFrame m #[(.ref x0), (.int x1), (.double x2)] 4 = mkF m 0 #[rv x0, iv x1, .val (.double x2), .second] [] := by first | (simp [entryFrame, mkF, argsToLocals, Value.category]; done) | rfl
def QA (Z : State) (a2 : Addr) (i2 : Int32) (w2 : UInt64) (u2 : Value) (g2 : Addr) (d2 : Addr) (S : List Int32 × Int32 × List Int64) (kg : ClassId) (kd : ClassId) (nN : Int32) (y2 : Int64) (h0 : Heap) (n0 : Nat) (v : Option Value) (h : Heap) (L : List Loc) : Prop := v = none ∧ Fr n0 L ∧ Keep h0 h [a2, g2, d2] ∧ (Fld Z h a2 "com/example/corrib/corrib/lexicon/SenseWeights" "size" "I" (.int (own_add i2 y2 S).2.1)) ∧ (Fld Z h a2 "com/example/corrib/corrib/lexicon/SenseWeights" "setOut" "[I" .null) ∧ (Fld Z h a2 "com/example/corrib/corrib/lexicon/SenseWeights" "given" "[I" (.ref g2)) ∧ (Fld Z h a2 "com/example/corrib/corrib/lexicon/SenseWeights" "bySense" "[D" (.ref d2)) ∧ (Arv Z h g2 kg .int (16 : Int32) ((own_add i2 y2 S).1.map Value.int) (.int (0 : Int32))) ∧ (Arv Z h d2 kd .double nN ((own_add i2 y2 S).2.2.map own_dv) (.double (FP.l2d 0)))
set_option maxRecDepth 65536 in
set_option maxHeartbeats 40000000 in
theorem rmA (l : Launch) (Z : State) (a0 : Array Value) (hw : ∀ d ∈ tables_1, d.before a0 Z = true) (ws : List Jvm.Cond) (a2 : Addr) (i2 : Int32) (w2 : UInt64) (u2 : Value) (g2 : Addr) (d2 : Addr) (S : List Int32 × Int32 × List Int64) (kg : ClassId) (kd : ClassId) (nN : Int32) (y2 : Int64) (h0 : Heap) (n0 : Nat) (Z0 : n0 ≤ h0.size) (Eo : Exa Z h0 a2 "com/example/corrib/corrib/lexicon/SenseWeights") (Fg : Fld Z h0 a2 "com/example/corrib/corrib/lexicon/SenseWeights" "given" "[I" (.ref g2)) (Fd : Fld Z h0 a2 "com/example/corrib/corrib/lexicon/SenseWeights" "bySense" "[D" (.ref d2)) (Fn : Fld Z h0 a2 "com/example/corrib/corrib/lexicon/SenseWeights" "size" "I" (.int S.2.1)) (Fo : Fld Z h0 a2 "com/example/corrib/corrib/lexicon/SenseWeights" "setOut" "[I" u2) (Vg : Arv Z h0 g2 kg .int (16 : Int32) (S.1.map Value.int) (.int (0 : Int32))) (Vd : Arv Z h0 d2 kd .double nN (S.2.2.map own_dv) (.double (FP.l2d 0))) (hag : a2 ≠ g2) (had : a2 ≠ d2) (hgd : g2 ≠ d2) (g_a2 : n0 ≤ a2) (g_g2 : n0 ≤ g2) (g_d2 : n0 ≤ d2) (hS : own_ok nN 14 S) (hi : own_in nN i2) (hwy : w2 = FP.l2d y2) (hy : own_sm 1 y2) :
    MetFree l (⟨"com/example/corrib/corrib/lexicon/SenseWeights", "add", "(ID)V"⟩ : MethodName) (head1 (Jvm.Cond.code (⟨"com/example/corrib/corrib/lexicon/SenseWeights", "add", "(ID)V"⟩ : MethodName) prog_19_method_2_code 4 none :: ws) (oR 1 0 0 20)) (fun a U => a = #[(.ref a2), (.int i2), (.double w2)] ∧ Z.Warmed39 U.vm ∧ U.heap = h0) (fun _ _ _ _ _ => True) (fun _ U o U' => ∃ v L, o = .returned v ∧ QA Z a2 i2 w2 u2 g2 d2 S kg kd nN y2 h0 n0 v U'.heap L ∧ FrameEnd U o U' L (oR 1 0 0 20).cells (oR 1 0 0 20).slots) := by
  refine MetFree.of_bodySF (plainFor_of_name own_pn0) hisR ?_
  intro p e s m args below meth c s₁ Bd hml0 hP hK
  obtain ⟨rfl, hZ, hh⟩ := hP
  have hx := Bd.exec
  have hby := Bd.bytes
  have hlk : meth.locks = false := Bd.notSynchronized
  have hml : c.maxLocals = 4 := hml0
  have hown : s.vm.findClass "com/example/corrib/corrib/lexicon/SenseWeights" = some m.cls := findClass_of_methodNamed Bd.named
  have hnm := (name_of_methodNamed Bd.named Bd.method).1
  have X0 : Stand p l e (oR 1 0 0 20) s m #[(.ref a2), (.int i2), (.double w2)] below meth c s₁ [] 0 0 := Stand.of_body Bd
  have e0 : s₁.heap = h0 := by rw [← hh, Bd.state]; rfl
  have N0 := Fr.nil n0
  refine own_body (A := s₁.setTop (mkF m 0 #[rv a2, iv i2, .val (.double w2), .second] [])) (Q := QA Z a2 i2 w2 u2 g2 d2 S kg kd nN y2 h0 n0) (fun t k => castTop (own_efA m a2 i2 w2) k) ?_
  refine oALN (n := 1) X0 hx (hb hby own_d6_0) rfl rfl rfl ?_
  refine oILN (n := 2) X0 hx (hb hby own_d6_1) rfl rfl ?_
  obtain ⟨cq1, q1, q1'⟩ := Eo.cell
  obtain ⟨_, _, ⟨T1, L1, k1, n1⟩, -, X1, ⟨Lc1, hQ1, l1, y1, z1⟩, st1⟩ := X0.privateBack hx (y := (⟨"com/example/corrib/corrib/lexicon/SenseWeights", "give", "(I)V"⟩ : MethodName)) hown (mvT hZ (oW hw 26 rfl)) (mvT hZ (oW hw 27 rfl)) (own_selP (y' := (⟨"com/example/corrib/corrib/lexicon/SenseWeights", "set", "(ID)V"⟩ : MethodName)) rfl (mvT hZ (oW hw 24 rfl)) (Cond.privateMethod_at (mvP hZ (oW hw 28 rfl) (args := #[]))) (mvT hZ (oW hw 27 rfl)) (by decide)) (Cond.privateMethod_at (mvP hZ (oW hw 28 rfl) (args := #[]))) (mvT hZ (oW hw 29 rfl)) (by decide) (backOf (W := 0) (rmV l Z a0 hw [] a2 i2 u2 g2 d2 S kg kd nN h0 n0 Z0 Eo Fg Fd Fn Fo Vg Vd hag had hgd g_a2 g_g2 g_d2 hS hi) hZ (oW hw 29 rfl) (oW hw 4 rfl) (by decide) (by decide)) (g := (mkF m 2 #[rv a2, iv i2, .val (.double w2), .second] [(.int i2), (.ref a2)])) rfl (by rw [hml]; rfl) (Steps.refl _) (a := a2) (by rw [e0]; exact q1) q1' (argsL := [(.int i2)]) (rest := []) (lenOf own_pd0 rfl) rfl (by show 2 * 0 + _ ≤ _; exact Nat.le_of_eq rfl) (hb hby own_d6_2) (fun _ _ => ⟨rfl, e0, (by decide : 0 + 0 ≤ _), (by decide : 0 + 0 ≤ _)⟩)
  dsimp only [Pt.U, Pt.locs, Pt.cells, Pt.slots] at X1 l1 y1 z1 st1 hQ1
  subst l1 y1 z1
  obtain ⟨rfl, Nq1, Kq1, f1_0, f1_1, f1_2, f1_3, f1_4, f1_5⟩ := hQ1
  have N1 := Fr.app N0 Nq1
  refine ov (B := T1.setTop (mkF m 5 #[rv a2, iv i2, .val (.double w2), .second] [])) (fun t k => st1.trans k) ?_
  refine oALN (n := 6) X1 hx (hb hby own_d6_5) rfl rfl rfl ?_
  obtain ⟨T2, X2, e2, st2⟩ := getF X1 hx hZ hown (host := "") (Or.inl (oW hw 15 rfl)) Via.refl rfl f1_3 (g := (mkF m 6 #[rv a2, iv i2, .val (.double w2), .second] [(.ref a2)])) rfl rfl (hb hby own_d6_6)
  refine ov (B := T2.setTop (mkF m 9 #[rv a2, iv i2, .val (.double w2), .second] [(.ref d2)])) (fun t k => st2 t k) ?_
  refine oILN (n := 10) X2 hx (hb hby own_d6_9) rfl rfl ?_
  refine ov (B := T2.setTop (mkF m 11 #[rv a2, iv i2, .val (.double w2), .second] [(.int i2), (.ref d2), (.int i2), (.ref d2)])) (fun t k => Jvm.Free.XT.dup2 X2.here hx rfl (hb hby own_d6_10) rfl rfl rfl k) ?_
  obtain ⟨cl3, Ar3, q3, S3, M3, H3, G3⟩ := id f1_5
  have hin3 : ¬ (i2 < 0 ∨ cl3.slots.size ≤ (i2).toNatClampNeg) := inb_of S3 hi
  refine ov (B := T2.setTop (mkF m 12 #[rv a2, iv i2, .val (.double w2), .second] [(.double (FP.l2d ((own_give i2 S).2.2.getD i2.toNatClampNeg 0))), (.int i2), (.ref d2)])) (fun t k => X2.daload hx (j := i2) (v := (.double (FP.l2d ((own_give i2 S).2.2.getD i2.toNatClampNeg 0)))) (by rw [e2]; exact Ar3.1) (State.isArrayOf_alike hZ.alike Ar3.2.1) Ar3.2.2 hin3 (Has.at H3 hin3 (own_mgD _ _)) (g := (mkF m 11 #[rv a2, iv i2, .val (.double w2), .second] [(.int i2), (.ref d2), (.int i2), (.ref d2)])) rfl rfl (hb hby own_d6_11) _ k) ?_
  refine ov (B := T2.setTop (mkF m 13 #[rv a2, iv i2, .val (.double w2), .second] [(.double w2), (.double (FP.l2d ((own_give i2 S).2.2.getD i2.toNatClampNeg 0))), (.int i2), (.ref d2)])) (fun t k => XS.dloadN X2.here hx rfl (hb hby own_d6_12) rfl k) ?_
  refine ov (B := T2.setTop (mkF m 14 #[rv a2, iv i2, .val (.double w2), .second] [(.double (FP.dadd (FP.l2d ((own_give i2 S).2.2.getD i2.toNatClampNeg 0)) w2)), (.int i2), (.ref d2)])) (fun t k => XS.daddS X2.here hx rfl (hb hby own_d6_13) rfl (own_nnA hwy (by rw [own_givex]; exact own_smB (hS.2.2.2.2.2 _) (by omega)) (own_smB hy (by omega))) rfl k) ?_
  obtain ⟨cl4, Ar4, q4, S4, M4, H4, G4⟩ := id f1_5
  obtain ⟨T5, h5, X5, e5, W5, st5⟩ := stD X2 hx hZ e2 Ar4 (j := i2) (inb_of S4 hi) (g := (mkF m 14 #[rv a2, iv i2, .val (.double w2), .second] [(.double (FP.dadd (FP.l2d ((own_give i2 S).2.2.getD i2.toNatClampNeg 0)) w2)), (.int i2), (.ref d2)])) rfl rfl (hb hby own_d6_14)
  have V5 : Arv Z h5 d2 kd .double nN (((own_give i2 S).2.2.set i2.toNatClampNeg (((own_give i2 S).2.2.getD i2.toNatClampNeg 0) + y2)).map own_dv) (.double (FP.l2d 0)) := by have q := Arv.set Ar4 q4 S4 M4 H4 G4 rfl W5 i2.toNatClampNeg rfl (by rw [List.length_map, own_givex, hS.2.1]; exact own_iN hi); rw [hwy, dadd_w (by rw [own_givex]; exact own_smB (hS.2.2.2.2.2 _) (by omega)) (own_smB hy (by omega)), own_msD] at q; exact q
  have N5 := Fr.snoc X5 N1 g_d2
  refine ov (B := T5.setTop (mkF m 15 #[rv a2, iv i2, .val (.double w2), .second] [])) (fun t k => st5 t k) ?_
  refine own_leafV X5 hx hlk Bd.returns (hb hby own_d6_15) (by decide) (by decide) ?_
  show QA Z a2 i2 w2 u2 g2 d2 S kg kd nN y2 h0 n0 _ T5.heap _
  rw [e5]
  refine ⟨?_, N5, (((Keep.refl h0 [a2, g2, d2]).trans Kq1 (allS (Or.inl (List.mem_of_getElem? (i := 0) rfl)) (allS (Or.inl (List.mem_of_getElem? (i := 1) rfl)) all0))).wr W5 (Or.inl (List.mem_of_getElem? (i := 2) rfl))), (f1_0.other W5 (Or.inl had)), (f1_1.other W5 (Or.inl had)), (f1_2.other W5 (Or.inl had)), (f1_3.other W5 (Or.inl had)), (f1_4.other W5 hgd), V5⟩
  rfl
theorem own_pn1 : plainName "com/example/corrib/corrib/lexicon/SenseWeightsSortedPinLaw" = true := by first | (simp [plainName, overriddenIn]; done) | decide +kernel
theorem own_pd1 : parseMethodDescriptor "(ID)V" = some ⟨[.int, .double], none⟩ := by decide +kernel
theorem own_d3_0 : decode method_3_code 0 = .ok (.iconst 1, 1) := by decide +kernel
theorem own_d3_1 : decode method_3_code 1 = .ok (.iload_n 2, 1) := by decide +kernel
theorem own_d3_2 : decode method_3_code 2 = .ok (.iconst 1, 1) := by decide +kernel
theorem own_d3_3 : decode method_3_code 3 = .ok (.iushr, 1) := by decide +kernel
theorem own_d3_4 : decode method_3_code 4 = .ok (.bipush 7, 2) := by decide +kernel
theorem own_d3_6 : decode method_3_code 6 = .ok (.iand, 1) := by decide +kernel
theorem own_d3_7 : decode method_3_code 7 = .ok (.iadd, 1) := by decide +kernel
theorem own_d3_8 : decode method_3_code 8 = .ok (.i2d, 1) := by decide +kernel
theorem own_d3_9 : decode method_3_code 9 = .ok (.dstore_n 3, 1) := by decide +kernel
theorem own_d3_10 : decode method_3_code 10 = .ok (.iload_n 2, 1) := by decide +kernel
theorem own_d3_11 : decode method_3_code 11 = .ok (.iconst 1, 1) := by decide +kernel
theorem own_d3_12 : decode method_3_code 12 = .ok (.iand, 1) := by decide +kernel
theorem own_d3_13 : decode method_3_code 13 = .ok (.ifCond .eq 12, 3) := by decide +kernel
theorem own_d3_16 : decode method_3_code 16 = .ok (.aload_n 0, 1) := by decide +kernel
theorem own_d3_17 : decode method_3_code 17 = .ok (.iload_n 1, 1) := by decide +kernel
theorem own_d3_18 : decode method_3_code 18 = .ok (.dload_n 3, 1) := by decide +kernel
theorem own_d3_19 : decode method_3_code 19 = .ok (.invokevirtual 29, 3) := by decide +kernel
theorem own_d3_22 : decode method_3_code 22 = .ok (.goto 9, 3) := by decide +kernel
theorem own_d3_25 : decode method_3_code 25 = .ok (.aload_n 0, 1) := by decide +kernel
theorem own_d3_26 : decode method_3_code 26 = .ok (.iload_n 1, 1) := by decide +kernel
theorem own_d3_27 : decode method_3_code 27 = .ok (.dload_n 3, 1) := by decide +kernel
theorem own_d3_28 : decode method_3_code 28 = .ok (.invokevirtual 33, 3) := by decide +kernel
theorem own_d3_31 : decode method_3_code 31 = .ok (.return_, 1) := by decide +kernel
theorem own_efW (m : MethodId) (x0 : Addr) (x1 : Int32) (x2 : Int32) : entryFrame m #[(.ref x0), (.int x1), (.int x2)] 5 = mkF m 0 #[rv x0, iv x1, iv x2, uu, uu] [] := by first | (simp [entryFrame, mkF, argsToLocals, Value.category]; done) | rfl
def QW (Z : State) (aW : Addr) (iW : Int32) (bW : Int32) (uW : Value) (gW : Addr) (dW : Addr) (S : List Int32 × Int32 × List Int64) (kg : ClassId) (kd : ClassId) (nN : Int32) (h0 : Heap) (n0 : Nat) (v : Option Value) (h : Heap) (L : List Loc) : Prop := v = none ∧ Fr n0 L ∧ Keep h0 h [aW, gW, dW] ∧ (Fld Z h aW "com/example/corrib/corrib/lexicon/SenseWeights" "size" "I" (.int (own_gv iW bW S).2.1)) ∧ (Fld Z h aW "com/example/corrib/corrib/lexicon/SenseWeights" "setOut" "[I" .null) ∧ (Fld Z h aW "com/example/corrib/corrib/lexicon/SenseWeights" "given" "[I" (.ref gW)) ∧ (Fld Z h aW "com/example/corrib/corrib/lexicon/SenseWeights" "bySense" "[D" (.ref dW)) ∧ (Arv Z h gW kg .int (16 : Int32) ((own_gv iW bW S).1.map Value.int) (.int (0 : Int32))) ∧ (Arv Z h dW kd .double nN ((own_gv iW bW S).2.2.map own_dv) (.double (FP.l2d 0)))
set_option maxRecDepth 65536 in
set_option maxHeartbeats 40000000 in
theorem rmW (l : Launch) (Z : State) (a0 : Array Value) (hw : ∀ d ∈ tables_1, d.before a0 Z = true) (ws : List Jvm.Cond) (aW : Addr) (iW : Int32) (bW : Int32) (uW : Value) (gW : Addr) (dW : Addr) (S : List Int32 × Int32 × List Int64) (kg : ClassId) (kd : ClassId) (nN : Int32) (h0 : Heap) (n0 : Nat) (Z0 : n0 ≤ h0.size) (Eo : Exa Z h0 aW "com/example/corrib/corrib/lexicon/SenseWeights") (Fg : Fld Z h0 aW "com/example/corrib/corrib/lexicon/SenseWeights" "given" "[I" (.ref gW)) (Fd : Fld Z h0 aW "com/example/corrib/corrib/lexicon/SenseWeights" "bySense" "[D" (.ref dW)) (Fn : Fld Z h0 aW "com/example/corrib/corrib/lexicon/SenseWeights" "size" "I" (.int S.2.1)) (Fo : Fld Z h0 aW "com/example/corrib/corrib/lexicon/SenseWeights" "setOut" "[I" uW) (Vg : Arv Z h0 gW kg .int (16 : Int32) (S.1.map Value.int) (.int (0 : Int32))) (Vd : Arv Z h0 dW kd .double nN (S.2.2.map own_dv) (.double (FP.l2d 0))) (hag : aW ≠ gW) (had : aW ≠ dW) (hgd : gW ≠ dW) (g_aW : n0 ≤ aW) (g_gW : n0 ≤ gW) (g_dW : n0 ≤ dW) (hS : own_ok nN 14 S) (hi : own_in nN iW) :
    MetFree l (⟨"com/example/corrib/corrib/lexicon/SenseWeightsSortedPinLaw", "give", "(Lcom/example/corrib/corrib/lexicon/SenseWeights;II)V"⟩ : MethodName) (head1 (Jvm.Cond.code (⟨"com/example/corrib/corrib/lexicon/SenseWeightsSortedPinLaw", "give", "(Lcom/example/corrib/corrib/lexicon/SenseWeights;II)V"⟩ : MethodName) method_3_code 5 none :: ws) (oR 2 0 0 44)) (fun a U => a = #[(.ref aW), (.int iW), (.int bW)] ∧ Z.Warmed39 U.vm ∧ U.heap = h0) (fun _ _ _ _ _ => True) (fun _ U o U' => ∃ v L, o = .returned v ∧ QW Z aW iW bW uW gW dW S kg kd nN h0 n0 v U'.heap L ∧ FrameEnd U o U' L (oR 2 0 0 44).cells (oR 2 0 0 44).slots) := by
  refine MetFree.of_bodySF (plainFor_of_name own_pn1) hisR ?_
  intro p e s m args below meth c s₁ Bd hml0 hP hK
  obtain ⟨rfl, hZ, hh⟩ := hP
  have hx := Bd.exec
  have hby := Bd.bytes
  have hlk : meth.locks = false := Bd.notSynchronized
  have hml : c.maxLocals = 5 := hml0
  have hown : s.vm.findClass "com/example/corrib/corrib/lexicon/SenseWeightsSortedPinLaw" = some m.cls := findClass_of_methodNamed Bd.named
  have hnm := (name_of_methodNamed Bd.named Bd.method).1
  have X0 : Stand p l e (oR 2 0 0 44) s m #[(.ref aW), (.int iW), (.int bW)] below meth c s₁ [] 0 0 := Stand.of_body Bd
  have e0 : s₁.heap = h0 := by rw [← hh, Bd.state]; rfl
  have N0 := Fr.nil n0
  refine own_body (A := s₁.setTop (mkF m 0 #[rv aW, iv iW, iv bW, uu, uu] [])) (Q := QW Z aW iW bW uW gW dW S kg kd nN h0 n0) (fun t k => castTop (own_efW m aW iW bW) k) ?_
  refine oIC (n := 1) X0 hx (1 : Int32) (hb hby own_d3_0) (by decide) rfl ?_
  refine oILN (n := 2) X0 hx (hb hby own_d3_1) rfl rfl ?_
  refine oIC (n := 3) X0 hx (1 : Int32) (hb hby own_d3_2) (by decide) rfl ?_
  refine ov (B := s₁.setTop (mkF m 4 #[rv aW, iv iW, iv bW, uu, uu] [(.int ((bW.toUInt32 >>> ((1 : Int32) &&& 31).toUInt32).toInt32)), (.int (1 : Int32))])) (fun t k => XS.iushr X0.here hx rfl (hb hby own_d3_3) rfl k) ?_
  refine oBP (n := 6) X0 hx (7 : Int32) (hb hby own_d3_4) (by decide) rfl ?_
  refine ov (B := s₁.setTop (mkF m 7 #[rv aW, iv iW, iv bW, uu, uu] [(.int (((bW.toUInt32 >>> ((1 : Int32) &&& 31).toUInt32).toInt32) &&& (7 : Int32))), (.int (1 : Int32))])) (fun t k => XS.iand X0.here hx rfl (hb hby own_d3_6) rfl k) ?_
  refine ov (B := s₁.setTop (mkF m 8 #[rv aW, iv iW, iv bW, uu, uu] [(.int ((1 : Int32) + (((bW.toUInt32 >>> ((1 : Int32) &&& 31).toUInt32).toInt32) &&& (7 : Int32))))])) (fun t k => XS.iadd X0.here hx rfl (hb hby own_d3_7) rfl k) ?_
  refine ov (B := s₁.setTop (mkF m 9 #[rv aW, iv iW, iv bW, uu, uu] [(.double (FP.i2d ((1 : Int32) + (((bW.toUInt32 >>> ((1 : Int32) &&& 31).toUInt32).toInt32) &&& (7 : Int32)))))])) (fun t k => XS.i2dS X0.here hx rfl (hb hby own_d3_8) rfl rfl k) ?_
  refine ov (B := s₁.setTop (mkF m 10 #[rv aW, iv iW, iv bW, .val (.double (FP.i2d ((1 : Int32) + (((bW.toUInt32 >>> ((1 : Int32) &&& 31).toUInt32).toInt32) &&& (7 : Int32))))), .second] [])) (fun t k => XS.dstoreN X0.here hx rfl (hb hby own_d3_9) rfl (l' := #[rv aW, iv iW, iv bW, .val (.double (FP.i2d ((1 : Int32) + (((bW.toUInt32 >>> ((1 : Int32) &&& 31).toUInt32).toInt32) &&& (7 : Int32))))), .second]) rfl k) ?_
  refine oILN (n := 11) X0 hx (hb hby own_d3_10) rfl rfl ?_
  refine oIC (n := 12) X0 hx (1 : Int32) (hb hby own_d3_11) (by decide) rfl ?_
  refine ov (B := s₁.setTop (mkF m 13 #[rv aW, iv iW, iv bW, .val (.double (FP.i2d ((1 : Int32) + (((bW.toUInt32 >>> ((1 : Int32) &&& 31).toUInt32).toInt32) &&& (7 : Int32))))), .second] [(.int (bW &&& (1 : Int32)))])) (fun t k => XS.iand X0.here hx rfl (hb hby own_d3_12) rfl k) ?_
  by_cases hc13 : (bW &&& (1 : Int32)) = (0 : Int32)
  · refine ov (B := s₁.setTop (mkF m 25 #[rv aW, iv iW, iv bW, .val (.double (FP.i2d ((1 : Int32) + (((bW.toUInt32 >>> ((1 : Int32) &&& 31).toUInt32).toInt32) &&& (7 : Int32))))), .second] [])) (fun t k => XS.ifYes X0.here hx rfl (pc0 := 13) (pc' := 25) rfl (hb hby own_d3_13) rfl ((if0 _ _).trans (teq hc13).1) (by decide) (by decide) k) ?_
    refine oALN (n := 26) X0 hx (hb hby own_d3_25) rfl rfl rfl ?_
    refine oILN (n := 27) X0 hx (hb hby own_d3_26) rfl rfl ?_
    refine ov (B := s₁.setTop (mkF m 28 #[rv aW, iv iW, iv bW, .val (.double (FP.i2d ((1 : Int32) + (((bW.toUInt32 >>> ((1 : Int32) &&& 31).toUInt32).toInt32) &&& (7 : Int32))))), .second] [(.double (FP.i2d ((1 : Int32) + (((bW.toUInt32 >>> ((1 : Int32) &&& 31).toUInt32).toInt32) &&& (7 : Int32))))), (.int iW), (.ref aW)])) (fun t k => XS.dloadN X0.here hx rfl (hb hby own_d3_27) rfl k) ?_
    obtain ⟨cq1, kq1, q1a, q1b, q1c⟩ := isOf hZ e0 Eo
    obtain ⟨_, _, ⟨T1, L1, k1, n1⟩, -, X1, ⟨Lc1, hQ1, l1, y1, z1⟩, st1⟩ := X0.virtualBack hx (y := (⟨"com/example/corrib/corrib/lexicon/SenseWeights", "set", "(ID)V"⟩ : MethodName)) (z := (⟨"com/example/corrib/corrib/lexicon/SenseWeights", "set", "(ID)V"⟩ : MethodName)) hown (mvT hZ (oW hw 21 rfl)) (mvT hZ (oW hw 22 rfl)) (notFace_of_selects (args := #[]) (mvT hZ (oW hw 24 rfl))) (mvT hZ (oW hw 24 rfl)) (mvT hZ (oW hw 23 rfl)) (by decide) (backOf (W := 0) (rmT l Z a0 hw [] aW iW (FP.i2d ((1 : Int32) + (((bW.toUInt32 >>> ((1 : Int32) &&& 31).toUInt32).toInt32) &&& (7 : Int32)))) uW gW dW S kg kd nN (own_w bW).toInt64 h0 n0 Z0 Eo Fg Fd Fn Fo Vg Vd hag had hgd g_aW g_gW g_dW hS hi (i2d_w _)) hZ (oW hw 25 rfl) (oW hw 4 rfl) (by decide) (by decide)) q1a q1c (g := (mkF m 28 #[rv aW, iv iW, iv bW, .val (.double (FP.i2d ((1 : Int32) + (((bW.toUInt32 >>> ((1 : Int32) &&& 31).toUInt32).toInt32) &&& (7 : Int32))))), .second] [(.double (FP.i2d ((1 : Int32) + (((bW.toUInt32 >>> ((1 : Int32) &&& 31).toUInt32).toInt32) &&& (7 : Int32))))), (.int iW), (.ref aW)])) rfl (by rw [hml]; rfl) (Steps.refl _) (argsL := [(.int iW), (.double (FP.i2d ((1 : Int32) + (((bW.toUInt32 >>> ((1 : Int32) &&& 31).toUInt32).toInt32) &&& (7 : Int32)))))]) (rest := []) (lenOf own_pd1 rfl) rfl (by show 2 * 0 + _ ≤ _; exact Nat.le_of_eq rfl) (hb hby own_d3_28) (fun _ _ => ⟨rfl, e0, (by decide : 0 + 0 ≤ _), (by decide : 0 + 0 ≤ _)⟩)
    dsimp only [Pt.U, Pt.locs, Pt.cells, Pt.slots] at X1 l1 y1 z1 st1 hQ1
    subst l1 y1 z1
    obtain ⟨rfl, Nq1, Kq1, f1_0, f1_1, f1_2, f1_3, f1_4, f1_5⟩ := hQ1
    have N1 := Fr.app N0 Nq1
    refine ov (B := T1.setTop (mkF m 31 #[rv aW, iv iW, iv bW, .val (.double (FP.i2d ((1 : Int32) + (((bW.toUInt32 >>> ((1 : Int32) &&& 31).toUInt32).toInt32) &&& (7 : Int32))))), .second] [])) (fun t k => st1.trans k) ?_
    refine own_leafV X1 hx hlk Bd.returns (hb hby own_d3_31) (by decide) (by decide) ?_
    show QW Z aW iW bW uW gW dW S kg kd nN h0 n0 _ T1.heap _
    refine ⟨?_, N1, ((Keep.refl h0 [aW, gW, dW]).trans Kq1 (allS (Or.inl (List.mem_of_getElem? (i := 0) rfl)) (allS (Or.inl (List.mem_of_getElem? (i := 1) rfl)) (allS (Or.inl (List.mem_of_getElem? (i := 2) rfl)) all0)))), (by rw [own_gvT hc13]; exact f1_0), f1_1, f1_2, f1_3, (by rw [own_gvT hc13]; exact f1_4), (by rw [own_gvT hc13]; exact f1_5)⟩
    rfl
  · refine ov (B := s₁.setTop (mkF m 16 #[rv aW, iv iW, iv bW, .val (.double (FP.i2d ((1 : Int32) + (((bW.toUInt32 >>> ((1 : Int32) &&& 31).toUInt32).toInt32) &&& (7 : Int32))))), .second] [])) (fun t k => XS.ifNo X0.here hx rfl (hb hby own_d3_13) rfl ((if0 _ _).trans (feq hc13).1) k) ?_
    refine oALN (n := 17) X0 hx (hb hby own_d3_16) rfl rfl rfl ?_
    refine oILN (n := 18) X0 hx (hb hby own_d3_17) rfl rfl ?_
    refine ov (B := s₁.setTop (mkF m 19 #[rv aW, iv iW, iv bW, .val (.double (FP.i2d ((1 : Int32) + (((bW.toUInt32 >>> ((1 : Int32) &&& 31).toUInt32).toInt32) &&& (7 : Int32))))), .second] [(.double (FP.i2d ((1 : Int32) + (((bW.toUInt32 >>> ((1 : Int32) &&& 31).toUInt32).toInt32) &&& (7 : Int32))))), (.int iW), (.ref aW)])) (fun t k => XS.dloadN X0.here hx rfl (hb hby own_d3_18) rfl k) ?_
    obtain ⟨cq2, kq2, q2a, q2b, q2c⟩ := isOf hZ e0 Eo
    obtain ⟨_, _, ⟨T2, L2, k2, n2⟩, -, X2, ⟨Lc2, hQ2, l2, y2, z2⟩, st2⟩ := X0.virtualBack hx (y := (⟨"com/example/corrib/corrib/lexicon/SenseWeights", "add", "(ID)V"⟩ : MethodName)) (z := (⟨"com/example/corrib/corrib/lexicon/SenseWeights", "add", "(ID)V"⟩ : MethodName)) hown (mvT hZ (oW hw 34 rfl)) (mvT hZ (oW hw 35 rfl)) (notFace_of_selects (args := #[]) (mvT hZ (oW hw 37 rfl))) (mvT hZ (oW hw 37 rfl)) (mvT hZ (oW hw 36 rfl)) (by decide) (backOf (W := 0) (rmA l Z a0 hw [] aW iW (FP.i2d ((1 : Int32) + (((bW.toUInt32 >>> ((1 : Int32) &&& 31).toUInt32).toInt32) &&& (7 : Int32)))) uW gW dW S kg kd nN (own_w bW).toInt64 h0 n0 Z0 Eo Fg Fd Fn Fo Vg Vd hag had hgd g_aW g_gW g_dW hS hi (i2d_w _) (own_wy bW).1) hZ (oW hw 38 rfl) (oW hw 4 rfl) (by decide) (by decide)) q2a q2c (g := (mkF m 19 #[rv aW, iv iW, iv bW, .val (.double (FP.i2d ((1 : Int32) + (((bW.toUInt32 >>> ((1 : Int32) &&& 31).toUInt32).toInt32) &&& (7 : Int32))))), .second] [(.double (FP.i2d ((1 : Int32) + (((bW.toUInt32 >>> ((1 : Int32) &&& 31).toUInt32).toInt32) &&& (7 : Int32))))), (.int iW), (.ref aW)])) rfl (by rw [hml]; rfl) (Steps.refl _) (argsL := [(.int iW), (.double (FP.i2d ((1 : Int32) + (((bW.toUInt32 >>> ((1 : Int32) &&& 31).toUInt32).toInt32) &&& (7 : Int32)))))]) (rest := []) (lenOf own_pd1 rfl) rfl (by show 2 * 0 + _ ≤ _; exact Nat.le_of_eq rfl) (hb hby own_d3_19) (fun _ _ => ⟨rfl, e0, (by decide : 0 + 0 ≤ _), (by decide : 0 + 0 ≤ _)⟩)
    dsimp only [Pt.U, Pt.locs, Pt.cells, Pt.slots] at X2 l2 y2 z2 st2 hQ2
    subst l2 y2 z2
    obtain ⟨rfl, Nq2, Kq2, f2_0, f2_1, f2_2, f2_3, f2_4, f2_5⟩ := hQ2
    have N2 := Fr.app N0 Nq2
    refine ov (B := T2.setTop (mkF m 22 #[rv aW, iv iW, iv bW, .val (.double (FP.i2d ((1 : Int32) + (((bW.toUInt32 >>> ((1 : Int32) &&& 31).toUInt32).toInt32) &&& (7 : Int32))))), .second] [])) (fun t k => st2.trans k) ?_
    refine oGO (n := 31) X2 hx (hb hby own_d3_22) (by decide) (by decide) ?_
    refine own_leafV X2 hx hlk Bd.returns (hb hby own_d3_31) (by decide) (by decide) ?_
    show QW Z aW iW bW uW gW dW S kg kd nN h0 n0 _ T2.heap _
    refine ⟨?_, N2, ((Keep.refl h0 [aW, gW, dW]).trans Kq2 (allS (Or.inl (List.mem_of_getElem? (i := 0) rfl)) (allS (Or.inl (List.mem_of_getElem? (i := 1) rfl)) (allS (Or.inl (List.mem_of_getElem? (i := 2) rfl)) all0)))), (by rw [own_gvF hc13]; exact f2_0), f2_1, f2_2, f2_3, (by rw [own_gvF hc13]; exact f2_4), (by rw [own_gvF hc13]; exact f2_5)⟩
    rfl
theorem own_d8_0 : decode method_4_code 0 = .ok (.iload_n 1, 1) := by decide +kernel
theorem own_d8_1 : decode method_4_code 1 = .ok (.ifCond .le 8, 3) := by decide +kernel
theorem own_d8_4 : decode method_4_code 4 = .ok (.iload_n 2, 1) := by decide +kernel
theorem own_d8_5 : decode method_4_code 5 = .ok (.iload_n 0, 1) := by decide +kernel
theorem own_d8_6 : decode method_4_code 6 = .ok (.if_icmp .eq 46, 3) := by decide +kernel
theorem own_d8_9 : decode method_4_code 9 = .ok (.iload_n 1, 1) := by decide +kernel
theorem own_d8_10 : decode method_4_code 10 = .ok (.iconst 1, 1) := by decide +kernel
theorem own_d8_11 : decode method_4_code 11 = .ok (.if_icmp .le 8, 3) := by decide +kernel
theorem own_d8_14 : decode method_4_code 14 = .ok (.iload_n 3, 1) := by decide +kernel
theorem own_d8_15 : decode method_4_code 15 = .ok (.iload_n 0, 1) := by decide +kernel
theorem own_d8_16 : decode method_4_code 16 = .ok (.if_icmp .eq 36, 3) := by decide +kernel
theorem own_d8_19 : decode method_4_code 19 = .ok (.iload_n 1, 1) := by decide +kernel
theorem own_d8_20 : decode method_4_code 20 = .ok (.iconst 2, 1) := by decide +kernel
theorem own_d8_21 : decode method_4_code 21 = .ok (.if_icmp .le 9, 3) := by decide +kernel
theorem own_d8_24 : decode method_4_code 24 = .ok (.iload 4, 2) := by decide +kernel
theorem own_d8_26 : decode method_4_code 26 = .ok (.iload_n 0, 1) := by decide +kernel
theorem own_d8_27 : decode method_4_code 27 = .ok (.if_icmp .eq 25, 3) := by decide +kernel
theorem own_d8_30 : decode method_4_code 30 = .ok (.iload_n 1, 1) := by decide +kernel
theorem own_d8_31 : decode method_4_code 31 = .ok (.iconst 3, 1) := by decide +kernel
theorem own_d8_32 : decode method_4_code 32 = .ok (.if_icmp .le 9, 3) := by decide +kernel
theorem own_d8_35 : decode method_4_code 35 = .ok (.iload 5, 2) := by decide +kernel
theorem own_d8_37 : decode method_4_code 37 = .ok (.iload_n 0, 1) := by decide +kernel
theorem own_d8_38 : decode method_4_code 38 = .ok (.if_icmp .eq 14, 3) := by decide +kernel
theorem own_d8_41 : decode method_4_code 41 = .ok (.iload_n 1, 1) := by decide +kernel
theorem own_d8_42 : decode method_4_code 42 = .ok (.iconst 4, 1) := by decide +kernel
theorem own_d8_43 : decode method_4_code 43 = .ok (.if_icmp .le 13, 3) := by decide +kernel
theorem own_d8_46 : decode method_4_code 46 = .ok (.iload 6, 2) := by decide +kernel
theorem own_d8_48 : decode method_4_code 48 = .ok (.iload_n 0, 1) := by decide +kernel
theorem own_d8_49 : decode method_4_code 49 = .ok (.if_icmp .ne 7, 3) := by decide +kernel
theorem own_d8_52 : decode method_4_code 52 = .ok (.iconst 1, 1) := by decide +kernel
theorem own_d8_53 : decode method_4_code 53 = .ok (.goto 4, 3) := by decide +kernel
theorem own_d8_56 : decode method_4_code 56 = .ok (.iconst 0, 1) := by decide +kernel
theorem own_d8_57 : decode method_4_code 57 = .ok (.ireturn, 1) := by decide +kernel
theorem own_efJ (m : MethodId) (x0 : Int32) (x1 : Int32) (x2 : Int32) (x3 : Int32) (x4 : Int32) (x5 : Int32) (x6 : Int32) : entryFrame m #[(.int x0), (.int x1), (.int x2), (.int x3), (.int x4), (.int x5), (.int x6)] 7 = mkF m 0 #[iv x0, iv x1, iv x2, iv x3, iv x4, iv x5, iv x6] [] := by first | (simp [entryFrame, mkF, argsToLocals, Value.category]; done) | rfl
def QJ (Z : State) (jJ : Int32) (cJ : Int32) (pA : Int32) (pB : Int32) (pC : Int32) (pD : Int32) (pE : Int32) (h0 : Heap) (n0 : Nat) (v : Option Value) (h : Heap) (L : List Loc) : Prop := v = some (.int (own_bit (own_P cJ pA pB pC pD pE jJ))) ∧ Fr n0 L ∧ h = h0
set_option maxRecDepth 65536 in
set_option maxHeartbeats 40000000 in
theorem rmJ (l : Launch) (Z : State) (a0 : Array Value) (hw : ∀ d ∈ tables_1, d.before a0 Z = true) (ws : List Jvm.Cond) (jJ : Int32) (cJ : Int32) (pA : Int32) (pB : Int32) (pC : Int32) (pD : Int32) (pE : Int32) (h0 : Heap) (n0 : Nat) (Z0 : n0 ≤ h0.size) :
    MetFree l (⟨"com/example/corrib/corrib/lexicon/SenseWeightsSortedPinLaw", "in", "(IIIIIII)Z"⟩ : MethodName) (head1 (Jvm.Cond.code (⟨"com/example/corrib/corrib/lexicon/SenseWeightsSortedPinLaw", "in", "(IIIIIII)Z"⟩ : MethodName) method_4_code 7 (some .boolean) :: ws) (oR 0 0 0 0)) (fun a U => a = #[(.int jJ), (.int cJ), (.int pA), (.int pB), (.int pC), (.int pD), (.int pE)] ∧ Z.Warmed39 U.vm ∧ U.heap = h0) (fun _ _ _ _ _ => True) (fun _ U o U' => ∃ v L, o = .returned v ∧ QJ Z jJ cJ pA pB pC pD pE h0 n0 v U'.heap L ∧ FrameEnd U o U' L (oR 0 0 0 0).cells (oR 0 0 0 0).slots) := by
  refine MetFree.of_bodySF (plainFor_of_name own_pn1) hisR ?_
  intro p e s m args below meth c s₁ Bd hml0 hP hK
  obtain ⟨rfl, hZ, hh⟩ := hP
  have hx := Bd.exec
  have hby := Bd.bytes
  have hlk : meth.locks = false := Bd.notSynchronized
  have hml : c.maxLocals = 7 := hml0
  have hown : s.vm.findClass "com/example/corrib/corrib/lexicon/SenseWeightsSortedPinLaw" = some m.cls := findClass_of_methodNamed Bd.named
  have hnm := (name_of_methodNamed Bd.named Bd.method).1
  have X0 : Stand p l e (oR 0 0 0 0) s m #[(.int jJ), (.int cJ), (.int pA), (.int pB), (.int pC), (.int pD), (.int pE)] below meth c s₁ [] 0 0 := Stand.of_body Bd
  have e0 : s₁.heap = h0 := by rw [← hh, Bd.state]; rfl
  have N0 := Fr.nil n0
  refine own_body (A := s₁.setTop (mkF m 0 #[iv jJ, iv cJ, iv pA, iv pB, iv pC, iv pD, iv pE] [])) (Q := QJ Z jJ cJ pA pB pC pD pE h0 n0) (fun t k => castTop (own_efJ m jJ cJ pA pB pC pD pE) k) ?_
  refine oILN (n := 1) X0 hx (hb hby own_d8_0) rfl rfl ?_
  by_cases hc1 : (0 : Int32) < cJ
  · refine ov (B := s₁.setTop (mkF m 4 #[iv jJ, iv cJ, iv pA, iv pB, iv pC, iv pD, iv pE] [])) (fun t k => XS.ifNo X0.here hx rfl (hb hby own_d8_1) rfl ((if0 _ _).trans (tlt hc1).2.2.2) k) ?_
    refine oILN (n := 5) X0 hx (hb hby own_d8_4) rfl rfl ?_
    refine oILN (n := 6) X0 hx (hb hby own_d8_5) rfl rfl ?_
    by_cases hc6 : pA = jJ
    · refine ov (B := s₁.setTop (mkF m 52 #[iv jJ, iv cJ, iv pA, iv pB, iv pC, iv pD, iv pE] [])) (fun t k => XS.icmpYes X0.here hx rfl (pc0 := 6) (pc' := 52) rfl (hb hby own_d8_6) rfl (teq hc6).1 (by decide) (by decide) k) ?_
      refine oIC (n := 53) X0 hx (1 : Int32) (hb hby own_d8_52) (by decide) rfl ?_
      refine oGO (n := 57) X0 hx (hb hby own_d8_53) (by decide) (by decide) ?_
      refine own_leaf X0 hx hlk (t := .boolean) Bd.returns (by decide) (Or.inl ⟨rfl, by simp, _, rfl⟩) (hb hby own_d8_57) (by decide) (by decide) ?_
      show QJ Z jJ cJ pA pB pC pD pE h0 n0 _ s₁.heap _
      rw [e0]
      refine ⟨?_, N0, rfl⟩
      exact congrArg (fun z => some (Value.int z)) (own_bitT (P := own_P cJ pA pB pC pD pE jJ) (Or.inl ⟨hc1, hc6⟩)).symm
    · refine ov (B := s₁.setTop (mkF m 9 #[iv jJ, iv cJ, iv pA, iv pB, iv pC, iv pD, iv pE] [])) (fun t k => XS.icmpNo X0.here hx rfl (hb hby own_d8_6) rfl (feq hc6).1 k) ?_
      refine oILN (n := 10) X0 hx (hb hby own_d8_9) rfl rfl ?_
      refine oIC (n := 11) X0 hx (1 : Int32) (hb hby own_d8_10) (by decide) rfl ?_
      by_cases hc11 : (1 : Int32) < cJ
      · refine ov (B := s₁.setTop (mkF m 14 #[iv jJ, iv cJ, iv pA, iv pB, iv pC, iv pD, iv pE] [])) (fun t k => XS.icmpNo X0.here hx rfl (hb hby own_d8_11) rfl (tlt hc11).2.2.2 k) ?_
        refine oILN (n := 15) X0 hx (hb hby own_d8_14) rfl rfl ?_
        refine oILN (n := 16) X0 hx (hb hby own_d8_15) rfl rfl ?_
        by_cases hc16 : pB = jJ
        · refine ov (B := s₁.setTop (mkF m 52 #[iv jJ, iv cJ, iv pA, iv pB, iv pC, iv pD, iv pE] [])) (fun t k => XS.icmpYes X0.here hx rfl (pc0 := 16) (pc' := 52) rfl (hb hby own_d8_16) rfl (teq hc16).1 (by decide) (by decide) k) ?_
          refine oIC (n := 53) X0 hx (1 : Int32) (hb hby own_d8_52) (by decide) rfl ?_
          refine oGO (n := 57) X0 hx (hb hby own_d8_53) (by decide) (by decide) ?_
          refine own_leaf X0 hx hlk (t := .boolean) Bd.returns (by decide) (Or.inl ⟨rfl, by simp, _, rfl⟩) (hb hby own_d8_57) (by decide) (by decide) ?_
          show QJ Z jJ cJ pA pB pC pD pE h0 n0 _ s₁.heap _
          rw [e0]
          refine ⟨?_, N0, rfl⟩
          exact congrArg (fun z => some (Value.int z)) (own_bitT (P := own_P cJ pA pB pC pD pE jJ) (Or.inr (Or.inl ⟨hc11, hc16⟩))).symm
        · refine ov (B := s₁.setTop (mkF m 19 #[iv jJ, iv cJ, iv pA, iv pB, iv pC, iv pD, iv pE] [])) (fun t k => XS.icmpNo X0.here hx rfl (hb hby own_d8_16) rfl (feq hc16).1 k) ?_
          refine oILN (n := 20) X0 hx (hb hby own_d8_19) rfl rfl ?_
          refine oIC (n := 21) X0 hx (2 : Int32) (hb hby own_d8_20) (by decide) rfl ?_
          by_cases hc21 : (2 : Int32) < cJ
          · refine ov (B := s₁.setTop (mkF m 24 #[iv jJ, iv cJ, iv pA, iv pB, iv pC, iv pD, iv pE] [])) (fun t k => XS.icmpNo X0.here hx rfl (hb hby own_d8_21) rfl (tlt hc21).2.2.2 k) ?_
            refine oIL (n := 26) X0 hx (hb hby own_d8_24) rfl rfl ?_
            refine oILN (n := 27) X0 hx (hb hby own_d8_26) rfl rfl ?_
            by_cases hc27 : pC = jJ
            · refine ov (B := s₁.setTop (mkF m 52 #[iv jJ, iv cJ, iv pA, iv pB, iv pC, iv pD, iv pE] [])) (fun t k => XS.icmpYes X0.here hx rfl (pc0 := 27) (pc' := 52) rfl (hb hby own_d8_27) rfl (teq hc27).1 (by decide) (by decide) k) ?_
              refine oIC (n := 53) X0 hx (1 : Int32) (hb hby own_d8_52) (by decide) rfl ?_
              refine oGO (n := 57) X0 hx (hb hby own_d8_53) (by decide) (by decide) ?_
              refine own_leaf X0 hx hlk (t := .boolean) Bd.returns (by decide) (Or.inl ⟨rfl, by simp, _, rfl⟩) (hb hby own_d8_57) (by decide) (by decide) ?_
              show QJ Z jJ cJ pA pB pC pD pE h0 n0 _ s₁.heap _
              rw [e0]
              refine ⟨?_, N0, rfl⟩
              exact congrArg (fun z => some (Value.int z)) (own_bitT (P := own_P cJ pA pB pC pD pE jJ) (Or.inr (Or.inr (Or.inl ⟨hc21, hc27⟩)))).symm
            · refine ov (B := s₁.setTop (mkF m 30 #[iv jJ, iv cJ, iv pA, iv pB, iv pC, iv pD, iv pE] [])) (fun t k => XS.icmpNo X0.here hx rfl (hb hby own_d8_27) rfl (feq hc27).1 k) ?_
              refine oILN (n := 31) X0 hx (hb hby own_d8_30) rfl rfl ?_
              refine oIC (n := 32) X0 hx (3 : Int32) (hb hby own_d8_31) (by decide) rfl ?_
              by_cases hc32 : (3 : Int32) < cJ
              · refine ov (B := s₁.setTop (mkF m 35 #[iv jJ, iv cJ, iv pA, iv pB, iv pC, iv pD, iv pE] [])) (fun t k => XS.icmpNo X0.here hx rfl (hb hby own_d8_32) rfl (tlt hc32).2.2.2 k) ?_
                refine oIL (n := 37) X0 hx (hb hby own_d8_35) rfl rfl ?_
                refine oILN (n := 38) X0 hx (hb hby own_d8_37) rfl rfl ?_
                by_cases hc38 : pD = jJ
                · refine ov (B := s₁.setTop (mkF m 52 #[iv jJ, iv cJ, iv pA, iv pB, iv pC, iv pD, iv pE] [])) (fun t k => XS.icmpYes X0.here hx rfl (pc0 := 38) (pc' := 52) rfl (hb hby own_d8_38) rfl (teq hc38).1 (by decide) (by decide) k) ?_
                  refine oIC (n := 53) X0 hx (1 : Int32) (hb hby own_d8_52) (by decide) rfl ?_
                  refine oGO (n := 57) X0 hx (hb hby own_d8_53) (by decide) (by decide) ?_
                  refine own_leaf X0 hx hlk (t := .boolean) Bd.returns (by decide) (Or.inl ⟨rfl, by simp, _, rfl⟩) (hb hby own_d8_57) (by decide) (by decide) ?_
                  show QJ Z jJ cJ pA pB pC pD pE h0 n0 _ s₁.heap _
                  rw [e0]
                  refine ⟨?_, N0, rfl⟩
                  exact congrArg (fun z => some (Value.int z)) (own_bitT (P := own_P cJ pA pB pC pD pE jJ) (Or.inr (Or.inr (Or.inr (Or.inl ⟨hc32, hc38⟩))))).symm
                · refine ov (B := s₁.setTop (mkF m 41 #[iv jJ, iv cJ, iv pA, iv pB, iv pC, iv pD, iv pE] [])) (fun t k => XS.icmpNo X0.here hx rfl (hb hby own_d8_38) rfl (feq hc38).1 k) ?_
                  refine oILN (n := 42) X0 hx (hb hby own_d8_41) rfl rfl ?_
                  refine oIC (n := 43) X0 hx (4 : Int32) (hb hby own_d8_42) (by decide) rfl ?_
                  by_cases hc43 : (4 : Int32) < cJ
                  · refine ov (B := s₁.setTop (mkF m 46 #[iv jJ, iv cJ, iv pA, iv pB, iv pC, iv pD, iv pE] [])) (fun t k => XS.icmpNo X0.here hx rfl (hb hby own_d8_43) rfl (tlt hc43).2.2.2 k) ?_
                    refine oIL (n := 48) X0 hx (hb hby own_d8_46) rfl rfl ?_
                    refine oILN (n := 49) X0 hx (hb hby own_d8_48) rfl rfl ?_
                    by_cases hc49 : pE = jJ
                    · refine ov (B := s₁.setTop (mkF m 52 #[iv jJ, iv cJ, iv pA, iv pB, iv pC, iv pD, iv pE] [])) (fun t k => XS.icmpNo X0.here hx rfl (hb hby own_d8_49) rfl (teq hc49).2 k) ?_
                      refine oIC (n := 53) X0 hx (1 : Int32) (hb hby own_d8_52) (by decide) rfl ?_
                      refine oGO (n := 57) X0 hx (hb hby own_d8_53) (by decide) (by decide) ?_
                      refine own_leaf X0 hx hlk (t := .boolean) Bd.returns (by decide) (Or.inl ⟨rfl, by simp, _, rfl⟩) (hb hby own_d8_57) (by decide) (by decide) ?_
                      show QJ Z jJ cJ pA pB pC pD pE h0 n0 _ s₁.heap _
                      rw [e0]
                      refine ⟨?_, N0, rfl⟩
                      exact congrArg (fun z => some (Value.int z)) (own_bitT (P := own_P cJ pA pB pC pD pE jJ) (Or.inr (Or.inr (Or.inr (Or.inr (⟨hc43, hc49⟩)))))).symm
                    · refine ov (B := s₁.setTop (mkF m 56 #[iv jJ, iv cJ, iv pA, iv pB, iv pC, iv pD, iv pE] [])) (fun t k => XS.icmpYes X0.here hx rfl (pc0 := 49) (pc' := 56) rfl (hb hby own_d8_49) rfl (feq hc49).2 (by decide) (by decide) k) ?_
                      refine oIC (n := 57) X0 hx (0 : Int32) (hb hby own_d8_56) (by decide) rfl ?_
                      refine own_leaf X0 hx hlk (t := .boolean) Bd.returns (by decide) (Or.inl ⟨rfl, by simp, _, rfl⟩) (hb hby own_d8_57) (by decide) (by decide) ?_
                      show QJ Z jJ cJ pA pB pC pD pE h0 n0 _ s₁.heap _
                      rw [e0]
                      refine ⟨?_, N0, rfl⟩
                      refine congrArg (fun z => some (Value.int z)) (own_bitF (P := own_P cJ pA pB pC pD pE jJ) (fun g => ?_)).symm
                      rcases g with g1 | g1 | g1 | g1 | g1
                      · exact hc6 g1.2
                      · exact hc16 g1.2
                      · exact hc27 g1.2
                      · exact hc38 g1.2
                      · exact hc49 g1.2
                  · refine ov (B := s₁.setTop (mkF m 56 #[iv jJ, iv cJ, iv pA, iv pB, iv pC, iv pD, iv pE] [])) (fun t k => XS.icmpYes X0.here hx rfl (pc0 := 43) (pc' := 56) rfl (hb hby own_d8_43) rfl (flt hc43).2.2.2 (by decide) (by decide) k) ?_
                    refine oIC (n := 57) X0 hx (0 : Int32) (hb hby own_d8_56) (by decide) rfl ?_
                    refine own_leaf X0 hx hlk (t := .boolean) Bd.returns (by decide) (Or.inl ⟨rfl, by simp, _, rfl⟩) (hb hby own_d8_57) (by decide) (by decide) ?_
                    show QJ Z jJ cJ pA pB pC pD pE h0 n0 _ s₁.heap _
                    rw [e0]
                    refine ⟨?_, N0, rfl⟩
                    refine congrArg (fun z => some (Value.int z)) (own_bitF (P := own_P cJ pA pB pC pD pE jJ) (fun g => ?_)).symm
                    rcases g with g1 | g1 | g1 | g1 | g1
                    · exact hc6 g1.2
                    · exact hc16 g1.2
                    · exact hc27 g1.2
                    · exact hc38 g1.2
                    · exact hc43 g1.1
              · refine ov (B := s₁.setTop (mkF m 41 #[iv jJ, iv cJ, iv pA, iv pB, iv pC, iv pD, iv pE] [])) (fun t k => XS.icmpYes X0.here hx rfl (pc0 := 32) (pc' := 41) rfl (hb hby own_d8_32) rfl (flt hc32).2.2.2 (by decide) (by decide) k) ?_
                refine oILN (n := 42) X0 hx (hb hby own_d8_41) rfl rfl ?_
                refine oIC (n := 43) X0 hx (4 : Int32) (hb hby own_d8_42) (by decide) rfl ?_
                have hc43 : ¬ ((4 : Int32) < cJ) := own_lx (a := 3) (b := 4) (by decide) hc32
                refine ov (B := s₁.setTop (mkF m 56 #[iv jJ, iv cJ, iv pA, iv pB, iv pC, iv pD, iv pE] [])) (fun t k => XS.icmpYes X0.here hx rfl (pc0 := 43) (pc' := 56) rfl (hb hby own_d8_43) rfl (flt hc43).2.2.2 (by decide) (by decide) k) ?_
                refine oIC (n := 57) X0 hx (0 : Int32) (hb hby own_d8_56) (by decide) rfl ?_
                refine own_leaf X0 hx hlk (t := .boolean) Bd.returns (by decide) (Or.inl ⟨rfl, by simp, _, rfl⟩) (hb hby own_d8_57) (by decide) (by decide) ?_
                show QJ Z jJ cJ pA pB pC pD pE h0 n0 _ s₁.heap _
                rw [e0]
                refine ⟨?_, N0, rfl⟩
                refine congrArg (fun z => some (Value.int z)) (own_bitF (P := own_P cJ pA pB pC pD pE jJ) (fun g => ?_)).symm
                rcases g with g1 | g1 | g1 | g1 | g1
                · exact hc6 g1.2
                · exact hc16 g1.2
                · exact hc27 g1.2
                · exact hc32 g1.1
                · exact hc43 g1.1
          · refine ov (B := s₁.setTop (mkF m 30 #[iv jJ, iv cJ, iv pA, iv pB, iv pC, iv pD, iv pE] [])) (fun t k => XS.icmpYes X0.here hx rfl (pc0 := 21) (pc' := 30) rfl (hb hby own_d8_21) rfl (flt hc21).2.2.2 (by decide) (by decide) k) ?_
            refine oILN (n := 31) X0 hx (hb hby own_d8_30) rfl rfl ?_
            refine oIC (n := 32) X0 hx (3 : Int32) (hb hby own_d8_31) (by decide) rfl ?_
            have hc32 : ¬ ((3 : Int32) < cJ) := own_lx (a := 2) (b := 3) (by decide) hc21
            refine ov (B := s₁.setTop (mkF m 41 #[iv jJ, iv cJ, iv pA, iv pB, iv pC, iv pD, iv pE] [])) (fun t k => XS.icmpYes X0.here hx rfl (pc0 := 32) (pc' := 41) rfl (hb hby own_d8_32) rfl (flt hc32).2.2.2 (by decide) (by decide) k) ?_
            refine oILN (n := 42) X0 hx (hb hby own_d8_41) rfl rfl ?_
            refine oIC (n := 43) X0 hx (4 : Int32) (hb hby own_d8_42) (by decide) rfl ?_
            have hc43 : ¬ ((4 : Int32) < cJ) := own_lx (a := 2) (b := 4) (by decide) hc21
            refine ov (B := s₁.setTop (mkF m 56 #[iv jJ, iv cJ, iv pA, iv pB, iv pC, iv pD, iv pE] [])) (fun t k => XS.icmpYes X0.here hx rfl (pc0 := 43) (pc' := 56) rfl (hb hby own_d8_43) rfl (flt hc43).2.2.2 (by decide) (by decide) k) ?_
            refine oIC (n := 57) X0 hx (0 : Int32) (hb hby own_d8_56) (by decide) rfl ?_
            refine own_leaf X0 hx hlk (t := .boolean) Bd.returns (by decide) (Or.inl ⟨rfl, by simp, _, rfl⟩) (hb hby own_d8_57) (by decide) (by decide) ?_
            show QJ Z jJ cJ pA pB pC pD pE h0 n0 _ s₁.heap _
            rw [e0]
            refine ⟨?_, N0, rfl⟩
            refine congrArg (fun z => some (Value.int z)) (own_bitF (P := own_P cJ pA pB pC pD pE jJ) (fun g => ?_)).symm
            rcases g with g1 | g1 | g1 | g1 | g1
            · exact hc6 g1.2
            · exact hc16 g1.2
            · exact hc21 g1.1
            · exact hc32 g1.1
            · exact hc43 g1.1
      · refine ov (B := s₁.setTop (mkF m 19 #[iv jJ, iv cJ, iv pA, iv pB, iv pC, iv pD, iv pE] [])) (fun t k => XS.icmpYes X0.here hx rfl (pc0 := 11) (pc' := 19) rfl (hb hby own_d8_11) rfl (flt hc11).2.2.2 (by decide) (by decide) k) ?_
        refine oILN (n := 20) X0 hx (hb hby own_d8_19) rfl rfl ?_
        refine oIC (n := 21) X0 hx (2 : Int32) (hb hby own_d8_20) (by decide) rfl ?_
        have hc21 : ¬ ((2 : Int32) < cJ) := own_lx (a := 1) (b := 2) (by decide) hc11
        refine ov (B := s₁.setTop (mkF m 30 #[iv jJ, iv cJ, iv pA, iv pB, iv pC, iv pD, iv pE] [])) (fun t k => XS.icmpYes X0.here hx rfl (pc0 := 21) (pc' := 30) rfl (hb hby own_d8_21) rfl (flt hc21).2.2.2 (by decide) (by decide) k) ?_
        refine oILN (n := 31) X0 hx (hb hby own_d8_30) rfl rfl ?_
        refine oIC (n := 32) X0 hx (3 : Int32) (hb hby own_d8_31) (by decide) rfl ?_
        have hc32 : ¬ ((3 : Int32) < cJ) := own_lx (a := 1) (b := 3) (by decide) hc11
        refine ov (B := s₁.setTop (mkF m 41 #[iv jJ, iv cJ, iv pA, iv pB, iv pC, iv pD, iv pE] [])) (fun t k => XS.icmpYes X0.here hx rfl (pc0 := 32) (pc' := 41) rfl (hb hby own_d8_32) rfl (flt hc32).2.2.2 (by decide) (by decide) k) ?_
        refine oILN (n := 42) X0 hx (hb hby own_d8_41) rfl rfl ?_
        refine oIC (n := 43) X0 hx (4 : Int32) (hb hby own_d8_42) (by decide) rfl ?_
        have hc43 : ¬ ((4 : Int32) < cJ) := own_lx (a := 1) (b := 4) (by decide) hc11
        refine ov (B := s₁.setTop (mkF m 56 #[iv jJ, iv cJ, iv pA, iv pB, iv pC, iv pD, iv pE] [])) (fun t k => XS.icmpYes X0.here hx rfl (pc0 := 43) (pc' := 56) rfl (hb hby own_d8_43) rfl (flt hc43).2.2.2 (by decide) (by decide) k) ?_
        refine oIC (n := 57) X0 hx (0 : Int32) (hb hby own_d8_56) (by decide) rfl ?_
        refine own_leaf X0 hx hlk (t := .boolean) Bd.returns (by decide) (Or.inl ⟨rfl, by simp, _, rfl⟩) (hb hby own_d8_57) (by decide) (by decide) ?_
        show QJ Z jJ cJ pA pB pC pD pE h0 n0 _ s₁.heap _
        rw [e0]
        refine ⟨?_, N0, rfl⟩
        refine congrArg (fun z => some (Value.int z)) (own_bitF (P := own_P cJ pA pB pC pD pE jJ) (fun g => ?_)).symm
        rcases g with g1 | g1 | g1 | g1 | g1
        · exact hc6 g1.2
        · exact hc11 g1.1
        · exact hc21 g1.1
        · exact hc32 g1.1
        · exact hc43 g1.1
  · refine ov (B := s₁.setTop (mkF m 9 #[iv jJ, iv cJ, iv pA, iv pB, iv pC, iv pD, iv pE] [])) (fun t k => XS.ifYes X0.here hx rfl (pc0 := 1) (pc' := 9) rfl (hb hby own_d8_1) rfl ((if0 _ _).trans (flt hc1).2.2.2) (by decide) (by decide) k) ?_
    refine oILN (n := 10) X0 hx (hb hby own_d8_9) rfl rfl ?_
    refine oIC (n := 11) X0 hx (1 : Int32) (hb hby own_d8_10) (by decide) rfl ?_
    have hc11 : ¬ ((1 : Int32) < cJ) := own_lx (a := 0) (b := 1) (by decide) hc1
    refine ov (B := s₁.setTop (mkF m 19 #[iv jJ, iv cJ, iv pA, iv pB, iv pC, iv pD, iv pE] [])) (fun t k => XS.icmpYes X0.here hx rfl (pc0 := 11) (pc' := 19) rfl (hb hby own_d8_11) rfl (flt hc11).2.2.2 (by decide) (by decide) k) ?_
    refine oILN (n := 20) X0 hx (hb hby own_d8_19) rfl rfl ?_
    refine oIC (n := 21) X0 hx (2 : Int32) (hb hby own_d8_20) (by decide) rfl ?_
    have hc21 : ¬ ((2 : Int32) < cJ) := own_lx (a := 0) (b := 2) (by decide) hc1
    refine ov (B := s₁.setTop (mkF m 30 #[iv jJ, iv cJ, iv pA, iv pB, iv pC, iv pD, iv pE] [])) (fun t k => XS.icmpYes X0.here hx rfl (pc0 := 21) (pc' := 30) rfl (hb hby own_d8_21) rfl (flt hc21).2.2.2 (by decide) (by decide) k) ?_
    refine oILN (n := 31) X0 hx (hb hby own_d8_30) rfl rfl ?_
    refine oIC (n := 32) X0 hx (3 : Int32) (hb hby own_d8_31) (by decide) rfl ?_
    have hc32 : ¬ ((3 : Int32) < cJ) := own_lx (a := 0) (b := 3) (by decide) hc1
    refine ov (B := s₁.setTop (mkF m 41 #[iv jJ, iv cJ, iv pA, iv pB, iv pC, iv pD, iv pE] [])) (fun t k => XS.icmpYes X0.here hx rfl (pc0 := 32) (pc' := 41) rfl (hb hby own_d8_32) rfl (flt hc32).2.2.2 (by decide) (by decide) k) ?_
    refine oILN (n := 42) X0 hx (hb hby own_d8_41) rfl rfl ?_
    refine oIC (n := 43) X0 hx (4 : Int32) (hb hby own_d8_42) (by decide) rfl ?_
    have hc43 : ¬ ((4 : Int32) < cJ) := own_lx (a := 0) (b := 4) (by decide) hc1
    refine ov (B := s₁.setTop (mkF m 56 #[iv jJ, iv cJ, iv pA, iv pB, iv pC, iv pD, iv pE] [])) (fun t k => XS.icmpYes X0.here hx rfl (pc0 := 43) (pc' := 56) rfl (hb hby own_d8_43) rfl (flt hc43).2.2.2 (by decide) (by decide) k) ?_
    refine oIC (n := 57) X0 hx (0 : Int32) (hb hby own_d8_56) (by decide) rfl ?_
    refine own_leaf X0 hx hlk (t := .boolean) Bd.returns (by decide) (Or.inl ⟨rfl, by simp, _, rfl⟩) (hb hby own_d8_57) (by decide) (by decide) ?_
    show QJ Z jJ cJ pA pB pC pD pE h0 n0 _ s₁.heap _
    rw [e0]
    refine ⟨?_, N0, rfl⟩
    refine congrArg (fun z => some (Value.int z)) (own_bitF (P := own_P cJ pA pB pC pD pE jJ) (fun g => ?_)).symm
    rcases g with g1 | g1 | g1 | g1 | g1
    · exact hc1 g1.1
    · exact hc11 g1.1
    · exact hc21 g1.1
    · exact hc32 g1.1
    · exact hc43 g1.1
theorem own_d7_0 : decode prog_19_method_9_code 0 = .ok (.aload_n 0, 1) := by decide +kernel
theorem own_d7_1 : decode prog_19_method_9_code 1 = .ok (.getfield 31, 3) := by decide +kernel
theorem own_d7_4 : decode prog_19_method_9_code 4 = .ok (.newarray .int, 2) := by decide +kernel
theorem own_d7_6 : decode prog_19_method_9_code 6 = .ok (.astore_n 1, 1) := by decide +kernel
theorem own_d7_7 : decode prog_19_method_9_code 7 = .ok (.iconst 0, 1) := by decide +kernel
theorem own_d7_8 : decode prog_19_method_9_code 8 = .ok (.istore_n 2, 1) := by decide +kernel
theorem own_d7_9 : decode prog_19_method_9_code 9 = .ok (.iconst 0, 1) := by decide +kernel
theorem own_d7_10 : decode prog_19_method_9_code 10 = .ok (.istore_n 3, 1) := by decide +kernel
theorem own_d7_11 : decode prog_19_method_9_code 11 = .ok (.iload_n 2, 1) := by decide +kernel
theorem own_d7_12 : decode prog_19_method_9_code 12 = .ok (.aload_n 0, 1) := by decide +kernel
theorem own_d7_13 : decode prog_19_method_9_code 13 = .ok (.getfield 31, 3) := by decide +kernel
theorem own_d7_16 : decode prog_19_method_9_code 16 = .ok (.if_icmp .ge 27, 3) := by decide +kernel
theorem own_d7_19 : decode prog_19_method_9_code 19 = .ok (.aload_n 0, 1) := by decide +kernel
theorem own_d7_20 : decode prog_19_method_9_code 20 = .ok (.getfield 13, 3) := by decide +kernel
theorem own_d7_23 : decode prog_19_method_9_code 23 = .ok (.iload_n 3, 1) := by decide +kernel
theorem own_d7_24 : decode prog_19_method_9_code 24 = .ok (.daload, 1) := by decide +kernel
theorem own_d7_25 : decode prog_19_method_9_code 25 = .ok (.dconst 0, 1) := by decide +kernel
theorem own_d7_26 : decode prog_19_method_9_code 26 = .ok (.dcmp .l, 1) := by decide +kernel
theorem own_d7_27 : decode prog_19_method_9_code 27 = .ok (.ifCond .eq 10, 3) := by decide +kernel
theorem own_d7_30 : decode prog_19_method_9_code 30 = .ok (.aload_n 1, 1) := by decide +kernel
theorem own_d7_31 : decode prog_19_method_9_code 31 = .ok (.iload_n 2, 1) := by decide +kernel
theorem own_d7_32 : decode prog_19_method_9_code 32 = .ok (.iload_n 3, 1) := by decide +kernel
theorem own_d7_33 : decode prog_19_method_9_code 33 = .ok (.iastore, 1) := by decide +kernel
theorem own_d7_34 : decode prog_19_method_9_code 34 = .ok (.iinc 2 1, 3) := by decide +kernel
theorem own_d7_37 : decode prog_19_method_9_code 37 = .ok (.iinc 3 1, 3) := by decide +kernel
theorem own_d7_40 : decode prog_19_method_9_code 40 = .ok (.goto (-29), 3) := by decide +kernel
theorem own_d7_43 : decode prog_19_method_9_code 43 = .ok (.aload_n 1, 1) := by decide +kernel
theorem own_d7_44 : decode prog_19_method_9_code 44 = .ok (.areturn, 1) := by decide +kernel
set_option maxRecDepth 65536 in
set_option maxHeartbeats 40000000 in
theorem own_loopR {p : Program} {l : Launch} {e : Env} {R : Room} {s : State} {m : MethodId} {args : Array Value} {below : List Frame} {meth : Method} {c : Code} {cells slots : Nat} {Z : State} {a0 : Array Value} {n0 : Nat} {aR rR dR : Addr} {kd kr : ClassId} {nR NR : Int32} {xR : List Int64} (hw : ∀ d ∈ tables_1, d.before a0 Z = true) (hx : p.tables.exec = Jvm.exec) (hZ : Z.Warmed39 s.vm) (hby : c.code = prog_19_method_9_code) (hown : s.vm.findClass "com/example/corrib/corrib/lexicon/SenseWeights" = some m.cls) (hN : own_N NR) (hsm : ∀ q, own_sm 14 (xR.getD q 0)) (hn : nR = Int32.ofNat (own_so xR NR.toNatClampNeg).length) (g_rR : n0 ≤ rR) (hra : rR ≠ aR) (hrd : rR ≠ dR) :
    ∀ (f jR : Nat) (kR iR : Int32) (T : State) (h : Heap) (locs : List Loc), jR + f = NR.toNatClampNeg → iR = Int32.ofNat jR → kR = Int32.ofNat (own_so xR jR).length → Stand p l e R s m args below meth c T locs cells slots → T.heap = h → Fr n0 locs → Exa Z h aR "com/example/corrib/corrib/lexicon/SenseWeights" → Fld Z h aR "com/example/corrib/corrib/lexicon/SenseWeights" "size" "I" (.int nR) → Fld Z h aR "com/example/corrib/corrib/lexicon/SenseWeights" "bySense" "[D" (.ref dR) → Arv Z h dR kd .double NR (xR.map own_dv) (.double (FP.l2d 0)) → Arv Z h rR kr .int nR ((own_so xR jR).map Value.int) (.int (0 : Int32)) → own_Go p e below (T.setTop (mkF m 11 #[rv aR, rv rR, iv kR, iv iR] [])) (fun B => ∃ (T' : State) (h' : Heap) (L' : List Loc) (k' i' : Int32), B = T'.setTop (mkF m 43 #[rv aR, rv rR, iv k', iv i'] []) ∧ Stand p l e R s m args below meth c T' L' cells slots ∧ T'.heap = h' ∧ Fr n0 L' ∧ Keep h h' [rR] ∧ Arv Z h' rR kr .int nR ((own_so xR NR.toNatClampNeg).map Value.int) (.int (0 : Int32))) := by
  intro f
  induction f with
  | zero =>
    intro jR kR iR T h locs hj hi hk X0 e0 N0 Eo Fn Fd Vd Vr
    refine oILN (n := 12) X0 hx (hb hby own_d7_11) rfl rfl ?_
    refine oALN (n := 13) X0 hx (hb hby own_d7_12) rfl rfl rfl ?_
    obtain ⟨T1, X1, e1, st1⟩ := getF X0 hx hZ hown (host := "") (Or.inl (oW hw 32 rfl)) Via.refl e0 Fn (g := (mkF m 13 #[rv aR, rv rR, iv kR, iv iR] [(.ref aR), (.int kR)])) rfl rfl (hb hby own_d7_13)
    refine ov (B := T1.setTop (mkF m 16 #[rv aR, rv rR, iv kR, iv iR] [(.int nR), (.int kR)])) (fun t k => st1 t k) ?_
    have hc16 : ¬ (kR < nR) := own_soe hj hk hn
    refine ov (B := T1.setTop (mkF m 43 #[rv aR, rv rR, iv kR, iv iR] [])) (fun t k => XS.icmpYes X1.here hx rfl (pc0 := 16) (pc' := 43) rfl (hb hby own_d7_16) rfl (flt hc16).2.1 (by decide) (by decide) k) ?_
    exact own_done ⟨_, _, _, _, _, rfl, X1, e1, N0, (Keep.refl h [rR]), by have q := Vr; rw [own_sox (by omega) (own_Nn hN).2.2 hk hn hc16] at q; exact q⟩
  | succ f ih =>
    intro jR kR iR T h locs hj hi hk X0 e0 N0 Eo Fn Fd Vd Vr
    refine oILN (n := 12) X0 hx (hb hby own_d7_11) rfl rfl ?_
    refine oALN (n := 13) X0 hx (hb hby own_d7_12) rfl rfl rfl ?_
    obtain ⟨T1, X1, e1, st1⟩ := getF X0 hx hZ hown (host := "") (Or.inl (oW hw 32 rfl)) Via.refl e0 Fn (g := (mkF m 13 #[rv aR, rv rR, iv kR, iv iR] [(.ref aR), (.int kR)])) rfl rfl (hb hby own_d7_13)
    refine ov (B := T1.setTop (mkF m 16 #[rv aR, rv rR, iv kR, iv iR] [(.int nR), (.int kR)])) (fun t k => st1 t k) ?_
    by_cases hc16 : kR < nR
    · refine ov (B := T1.setTop (mkF m 19 #[rv aR, rv rR, iv kR, iv iR] [])) (fun t k => XS.icmpNo X1.here hx rfl (hb hby own_d7_16) rfl (tlt hc16).2.1 k) ?_
      refine oALN (n := 20) X1 hx (hb hby own_d7_19) rfl rfl rfl ?_
      obtain ⟨T2, X2, e2, st2⟩ := getF X1 hx hZ hown (host := "") (Or.inl (oW hw 15 rfl)) Via.refl e1 Fd (g := (mkF m 20 #[rv aR, rv rR, iv kR, iv iR] [(.ref aR)])) rfl rfl (hb hby own_d7_20)
      refine ov (B := T2.setTop (mkF m 23 #[rv aR, rv rR, iv kR, iv iR] [(.ref dR)])) (fun t k => st2 t k) ?_
      refine oILN (n := 24) X2 hx (hb hby own_d7_23) rfl rfl ?_
      obtain ⟨cl3, Ar3, q3, S3, M3, H3, G3⟩ := id Vd
      have hin3 : ¬ (iR < 0 ∨ cl3.slots.size ≤ (iR).toNatClampNeg) := inb_of S3 (own_ib hN hj hi)
      refine ov (B := T2.setTop (mkF m 25 #[rv aR, rv rR, iv kR, iv iR] [(.double (FP.l2d (xR.getD iR.toNatClampNeg 0)))])) (fun t k => X2.daload hx (j := iR) (v := (.double (FP.l2d (xR.getD iR.toNatClampNeg 0)))) (by rw [e2]; exact Ar3.1) (State.isArrayOf_alike hZ.alike Ar3.2.1) Ar3.2.2 hin3 (Has.at H3 hin3 (own_mgD _ _)) (g := (mkF m 24 #[rv aR, rv rR, iv kR, iv iR] [(.int iR), (.ref dR)])) rfl rfl (hb hby own_d7_24) _ k) ?_
      refine ov (B := T2.setTop (mkF m 26 #[rv aR, rv rR, iv kR, iv iR] [(.double FP.dconst0), (.double (FP.l2d (xR.getD iR.toNatClampNeg 0)))])) (fun t k => XS.dconst0 X2.here hx rfl (hb hby own_d7_25) rfl k) ?_
      refine ov (B := T2.setTop (mkF m 27 #[rv aR, rv rR, iv kR, iv iR] [(.int (cmpValue (FP.dcmp (FP.l2d (xR.getD iR.toNatClampNeg 0)) FP.dconst0) .l))])) (fun t k => XS.dcmpS X2.here hx rfl (hb hby own_d7_26) rfl rfl k) ?_
      by_cases hc27 : (cmpValue (FP.dcmp (FP.l2d (xR.getD iR.toNatClampNeg 0)) FP.dconst0) .l) = (0 : Int32)
      · refine ov (B := T2.setTop (mkF m 37 #[rv aR, rv rR, iv kR, iv iR] [])) (fun t k => XS.ifYes X2.here hx rfl (pc0 := 27) (pc' := 37) rfl (hb hby own_d7_27) rfl ((if0 _ _).trans (teq hc27).1) (by decide) (by decide) k) ?_
        refine ov (B := T2.setTop (mkF m 40 #[rv aR, rv rR, iv kR, iv (iR + (1 : Int32))] [])) (fun t k => XS.iinc X2.here hx rfl (hb hby own_d7_37) rfl (l' := #[rv aR, rv rR, iv kR, iv (iR + (1 : Int32))]) rfl k) ?_
        refine oGO (n := 11) X2 hx (hb hby own_d7_40) (by decide) (by decide) ?_
        have hxj : xR.getD jR 0 = 0 := by rw [← own_ic hN hj hi]; exact (own_nz (hsm _) (by omega)).mp hc27
        refine own_bind (ih (jR + 1) _ _ _ _ _ (by omega) (by rw [hi]; exact (inc_ofNat jR).symm) (by rw [own_soN hxj]; exact hk) X2 e2 N0 Eo Fn Fd Vd (by rw [own_soN hxj]; exact Vr)) ?_
        rintro B ⟨T', h', L', k', i', rfl, X', e', N', K', V'⟩
        exact own_done ⟨T', h', L', k', i', rfl, X', e', N', (Keep.refl h [rR]).trans K' (allS (Or.inl (List.mem_of_getElem? (i := 0) rfl)) all0), V'⟩
      · refine ov (B := T2.setTop (mkF m 30 #[rv aR, rv rR, iv kR, iv iR] [])) (fun t k => XS.ifNo X2.here hx rfl (hb hby own_d7_27) rfl ((if0 _ _).trans (feq hc27).1) k) ?_
        refine oALN (n := 31) X2 hx (hb hby own_d7_30) rfl rfl rfl ?_
        refine oILN (n := 32) X2 hx (hb hby own_d7_31) rfl rfl ?_
        refine oILN (n := 33) X2 hx (hb hby own_d7_32) rfl rfl ?_
        obtain ⟨cl4, Ar4, q4, S4, M4, H4, G4⟩ := (show Arv Z h rR kr .int nR ((own_so xR jR).map Value.int) (.int (0 : Int32)) from Vr).pad (pad_rep _ (.int (0 : Int32)) 1)
        obtain ⟨T5, h5, X5, e5, W5, st5⟩ := stI X2 hx hZ e2 Ar4 (j := kR) (inb_of S4 ⟨own_k0 hk (by have e := own_sol xR jR; have e2 := (own_Nn hN).2.2; omega), hc16⟩) (g := (mkF m 33 #[rv aR, rv rR, iv kR, iv iR] [(.int iR), (.int kR), (.ref rR)])) rfl rfl (hb hby own_d7_33)
        have V5 := own_stepI (l := (own_so xR jR)) Ar4 q4 S4 M4 H4 G4 W5 hk (by have e := own_sol xR jR; have e2 := (own_Nn hN).2.2; omega)
        have N5 := Fr.snoc X5 N0 g_rR
        refine ov (B := T5.setTop (mkF m 34 #[rv aR, rv rR, iv kR, iv iR] [])) (fun t k => st5 t k) ?_
        refine ov (B := T5.setTop (mkF m 37 #[rv aR, rv rR, iv (kR + (1 : Int32)), iv iR] [])) (fun t k => XS.iinc X5.here hx rfl (hb hby own_d7_34) rfl (l' := #[rv aR, rv rR, iv (kR + (1 : Int32)), iv iR]) rfl k) ?_
        refine ov (B := T5.setTop (mkF m 40 #[rv aR, rv rR, iv (kR + (1 : Int32)), iv (iR + (1 : Int32))] [])) (fun t k => XS.iinc X5.here hx rfl (hb hby own_d7_37) rfl (l' := #[rv aR, rv rR, iv (kR + (1 : Int32)), iv (iR + (1 : Int32))]) rfl k) ?_
        refine oGO (n := 11) X5 hx (hb hby own_d7_40) (by decide) (by decide) ?_
        have hxj : xR.getD jR 0 ≠ 0 := by rw [← own_ic hN hj hi]; exact mt (own_nz (hsm _) (by omega)).mpr hc27
        refine own_bind (ih (jR + 1) _ _ _ _ _ (by omega) (by rw [hi]; exact (inc_ofNat jR).symm) (by rw [own_soP hxj, List.length_append, hk]; exact (inc_ofNat _).symm) X5 e5 N5 (Eo.wr W5) (Fn.other W5 (Or.inl (Ne.symm hra))) (Fd.other W5 (Or.inl (Ne.symm hra))) (Vd.other W5 (Ne.symm hrd)) (by rw [own_soP hxj, ← hi]; exact V5)) ?_
        rintro B ⟨T', h', L', k', i', rfl, X', e', N', K', V'⟩
        exact own_done ⟨T', h', L', k', i', rfl, X', e', N', ((Keep.refl h [rR]).wr W5 (Or.inl (List.mem_of_getElem? (i := 0) rfl))).trans K' (allS (Or.inl (List.mem_of_getElem? (i := 0) rfl)) all0), V'⟩
    · refine ov (B := T1.setTop (mkF m 43 #[rv aR, rv rR, iv kR, iv iR] [])) (fun t k => XS.icmpYes X1.here hx rfl (pc0 := 16) (pc' := 43) rfl (hb hby own_d7_16) rfl (flt hc16).2.1 (by decide) (by decide) k) ?_
      exact own_done ⟨_, _, _, _, _, rfl, X1, e1, N0, (Keep.refl h [rR]), by have q := Vr; rw [own_sox (by omega) (own_Nn hN).2.2 hk hn hc16] at q; exact q⟩
theorem own_efR (m : MethodId) (x0 : Addr) : entryFrame m #[(.ref x0)] 4 = mkF m 0 #[rv x0, uu, uu, uu] [] := by first | (simp [entryFrame, mkF, argsToLocals, Value.category]; done) | rfl
def QR (Z : State) (aR : Addr) (dR : Addr) (S : List Int32 × Int32 × List Int64) (kd : ClassId) (nN : Int32) (h0 : Heap) (n0 : Nat) (v : Option Value) (h : Heap) (L : List Loc) : Prop := ∃ (r : Addr) (kr : ClassId), v = some (.ref r) ∧ Fr n0 L ∧ Keep h0 h [] ∧ (h0.size ≤ r) ∧ (Arv Z h r kr .int S.2.1 ((own_so S.2.2 nN.toNatClampNeg).map Value.int) (.int (0 : Int32)))
set_option maxRecDepth 65536 in
set_option maxHeartbeats 40000000 in
theorem rmR (l : Launch) (Z : State) (a0 : Array Value) (hw : ∀ d ∈ tables_1, d.before a0 Z = true) (ws : List Jvm.Cond) (aR : Addr) (dR : Addr) (S : List Int32 × Int32 × List Int64) (kd : ClassId) (nN : Int32) (h0 : Heap) (n0 : Nat) (Z0 : n0 ≤ h0.size) (Eo : Exa Z h0 aR "com/example/corrib/corrib/lexicon/SenseWeights") (Fd : Fld Z h0 aR "com/example/corrib/corrib/lexicon/SenseWeights" "bySense" "[D" (.ref dR)) (Fn : Fld Z h0 aR "com/example/corrib/corrib/lexicon/SenseWeights" "size" "I" (.int S.2.1)) (Vd : Arv Z h0 dR kd .double nN (S.2.2.map own_dv) (.double (FP.l2d 0))) (hS : own_ok nN 14 S) (hS6 : S.2.1.toNatClampNeg ≤ 6) (hN : own_N nN) :
    MetFree l (⟨"com/example/corrib/corrib/lexicon/SenseWeights", "sorted", "()[I"⟩ : MethodName) (head1 (Jvm.Cond.code (⟨"com/example/corrib/corrib/lexicon/SenseWeights", "sorted", "()[I"⟩ : MethodName) prog_19_method_9_code 4 (some (.array .int)) :: ws) (oR 0 1 6 0)) (fun a U => a = #[(.ref aR)] ∧ Z.Warmed39 U.vm ∧ U.heap = h0) (fun _ _ _ _ _ => True) (fun _ U o U' => ∃ v L, o = .returned v ∧ QR Z aR dR S kd nN h0 n0 v U'.heap L ∧ FrameEnd U o U' L (oR 0 1 6 0).cells (oR 0 1 6 0).slots) := by
  refine MetFree.of_bodySF (plainFor_of_name own_pn0) hisR ?_
  intro p e s m args below meth c s₁ Bd hml0 hP hK
  obtain ⟨rfl, hZ, hh⟩ := hP
  have hx := Bd.exec
  have hby := Bd.bytes
  have hlk : meth.locks = false := Bd.notSynchronized
  have hml : c.maxLocals = 4 := hml0
  have hown : s.vm.findClass "com/example/corrib/corrib/lexicon/SenseWeights" = some m.cls := findClass_of_methodNamed Bd.named
  have hnm := (name_of_methodNamed Bd.named Bd.method).1
  have X0 : Stand p l e (oR 0 1 6 0) s m #[(.ref aR)] below meth c s₁ [] 0 0 := Stand.of_body Bd
  have e0 : s₁.heap = h0 := by rw [← hh, Bd.state]; rfl
  have N0 := Fr.nil n0
  refine own_body (A := s₁.setTop (mkF m 0 #[rv aR, uu, uu, uu] [])) (Q := QR Z aR dR S kd nN h0 n0) (fun t k => castTop (own_efR m aR) k) ?_
  refine oALN (n := 1) X0 hx (hb hby own_d7_0) rfl rfl rfl ?_
  obtain ⟨T1, X1, e1, st1⟩ := getF X0 hx hZ hown (host := "") (Or.inl (oW hw 32 rfl)) Via.refl e0 Fn (g := (mkF m 1 #[rv aR, uu, uu, uu] [(.ref aR)])) rfl rfl (hb hby own_d7_1)
  refine ov (B := T1.setTop (mkF m 4 #[rv aR, uu, uu, uu] [(.int S.2.1)])) (fun t k => st1 t k) ?_
  obtain ⟨T2, h2, kc2, X2, e2, E2, A2, st2⟩ := newP X1 hx hZ (oW hw 11 rfl) e1 (g := (mkF m 4 #[rv aR, uu, uu, uu] [(.int S.2.1)])) rfl (hb hby own_d7_4) rfl (own_nb hS).1 (cap := 6) hS6 (by decide) (by decide) (by decide)
  obtain ⟨rR, g2⟩ : ∃ z, z = h0.size := ⟨_, rfl⟩
  rw [← g2] at A2 st2
  have g_rR : n0 ≤ rR := Nat.le_trans Z0 (Nat.le_of_eq g2.symm)
  have V2 : Arv Z h2 rR kc2 .int S.2.1 [] (.int (0 : Int32)) := Arv.new A2 (own_nb hS).1
  refine ov (B := T2.setTop (mkF m 6 #[rv aR, uu, uu, uu] [(.ref rR)])) (fun t k => st2 t k) ?_
  refine ov (B := T2.setTop (mkF m 7 #[rv aR, rv rR, uu, uu] [])) (fun t k => XS.astoreN X2.here hx rfl (hb hby own_d7_6) rfl rfl (l' := #[rv aR, rv rR, uu, uu]) rfl k) ?_
  refine oIC (n := 8) X2 hx (0 : Int32) (hb hby own_d7_7) (by decide) rfl ?_
  refine ov (B := T2.setTop (mkF m 9 #[rv aR, rv rR, iv (0 : Int32), uu] [])) (fun t k => XS.istoreN X2.here hx rfl (hb hby own_d7_8) rfl (l' := #[rv aR, rv rR, iv (0 : Int32), uu]) rfl k) ?_
  refine oIC (n := 10) X2 hx (0 : Int32) (hb hby own_d7_9) (by decide) rfl ?_
  refine ov (B := T2.setTop (mkF m 11 #[rv aR, rv rR, iv (0 : Int32), iv (0 : Int32)] [])) (fun t k => XS.istoreN X2.here hx rfl (hb hby own_d7_10) rfl (l' := #[rv aR, rv rR, iv (0 : Int32), iv (0 : Int32)]) rfl k) ?_
  refine own_bind (own_loopR hw hx hZ hby hown hN (fun q => hS.2.2.2.2.2 q) (own_nof hS (by omega)) g_rR (Ne.symm (Nat.ne_of_lt (Nat.lt_of_lt_of_le Eo.lt (Nat.le_of_eq g2.symm)))) (Ne.symm (Nat.ne_of_lt (Nat.lt_of_lt_of_le Vd.lt (Nat.le_of_eq g2.symm)))) nN.toNatClampNeg 0 _ _ _ _ _ (by omega) rfl rfl X2 e2 N0 (Eo.ext E2) (Fn.ext E2) (Fd.ext E2) (Vd.ext E2) V2) ?_
  rintro B ⟨T9, h9, L9, k9, i9, rfl, X9, e9, N9, K9, Vf⟩
  refine oALN (n := 44) X9 hx (hb hby own_d7_43) rfl rfl rfl ?_
  refine own_leaf X9 hx hlk (t := (.array .int)) Bd.returns rfl (Or.inr (Or.inr (Or.inr (Or.inr ⟨rfl, rfl, rfl⟩)))) (hb hby own_d7_44) (by decide) (by decide) ?_
  show QR Z aR dR S kd nN h0 n0 _ T9.heap _
  rw [e9]
  refine ⟨rR, kc2, ?_, N9, (((Keep.refl h0 []).ext E2).trans K9 (allS (Or.inr (Nat.le_of_eq g2.symm)) all0)), ?_, Vf⟩
  · rfl
  · exact (Nat.le_of_eq g2.symm)
theorem own_pd2 : parseMethodDescriptor "(Lcom/example/corrib/corrib/lexicon/SenseWeights;II)V" = some ⟨[(.object "com/example/corrib/corrib/lexicon/SenseWeights"), .int, .int], none⟩ := by decide +kernel
theorem own_pd3 : parseMethodDescriptor "()[I" = some ⟨[], some (.array .int)⟩ := by decide +kernel
theorem own_pd4 : parseMethodDescriptor "(IIIIIII)Z" = some ⟨[.int, .int, .int, .int, .int, .int, .int], some .boolean⟩ := by decide +kernel
theorem own_ef0 (m : MethodId) (x0 : Int32) (x1 : Int32) (x2 : Int64) (x3 : Int64) : entryFrame m #[(.int x0), (.int x1), (.long x2), (.long x3)] maxLocals = mkF m 0 #[iv x0, iv x1, .val (.long x2), .second, .val (.long x3), .second, uu, uu, uu, uu, uu, uu, uu, uu, uu, uu, uu, uu, uu, uu, uu, uu, uu] [] := by first | (simp [entryFrame, mkF, argsToLocals, Value.category, maxLocals]; done) | rfl
def Q0 (Z : State) (i0 : Int32) (i1 : Int32) (i2 : Int64) (i3 : Int64) (h0 : Heap) (n0 : Nat) (v : Option Value) (h : Heap) (L : List Loc) : Prop := v = some (.int 1) ∧ Fr n0 L
set_option maxRecDepth 65536 in
set_option maxHeartbeats 40000000 in
theorem rm0 (l : Launch) (Z : State) (a0 : Array Value) (hw : ∀ d ∈ tables_1, d.before a0 Z = true) (ws : List Jvm.Cond) (i0 : Int32) (i1 : Int32) (i2 : Int64) (i3 : Int64) (h0 : Heap) (n0 : Nat) (Z0 : n0 ≤ h0.size) :
    MetFree l x (head1 (Jvm.Cond.code x code maxLocals ret :: ws) room_1) (fun a U => a = #[(.int i0), (.int i1), (.long i2), (.long i3)] ∧ Z.Warmed39 U.vm ∧ U.heap = h0) (fun _ _ _ _ _ => True) (fun _ U o U' => ∃ v L, o = .returned v ∧ Q0 Z i0 i1 i2 i3 h0 n0 v U'.heap L ∧ FrameEnd U o U' L room_1.cells room_1.slots) := by
  refine MetFree.of_bodySF (plainFor_of_name own_pn1) hisR ?_
  intro p e s m args below meth c s₁ Bd hml0 hP hK
  obtain ⟨rfl, hZ, hh⟩ := hP
  have hx := Bd.exec
  have hby := Bd.bytes
  have hlk : meth.locks = false := Bd.notSynchronized
  have hml : c.maxLocals = 23 := hml0
  have hown : s.vm.findClass "com/example/corrib/corrib/lexicon/SenseWeightsSortedPinLaw" = some m.cls := findClass_of_methodNamed Bd.named
  have hnm := (name_of_methodNamed Bd.named Bd.method).1
  have X0 : Stand p l e room_1 s m #[(.int i0), (.int i1), (.long i2), (.long i3)] below meth c s₁ [] 0 0 := Stand.of_body Bd
  have e0 : s₁.heap = h0 := by rw [← hh, Bd.state]; rfl
  have N0 := Fr.nil n0
  refine own_body (A := s₁.setTop (mkF m 0 #[iv i0, iv i1, .val (.long i2), .second, .val (.long i3), .second, uu, uu, uu, uu, uu, uu, uu, uu, uu, uu, uu, uu, uu, uu, uu, uu, uu] [])) (Q := Q0 Z i0 i1 i2 i3 h0 n0) (fun t k => castTop (own_ef0 m i0 i1 i2 i3) k) ?_
  refine oIC (n := 1) X0 hx (1 : Int32) (hb hby at_0) (by decide) rfl ?_
  refine oILN (n := 2) X0 hx (hb hby at_1) rfl rfl ?_
  refine ov (B := s₁.setTop (mkF m 4 #[iv i0, iv i1, .val (.long i2), .second, .val (.long i3), .second, uu, uu, uu, uu, uu, uu, uu, uu, uu, uu, uu, uu, uu, uu, uu, uu, uu] [(.int (2147483647 : Int32)), (.int i0), (.int (1 : Int32))])) (fun t k => X0.ldcInt hx hown (mvT hZ (oW hw 0 rfl)) (g := (mkF m 2 #[iv i0, iv i1, .val (.long i2), .second, .val (.long i3), .second, uu, uu, uu, uu, uu, uu, uu, uu, uu, uu, uu, uu, uu, uu, uu, uu, uu] [(.int i0), (.int (1 : Int32))])) rfl (hb hby at_2) _ k) ?_
  refine ov (B := s₁.setTop (mkF m 5 #[iv i0, iv i1, .val (.long i2), .second, .val (.long i3), .second, uu, uu, uu, uu, uu, uu, uu, uu, uu, uu, uu, uu, uu, uu, uu, uu, uu] [(.int (i0 &&& (2147483647 : Int32))), (.int (1 : Int32))])) (fun t k => XS.iand X0.here hx rfl (hb hby at_4) rfl k) ?_
  refine oBP (n := 7) X0 hx (6 : Int32) (hb hby at_5) (by decide) rfl ?_
  refine ov (B := s₁.setTop (mkF m 8 #[iv i0, iv i1, .val (.long i2), .second, .val (.long i3), .second, uu, uu, uu, uu, uu, uu, uu, uu, uu, uu, uu, uu, uu, uu, uu, uu, uu] [(.int ((i0 &&& (2147483647 : Int32)) % (6 : Int32))), (.int (1 : Int32))])) (fun t k => iremM X0 hx rfl (hb hby at_7) rfl (by decide) k) ?_
  refine ov (B := s₁.setTop (mkF m 9 #[iv i0, iv i1, .val (.long i2), .second, .val (.long i3), .second, uu, uu, uu, uu, uu, uu, uu, uu, uu, uu, uu, uu, uu, uu, uu, uu, uu] [(.int ((1 : Int32) + ((i0 &&& (2147483647 : Int32)) % (6 : Int32))))])) (fun t k => XS.iadd X0.here hx rfl (hb hby at_8) rfl k) ?_
  refine ov (B := s₁.setTop (mkF m 11 #[iv i0, iv i1, .val (.long i2), .second, .val (.long i3), .second, iv ((1 : Int32) + ((i0 &&& (2147483647 : Int32)) % (6 : Int32))), uu, uu, uu, uu, uu, uu, uu, uu, uu, uu, uu, uu, uu, uu, uu, uu] [])) (fun t k => XS.istore X0.here hx rfl (hb hby at_9) rfl (l' := #[iv i0, iv i1, .val (.long i2), .second, .val (.long i3), .second, iv ((1 : Int32) + ((i0 &&& (2147483647 : Int32)) % (6 : Int32))), uu, uu, uu, uu, uu, uu, uu, uu, uu, uu, uu, uu, uu, uu, uu, uu]) rfl k) ?_
  generalize hs9 : ((1 : Int32) + ((i0 &&& (2147483647 : Int32)) % (6 : Int32))) = s9
  refine oILN (n := 12) X0 hx (hb hby at_11) rfl rfl ?_
  refine ov (B := s₁.setTop (mkF m 14 #[iv i0, iv i1, .val (.long i2), .second, .val (.long i3), .second, iv s9, uu, uu, uu, uu, uu, uu, uu, uu, uu, uu, uu, uu, uu, uu, uu, uu] [(.int (2147483647 : Int32)), (.int i1)])) (fun t k => X0.ldcInt hx hown (mvT hZ (oW hw 0 rfl)) (g := (mkF m 12 #[iv i0, iv i1, .val (.long i2), .second, .val (.long i3), .second, iv s9, uu, uu, uu, uu, uu, uu, uu, uu, uu, uu, uu, uu, uu, uu, uu, uu] [(.int i1)])) rfl (hb hby at_12) _ k) ?_
  refine ov (B := s₁.setTop (mkF m 15 #[iv i0, iv i1, .val (.long i2), .second, .val (.long i3), .second, iv s9, uu, uu, uu, uu, uu, uu, uu, uu, uu, uu, uu, uu, uu, uu, uu, uu] [(.int (i1 &&& (2147483647 : Int32)))])) (fun t k => XS.iand X0.here hx rfl (hb hby at_14) rfl k) ?_
  refine oBP (n := 17) X0 hx (6 : Int32) (hb hby at_15) (by decide) rfl ?_
  refine ov (B := s₁.setTop (mkF m 18 #[iv i0, iv i1, .val (.long i2), .second, .val (.long i3), .second, iv s9, uu, uu, uu, uu, uu, uu, uu, uu, uu, uu, uu, uu, uu, uu, uu, uu] [(.int ((i1 &&& (2147483647 : Int32)) % (6 : Int32)))])) (fun t k => iremM X0 hx rfl (hb hby at_17) rfl (by decide) k) ?_
  refine ov (B := s₁.setTop (mkF m 20 #[iv i0, iv i1, .val (.long i2), .second, .val (.long i3), .second, iv s9, iv ((i1 &&& (2147483647 : Int32)) % (6 : Int32)), uu, uu, uu, uu, uu, uu, uu, uu, uu, uu, uu, uu, uu, uu, uu] [])) (fun t k => XS.istore X0.here hx rfl (hb hby at_18) rfl (l' := #[iv i0, iv i1, .val (.long i2), .second, .val (.long i3), .second, iv s9, iv ((i1 &&& (2147483647 : Int32)) % (6 : Int32)), uu, uu, uu, uu, uu, uu, uu, uu, uu, uu, uu, uu, uu, uu, uu]) rfl k) ?_
  generalize hs18 : ((i1 &&& (2147483647 : Int32)) % (6 : Int32)) = s18
  have hN : own_N s9 := by rw [← hs9]; exact own_nN i0
  refine ov (B := s₁.setTop (mkF m 21 #[iv i0, iv i1, .val (.long i2), .second, .val (.long i3), .second, iv s9, iv s18, uu, uu, uu, uu, uu, uu, uu, uu, uu, uu, uu, uu, uu, uu, uu] [(.long i2)])) (fun t k => XS.lloadN X0.here hx rfl (hb hby at_20) rfl k) ?_
  refine ov (B := s₁.setTop (mkF m 24 #[iv i0, iv i1, .val (.long i2), .second, .val (.long i3), .second, iv s9, iv s18, uu, uu, uu, uu, uu, uu, uu, uu, uu, uu, uu, uu, uu, uu, uu] [(.long (255 : Int64)), (.long i2)])) (fun t k => X0.ldc2Long hx hown (mvT hZ (oW hw 1 rfl)) (g := (mkF m 21 #[iv i0, iv i1, .val (.long i2), .second, .val (.long i3), .second, iv s9, iv s18, uu, uu, uu, uu, uu, uu, uu, uu, uu, uu, uu, uu, uu, uu, uu] [(.long i2)])) rfl (hb hby at_21) _ k) ?_
  refine ov (B := s₁.setTop (mkF m 25 #[iv i0, iv i1, .val (.long i2), .second, .val (.long i3), .second, iv s9, iv s18, uu, uu, uu, uu, uu, uu, uu, uu, uu, uu, uu, uu, uu, uu, uu] [(.long (i2 &&& (255 : Int64)))])) (fun t k => XS.land X0.here hx rfl (hb hby at_24) rfl k) ?_
  refine ov (B := s₁.setTop (mkF m 26 #[iv i0, iv i1, .val (.long i2), .second, .val (.long i3), .second, iv s9, iv s18, uu, uu, uu, uu, uu, uu, uu, uu, uu, uu, uu, uu, uu, uu, uu] [(.int ((i2 &&& (255 : Int64)).toInt32))])) (fun t k => XS.l2i X0.here hx rfl (hb hby at_25) rfl k) ?_
  refine oIL (n := 28) X0 hx (hb hby at_26) rfl rfl ?_
  refine ov (B := s₁.setTop (mkF m 29 #[iv i0, iv i1, .val (.long i2), .second, .val (.long i3), .second, iv s9, iv s18, uu, uu, uu, uu, uu, uu, uu, uu, uu, uu, uu, uu, uu, uu, uu] [(.int (((i2 &&& (255 : Int64)).toInt32) % s9))])) (fun t k => iremM X0 hx rfl (hb hby at_28) rfl (own_Nn hN).2.1 k) ?_
  refine ov (B := s₁.setTop (mkF m 31 #[iv i0, iv i1, .val (.long i2), .second, .val (.long i3), .second, iv s9, iv s18, iv (((i2 &&& (255 : Int64)).toInt32) % s9), uu, uu, uu, uu, uu, uu, uu, uu, uu, uu, uu, uu, uu, uu] [])) (fun t k => XS.istore X0.here hx rfl (hb hby at_29) rfl (l' := #[iv i0, iv i1, .val (.long i2), .second, .val (.long i3), .second, iv s9, iv s18, iv (((i2 &&& (255 : Int64)).toInt32) % s9), uu, uu, uu, uu, uu, uu, uu, uu, uu, uu, uu, uu, uu, uu]) rfl k) ?_
  generalize hs29 : (((i2 &&& (255 : Int64)).toInt32) % s9) = s29
  have hq_0 : own_in s9 s29 := by rw [← hs29]; exact own_sN hN _
  refine ov (B := s₁.setTop (mkF m 32 #[iv i0, iv i1, .val (.long i2), .second, .val (.long i3), .second, iv s9, iv s18, iv s29, uu, uu, uu, uu, uu, uu, uu, uu, uu, uu, uu, uu, uu, uu] [(.long i2)])) (fun t k => XS.lloadN X0.here hx rfl (hb hby at_31) rfl k) ?_
  refine oBP (n := 34) X0 hx (8 : Int32) (hb hby at_32) (by decide) rfl ?_
  refine ov (B := s₁.setTop (mkF m 35 #[iv i0, iv i1, .val (.long i2), .second, .val (.long i3), .second, iv s9, iv s18, iv s29, uu, uu, uu, uu, uu, uu, uu, uu, uu, uu, uu, uu, uu, uu] [(.long ((i2.toUInt64 >>> ((8 : Int32) &&& 0x3f).toInt64.toUInt64).toInt64))])) (fun t k => XS.lushr X0.here hx rfl (hb hby at_34) rfl k) ?_
  refine ov (B := s₁.setTop (mkF m 38 #[iv i0, iv i1, .val (.long i2), .second, .val (.long i3), .second, iv s9, iv s18, iv s29, uu, uu, uu, uu, uu, uu, uu, uu, uu, uu, uu, uu, uu, uu] [(.long (255 : Int64)), (.long ((i2.toUInt64 >>> ((8 : Int32) &&& 0x3f).toInt64.toUInt64).toInt64))])) (fun t k => X0.ldc2Long hx hown (mvT hZ (oW hw 1 rfl)) (g := (mkF m 35 #[iv i0, iv i1, .val (.long i2), .second, .val (.long i3), .second, iv s9, iv s18, iv s29, uu, uu, uu, uu, uu, uu, uu, uu, uu, uu, uu, uu, uu, uu] [(.long ((i2.toUInt64 >>> ((8 : Int32) &&& 0x3f).toInt64.toUInt64).toInt64))])) rfl (hb hby at_35) _ k) ?_
  refine ov (B := s₁.setTop (mkF m 39 #[iv i0, iv i1, .val (.long i2), .second, .val (.long i3), .second, iv s9, iv s18, iv s29, uu, uu, uu, uu, uu, uu, uu, uu, uu, uu, uu, uu, uu, uu] [(.long (((i2.toUInt64 >>> ((8 : Int32) &&& 0x3f).toInt64.toUInt64).toInt64) &&& (255 : Int64)))])) (fun t k => XS.land X0.here hx rfl (hb hby at_38) rfl k) ?_
  refine ov (B := s₁.setTop (mkF m 40 #[iv i0, iv i1, .val (.long i2), .second, .val (.long i3), .second, iv s9, iv s18, iv s29, uu, uu, uu, uu, uu, uu, uu, uu, uu, uu, uu, uu, uu, uu] [(.int ((((i2.toUInt64 >>> ((8 : Int32) &&& 0x3f).toInt64.toUInt64).toInt64) &&& (255 : Int64)).toInt32))])) (fun t k => XS.l2i X0.here hx rfl (hb hby at_39) rfl k) ?_
  refine oIL (n := 42) X0 hx (hb hby at_40) rfl rfl ?_
  refine ov (B := s₁.setTop (mkF m 43 #[iv i0, iv i1, .val (.long i2), .second, .val (.long i3), .second, iv s9, iv s18, iv s29, uu, uu, uu, uu, uu, uu, uu, uu, uu, uu, uu, uu, uu, uu] [(.int (((((i2.toUInt64 >>> ((8 : Int32) &&& 0x3f).toInt64.toUInt64).toInt64) &&& (255 : Int64)).toInt32) % s9))])) (fun t k => iremM X0 hx rfl (hb hby at_42) rfl (own_Nn hN).2.1 k) ?_
  refine ov (B := s₁.setTop (mkF m 45 #[iv i0, iv i1, .val (.long i2), .second, .val (.long i3), .second, iv s9, iv s18, iv s29, iv (((((i2.toUInt64 >>> ((8 : Int32) &&& 0x3f).toInt64.toUInt64).toInt64) &&& (255 : Int64)).toInt32) % s9), uu, uu, uu, uu, uu, uu, uu, uu, uu, uu, uu, uu, uu] [])) (fun t k => XS.istore X0.here hx rfl (hb hby at_43) rfl (l' := #[iv i0, iv i1, .val (.long i2), .second, .val (.long i3), .second, iv s9, iv s18, iv s29, iv (((((i2.toUInt64 >>> ((8 : Int32) &&& 0x3f).toInt64.toUInt64).toInt64) &&& (255 : Int64)).toInt32) % s9), uu, uu, uu, uu, uu, uu, uu, uu, uu, uu, uu, uu, uu]) rfl k) ?_
  generalize hs43 : (((((i2.toUInt64 >>> ((8 : Int32) &&& 0x3f).toInt64.toUInt64).toInt64) &&& (255 : Int64)).toInt32) % s9) = s43
  have hq_1 : own_in s9 s43 := by rw [← hs43]; exact own_sN hN _
  refine ov (B := s₁.setTop (mkF m 46 #[iv i0, iv i1, .val (.long i2), .second, .val (.long i3), .second, iv s9, iv s18, iv s29, iv s43, uu, uu, uu, uu, uu, uu, uu, uu, uu, uu, uu, uu, uu] [(.long i2)])) (fun t k => XS.lloadN X0.here hx rfl (hb hby at_45) rfl k) ?_
  refine oBP (n := 48) X0 hx (16 : Int32) (hb hby at_46) (by decide) rfl ?_
  refine ov (B := s₁.setTop (mkF m 49 #[iv i0, iv i1, .val (.long i2), .second, .val (.long i3), .second, iv s9, iv s18, iv s29, iv s43, uu, uu, uu, uu, uu, uu, uu, uu, uu, uu, uu, uu, uu] [(.long ((i2.toUInt64 >>> ((16 : Int32) &&& 0x3f).toInt64.toUInt64).toInt64))])) (fun t k => XS.lushr X0.here hx rfl (hb hby at_48) rfl k) ?_
  refine ov (B := s₁.setTop (mkF m 52 #[iv i0, iv i1, .val (.long i2), .second, .val (.long i3), .second, iv s9, iv s18, iv s29, iv s43, uu, uu, uu, uu, uu, uu, uu, uu, uu, uu, uu, uu, uu] [(.long (255 : Int64)), (.long ((i2.toUInt64 >>> ((16 : Int32) &&& 0x3f).toInt64.toUInt64).toInt64))])) (fun t k => X0.ldc2Long hx hown (mvT hZ (oW hw 1 rfl)) (g := (mkF m 49 #[iv i0, iv i1, .val (.long i2), .second, .val (.long i3), .second, iv s9, iv s18, iv s29, iv s43, uu, uu, uu, uu, uu, uu, uu, uu, uu, uu, uu, uu, uu] [(.long ((i2.toUInt64 >>> ((16 : Int32) &&& 0x3f).toInt64.toUInt64).toInt64))])) rfl (hb hby at_49) _ k) ?_
  refine ov (B := s₁.setTop (mkF m 53 #[iv i0, iv i1, .val (.long i2), .second, .val (.long i3), .second, iv s9, iv s18, iv s29, iv s43, uu, uu, uu, uu, uu, uu, uu, uu, uu, uu, uu, uu, uu] [(.long (((i2.toUInt64 >>> ((16 : Int32) &&& 0x3f).toInt64.toUInt64).toInt64) &&& (255 : Int64)))])) (fun t k => XS.land X0.here hx rfl (hb hby at_52) rfl k) ?_
  refine ov (B := s₁.setTop (mkF m 54 #[iv i0, iv i1, .val (.long i2), .second, .val (.long i3), .second, iv s9, iv s18, iv s29, iv s43, uu, uu, uu, uu, uu, uu, uu, uu, uu, uu, uu, uu, uu] [(.int ((((i2.toUInt64 >>> ((16 : Int32) &&& 0x3f).toInt64.toUInt64).toInt64) &&& (255 : Int64)).toInt32))])) (fun t k => XS.l2i X0.here hx rfl (hb hby at_53) rfl k) ?_
  refine oIL (n := 56) X0 hx (hb hby at_54) rfl rfl ?_
  refine ov (B := s₁.setTop (mkF m 57 #[iv i0, iv i1, .val (.long i2), .second, .val (.long i3), .second, iv s9, iv s18, iv s29, iv s43, uu, uu, uu, uu, uu, uu, uu, uu, uu, uu, uu, uu, uu] [(.int (((((i2.toUInt64 >>> ((16 : Int32) &&& 0x3f).toInt64.toUInt64).toInt64) &&& (255 : Int64)).toInt32) % s9))])) (fun t k => iremM X0 hx rfl (hb hby at_56) rfl (own_Nn hN).2.1 k) ?_
  refine ov (B := s₁.setTop (mkF m 59 #[iv i0, iv i1, .val (.long i2), .second, .val (.long i3), .second, iv s9, iv s18, iv s29, iv s43, iv (((((i2.toUInt64 >>> ((16 : Int32) &&& 0x3f).toInt64.toUInt64).toInt64) &&& (255 : Int64)).toInt32) % s9), uu, uu, uu, uu, uu, uu, uu, uu, uu, uu, uu, uu] [])) (fun t k => XS.istore X0.here hx rfl (hb hby at_57) rfl (l' := #[iv i0, iv i1, .val (.long i2), .second, .val (.long i3), .second, iv s9, iv s18, iv s29, iv s43, iv (((((i2.toUInt64 >>> ((16 : Int32) &&& 0x3f).toInt64.toUInt64).toInt64) &&& (255 : Int64)).toInt32) % s9), uu, uu, uu, uu, uu, uu, uu, uu, uu, uu, uu, uu]) rfl k) ?_
  generalize hs57 : (((((i2.toUInt64 >>> ((16 : Int32) &&& 0x3f).toInt64.toUInt64).toInt64) &&& (255 : Int64)).toInt32) % s9) = s57
  have hq_2 : own_in s9 s57 := by rw [← hs57]; exact own_sN hN _
  refine ov (B := s₁.setTop (mkF m 60 #[iv i0, iv i1, .val (.long i2), .second, .val (.long i3), .second, iv s9, iv s18, iv s29, iv s43, iv s57, uu, uu, uu, uu, uu, uu, uu, uu, uu, uu, uu, uu] [(.long i2)])) (fun t k => XS.lloadN X0.here hx rfl (hb hby at_59) rfl k) ?_
  refine oBP (n := 62) X0 hx (24 : Int32) (hb hby at_60) (by decide) rfl ?_
  refine ov (B := s₁.setTop (mkF m 63 #[iv i0, iv i1, .val (.long i2), .second, .val (.long i3), .second, iv s9, iv s18, iv s29, iv s43, iv s57, uu, uu, uu, uu, uu, uu, uu, uu, uu, uu, uu, uu] [(.long ((i2.toUInt64 >>> ((24 : Int32) &&& 0x3f).toInt64.toUInt64).toInt64))])) (fun t k => XS.lushr X0.here hx rfl (hb hby at_62) rfl k) ?_
  refine ov (B := s₁.setTop (mkF m 66 #[iv i0, iv i1, .val (.long i2), .second, .val (.long i3), .second, iv s9, iv s18, iv s29, iv s43, iv s57, uu, uu, uu, uu, uu, uu, uu, uu, uu, uu, uu, uu] [(.long (255 : Int64)), (.long ((i2.toUInt64 >>> ((24 : Int32) &&& 0x3f).toInt64.toUInt64).toInt64))])) (fun t k => X0.ldc2Long hx hown (mvT hZ (oW hw 1 rfl)) (g := (mkF m 63 #[iv i0, iv i1, .val (.long i2), .second, .val (.long i3), .second, iv s9, iv s18, iv s29, iv s43, iv s57, uu, uu, uu, uu, uu, uu, uu, uu, uu, uu, uu, uu] [(.long ((i2.toUInt64 >>> ((24 : Int32) &&& 0x3f).toInt64.toUInt64).toInt64))])) rfl (hb hby at_63) _ k) ?_
  refine ov (B := s₁.setTop (mkF m 67 #[iv i0, iv i1, .val (.long i2), .second, .val (.long i3), .second, iv s9, iv s18, iv s29, iv s43, iv s57, uu, uu, uu, uu, uu, uu, uu, uu, uu, uu, uu, uu] [(.long (((i2.toUInt64 >>> ((24 : Int32) &&& 0x3f).toInt64.toUInt64).toInt64) &&& (255 : Int64)))])) (fun t k => XS.land X0.here hx rfl (hb hby at_66) rfl k) ?_
  refine ov (B := s₁.setTop (mkF m 68 #[iv i0, iv i1, .val (.long i2), .second, .val (.long i3), .second, iv s9, iv s18, iv s29, iv s43, iv s57, uu, uu, uu, uu, uu, uu, uu, uu, uu, uu, uu, uu] [(.int ((((i2.toUInt64 >>> ((24 : Int32) &&& 0x3f).toInt64.toUInt64).toInt64) &&& (255 : Int64)).toInt32))])) (fun t k => XS.l2i X0.here hx rfl (hb hby at_67) rfl k) ?_
  refine oIL (n := 70) X0 hx (hb hby at_68) rfl rfl ?_
  refine ov (B := s₁.setTop (mkF m 71 #[iv i0, iv i1, .val (.long i2), .second, .val (.long i3), .second, iv s9, iv s18, iv s29, iv s43, iv s57, uu, uu, uu, uu, uu, uu, uu, uu, uu, uu, uu, uu] [(.int (((((i2.toUInt64 >>> ((24 : Int32) &&& 0x3f).toInt64.toUInt64).toInt64) &&& (255 : Int64)).toInt32) % s9))])) (fun t k => iremM X0 hx rfl (hb hby at_70) rfl (own_Nn hN).2.1 k) ?_
  refine ov (B := s₁.setTop (mkF m 73 #[iv i0, iv i1, .val (.long i2), .second, .val (.long i3), .second, iv s9, iv s18, iv s29, iv s43, iv s57, iv (((((i2.toUInt64 >>> ((24 : Int32) &&& 0x3f).toInt64.toUInt64).toInt64) &&& (255 : Int64)).toInt32) % s9), uu, uu, uu, uu, uu, uu, uu, uu, uu, uu, uu] [])) (fun t k => XS.istore X0.here hx rfl (hb hby at_71) rfl (l' := #[iv i0, iv i1, .val (.long i2), .second, .val (.long i3), .second, iv s9, iv s18, iv s29, iv s43, iv s57, iv (((((i2.toUInt64 >>> ((24 : Int32) &&& 0x3f).toInt64.toUInt64).toInt64) &&& (255 : Int64)).toInt32) % s9), uu, uu, uu, uu, uu, uu, uu, uu, uu, uu, uu]) rfl k) ?_
  generalize hs71 : (((((i2.toUInt64 >>> ((24 : Int32) &&& 0x3f).toInt64.toUInt64).toInt64) &&& (255 : Int64)).toInt32) % s9) = s71
  have hq_3 : own_in s9 s71 := by rw [← hs71]; exact own_sN hN _
  refine ov (B := s₁.setTop (mkF m 74 #[iv i0, iv i1, .val (.long i2), .second, .val (.long i3), .second, iv s9, iv s18, iv s29, iv s43, iv s57, iv s71, uu, uu, uu, uu, uu, uu, uu, uu, uu, uu, uu] [(.long i2)])) (fun t k => XS.lloadN X0.here hx rfl (hb hby at_73) rfl k) ?_
  refine oBP (n := 76) X0 hx (32 : Int32) (hb hby at_74) (by decide) rfl ?_
  refine ov (B := s₁.setTop (mkF m 77 #[iv i0, iv i1, .val (.long i2), .second, .val (.long i3), .second, iv s9, iv s18, iv s29, iv s43, iv s57, iv s71, uu, uu, uu, uu, uu, uu, uu, uu, uu, uu, uu] [(.long ((i2.toUInt64 >>> ((32 : Int32) &&& 0x3f).toInt64.toUInt64).toInt64))])) (fun t k => XS.lushr X0.here hx rfl (hb hby at_76) rfl k) ?_
  refine ov (B := s₁.setTop (mkF m 80 #[iv i0, iv i1, .val (.long i2), .second, .val (.long i3), .second, iv s9, iv s18, iv s29, iv s43, iv s57, iv s71, uu, uu, uu, uu, uu, uu, uu, uu, uu, uu, uu] [(.long (255 : Int64)), (.long ((i2.toUInt64 >>> ((32 : Int32) &&& 0x3f).toInt64.toUInt64).toInt64))])) (fun t k => X0.ldc2Long hx hown (mvT hZ (oW hw 1 rfl)) (g := (mkF m 77 #[iv i0, iv i1, .val (.long i2), .second, .val (.long i3), .second, iv s9, iv s18, iv s29, iv s43, iv s57, iv s71, uu, uu, uu, uu, uu, uu, uu, uu, uu, uu, uu] [(.long ((i2.toUInt64 >>> ((32 : Int32) &&& 0x3f).toInt64.toUInt64).toInt64))])) rfl (hb hby at_77) _ k) ?_
  refine ov (B := s₁.setTop (mkF m 81 #[iv i0, iv i1, .val (.long i2), .second, .val (.long i3), .second, iv s9, iv s18, iv s29, iv s43, iv s57, iv s71, uu, uu, uu, uu, uu, uu, uu, uu, uu, uu, uu] [(.long (((i2.toUInt64 >>> ((32 : Int32) &&& 0x3f).toInt64.toUInt64).toInt64) &&& (255 : Int64)))])) (fun t k => XS.land X0.here hx rfl (hb hby at_80) rfl k) ?_
  refine ov (B := s₁.setTop (mkF m 82 #[iv i0, iv i1, .val (.long i2), .second, .val (.long i3), .second, iv s9, iv s18, iv s29, iv s43, iv s57, iv s71, uu, uu, uu, uu, uu, uu, uu, uu, uu, uu, uu] [(.int ((((i2.toUInt64 >>> ((32 : Int32) &&& 0x3f).toInt64.toUInt64).toInt64) &&& (255 : Int64)).toInt32))])) (fun t k => XS.l2i X0.here hx rfl (hb hby at_81) rfl k) ?_
  refine oIL (n := 84) X0 hx (hb hby at_82) rfl rfl ?_
  refine ov (B := s₁.setTop (mkF m 85 #[iv i0, iv i1, .val (.long i2), .second, .val (.long i3), .second, iv s9, iv s18, iv s29, iv s43, iv s57, iv s71, uu, uu, uu, uu, uu, uu, uu, uu, uu, uu, uu] [(.int (((((i2.toUInt64 >>> ((32 : Int32) &&& 0x3f).toInt64.toUInt64).toInt64) &&& (255 : Int64)).toInt32) % s9))])) (fun t k => iremM X0 hx rfl (hb hby at_84) rfl (own_Nn hN).2.1 k) ?_
  refine ov (B := s₁.setTop (mkF m 87 #[iv i0, iv i1, .val (.long i2), .second, .val (.long i3), .second, iv s9, iv s18, iv s29, iv s43, iv s57, iv s71, iv (((((i2.toUInt64 >>> ((32 : Int32) &&& 0x3f).toInt64.toUInt64).toInt64) &&& (255 : Int64)).toInt32) % s9), uu, uu, uu, uu, uu, uu, uu, uu, uu, uu] [])) (fun t k => XS.istore X0.here hx rfl (hb hby at_85) rfl (l' := #[iv i0, iv i1, .val (.long i2), .second, .val (.long i3), .second, iv s9, iv s18, iv s29, iv s43, iv s57, iv s71, iv (((((i2.toUInt64 >>> ((32 : Int32) &&& 0x3f).toInt64.toUInt64).toInt64) &&& (255 : Int64)).toInt32) % s9), uu, uu, uu, uu, uu, uu, uu, uu, uu, uu]) rfl k) ?_
  generalize hs85 : (((((i2.toUInt64 >>> ((32 : Int32) &&& 0x3f).toInt64.toUInt64).toInt64) &&& (255 : Int64)).toInt32) % s9) = s85
  have hq_4 : own_in s9 s85 := by rw [← hs85]; exact own_sN hN _
  refine ov (B := s₁.setTop (mkF m 89 #[iv i0, iv i1, .val (.long i2), .second, .val (.long i3), .second, iv s9, iv s18, iv s29, iv s43, iv s57, iv s71, iv s85, uu, uu, uu, uu, uu, uu, uu, uu, uu, uu] [(.long i3)])) (fun t k => XS.lload X0.here hx rfl (hb hby at_87) rfl k) ?_
  refine ov (B := s₁.setTop (mkF m 92 #[iv i0, iv i1, .val (.long i2), .second, .val (.long i3), .second, iv s9, iv s18, iv s29, iv s43, iv s57, iv s71, iv s85, uu, uu, uu, uu, uu, uu, uu, uu, uu, uu] [(.long (255 : Int64)), (.long i3)])) (fun t k => X0.ldc2Long hx hown (mvT hZ (oW hw 1 rfl)) (g := (mkF m 89 #[iv i0, iv i1, .val (.long i2), .second, .val (.long i3), .second, iv s9, iv s18, iv s29, iv s43, iv s57, iv s71, iv s85, uu, uu, uu, uu, uu, uu, uu, uu, uu, uu] [(.long i3)])) rfl (hb hby at_89) _ k) ?_
  refine ov (B := s₁.setTop (mkF m 93 #[iv i0, iv i1, .val (.long i2), .second, .val (.long i3), .second, iv s9, iv s18, iv s29, iv s43, iv s57, iv s71, iv s85, uu, uu, uu, uu, uu, uu, uu, uu, uu, uu] [(.long (i3 &&& (255 : Int64)))])) (fun t k => XS.land X0.here hx rfl (hb hby at_92) rfl k) ?_
  refine ov (B := s₁.setTop (mkF m 94 #[iv i0, iv i1, .val (.long i2), .second, .val (.long i3), .second, iv s9, iv s18, iv s29, iv s43, iv s57, iv s71, iv s85, uu, uu, uu, uu, uu, uu, uu, uu, uu, uu] [(.int ((i3 &&& (255 : Int64)).toInt32))])) (fun t k => XS.l2i X0.here hx rfl (hb hby at_93) rfl k) ?_
  refine ov (B := s₁.setTop (mkF m 96 #[iv i0, iv i1, .val (.long i2), .second, .val (.long i3), .second, iv s9, iv s18, iv s29, iv s43, iv s57, iv s71, iv s85, iv ((i3 &&& (255 : Int64)).toInt32), uu, uu, uu, uu, uu, uu, uu, uu, uu] [])) (fun t k => XS.istore X0.here hx rfl (hb hby at_94) rfl (l' := #[iv i0, iv i1, .val (.long i2), .second, .val (.long i3), .second, iv s9, iv s18, iv s29, iv s43, iv s57, iv s71, iv s85, iv ((i3 &&& (255 : Int64)).toInt32), uu, uu, uu, uu, uu, uu, uu, uu, uu]) rfl k) ?_
  generalize hs94 : ((i3 &&& (255 : Int64)).toInt32) = s94
  refine ov (B := s₁.setTop (mkF m 98 #[iv i0, iv i1, .val (.long i2), .second, .val (.long i3), .second, iv s9, iv s18, iv s29, iv s43, iv s57, iv s71, iv s85, iv s94, uu, uu, uu, uu, uu, uu, uu, uu, uu] [(.long i3)])) (fun t k => XS.lload X0.here hx rfl (hb hby at_96) rfl k) ?_
  refine oBP (n := 100) X0 hx (8 : Int32) (hb hby at_98) (by decide) rfl ?_
  refine ov (B := s₁.setTop (mkF m 101 #[iv i0, iv i1, .val (.long i2), .second, .val (.long i3), .second, iv s9, iv s18, iv s29, iv s43, iv s57, iv s71, iv s85, iv s94, uu, uu, uu, uu, uu, uu, uu, uu, uu] [(.long ((i3.toUInt64 >>> ((8 : Int32) &&& 0x3f).toInt64.toUInt64).toInt64))])) (fun t k => XS.lushr X0.here hx rfl (hb hby at_100) rfl k) ?_
  refine ov (B := s₁.setTop (mkF m 104 #[iv i0, iv i1, .val (.long i2), .second, .val (.long i3), .second, iv s9, iv s18, iv s29, iv s43, iv s57, iv s71, iv s85, iv s94, uu, uu, uu, uu, uu, uu, uu, uu, uu] [(.long (255 : Int64)), (.long ((i3.toUInt64 >>> ((8 : Int32) &&& 0x3f).toInt64.toUInt64).toInt64))])) (fun t k => X0.ldc2Long hx hown (mvT hZ (oW hw 1 rfl)) (g := (mkF m 101 #[iv i0, iv i1, .val (.long i2), .second, .val (.long i3), .second, iv s9, iv s18, iv s29, iv s43, iv s57, iv s71, iv s85, iv s94, uu, uu, uu, uu, uu, uu, uu, uu, uu] [(.long ((i3.toUInt64 >>> ((8 : Int32) &&& 0x3f).toInt64.toUInt64).toInt64))])) rfl (hb hby at_101) _ k) ?_
  refine ov (B := s₁.setTop (mkF m 105 #[iv i0, iv i1, .val (.long i2), .second, .val (.long i3), .second, iv s9, iv s18, iv s29, iv s43, iv s57, iv s71, iv s85, iv s94, uu, uu, uu, uu, uu, uu, uu, uu, uu] [(.long (((i3.toUInt64 >>> ((8 : Int32) &&& 0x3f).toInt64.toUInt64).toInt64) &&& (255 : Int64)))])) (fun t k => XS.land X0.here hx rfl (hb hby at_104) rfl k) ?_
  refine ov (B := s₁.setTop (mkF m 106 #[iv i0, iv i1, .val (.long i2), .second, .val (.long i3), .second, iv s9, iv s18, iv s29, iv s43, iv s57, iv s71, iv s85, iv s94, uu, uu, uu, uu, uu, uu, uu, uu, uu] [(.int ((((i3.toUInt64 >>> ((8 : Int32) &&& 0x3f).toInt64.toUInt64).toInt64) &&& (255 : Int64)).toInt32))])) (fun t k => XS.l2i X0.here hx rfl (hb hby at_105) rfl k) ?_
  refine ov (B := s₁.setTop (mkF m 108 #[iv i0, iv i1, .val (.long i2), .second, .val (.long i3), .second, iv s9, iv s18, iv s29, iv s43, iv s57, iv s71, iv s85, iv s94, iv ((((i3.toUInt64 >>> ((8 : Int32) &&& 0x3f).toInt64.toUInt64).toInt64) &&& (255 : Int64)).toInt32), uu, uu, uu, uu, uu, uu, uu, uu] [])) (fun t k => XS.istore X0.here hx rfl (hb hby at_106) rfl (l' := #[iv i0, iv i1, .val (.long i2), .second, .val (.long i3), .second, iv s9, iv s18, iv s29, iv s43, iv s57, iv s71, iv s85, iv s94, iv ((((i3.toUInt64 >>> ((8 : Int32) &&& 0x3f).toInt64.toUInt64).toInt64) &&& (255 : Int64)).toInt32), uu, uu, uu, uu, uu, uu, uu, uu]) rfl k) ?_
  generalize hs106 : ((((i3.toUInt64 >>> ((8 : Int32) &&& 0x3f).toInt64.toUInt64).toInt64) &&& (255 : Int64)).toInt32) = s106
  refine ov (B := s₁.setTop (mkF m 110 #[iv i0, iv i1, .val (.long i2), .second, .val (.long i3), .second, iv s9, iv s18, iv s29, iv s43, iv s57, iv s71, iv s85, iv s94, iv s106, uu, uu, uu, uu, uu, uu, uu, uu] [(.long i3)])) (fun t k => XS.lload X0.here hx rfl (hb hby at_108) rfl k) ?_
  refine oBP (n := 112) X0 hx (16 : Int32) (hb hby at_110) (by decide) rfl ?_
  refine ov (B := s₁.setTop (mkF m 113 #[iv i0, iv i1, .val (.long i2), .second, .val (.long i3), .second, iv s9, iv s18, iv s29, iv s43, iv s57, iv s71, iv s85, iv s94, iv s106, uu, uu, uu, uu, uu, uu, uu, uu] [(.long ((i3.toUInt64 >>> ((16 : Int32) &&& 0x3f).toInt64.toUInt64).toInt64))])) (fun t k => XS.lushr X0.here hx rfl (hb hby at_112) rfl k) ?_
  refine ov (B := s₁.setTop (mkF m 116 #[iv i0, iv i1, .val (.long i2), .second, .val (.long i3), .second, iv s9, iv s18, iv s29, iv s43, iv s57, iv s71, iv s85, iv s94, iv s106, uu, uu, uu, uu, uu, uu, uu, uu] [(.long (255 : Int64)), (.long ((i3.toUInt64 >>> ((16 : Int32) &&& 0x3f).toInt64.toUInt64).toInt64))])) (fun t k => X0.ldc2Long hx hown (mvT hZ (oW hw 1 rfl)) (g := (mkF m 113 #[iv i0, iv i1, .val (.long i2), .second, .val (.long i3), .second, iv s9, iv s18, iv s29, iv s43, iv s57, iv s71, iv s85, iv s94, iv s106, uu, uu, uu, uu, uu, uu, uu, uu] [(.long ((i3.toUInt64 >>> ((16 : Int32) &&& 0x3f).toInt64.toUInt64).toInt64))])) rfl (hb hby at_113) _ k) ?_
  refine ov (B := s₁.setTop (mkF m 117 #[iv i0, iv i1, .val (.long i2), .second, .val (.long i3), .second, iv s9, iv s18, iv s29, iv s43, iv s57, iv s71, iv s85, iv s94, iv s106, uu, uu, uu, uu, uu, uu, uu, uu] [(.long (((i3.toUInt64 >>> ((16 : Int32) &&& 0x3f).toInt64.toUInt64).toInt64) &&& (255 : Int64)))])) (fun t k => XS.land X0.here hx rfl (hb hby at_116) rfl k) ?_
  refine ov (B := s₁.setTop (mkF m 118 #[iv i0, iv i1, .val (.long i2), .second, .val (.long i3), .second, iv s9, iv s18, iv s29, iv s43, iv s57, iv s71, iv s85, iv s94, iv s106, uu, uu, uu, uu, uu, uu, uu, uu] [(.int ((((i3.toUInt64 >>> ((16 : Int32) &&& 0x3f).toInt64.toUInt64).toInt64) &&& (255 : Int64)).toInt32))])) (fun t k => XS.l2i X0.here hx rfl (hb hby at_117) rfl k) ?_
  refine ov (B := s₁.setTop (mkF m 120 #[iv i0, iv i1, .val (.long i2), .second, .val (.long i3), .second, iv s9, iv s18, iv s29, iv s43, iv s57, iv s71, iv s85, iv s94, iv s106, iv ((((i3.toUInt64 >>> ((16 : Int32) &&& 0x3f).toInt64.toUInt64).toInt64) &&& (255 : Int64)).toInt32), uu, uu, uu, uu, uu, uu, uu] [])) (fun t k => XS.istore X0.here hx rfl (hb hby at_118) rfl (l' := #[iv i0, iv i1, .val (.long i2), .second, .val (.long i3), .second, iv s9, iv s18, iv s29, iv s43, iv s57, iv s71, iv s85, iv s94, iv s106, iv ((((i3.toUInt64 >>> ((16 : Int32) &&& 0x3f).toInt64.toUInt64).toInt64) &&& (255 : Int64)).toInt32), uu, uu, uu, uu, uu, uu, uu]) rfl k) ?_
  generalize hs118 : ((((i3.toUInt64 >>> ((16 : Int32) &&& 0x3f).toInt64.toUInt64).toInt64) &&& (255 : Int64)).toInt32) = s118
  refine ov (B := s₁.setTop (mkF m 122 #[iv i0, iv i1, .val (.long i2), .second, .val (.long i3), .second, iv s9, iv s18, iv s29, iv s43, iv s57, iv s71, iv s85, iv s94, iv s106, iv s118, uu, uu, uu, uu, uu, uu, uu] [(.long i3)])) (fun t k => XS.lload X0.here hx rfl (hb hby at_120) rfl k) ?_
  refine oBP (n := 124) X0 hx (24 : Int32) (hb hby at_122) (by decide) rfl ?_
  refine ov (B := s₁.setTop (mkF m 125 #[iv i0, iv i1, .val (.long i2), .second, .val (.long i3), .second, iv s9, iv s18, iv s29, iv s43, iv s57, iv s71, iv s85, iv s94, iv s106, iv s118, uu, uu, uu, uu, uu, uu, uu] [(.long ((i3.toUInt64 >>> ((24 : Int32) &&& 0x3f).toInt64.toUInt64).toInt64))])) (fun t k => XS.lushr X0.here hx rfl (hb hby at_124) rfl k) ?_
  refine ov (B := s₁.setTop (mkF m 128 #[iv i0, iv i1, .val (.long i2), .second, .val (.long i3), .second, iv s9, iv s18, iv s29, iv s43, iv s57, iv s71, iv s85, iv s94, iv s106, iv s118, uu, uu, uu, uu, uu, uu, uu] [(.long (255 : Int64)), (.long ((i3.toUInt64 >>> ((24 : Int32) &&& 0x3f).toInt64.toUInt64).toInt64))])) (fun t k => X0.ldc2Long hx hown (mvT hZ (oW hw 1 rfl)) (g := (mkF m 125 #[iv i0, iv i1, .val (.long i2), .second, .val (.long i3), .second, iv s9, iv s18, iv s29, iv s43, iv s57, iv s71, iv s85, iv s94, iv s106, iv s118, uu, uu, uu, uu, uu, uu, uu] [(.long ((i3.toUInt64 >>> ((24 : Int32) &&& 0x3f).toInt64.toUInt64).toInt64))])) rfl (hb hby at_125) _ k) ?_
  refine ov (B := s₁.setTop (mkF m 129 #[iv i0, iv i1, .val (.long i2), .second, .val (.long i3), .second, iv s9, iv s18, iv s29, iv s43, iv s57, iv s71, iv s85, iv s94, iv s106, iv s118, uu, uu, uu, uu, uu, uu, uu] [(.long (((i3.toUInt64 >>> ((24 : Int32) &&& 0x3f).toInt64.toUInt64).toInt64) &&& (255 : Int64)))])) (fun t k => XS.land X0.here hx rfl (hb hby at_128) rfl k) ?_
  refine ov (B := s₁.setTop (mkF m 130 #[iv i0, iv i1, .val (.long i2), .second, .val (.long i3), .second, iv s9, iv s18, iv s29, iv s43, iv s57, iv s71, iv s85, iv s94, iv s106, iv s118, uu, uu, uu, uu, uu, uu, uu] [(.int ((((i3.toUInt64 >>> ((24 : Int32) &&& 0x3f).toInt64.toUInt64).toInt64) &&& (255 : Int64)).toInt32))])) (fun t k => XS.l2i X0.here hx rfl (hb hby at_129) rfl k) ?_
  refine ov (B := s₁.setTop (mkF m 132 #[iv i0, iv i1, .val (.long i2), .second, .val (.long i3), .second, iv s9, iv s18, iv s29, iv s43, iv s57, iv s71, iv s85, iv s94, iv s106, iv s118, iv ((((i3.toUInt64 >>> ((24 : Int32) &&& 0x3f).toInt64.toUInt64).toInt64) &&& (255 : Int64)).toInt32), uu, uu, uu, uu, uu, uu] [])) (fun t k => XS.istore X0.here hx rfl (hb hby at_130) rfl (l' := #[iv i0, iv i1, .val (.long i2), .second, .val (.long i3), .second, iv s9, iv s18, iv s29, iv s43, iv s57, iv s71, iv s85, iv s94, iv s106, iv s118, iv ((((i3.toUInt64 >>> ((24 : Int32) &&& 0x3f).toInt64.toUInt64).toInt64) &&& (255 : Int64)).toInt32), uu, uu, uu, uu, uu, uu]) rfl k) ?_
  generalize hs130 : ((((i3.toUInt64 >>> ((24 : Int32) &&& 0x3f).toInt64.toUInt64).toInt64) &&& (255 : Int64)).toInt32) = s130
  refine ov (B := s₁.setTop (mkF m 134 #[iv i0, iv i1, .val (.long i2), .second, .val (.long i3), .second, iv s9, iv s18, iv s29, iv s43, iv s57, iv s71, iv s85, iv s94, iv s106, iv s118, iv s130, uu, uu, uu, uu, uu, uu] [(.long i3)])) (fun t k => XS.lload X0.here hx rfl (hb hby at_132) rfl k) ?_
  refine oBP (n := 136) X0 hx (32 : Int32) (hb hby at_134) (by decide) rfl ?_
  refine ov (B := s₁.setTop (mkF m 137 #[iv i0, iv i1, .val (.long i2), .second, .val (.long i3), .second, iv s9, iv s18, iv s29, iv s43, iv s57, iv s71, iv s85, iv s94, iv s106, iv s118, iv s130, uu, uu, uu, uu, uu, uu] [(.long ((i3.toUInt64 >>> ((32 : Int32) &&& 0x3f).toInt64.toUInt64).toInt64))])) (fun t k => XS.lushr X0.here hx rfl (hb hby at_136) rfl k) ?_
  refine ov (B := s₁.setTop (mkF m 140 #[iv i0, iv i1, .val (.long i2), .second, .val (.long i3), .second, iv s9, iv s18, iv s29, iv s43, iv s57, iv s71, iv s85, iv s94, iv s106, iv s118, iv s130, uu, uu, uu, uu, uu, uu] [(.long (255 : Int64)), (.long ((i3.toUInt64 >>> ((32 : Int32) &&& 0x3f).toInt64.toUInt64).toInt64))])) (fun t k => X0.ldc2Long hx hown (mvT hZ (oW hw 1 rfl)) (g := (mkF m 137 #[iv i0, iv i1, .val (.long i2), .second, .val (.long i3), .second, iv s9, iv s18, iv s29, iv s43, iv s57, iv s71, iv s85, iv s94, iv s106, iv s118, iv s130, uu, uu, uu, uu, uu, uu] [(.long ((i3.toUInt64 >>> ((32 : Int32) &&& 0x3f).toInt64.toUInt64).toInt64))])) rfl (hb hby at_137) _ k) ?_
  refine ov (B := s₁.setTop (mkF m 141 #[iv i0, iv i1, .val (.long i2), .second, .val (.long i3), .second, iv s9, iv s18, iv s29, iv s43, iv s57, iv s71, iv s85, iv s94, iv s106, iv s118, iv s130, uu, uu, uu, uu, uu, uu] [(.long (((i3.toUInt64 >>> ((32 : Int32) &&& 0x3f).toInt64.toUInt64).toInt64) &&& (255 : Int64)))])) (fun t k => XS.land X0.here hx rfl (hb hby at_140) rfl k) ?_
  refine ov (B := s₁.setTop (mkF m 142 #[iv i0, iv i1, .val (.long i2), .second, .val (.long i3), .second, iv s9, iv s18, iv s29, iv s43, iv s57, iv s71, iv s85, iv s94, iv s106, iv s118, iv s130, uu, uu, uu, uu, uu, uu] [(.int ((((i3.toUInt64 >>> ((32 : Int32) &&& 0x3f).toInt64.toUInt64).toInt64) &&& (255 : Int64)).toInt32))])) (fun t k => XS.l2i X0.here hx rfl (hb hby at_141) rfl k) ?_
  refine ov (B := s₁.setTop (mkF m 144 #[iv i0, iv i1, .val (.long i2), .second, .val (.long i3), .second, iv s9, iv s18, iv s29, iv s43, iv s57, iv s71, iv s85, iv s94, iv s106, iv s118, iv s130, iv ((((i3.toUInt64 >>> ((32 : Int32) &&& 0x3f).toInt64.toUInt64).toInt64) &&& (255 : Int64)).toInt32), uu, uu, uu, uu, uu] [])) (fun t k => XS.istore X0.here hx rfl (hb hby at_142) rfl (l' := #[iv i0, iv i1, .val (.long i2), .second, .val (.long i3), .second, iv s9, iv s18, iv s29, iv s43, iv s57, iv s71, iv s85, iv s94, iv s106, iv s118, iv s130, iv ((((i3.toUInt64 >>> ((32 : Int32) &&& 0x3f).toInt64.toUInt64).toInt64) &&& (255 : Int64)).toInt32), uu, uu, uu, uu, uu]) rfl k) ?_
  generalize hs142 : ((((i3.toUInt64 >>> ((32 : Int32) &&& 0x3f).toInt64.toUInt64).toInt64) &&& (255 : Int64)).toInt32) = s142
  obtain ⟨T1, h1, X1, e1, E1, A1, D1, -, st1⟩ := newO X0 hx hZ hown (oW hw 2 rfl) (oW hw 3 rfl) (oW hw 4 rfl) e0 (g := (mkF m 144 #[iv i0, iv i1, .val (.long i2), .second, .val (.long i3), .second, iv s9, iv s18, iv s29, iv s43, iv s57, iv s71, iv s85, iv s94, iv s106, iv s118, iv s130, iv s142, uu, uu, uu, uu, uu] [])) rfl (hb hby at_144) (by decide) (by decide)
  obtain ⟨bS, g1⟩ : ∃ z, z = h0.size := ⟨_, rfl⟩
  rw [← g1] at A1 D1 st1
  have g_bS : n0 ≤ bS := Nat.le_trans Z0 (Nat.le_of_eq g1.symm)
  have F1_given : Fld Z h1 bS "com/example/corrib/corrib/lexicon/SenseWeights" "given" "[I" .null := D1 (Or.inl (oW hw 13 rfl)) (ty := (.array .int)) (by decide)
  have F1_bySense : Fld Z h1 bS "com/example/corrib/corrib/lexicon/SenseWeights" "bySense" "[D" .null := D1 (Or.inr (oW hw 16 rfl)) (ty := (.array .double)) (by decide)
  have F1_setOut : Fld Z h1 bS "com/example/corrib/corrib/lexicon/SenseWeights" "setOut" "[I" .null := D1 (Or.inl (oW hw 31 rfl)) (ty := (.array .int)) (by decide)
  have F1_size : Fld Z h1 bS "com/example/corrib/corrib/lexicon/SenseWeights" "size" "I" (.int (0 : Int32)) := D1 (Or.inl (oW hw 33 rfl)) (ty := .int) (by decide)
  refine ov (B := T1.setTop (mkF m 147 #[iv i0, iv i1, .val (.long i2), .second, .val (.long i3), .second, iv s9, iv s18, iv s29, iv s43, iv s57, iv s71, iv s85, iv s94, iv s106, iv s118, iv s130, iv s142, uu, uu, uu, uu, uu] [(.ref bS)])) (fun t k => st1 t k) ?_
  refine oDU (n := 148) X1 hx (hb hby at_147) rfl rfl ?_
  refine oIL (n := 150) X1 hx (hb hby at_148) rfl rfl ?_
  obtain ⟨_, _, ⟨T2, L2, k2, n2⟩, -, X2, ⟨Lc2, hQ2, l2, y2, z2⟩, st2⟩ := X1.specialBack hx (y := (⟨"com/example/corrib/corrib/lexicon/SenseWeights", "<init>", "(I)V"⟩ : MethodName)) rfl hown (mvT hZ (oW hw 5 rfl)) (mvT hZ (oW hw 6 rfl)) (mvT hZ (oW hw 7 rfl)) (by decide) (backOf (W := 1) (rmI l Z a0 hw [] bS s9 .null .null h1 n0 (Nat.le_trans Z0 E1.1) A1 F1_given F1_bySense F1_setOut F1_size g_bS hN) hZ (oW hw 7 rfl) (oW hw 4 rfl) (by decide) (by decide)) (g := (mkF m 150 #[iv i0, iv i1, .val (.long i2), .second, .val (.long i3), .second, iv s9, iv s18, iv s29, iv s43, iv s57, iv s71, iv s85, iv s94, iv s106, iv s118, iv s130, iv s142, uu, uu, uu, uu, uu] [(.int s9), (.ref bS), (.ref bS)])) rfl (by rw [hml]; rfl) (Steps.refl _) (a := bS) (argsL := [(.int s9)]) (rest := [(.ref bS)]) (lenOf own_pd0 rfl) rfl (by show 2 * 0 + _ ≤ _; exact Nat.le_of_eq rfl) (hb hby at_150) (fun _ _ => ⟨rfl, e1, (by decide : (0 + 1) + 2 ≤ _), (by decide : (0 + 4) + 22 ≤ _)⟩)
  dsimp only [Pt.U, Pt.locs, Pt.cells, Pt.slots] at X2 l2 y2 z2 st2 hQ2
  subst l2 y2 z2
  obtain ⟨gS, dS, kgS, kdS, rfl, Nq2, Kq2, hg_2, hd_2, hne_2, f2_0, f2_1, f2_2, f2_3, f2_4, f2_5⟩ := hQ2
  have N2 := Fr.app N0 Nq2
  have g_gS : n0 ≤ gS := Nat.le_trans (Nat.le_trans Z0 E1.1) hg_2
  have g_dS : n0 ≤ dS := Nat.le_trans (Nat.le_trans Z0 E1.1) hd_2
  refine ov (B := T2.setTop (mkF m 153 #[iv i0, iv i1, .val (.long i2), .second, .val (.long i3), .second, iv s9, iv s18, iv s29, iv s43, iv s57, iv s71, iv s85, iv s94, iv s106, iv s118, iv s130, iv s142, uu, uu, uu, uu, uu] [(.ref bS)])) (fun t k => st2.trans k) ?_
  refine ov (B := T2.setTop (mkF m 155 #[iv i0, iv i1, .val (.long i2), .second, .val (.long i3), .second, iv s9, iv s18, iv s29, iv s43, iv s57, iv s71, iv s85, iv s94, iv s106, iv s118, iv s130, iv s142, rv bS, uu, uu, uu, uu] [])) (fun t k => XS.astore X2.here hx rfl (hb hby at_153) rfl rfl (l' := #[iv i0, iv i1, .val (.long i2), .second, .val (.long i3), .second, iv s9, iv s18, iv s29, iv s43, iv s57, iv s71, iv s85, iv s94, iv s106, iv s118, iv s130, iv s142, rv bS, uu, uu, uu, uu]) rfl k) ?_
  have hok_0 : own_ok s9 0 (own_S0 s9) := own_ok0 s9
  refine oIL (n := 157) X2 hx (hb hby at_155) rfl rfl ?_
  refine own_bind (G := fun B => ∃ (T' : State) (L' : List Loc) (h' : Heap), Fr n0 L' ∧ ((((0 : Int32) < s18) ∧ True) ∨ ((¬ ((0 : Int32) < s18)) ∧ True)) ∧ Keep T2.heap h' [bS, gS, dS] ∧ (Fld Z h' bS "com/example/corrib/corrib/lexicon/SenseWeights" "size" "I" (.int (own_go s18 (0 : Int32) s29 s94 (own_S0 s9)).2.1)) ∧ (Fld Z h' bS "com/example/corrib/corrib/lexicon/SenseWeights" "setOut" "[I" .null) ∧ (Fld Z h' bS "com/example/corrib/corrib/lexicon/SenseWeights" "given" "[I" (.ref gS)) ∧ (Fld Z h' bS "com/example/corrib/corrib/lexicon/SenseWeights" "bySense" "[D" (.ref dS)) ∧ (Arv Z h' gS kgS .int (16 : Int32) ((own_go s18 (0 : Int32) s29 s94 (own_S0 s9)).1.map Value.int) (.int (0 : Int32))) ∧ (Arv Z h' dS kdS .double s9 ((own_go s18 (0 : Int32) s29 s94 (own_S0 s9)).2.2.map own_dv) (.double (FP.l2d 0))) ∧ B = T'.setTop (mkF m 169 #[iv i0, iv i1, .val (.long i2), .second, .val (.long i3), .second, iv s9, iv s18, iv s29, iv s43, iv s57, iv s71, iv s85, iv s94, iv s106, iv s118, iv s130, iv s142, rv bS, uu, uu, uu, uu] []) ∧ Stand p l e room_1 s m #[(.int i0), (.int i1), (.long i2), (.long i3)] below meth c T' L' 3 26 ∧ T'.heap = h') ?_ ?_
  · by_cases hc157 : (0 : Int32) < s18
    · refine ov (B := T2.setTop (mkF m 160 #[iv i0, iv i1, .val (.long i2), .second, .val (.long i3), .second, iv s9, iv s18, iv s29, iv s43, iv s57, iv s71, iv s85, iv s94, iv s106, iv s118, iv s130, iv s142, rv bS, uu, uu, uu, uu] [])) (fun t k => XS.ifNo X2.here hx rfl (hb hby at_157) rfl ((if0 _ _).trans (tlt hc157).2.2.2) k) ?_
      refine oAL (n := 162) X2 hx (hb hby at_160) rfl rfl rfl ?_
      refine oIL (n := 164) X2 hx (hb hby at_162) rfl rfl ?_
      refine oIL (n := 166) X2 hx (hb hby at_164) rfl rfl ?_
      obtain ⟨_, _, ⟨T4, L4, k4, n4⟩, -, X4, ⟨Lc4, hQ4, l4, y4, z4⟩, st4⟩ := Jvm.LawKit.callS X2 hx (y := (⟨"com/example/corrib/corrib/lexicon/SenseWeightsSortedPinLaw", "give", "(Lcom/example/corrib/corrib/lexicon/SenseWeights;II)V"⟩ : MethodName)) hown (mvT hZ (oW hw 17 rfl)) (mvT hZ (oW hw 18 rfl)) (mvT hZ (oW hw 19 rfl)) (mvT hZ (oW hw 20 rfl)) (by decide) (backOf (W := 0) (rmW l Z a0 hw [] bS s29 s94 .null gS dS (own_S0 s9) kgS kdS s9 T2.heap n0 (Nat.le_trans (Nat.le_trans Z0 E1.1) Kq2.1) (A1.keep Kq2) f2_2 f2_3 f2_1 f2_0 f2_4 f2_5 (Nat.ne_of_lt (Nat.lt_of_lt_of_le A1.lt hg_2)) (Nat.ne_of_lt (Nat.lt_of_lt_of_le A1.lt hd_2)) hne_2 g_bS g_gS g_dS (own_okm hok_0 (by omega)) hq_0) hZ (oW hw 20 rfl) (oW hw 19 rfl) (by decide) (by decide)) (g := (mkF m 166 #[iv i0, iv i1, .val (.long i2), .second, .val (.long i3), .second, iv s9, iv s18, iv s29, iv s43, iv s57, iv s71, iv s85, iv s94, iv s106, iv s118, iv s130, iv s142, rv bS, uu, uu, uu, uu] [(.int s94), (.int s29), (.ref bS)])) rfl (by rw [hml]; rfl) (argsL := [(.ref bS), (.int s29), (.int s94)]) (rest := []) (lenOf own_pd2 rfl) rfl (by show 2 * 0 + _ ≤ _; exact Nat.le_of_eq rfl) (hb hby at_166) (fun _ _ => ⟨rfl, rfl, (by decide : ((0 + 1) + 2) + 0 ≤ _), (by decide : ((0 + 4) + 22) + 0 ≤ _)⟩)
      dsimp only [Pt.U, Pt.locs, Pt.cells, Pt.slots] at X4 l4 y4 z4 st4 hQ4
      subst l4 y4 z4
      obtain ⟨rfl, Nq4, Kq4, f4_0, f4_1, f4_2, f4_3, f4_4, f4_5⟩ := hQ4
      have N4 := Fr.app N2 Nq4
      refine ov (B := T4.setTop (mkF m 169 #[iv i0, iv i1, .val (.long i2), .second, .val (.long i3), .second, iv s9, iv s18, iv s29, iv s43, iv s57, iv s71, iv s85, iv s94, iv s106, iv s118, iv s130, iv s142, rv bS, uu, uu, uu, uu] [])) (fun t k => st4 t k) ?_
      exact own_done ⟨_, _, _, N4, (Or.inl ⟨hc157, trivial⟩), ((Keep.refl T2.heap [bS, gS, dS]).trans Kq4 (allS (Or.inl (List.mem_of_getElem? (i := 0) rfl)) (allS (Or.inl (List.mem_of_getElem? (i := 1) rfl)) (allS (Or.inl (List.mem_of_getElem? (i := 2) rfl)) all0)))), (by rw [own_goT hc157]; exact f4_0), f4_1, f4_2, f4_3, (by rw [own_goT hc157]; exact f4_4), (by rw [own_goT hc157]; exact f4_5), rfl, (X4.more (by decide) (by decide)), rfl⟩
    · refine ov (B := T2.setTop (mkF m 169 #[iv i0, iv i1, .val (.long i2), .second, .val (.long i3), .second, iv s9, iv s18, iv s29, iv s43, iv s57, iv s71, iv s85, iv s94, iv s106, iv s118, iv s130, iv s142, rv bS, uu, uu, uu, uu] [])) (fun t k => XS.ifYes X2.here hx rfl (pc0 := 157) (pc' := 169) rfl (hb hby at_157) rfl ((if0 _ _).trans (flt hc157).2.2.2) (by decide) (by decide) k) ?_
      exact own_done ⟨_, _, _, N2, (Or.inr ⟨hc157, trivial⟩), (Keep.refl T2.heap [bS, gS, dS]), (by rw [own_goF hc157]; exact f2_1), f2_0, f2_2, f2_3, (by rw [own_goF hc157]; exact f2_4), (by rw [own_goF hc157]; exact f2_5), rfl, (X2.more (by decide) (by decide)), rfl⟩
  · rintro B ⟨T3, L3, h3, N3, hv157, K3, jf3_0, jf3_1, jf3_2, jf3_3, jf3_4, jf3_5, rfl, X3, e3⟩
    have hok_1 : own_ok s9 1 (own_go s18 (0 : Int32) s29 s94 (own_S0 s9)) := own_okgo s18 0 s94 (by omega) hq_0 hok_0
    refine oIL (n := 171) X3 hx (hb hby at_169) rfl rfl ?_
    refine oIC (n := 172) X3 hx (1 : Int32) (hb hby at_171) (by decide) rfl ?_
    refine own_bind (G := fun B => ∃ (T' : State) (L' : List Loc) (h' : Heap), Fr n0 L' ∧ ((((1 : Int32) < s18) ∧ True) ∨ ((¬ ((1 : Int32) < s18)) ∧ True)) ∧ Keep h3 h' [bS, gS, dS] ∧ (Fld Z h' bS "com/example/corrib/corrib/lexicon/SenseWeights" "size" "I" (.int (own_go s18 (1 : Int32) s43 s106 (own_go s18 (0 : Int32) s29 s94 (own_S0 s9))).2.1)) ∧ (Fld Z h' bS "com/example/corrib/corrib/lexicon/SenseWeights" "setOut" "[I" .null) ∧ (Fld Z h' bS "com/example/corrib/corrib/lexicon/SenseWeights" "given" "[I" (.ref gS)) ∧ (Fld Z h' bS "com/example/corrib/corrib/lexicon/SenseWeights" "bySense" "[D" (.ref dS)) ∧ (Arv Z h' gS kgS .int (16 : Int32) ((own_go s18 (1 : Int32) s43 s106 (own_go s18 (0 : Int32) s29 s94 (own_S0 s9))).1.map Value.int) (.int (0 : Int32))) ∧ (Arv Z h' dS kdS .double s9 ((own_go s18 (1 : Int32) s43 s106 (own_go s18 (0 : Int32) s29 s94 (own_S0 s9))).2.2.map own_dv) (.double (FP.l2d 0))) ∧ B = T'.setTop (mkF m 184 #[iv i0, iv i1, .val (.long i2), .second, .val (.long i3), .second, iv s9, iv s18, iv s29, iv s43, iv s57, iv s71, iv s85, iv s94, iv s106, iv s118, iv s130, iv s142, rv bS, uu, uu, uu, uu] []) ∧ Stand p l e room_1 s m #[(.int i0), (.int i1), (.long i2), (.long i3)] below meth c T' L' 3 26 ∧ T'.heap = h') ?_ ?_
    · by_cases hc172 : (1 : Int32) < s18
      · refine ov (B := T3.setTop (mkF m 175 #[iv i0, iv i1, .val (.long i2), .second, .val (.long i3), .second, iv s9, iv s18, iv s29, iv s43, iv s57, iv s71, iv s85, iv s94, iv s106, iv s118, iv s130, iv s142, rv bS, uu, uu, uu, uu] [])) (fun t k => XS.icmpNo X3.here hx rfl (hb hby at_172) rfl (tlt hc172).2.2.2 k) ?_
        refine oAL (n := 177) X3 hx (hb hby at_175) rfl rfl rfl ?_
        refine oIL (n := 179) X3 hx (hb hby at_177) rfl rfl ?_
        refine oIL (n := 181) X3 hx (hb hby at_179) rfl rfl ?_
        obtain ⟨_, _, ⟨T6, L6, k6, n6⟩, -, X6, ⟨Lc6, hQ6, l6, y6, z6⟩, st6⟩ := Jvm.LawKit.callS X3 hx (y := (⟨"com/example/corrib/corrib/lexicon/SenseWeightsSortedPinLaw", "give", "(Lcom/example/corrib/corrib/lexicon/SenseWeights;II)V"⟩ : MethodName)) hown (mvT hZ (oW hw 17 rfl)) (mvT hZ (oW hw 18 rfl)) (mvT hZ (oW hw 19 rfl)) (mvT hZ (oW hw 20 rfl)) (by decide) (backOf (W := 0) (rmW l Z a0 hw [] bS s43 s106 .null gS dS (own_go s18 (0 : Int32) s29 s94 (own_S0 s9)) kgS kdS s9 h3 n0 (Nat.le_trans (Nat.le_trans (Nat.le_trans Z0 E1.1) Kq2.1) K3.1) ((A1.keep Kq2).keep K3) jf3_2 jf3_3 jf3_0 jf3_1 jf3_4 jf3_5 (Nat.ne_of_lt (Nat.lt_of_lt_of_le A1.lt hg_2)) (Nat.ne_of_lt (Nat.lt_of_lt_of_le A1.lt hd_2)) hne_2 g_bS g_gS g_dS (own_okm hok_1 (by omega)) hq_1) hZ (oW hw 20 rfl) (oW hw 19 rfl) (by decide) (by decide)) (g := (mkF m 181 #[iv i0, iv i1, .val (.long i2), .second, .val (.long i3), .second, iv s9, iv s18, iv s29, iv s43, iv s57, iv s71, iv s85, iv s94, iv s106, iv s118, iv s130, iv s142, rv bS, uu, uu, uu, uu] [(.int s106), (.int s43), (.ref bS)])) rfl (by rw [hml]; rfl) (argsL := [(.ref bS), (.int s43), (.int s106)]) (rest := []) (lenOf own_pd2 rfl) rfl (by show 2 * 0 + _ ≤ _; exact Nat.le_of_eq rfl) (hb hby at_181) (fun _ _ => ⟨rfl, e3, (by decide : 3 + 0 ≤ _), (by decide : 26 + 0 ≤ _)⟩)
        dsimp only [Pt.U, Pt.locs, Pt.cells, Pt.slots] at X6 l6 y6 z6 st6 hQ6
        subst l6 y6 z6
        obtain ⟨rfl, Nq6, Kq6, f6_0, f6_1, f6_2, f6_3, f6_4, f6_5⟩ := hQ6
        have N6 := Fr.app N3 Nq6
        refine ov (B := T6.setTop (mkF m 184 #[iv i0, iv i1, .val (.long i2), .second, .val (.long i3), .second, iv s9, iv s18, iv s29, iv s43, iv s57, iv s71, iv s85, iv s94, iv s106, iv s118, iv s130, iv s142, rv bS, uu, uu, uu, uu] [])) (fun t k => st6 t k) ?_
        exact own_done ⟨_, _, _, N6, (Or.inl ⟨hc172, trivial⟩), ((Keep.refl h3 [bS, gS, dS]).trans Kq6 (allS (Or.inl (List.mem_of_getElem? (i := 0) rfl)) (allS (Or.inl (List.mem_of_getElem? (i := 1) rfl)) (allS (Or.inl (List.mem_of_getElem? (i := 2) rfl)) all0)))), (by rw [own_goT hc172]; exact f6_0), f6_1, f6_2, f6_3, (by rw [own_goT hc172]; exact f6_4), (by rw [own_goT hc172]; exact f6_5), rfl, (X6.more (by decide) (by decide)), rfl⟩
      · refine ov (B := T3.setTop (mkF m 184 #[iv i0, iv i1, .val (.long i2), .second, .val (.long i3), .second, iv s9, iv s18, iv s29, iv s43, iv s57, iv s71, iv s85, iv s94, iv s106, iv s118, iv s130, iv s142, rv bS, uu, uu, uu, uu] [])) (fun t k => XS.icmpYes X3.here hx rfl (pc0 := 172) (pc' := 184) rfl (hb hby at_172) rfl (flt hc172).2.2.2 (by decide) (by decide) k) ?_
        exact own_done ⟨_, _, _, N3, (Or.inr ⟨hc172, trivial⟩), (Keep.refl h3 [bS, gS, dS]), (by rw [own_goF hc172]; exact jf3_0), jf3_1, jf3_2, jf3_3, (by rw [own_goF hc172]; exact jf3_4), (by rw [own_goF hc172]; exact jf3_5), rfl, (X3.more (by decide) (by decide)), e3⟩
    · rintro B ⟨T5, L5, h5, N5, hv172, K5, jf5_0, jf5_1, jf5_2, jf5_3, jf5_4, jf5_5, rfl, X5, e5⟩
      have hok_2 : own_ok s9 2 (own_go s18 (1 : Int32) s43 s106 (own_go s18 (0 : Int32) s29 s94 (own_S0 s9))) := own_okgo s18 1 s106 (by omega) hq_1 hok_1
      refine oIL (n := 186) X5 hx (hb hby at_184) rfl rfl ?_
      refine oIC (n := 187) X5 hx (2 : Int32) (hb hby at_186) (by decide) rfl ?_
      refine own_bind (G := fun B => ∃ (T' : State) (L' : List Loc) (h' : Heap), Fr n0 L' ∧ ((((2 : Int32) < s18) ∧ True) ∨ ((¬ ((2 : Int32) < s18)) ∧ True)) ∧ Keep h5 h' [bS, gS, dS] ∧ (Fld Z h' bS "com/example/corrib/corrib/lexicon/SenseWeights" "size" "I" (.int (own_go s18 (2 : Int32) s57 s118 (own_go s18 (1 : Int32) s43 s106 (own_go s18 (0 : Int32) s29 s94 (own_S0 s9)))).2.1)) ∧ (Fld Z h' bS "com/example/corrib/corrib/lexicon/SenseWeights" "setOut" "[I" .null) ∧ (Fld Z h' bS "com/example/corrib/corrib/lexicon/SenseWeights" "given" "[I" (.ref gS)) ∧ (Fld Z h' bS "com/example/corrib/corrib/lexicon/SenseWeights" "bySense" "[D" (.ref dS)) ∧ (Arv Z h' gS kgS .int (16 : Int32) ((own_go s18 (2 : Int32) s57 s118 (own_go s18 (1 : Int32) s43 s106 (own_go s18 (0 : Int32) s29 s94 (own_S0 s9)))).1.map Value.int) (.int (0 : Int32))) ∧ (Arv Z h' dS kdS .double s9 ((own_go s18 (2 : Int32) s57 s118 (own_go s18 (1 : Int32) s43 s106 (own_go s18 (0 : Int32) s29 s94 (own_S0 s9)))).2.2.map own_dv) (.double (FP.l2d 0))) ∧ B = T'.setTop (mkF m 199 #[iv i0, iv i1, .val (.long i2), .second, .val (.long i3), .second, iv s9, iv s18, iv s29, iv s43, iv s57, iv s71, iv s85, iv s94, iv s106, iv s118, iv s130, iv s142, rv bS, uu, uu, uu, uu] []) ∧ Stand p l e room_1 s m #[(.int i0), (.int i1), (.long i2), (.long i3)] below meth c T' L' 3 26 ∧ T'.heap = h') ?_ ?_
      · by_cases hc187 : (2 : Int32) < s18
        · refine ov (B := T5.setTop (mkF m 190 #[iv i0, iv i1, .val (.long i2), .second, .val (.long i3), .second, iv s9, iv s18, iv s29, iv s43, iv s57, iv s71, iv s85, iv s94, iv s106, iv s118, iv s130, iv s142, rv bS, uu, uu, uu, uu] [])) (fun t k => XS.icmpNo X5.here hx rfl (hb hby at_187) rfl (tlt hc187).2.2.2 k) ?_
          refine oAL (n := 192) X5 hx (hb hby at_190) rfl rfl rfl ?_
          refine oIL (n := 194) X5 hx (hb hby at_192) rfl rfl ?_
          refine oIL (n := 196) X5 hx (hb hby at_194) rfl rfl ?_
          obtain ⟨_, _, ⟨T8, L8, k8, n8⟩, -, X8, ⟨Lc8, hQ8, l8, y8, z8⟩, st8⟩ := Jvm.LawKit.callS X5 hx (y := (⟨"com/example/corrib/corrib/lexicon/SenseWeightsSortedPinLaw", "give", "(Lcom/example/corrib/corrib/lexicon/SenseWeights;II)V"⟩ : MethodName)) hown (mvT hZ (oW hw 17 rfl)) (mvT hZ (oW hw 18 rfl)) (mvT hZ (oW hw 19 rfl)) (mvT hZ (oW hw 20 rfl)) (by decide) (backOf (W := 0) (rmW l Z a0 hw [] bS s57 s118 .null gS dS (own_go s18 (1 : Int32) s43 s106 (own_go s18 (0 : Int32) s29 s94 (own_S0 s9))) kgS kdS s9 h5 n0 (Nat.le_trans (Nat.le_trans (Nat.le_trans (Nat.le_trans Z0 E1.1) Kq2.1) K3.1) K5.1) (((A1.keep Kq2).keep K3).keep K5) jf5_2 jf5_3 jf5_0 jf5_1 jf5_4 jf5_5 (Nat.ne_of_lt (Nat.lt_of_lt_of_le A1.lt hg_2)) (Nat.ne_of_lt (Nat.lt_of_lt_of_le A1.lt hd_2)) hne_2 g_bS g_gS g_dS (own_okm hok_2 (by omega)) hq_2) hZ (oW hw 20 rfl) (oW hw 19 rfl) (by decide) (by decide)) (g := (mkF m 196 #[iv i0, iv i1, .val (.long i2), .second, .val (.long i3), .second, iv s9, iv s18, iv s29, iv s43, iv s57, iv s71, iv s85, iv s94, iv s106, iv s118, iv s130, iv s142, rv bS, uu, uu, uu, uu] [(.int s118), (.int s57), (.ref bS)])) rfl (by rw [hml]; rfl) (argsL := [(.ref bS), (.int s57), (.int s118)]) (rest := []) (lenOf own_pd2 rfl) rfl (by show 2 * 0 + _ ≤ _; exact Nat.le_of_eq rfl) (hb hby at_196) (fun _ _ => ⟨rfl, e5, (by decide : 3 + 0 ≤ _), (by decide : 26 + 0 ≤ _)⟩)
          dsimp only [Pt.U, Pt.locs, Pt.cells, Pt.slots] at X8 l8 y8 z8 st8 hQ8
          subst l8 y8 z8
          obtain ⟨rfl, Nq8, Kq8, f8_0, f8_1, f8_2, f8_3, f8_4, f8_5⟩ := hQ8
          have N8 := Fr.app N5 Nq8
          refine ov (B := T8.setTop (mkF m 199 #[iv i0, iv i1, .val (.long i2), .second, .val (.long i3), .second, iv s9, iv s18, iv s29, iv s43, iv s57, iv s71, iv s85, iv s94, iv s106, iv s118, iv s130, iv s142, rv bS, uu, uu, uu, uu] [])) (fun t k => st8 t k) ?_
          exact own_done ⟨_, _, _, N8, (Or.inl ⟨hc187, trivial⟩), ((Keep.refl h5 [bS, gS, dS]).trans Kq8 (allS (Or.inl (List.mem_of_getElem? (i := 0) rfl)) (allS (Or.inl (List.mem_of_getElem? (i := 1) rfl)) (allS (Or.inl (List.mem_of_getElem? (i := 2) rfl)) all0)))), (by rw [own_goT hc187]; exact f8_0), f8_1, f8_2, f8_3, (by rw [own_goT hc187]; exact f8_4), (by rw [own_goT hc187]; exact f8_5), rfl, (X8.more (by decide) (by decide)), rfl⟩
        · refine ov (B := T5.setTop (mkF m 199 #[iv i0, iv i1, .val (.long i2), .second, .val (.long i3), .second, iv s9, iv s18, iv s29, iv s43, iv s57, iv s71, iv s85, iv s94, iv s106, iv s118, iv s130, iv s142, rv bS, uu, uu, uu, uu] [])) (fun t k => XS.icmpYes X5.here hx rfl (pc0 := 187) (pc' := 199) rfl (hb hby at_187) rfl (flt hc187).2.2.2 (by decide) (by decide) k) ?_
          exact own_done ⟨_, _, _, N5, (Or.inr ⟨hc187, trivial⟩), (Keep.refl h5 [bS, gS, dS]), (by rw [own_goF hc187]; exact jf5_0), jf5_1, jf5_2, jf5_3, (by rw [own_goF hc187]; exact jf5_4), (by rw [own_goF hc187]; exact jf5_5), rfl, (X5.more (by decide) (by decide)), e5⟩
      · rintro B ⟨T7, L7, h7, N7, hv187, K7, jf7_0, jf7_1, jf7_2, jf7_3, jf7_4, jf7_5, rfl, X7, e7⟩
        have hok_3 : own_ok s9 3 (own_go s18 (2 : Int32) s57 s118 (own_go s18 (1 : Int32) s43 s106 (own_go s18 (0 : Int32) s29 s94 (own_S0 s9)))) := own_okgo s18 2 s118 (by omega) hq_2 hok_2
        refine oIL (n := 201) X7 hx (hb hby at_199) rfl rfl ?_
        refine oIC (n := 202) X7 hx (3 : Int32) (hb hby at_201) (by decide) rfl ?_
        refine own_bind (G := fun B => ∃ (T' : State) (L' : List Loc) (h' : Heap), Fr n0 L' ∧ ((((3 : Int32) < s18) ∧ True) ∨ ((¬ ((3 : Int32) < s18)) ∧ True)) ∧ Keep h7 h' [bS, gS, dS] ∧ (Fld Z h' bS "com/example/corrib/corrib/lexicon/SenseWeights" "size" "I" (.int (own_go s18 (3 : Int32) s71 s130 (own_go s18 (2 : Int32) s57 s118 (own_go s18 (1 : Int32) s43 s106 (own_go s18 (0 : Int32) s29 s94 (own_S0 s9))))).2.1)) ∧ (Fld Z h' bS "com/example/corrib/corrib/lexicon/SenseWeights" "setOut" "[I" .null) ∧ (Fld Z h' bS "com/example/corrib/corrib/lexicon/SenseWeights" "given" "[I" (.ref gS)) ∧ (Fld Z h' bS "com/example/corrib/corrib/lexicon/SenseWeights" "bySense" "[D" (.ref dS)) ∧ (Arv Z h' gS kgS .int (16 : Int32) ((own_go s18 (3 : Int32) s71 s130 (own_go s18 (2 : Int32) s57 s118 (own_go s18 (1 : Int32) s43 s106 (own_go s18 (0 : Int32) s29 s94 (own_S0 s9))))).1.map Value.int) (.int (0 : Int32))) ∧ (Arv Z h' dS kdS .double s9 ((own_go s18 (3 : Int32) s71 s130 (own_go s18 (2 : Int32) s57 s118 (own_go s18 (1 : Int32) s43 s106 (own_go s18 (0 : Int32) s29 s94 (own_S0 s9))))).2.2.map own_dv) (.double (FP.l2d 0))) ∧ B = T'.setTop (mkF m 214 #[iv i0, iv i1, .val (.long i2), .second, .val (.long i3), .second, iv s9, iv s18, iv s29, iv s43, iv s57, iv s71, iv s85, iv s94, iv s106, iv s118, iv s130, iv s142, rv bS, uu, uu, uu, uu] []) ∧ Stand p l e room_1 s m #[(.int i0), (.int i1), (.long i2), (.long i3)] below meth c T' L' 3 26 ∧ T'.heap = h') ?_ ?_
        · by_cases hc202 : (3 : Int32) < s18
          · refine ov (B := T7.setTop (mkF m 205 #[iv i0, iv i1, .val (.long i2), .second, .val (.long i3), .second, iv s9, iv s18, iv s29, iv s43, iv s57, iv s71, iv s85, iv s94, iv s106, iv s118, iv s130, iv s142, rv bS, uu, uu, uu, uu] [])) (fun t k => XS.icmpNo X7.here hx rfl (hb hby at_202) rfl (tlt hc202).2.2.2 k) ?_
            refine oAL (n := 207) X7 hx (hb hby at_205) rfl rfl rfl ?_
            refine oIL (n := 209) X7 hx (hb hby at_207) rfl rfl ?_
            refine oIL (n := 211) X7 hx (hb hby at_209) rfl rfl ?_
            obtain ⟨_, _, ⟨T10, L10, k10, n10⟩, -, X10, ⟨Lc10, hQ10, l10, y10, z10⟩, st10⟩ := Jvm.LawKit.callS X7 hx (y := (⟨"com/example/corrib/corrib/lexicon/SenseWeightsSortedPinLaw", "give", "(Lcom/example/corrib/corrib/lexicon/SenseWeights;II)V"⟩ : MethodName)) hown (mvT hZ (oW hw 17 rfl)) (mvT hZ (oW hw 18 rfl)) (mvT hZ (oW hw 19 rfl)) (mvT hZ (oW hw 20 rfl)) (by decide) (backOf (W := 0) (rmW l Z a0 hw [] bS s71 s130 .null gS dS (own_go s18 (2 : Int32) s57 s118 (own_go s18 (1 : Int32) s43 s106 (own_go s18 (0 : Int32) s29 s94 (own_S0 s9)))) kgS kdS s9 h7 n0 (Nat.le_trans (Nat.le_trans (Nat.le_trans (Nat.le_trans (Nat.le_trans Z0 E1.1) Kq2.1) K3.1) K5.1) K7.1) ((((A1.keep Kq2).keep K3).keep K5).keep K7) jf7_2 jf7_3 jf7_0 jf7_1 jf7_4 jf7_5 (Nat.ne_of_lt (Nat.lt_of_lt_of_le A1.lt hg_2)) (Nat.ne_of_lt (Nat.lt_of_lt_of_le A1.lt hd_2)) hne_2 g_bS g_gS g_dS (own_okm hok_3 (by omega)) hq_3) hZ (oW hw 20 rfl) (oW hw 19 rfl) (by decide) (by decide)) (g := (mkF m 211 #[iv i0, iv i1, .val (.long i2), .second, .val (.long i3), .second, iv s9, iv s18, iv s29, iv s43, iv s57, iv s71, iv s85, iv s94, iv s106, iv s118, iv s130, iv s142, rv bS, uu, uu, uu, uu] [(.int s130), (.int s71), (.ref bS)])) rfl (by rw [hml]; rfl) (argsL := [(.ref bS), (.int s71), (.int s130)]) (rest := []) (lenOf own_pd2 rfl) rfl (by show 2 * 0 + _ ≤ _; exact Nat.le_of_eq rfl) (hb hby at_211) (fun _ _ => ⟨rfl, e7, (by decide : 3 + 0 ≤ _), (by decide : 26 + 0 ≤ _)⟩)
            dsimp only [Pt.U, Pt.locs, Pt.cells, Pt.slots] at X10 l10 y10 z10 st10 hQ10
            subst l10 y10 z10
            obtain ⟨rfl, Nq10, Kq10, f10_0, f10_1, f10_2, f10_3, f10_4, f10_5⟩ := hQ10
            have N10 := Fr.app N7 Nq10
            refine ov (B := T10.setTop (mkF m 214 #[iv i0, iv i1, .val (.long i2), .second, .val (.long i3), .second, iv s9, iv s18, iv s29, iv s43, iv s57, iv s71, iv s85, iv s94, iv s106, iv s118, iv s130, iv s142, rv bS, uu, uu, uu, uu] [])) (fun t k => st10 t k) ?_
            exact own_done ⟨_, _, _, N10, (Or.inl ⟨hc202, trivial⟩), ((Keep.refl h7 [bS, gS, dS]).trans Kq10 (allS (Or.inl (List.mem_of_getElem? (i := 0) rfl)) (allS (Or.inl (List.mem_of_getElem? (i := 1) rfl)) (allS (Or.inl (List.mem_of_getElem? (i := 2) rfl)) all0)))), (by rw [own_goT hc202]; exact f10_0), f10_1, f10_2, f10_3, (by rw [own_goT hc202]; exact f10_4), (by rw [own_goT hc202]; exact f10_5), rfl, (X10.more (by decide) (by decide)), rfl⟩
          · refine ov (B := T7.setTop (mkF m 214 #[iv i0, iv i1, .val (.long i2), .second, .val (.long i3), .second, iv s9, iv s18, iv s29, iv s43, iv s57, iv s71, iv s85, iv s94, iv s106, iv s118, iv s130, iv s142, rv bS, uu, uu, uu, uu] [])) (fun t k => XS.icmpYes X7.here hx rfl (pc0 := 202) (pc' := 214) rfl (hb hby at_202) rfl (flt hc202).2.2.2 (by decide) (by decide) k) ?_
            exact own_done ⟨_, _, _, N7, (Or.inr ⟨hc202, trivial⟩), (Keep.refl h7 [bS, gS, dS]), (by rw [own_goF hc202]; exact jf7_0), jf7_1, jf7_2, jf7_3, (by rw [own_goF hc202]; exact jf7_4), (by rw [own_goF hc202]; exact jf7_5), rfl, (X7.more (by decide) (by decide)), e7⟩
        · rintro B ⟨T9, L9, h9, N9, hv202, K9, jf9_0, jf9_1, jf9_2, jf9_3, jf9_4, jf9_5, rfl, X9, e9⟩
          have hok_4 : own_ok s9 4 (own_go s18 (3 : Int32) s71 s130 (own_go s18 (2 : Int32) s57 s118 (own_go s18 (1 : Int32) s43 s106 (own_go s18 (0 : Int32) s29 s94 (own_S0 s9))))) := own_okgo s18 3 s130 (by omega) hq_3 hok_3
          refine oIL (n := 216) X9 hx (hb hby at_214) rfl rfl ?_
          refine oIC (n := 217) X9 hx (4 : Int32) (hb hby at_216) (by decide) rfl ?_
          refine own_bind (G := fun B => ∃ (T' : State) (L' : List Loc) (h' : Heap), Fr n0 L' ∧ ((((4 : Int32) < s18) ∧ True) ∨ ((¬ ((4 : Int32) < s18)) ∧ True)) ∧ Keep h9 h' [bS, gS, dS] ∧ (Fld Z h' bS "com/example/corrib/corrib/lexicon/SenseWeights" "size" "I" (.int (own_go s18 (4 : Int32) s85 s142 (own_go s18 (3 : Int32) s71 s130 (own_go s18 (2 : Int32) s57 s118 (own_go s18 (1 : Int32) s43 s106 (own_go s18 (0 : Int32) s29 s94 (own_S0 s9)))))).2.1)) ∧ (Fld Z h' bS "com/example/corrib/corrib/lexicon/SenseWeights" "setOut" "[I" .null) ∧ (Fld Z h' bS "com/example/corrib/corrib/lexicon/SenseWeights" "given" "[I" (.ref gS)) ∧ (Fld Z h' bS "com/example/corrib/corrib/lexicon/SenseWeights" "bySense" "[D" (.ref dS)) ∧ (Arv Z h' gS kgS .int (16 : Int32) ((own_go s18 (4 : Int32) s85 s142 (own_go s18 (3 : Int32) s71 s130 (own_go s18 (2 : Int32) s57 s118 (own_go s18 (1 : Int32) s43 s106 (own_go s18 (0 : Int32) s29 s94 (own_S0 s9)))))).1.map Value.int) (.int (0 : Int32))) ∧ (Arv Z h' dS kdS .double s9 ((own_go s18 (4 : Int32) s85 s142 (own_go s18 (3 : Int32) s71 s130 (own_go s18 (2 : Int32) s57 s118 (own_go s18 (1 : Int32) s43 s106 (own_go s18 (0 : Int32) s29 s94 (own_S0 s9)))))).2.2.map own_dv) (.double (FP.l2d 0))) ∧ B = T'.setTop (mkF m 229 #[iv i0, iv i1, .val (.long i2), .second, .val (.long i3), .second, iv s9, iv s18, iv s29, iv s43, iv s57, iv s71, iv s85, iv s94, iv s106, iv s118, iv s130, iv s142, rv bS, uu, uu, uu, uu] []) ∧ Stand p l e room_1 s m #[(.int i0), (.int i1), (.long i2), (.long i3)] below meth c T' L' 3 26 ∧ T'.heap = h') ?_ ?_
          · by_cases hc217 : (4 : Int32) < s18
            · refine ov (B := T9.setTop (mkF m 220 #[iv i0, iv i1, .val (.long i2), .second, .val (.long i3), .second, iv s9, iv s18, iv s29, iv s43, iv s57, iv s71, iv s85, iv s94, iv s106, iv s118, iv s130, iv s142, rv bS, uu, uu, uu, uu] [])) (fun t k => XS.icmpNo X9.here hx rfl (hb hby at_217) rfl (tlt hc217).2.2.2 k) ?_
              refine oAL (n := 222) X9 hx (hb hby at_220) rfl rfl rfl ?_
              refine oIL (n := 224) X9 hx (hb hby at_222) rfl rfl ?_
              refine oIL (n := 226) X9 hx (hb hby at_224) rfl rfl ?_
              obtain ⟨_, _, ⟨T12, L12, k12, n12⟩, -, X12, ⟨Lc12, hQ12, l12, y12, z12⟩, st12⟩ := Jvm.LawKit.callS X9 hx (y := (⟨"com/example/corrib/corrib/lexicon/SenseWeightsSortedPinLaw", "give", "(Lcom/example/corrib/corrib/lexicon/SenseWeights;II)V"⟩ : MethodName)) hown (mvT hZ (oW hw 17 rfl)) (mvT hZ (oW hw 18 rfl)) (mvT hZ (oW hw 19 rfl)) (mvT hZ (oW hw 20 rfl)) (by decide) (backOf (W := 0) (rmW l Z a0 hw [] bS s85 s142 .null gS dS (own_go s18 (3 : Int32) s71 s130 (own_go s18 (2 : Int32) s57 s118 (own_go s18 (1 : Int32) s43 s106 (own_go s18 (0 : Int32) s29 s94 (own_S0 s9))))) kgS kdS s9 h9 n0 (Nat.le_trans (Nat.le_trans (Nat.le_trans (Nat.le_trans (Nat.le_trans (Nat.le_trans Z0 E1.1) Kq2.1) K3.1) K5.1) K7.1) K9.1) (((((A1.keep Kq2).keep K3).keep K5).keep K7).keep K9) jf9_2 jf9_3 jf9_0 jf9_1 jf9_4 jf9_5 (Nat.ne_of_lt (Nat.lt_of_lt_of_le A1.lt hg_2)) (Nat.ne_of_lt (Nat.lt_of_lt_of_le A1.lt hd_2)) hne_2 g_bS g_gS g_dS (own_okm hok_4 (by omega)) hq_4) hZ (oW hw 20 rfl) (oW hw 19 rfl) (by decide) (by decide)) (g := (mkF m 226 #[iv i0, iv i1, .val (.long i2), .second, .val (.long i3), .second, iv s9, iv s18, iv s29, iv s43, iv s57, iv s71, iv s85, iv s94, iv s106, iv s118, iv s130, iv s142, rv bS, uu, uu, uu, uu] [(.int s142), (.int s85), (.ref bS)])) rfl (by rw [hml]; rfl) (argsL := [(.ref bS), (.int s85), (.int s142)]) (rest := []) (lenOf own_pd2 rfl) rfl (by show 2 * 0 + _ ≤ _; exact Nat.le_of_eq rfl) (hb hby at_226) (fun _ _ => ⟨rfl, e9, (by decide : 3 + 0 ≤ _), (by decide : 26 + 0 ≤ _)⟩)
              dsimp only [Pt.U, Pt.locs, Pt.cells, Pt.slots] at X12 l12 y12 z12 st12 hQ12
              subst l12 y12 z12
              obtain ⟨rfl, Nq12, Kq12, f12_0, f12_1, f12_2, f12_3, f12_4, f12_5⟩ := hQ12
              have N12 := Fr.app N9 Nq12
              refine ov (B := T12.setTop (mkF m 229 #[iv i0, iv i1, .val (.long i2), .second, .val (.long i3), .second, iv s9, iv s18, iv s29, iv s43, iv s57, iv s71, iv s85, iv s94, iv s106, iv s118, iv s130, iv s142, rv bS, uu, uu, uu, uu] [])) (fun t k => st12 t k) ?_
              exact own_done ⟨_, _, _, N12, (Or.inl ⟨hc217, trivial⟩), ((Keep.refl h9 [bS, gS, dS]).trans Kq12 (allS (Or.inl (List.mem_of_getElem? (i := 0) rfl)) (allS (Or.inl (List.mem_of_getElem? (i := 1) rfl)) (allS (Or.inl (List.mem_of_getElem? (i := 2) rfl)) all0)))), (by rw [own_goT hc217]; exact f12_0), f12_1, f12_2, f12_3, (by rw [own_goT hc217]; exact f12_4), (by rw [own_goT hc217]; exact f12_5), rfl, (X12.more (by decide) (by decide)), rfl⟩
            · refine ov (B := T9.setTop (mkF m 229 #[iv i0, iv i1, .val (.long i2), .second, .val (.long i3), .second, iv s9, iv s18, iv s29, iv s43, iv s57, iv s71, iv s85, iv s94, iv s106, iv s118, iv s130, iv s142, rv bS, uu, uu, uu, uu] [])) (fun t k => XS.icmpYes X9.here hx rfl (pc0 := 217) (pc' := 229) rfl (hb hby at_217) rfl (flt hc217).2.2.2 (by decide) (by decide) k) ?_
              exact own_done ⟨_, _, _, N9, (Or.inr ⟨hc217, trivial⟩), (Keep.refl h9 [bS, gS, dS]), (by rw [own_goF hc217]; exact jf9_0), jf9_1, jf9_2, jf9_3, (by rw [own_goF hc217]; exact jf9_4), (by rw [own_goF hc217]; exact jf9_5), rfl, (X9.more (by decide) (by decide)), e9⟩
          · rintro B ⟨T11, L11, h11, N11, hv217, K11, jf11_0, jf11_1, jf11_2, jf11_3, jf11_4, jf11_5, rfl, X11, e11⟩
            have hok_5 : own_ok s9 5 (own_go s18 (4 : Int32) s85 s142 (own_go s18 (3 : Int32) s71 s130 (own_go s18 (2 : Int32) s57 s118 (own_go s18 (1 : Int32) s43 s106 (own_go s18 (0 : Int32) s29 s94 (own_S0 s9)))))) := own_okgo s18 4 s142 (by omega) hq_4 hok_4
            refine oAL (n := 231) X11 hx (hb hby at_229) rfl rfl rfl ?_
            obtain ⟨cq13, kq13, q13a, q13b, q13c⟩ := isOf hZ e11 ((((((A1.keep Kq2).keep K3).keep K5).keep K7).keep K9).keep K11)
            obtain ⟨_, _, ⟨T13, L13, k13, n13⟩, -, X13, ⟨Lc13, hQ13, l13, y13, z13⟩, st13⟩ := X11.virtualBack hx (y := (⟨"com/example/corrib/corrib/lexicon/SenseWeights", "sorted", "()[I"⟩ : MethodName)) (z := (⟨"com/example/corrib/corrib/lexicon/SenseWeights", "sorted", "()[I"⟩ : MethodName)) hown (mvT hZ (oW hw 39 rfl)) (mvT hZ (oW hw 40 rfl)) (notFace_of_selects (args := #[]) (mvT hZ (oW hw 42 rfl))) (mvT hZ (oW hw 42 rfl)) (mvT hZ (oW hw 41 rfl)) (by decide) (backOf (W := 0) (rmR l Z a0 hw [] bS dS (own_go s18 (4 : Int32) s85 s142 (own_go s18 (3 : Int32) s71 s130 (own_go s18 (2 : Int32) s57 s118 (own_go s18 (1 : Int32) s43 s106 (own_go s18 (0 : Int32) s29 s94 (own_S0 s9)))))) kdS s9 h11 n0 (Nat.le_trans (Nat.le_trans (Nat.le_trans (Nat.le_trans (Nat.le_trans (Nat.le_trans (Nat.le_trans Z0 E1.1) Kq2.1) K3.1) K5.1) K7.1) K9.1) K11.1) ((((((A1.keep Kq2).keep K3).keep K5).keep K7).keep K9).keep K11) jf11_3 jf11_0 jf11_5 (own_okm hok_5 (by omega)) (by obtain ⟨_, _, z1, z2, _, _⟩ := hok_5; have e := (own_n1 z1 z2 (by omega)).2.2.1; omega) hN) hZ (oW hw 43 rfl) (oW hw 4 rfl) (by decide) (by decide)) q13a q13c (g := (mkF m 231 #[iv i0, iv i1, .val (.long i2), .second, .val (.long i3), .second, iv s9, iv s18, iv s29, iv s43, iv s57, iv s71, iv s85, iv s94, iv s106, iv s118, iv s130, iv s142, rv bS, uu, uu, uu, uu] [(.ref bS)])) rfl (by rw [hml]; rfl) (Steps.refl _) (argsL := []) (rest := []) (lenOf own_pd3 rfl) rfl (by show 2 * 0 + _ ≤ _; exact Nat.le_of_eq rfl) (hb hby at_231) (fun _ _ => ⟨rfl, e11, (by decide : 3 + 1 ≤ _), (by decide : 26 + 6 ≤ _)⟩)
            dsimp only [Pt.U, Pt.locs, Pt.cells, Pt.slots] at X13 l13 y13 z13 st13 hQ13
            subst l13 y13 z13
            obtain ⟨r_13, kr_13, rfl, Nq13, Kq13, hr_13, f13_0⟩ := hQ13
            have N13 := Fr.app N11 Nq13
            have g_r_13 : n0 ≤ r_13 := Nat.le_trans (Nat.le_trans (Nat.le_trans (Nat.le_trans (Nat.le_trans (Nat.le_trans (Nat.le_trans (Nat.le_trans Z0 E1.1) Kq2.1) K3.1) K5.1) K7.1) K9.1) K11.1) hr_13
            refine ov (B := T13.setTop (mkF m 234 #[iv i0, iv i1, .val (.long i2), .second, .val (.long i3), .second, iv s9, iv s18, iv s29, iv s43, iv s57, iv s71, iv s85, iv s94, iv s106, iv s118, iv s130, iv s142, rv bS, uu, uu, uu, uu] [(.ref r_13)])) (fun t k => st13.trans k) ?_
            refine ov (B := T13.setTop (mkF m 236 #[iv i0, iv i1, .val (.long i2), .second, .val (.long i3), .second, iv s9, iv s18, iv s29, iv s43, iv s57, iv s71, iv s85, iv s94, iv s106, iv s118, iv s130, iv s142, rv bS, rv r_13, uu, uu, uu] [])) (fun t k => XS.astore X13.here hx rfl (hb hby at_234) rfl rfl (l' := #[iv i0, iv i1, .val (.long i2), .second, .val (.long i3), .second, iv s9, iv s18, iv s29, iv s43, iv s57, iv s71, iv s85, iv s94, iv s106, iv s118, iv s130, iv s142, rv bS, rv r_13, uu, uu, uu]) rfl k) ?_
            refine oBP (n := 238) X13 hx (6 : Int32) (hb hby at_236) (by decide) rfl ?_
            obtain ⟨T14, h14, kc14, X14, e14, E14, A14, st14⟩ := newP X13 hx hZ (oW hw 11 rfl) rfl (g := (mkF m 238 #[iv i0, iv i1, .val (.long i2), .second, .val (.long i3), .second, iv s9, iv s18, iv s29, iv s43, iv s57, iv s71, iv s85, iv s94, iv s106, iv s118, iv s130, iv s142, rv bS, rv r_13, uu, uu, uu] [(.int (6 : Int32))])) rfl (hb hby at_238) rfl (by decide) (cap := 6) (by decide) (by decide) (by decide) (by decide)
            obtain ⟨bE, g14⟩ : ∃ z, z = T13.heap.size := ⟨_, rfl⟩
            rw [← g14] at A14 st14
            have g_bE : n0 ≤ bE := Nat.le_trans (Nat.le_trans (Nat.le_trans (Nat.le_trans (Nat.le_trans (Nat.le_trans (Nat.le_trans (Nat.le_trans (Nat.le_trans Z0 E1.1) Kq2.1) K3.1) K5.1) K7.1) K9.1) K11.1) Kq13.1) (Nat.le_of_eq g14.symm)
            have V14 : Arv Z h14 bE kc14 .int (6 : Int32) [] (.int (0 : Int32)) := Arv.new A14 (by decide)
            refine ov (B := T14.setTop (mkF m 240 #[iv i0, iv i1, .val (.long i2), .second, .val (.long i3), .second, iv s9, iv s18, iv s29, iv s43, iv s57, iv s71, iv s85, iv s94, iv s106, iv s118, iv s130, iv s142, rv bS, rv r_13, uu, uu, uu] [(.ref bE)])) (fun t k => st14 t k) ?_
            refine ov (B := T14.setTop (mkF m 242 #[iv i0, iv i1, .val (.long i2), .second, .val (.long i3), .second, iv s9, iv s18, iv s29, iv s43, iv s57, iv s71, iv s85, iv s94, iv s106, iv s118, iv s130, iv s142, rv bS, rv r_13, rv bE, uu, uu] [])) (fun t k => XS.astore X14.here hx rfl (hb hby at_240) rfl rfl (l' := #[iv i0, iv i1, .val (.long i2), .second, .val (.long i3), .second, iv s9, iv s18, iv s29, iv s43, iv s57, iv s71, iv s85, iv s94, iv s106, iv s118, iv s130, iv s142, rv bS, rv r_13, rv bE, uu, uu]) rfl k) ?_
            refine oIC (n := 243) X14 hx (0 : Int32) (hb hby at_242) (by decide) rfl ?_
            refine ov (B := T14.setTop (mkF m 245 #[iv i0, iv i1, .val (.long i2), .second, .val (.long i3), .second, iv s9, iv s18, iv s29, iv s43, iv s57, iv s71, iv s85, iv s94, iv s106, iv s118, iv s130, iv s142, rv bS, rv r_13, rv bE, iv (0 : Int32), uu] [])) (fun t k => XS.istore X14.here hx rfl (hb hby at_243) rfl (l' := #[iv i0, iv i1, .val (.long i2), .second, .val (.long i3), .second, iv s9, iv s18, iv s29, iv s43, iv s57, iv s71, iv s85, iv s94, iv s106, iv s118, iv s130, iv s142, rv bS, rv r_13, rv bE, iv (0 : Int32), uu]) rfl k) ?_
            refine oIC (n := 246) X14 hx (0 : Int32) (hb hby at_245) (by decide) rfl ?_
            refine oIL (n := 248) X14 hx (hb hby at_246) rfl rfl ?_
            refine oIL (n := 250) X14 hx (hb hby at_248) rfl rfl ?_
            refine oIL (n := 252) X14 hx (hb hby at_250) rfl rfl ?_
            refine oIL (n := 254) X14 hx (hb hby at_252) rfl rfl ?_
            refine oIL (n := 256) X14 hx (hb hby at_254) rfl rfl ?_
            refine oIL (n := 258) X14 hx (hb hby at_256) rfl rfl ?_
            obtain ⟨_, _, ⟨T15, L15, k15, n15⟩, -, X15, ⟨Lc15, hQ15, l15, y15, z15⟩, st15⟩ := Jvm.LawKit.callS X14 hx (y := (⟨"com/example/corrib/corrib/lexicon/SenseWeightsSortedPinLaw", "in", "(IIIIIII)Z"⟩ : MethodName)) hown (mvT hZ (oW hw 44 rfl)) (mvT hZ (oW hw 45 rfl)) (mvT hZ (oW hw 19 rfl)) (mvT hZ (oW hw 46 rfl)) (by decide) (backOf (W := 0) (rmJ l Z a0 hw [] (0 : Int32) s18 s29 s43 s57 s71 s85 h14 n0 (Nat.le_trans (Nat.le_trans (Nat.le_trans (Nat.le_trans (Nat.le_trans (Nat.le_trans (Nat.le_trans (Nat.le_trans (Nat.le_trans Z0 E1.1) Kq2.1) K3.1) K5.1) K7.1) K9.1) K11.1) Kq13.1) E14.1) ) hZ (oW hw 46 rfl) (oW hw 19 rfl) (by decide) (by decide)) (g := (mkF m 258 #[iv i0, iv i1, .val (.long i2), .second, .val (.long i3), .second, iv s9, iv s18, iv s29, iv s43, iv s57, iv s71, iv s85, iv s94, iv s106, iv s118, iv s130, iv s142, rv bS, rv r_13, rv bE, iv (0 : Int32), uu] [(.int s85), (.int s71), (.int s57), (.int s43), (.int s29), (.int s18), (.int (0 : Int32))])) rfl (by rw [hml]; rfl) (argsL := [(.int (0 : Int32)), (.int s18), (.int s29), (.int s43), (.int s57), (.int s71), (.int s85)]) (rest := []) (lenOf own_pd4 rfl) rfl (by show 2 * 0 + _ ≤ _; exact Nat.le_of_eq rfl) (hb hby at_258) (fun _ _ => ⟨rfl, e14, (by decide : ((3 + 1) + 1) + 0 ≤ _), (by decide : ((26 + 6) + 6) + 0 ≤ _)⟩)
            dsimp only [Pt.U, Pt.locs, Pt.cells, Pt.slots] at X15 l15 y15 z15 st15 hQ15
            subst l15 y15 z15
            obtain ⟨rfl, Nq15, eq15⟩ := hQ15
            have N15 := Fr.app N13 Nq15
            refine ov (B := T15.setTop (mkF m 261 #[iv i0, iv i1, .val (.long i2), .second, .val (.long i3), .second, iv s9, iv s18, iv s29, iv s43, iv s57, iv s71, iv s85, iv s94, iv s106, iv s118, iv s130, iv s142, rv bS, rv r_13, rv bE, iv (0 : Int32), uu] [(.int (own_bit (own_P s18 s29 s43 s57 s71 s85 (0 : Int32))))])) (fun t k => st15 t k) ?_
            refine own_bind (G := fun B => ∃ (T' : State) (L' : List Loc) (h' : Heap) (v261l21 : Int32), Fr n0 L' ∧ ((((own_bit (own_P s18 s29 s43 s57 s71 s85 (0 : Int32))) = (0 : Int32)) ∧ v261l21 = (0 : Int32)) ∨ ((¬ ((own_bit (own_P s18 s29 s43 s57 s71 s85 (0 : Int32))) = (0 : Int32))) ∧ v261l21 = ((0 : Int32) + (1 : Int32)))) ∧ Keep h14 h' [bE] ∧ (Arv Z h' bE kc14 .int (6 : Int32) ((own_E s18 s29 s43 s57 s71 s85 1).map Value.int) (.int (0 : Int32))) ∧ (v261l21 = Int32.ofNat (own_E s18 s29 s43 s57 s71 s85 1).length) ∧ B = T'.setTop (mkF m 273 #[iv i0, iv i1, .val (.long i2), .second, .val (.long i3), .second, iv s9, iv s18, iv s29, iv s43, iv s57, iv s71, iv s85, iv s94, iv s106, iv s118, iv s130, iv s142, rv bS, rv r_13, rv bE, iv v261l21, uu] []) ∧ Stand p l e room_1 s m #[(.int i0), (.int i1), (.long i2), (.long i3)] below meth c T' L' (((3 + 1) + 1) + 0) (((26 + 6) + 6) + 0) ∧ T'.heap = h') ?_ ?_
            · by_cases hc261 : (own_bit (own_P s18 s29 s43 s57 s71 s85 (0 : Int32))) = (0 : Int32)
              · refine ov (B := T15.setTop (mkF m 273 #[iv i0, iv i1, .val (.long i2), .second, .val (.long i3), .second, iv s9, iv s18, iv s29, iv s43, iv s57, iv s71, iv s85, iv s94, iv s106, iv s118, iv s130, iv s142, rv bS, rv r_13, rv bE, iv (0 : Int32), uu] [])) (fun t k => XS.ifYes X15.here hx rfl (pc0 := 261) (pc' := 273) rfl (hb hby at_261) rfl ((if0 _ _).trans (teq hc261).1) (by decide) (by decide) k) ?_
                exact own_done ⟨_, _, _, _, N15, (Or.inl ⟨hc261, rfl⟩), (Keep.refl h14 [bE]), (own_VN (j := 0) (own_bit0.mp hc261) V14), (own_kN (j := 0) (own_bit0.mp hc261) rfl), rfl, X15, eq15⟩
              · refine ov (B := T15.setTop (mkF m 264 #[iv i0, iv i1, .val (.long i2), .second, .val (.long i3), .second, iv s9, iv s18, iv s29, iv s43, iv s57, iv s71, iv s85, iv s94, iv s106, iv s118, iv s130, iv s142, rv bS, rv r_13, rv bE, iv (0 : Int32), uu] [])) (fun t k => XS.ifNo X15.here hx rfl (hb hby at_261) rfl ((if0 _ _).trans (feq hc261).1) k) ?_
                refine oAL (n := 266) X15 hx (hb hby at_264) rfl rfl rfl ?_
                refine oIL (n := 268) X15 hx (hb hby at_266) rfl rfl ?_
                refine oIC (n := 269) X15 hx (0 : Int32) (hb hby at_268) (by decide) rfl ?_
                obtain ⟨cl17, Ar17, q17, S17, M17, H17, G17⟩ := (show Arv Z h14 bE kc14 .int (6 : Int32) ((own_E s18 s29 s43 s57 s71 s85 0).map Value.int) (.int (0 : Int32)) from V14).pad (pad_rep _ (.int (0 : Int32)) 1)
                obtain ⟨T18, h18, X18, e18, W18, st18⟩ := stI X15 hx hZ eq15 Ar17 (j := (0 : Int32)) (inb_of S17 (own_k6 (l := (own_E s18 s29 s43 s57 s71 s85 0).length) rfl (Nat.lt_of_le_of_lt (own_El _ _ _ _ _ _ 0) (by decide)))) (g := (mkF m 269 #[iv i0, iv i1, .val (.long i2), .second, .val (.long i3), .second, iv s9, iv s18, iv s29, iv s43, iv s57, iv s71, iv s85, iv s94, iv s106, iv s118, iv s130, iv s142, rv bS, rv r_13, rv bE, iv (0 : Int32), uu] [(.int (0 : Int32)), (.int (0 : Int32)), (.ref bE)])) rfl rfl (hb hby at_269)
                have V18 := own_stepI (l := (own_E s18 s29 s43 s57 s71 s85 0)) Ar17 q17 S17 M17 H17 G17 W18 rfl (Nat.le_trans (own_El _ _ _ _ _ _ 0) (by decide))
                have N18 := Fr.snoc X18 N15 g_bE
                refine ov (B := T18.setTop (mkF m 270 #[iv i0, iv i1, .val (.long i2), .second, .val (.long i3), .second, iv s9, iv s18, iv s29, iv s43, iv s57, iv s71, iv s85, iv s94, iv s106, iv s118, iv s130, iv s142, rv bS, rv r_13, rv bE, iv (0 : Int32), uu] [])) (fun t k => st18 t k) ?_
                refine ov (B := T18.setTop (mkF m 273 #[iv i0, iv i1, .val (.long i2), .second, .val (.long i3), .second, iv s9, iv s18, iv s29, iv s43, iv s57, iv s71, iv s85, iv s94, iv s106, iv s118, iv s130, iv s142, rv bS, rv r_13, rv bE, iv ((0 : Int32) + (1 : Int32)), uu] [])) (fun t k => XS.iinc X18.here hx rfl (hb hby at_270) rfl (l' := #[iv i0, iv i1, .val (.long i2), .second, .val (.long i3), .second, iv s9, iv s18, iv s29, iv s43, iv s57, iv s71, iv s85, iv s94, iv s106, iv s118, iv s130, iv s142, rv bS, rv r_13, rv bE, iv ((0 : Int32) + (1 : Int32)), uu]) rfl k) ?_
                exact own_done ⟨_, _, _, _, N18, (Or.inr ⟨hc261, rfl⟩), ((Keep.refl h14 [bE]).wr W18 (Or.inl (List.mem_of_getElem? (i := 0) rfl))), (own_VP (j := 0) (Classical.not_not.mp (fun q => hc261 (own_bit0.mpr q))) V18), (own_kP (j := 0) (Classical.not_not.mp (fun q => hc261 (own_bit0.mpr q))) rfl), rfl, X18, e18⟩
            · rintro B ⟨T16, L16, h16, v261l21, N16, hv261, K16, jf16_0, jf16_1, rfl, X16, e16⟩
              refine oIC (n := 274) X16 hx (1 : Int32) (hb hby at_273) (by decide) rfl ?_
              refine oIL (n := 276) X16 hx (hb hby at_274) rfl rfl ?_
              refine oIL (n := 278) X16 hx (hb hby at_276) rfl rfl ?_
              refine oIL (n := 280) X16 hx (hb hby at_278) rfl rfl ?_
              refine oIL (n := 282) X16 hx (hb hby at_280) rfl rfl ?_
              refine oIL (n := 284) X16 hx (hb hby at_282) rfl rfl ?_
              refine oIL (n := 286) X16 hx (hb hby at_284) rfl rfl ?_
              obtain ⟨_, _, ⟨T19, L19, k19, n19⟩, -, X19, ⟨Lc19, hQ19, l19, y19, z19⟩, st19⟩ := Jvm.LawKit.callS X16 hx (y := (⟨"com/example/corrib/corrib/lexicon/SenseWeightsSortedPinLaw", "in", "(IIIIIII)Z"⟩ : MethodName)) hown (mvT hZ (oW hw 44 rfl)) (mvT hZ (oW hw 45 rfl)) (mvT hZ (oW hw 19 rfl)) (mvT hZ (oW hw 46 rfl)) (by decide) (backOf (W := 0) (rmJ l Z a0 hw [] (1 : Int32) s18 s29 s43 s57 s71 s85 h16 n0 (Nat.le_trans (Nat.le_trans (Nat.le_trans (Nat.le_trans (Nat.le_trans (Nat.le_trans (Nat.le_trans (Nat.le_trans (Nat.le_trans (Nat.le_trans Z0 E1.1) Kq2.1) K3.1) K5.1) K7.1) K9.1) K11.1) Kq13.1) E14.1) K16.1) ) hZ (oW hw 46 rfl) (oW hw 19 rfl) (by decide) (by decide)) (g := (mkF m 286 #[iv i0, iv i1, .val (.long i2), .second, .val (.long i3), .second, iv s9, iv s18, iv s29, iv s43, iv s57, iv s71, iv s85, iv s94, iv s106, iv s118, iv s130, iv s142, rv bS, rv r_13, rv bE, iv v261l21, uu] [(.int s85), (.int s71), (.int s57), (.int s43), (.int s29), (.int s18), (.int (1 : Int32))])) rfl (by rw [hml]; rfl) (argsL := [(.int (1 : Int32)), (.int s18), (.int s29), (.int s43), (.int s57), (.int s71), (.int s85)]) (rest := []) (lenOf own_pd4 rfl) rfl (by show 2 * 0 + _ ≤ _; exact Nat.le_of_eq rfl) (hb hby at_286) (fun _ _ => ⟨rfl, e16, (by decide : (((3 + 1) + 1) + 0) + 0 ≤ _), (by decide : (((26 + 6) + 6) + 0) + 0 ≤ _)⟩)
              dsimp only [Pt.U, Pt.locs, Pt.cells, Pt.slots] at X19 l19 y19 z19 st19 hQ19
              subst l19 y19 z19
              obtain ⟨rfl, Nq19, eq19⟩ := hQ19
              have N19 := Fr.app N16 Nq19
              refine ov (B := T19.setTop (mkF m 289 #[iv i0, iv i1, .val (.long i2), .second, .val (.long i3), .second, iv s9, iv s18, iv s29, iv s43, iv s57, iv s71, iv s85, iv s94, iv s106, iv s118, iv s130, iv s142, rv bS, rv r_13, rv bE, iv v261l21, uu] [(.int (own_bit (own_P s18 s29 s43 s57 s71 s85 (1 : Int32))))])) (fun t k => st19 t k) ?_
              refine own_bind (G := fun B => ∃ (T' : State) (L' : List Loc) (h' : Heap) (v289l21 : Int32), Fr n0 L' ∧ ((((own_bit (own_P s18 s29 s43 s57 s71 s85 (1 : Int32))) = (0 : Int32)) ∧ v289l21 = v261l21) ∨ ((¬ ((own_bit (own_P s18 s29 s43 s57 s71 s85 (1 : Int32))) = (0 : Int32))) ∧ v289l21 = (v261l21 + (1 : Int32)))) ∧ Keep h16 h' [bE] ∧ (Arv Z h' bE kc14 .int (6 : Int32) ((own_E s18 s29 s43 s57 s71 s85 2).map Value.int) (.int (0 : Int32))) ∧ (v289l21 = Int32.ofNat (own_E s18 s29 s43 s57 s71 s85 2).length) ∧ B = T'.setTop (mkF m 301 #[iv i0, iv i1, .val (.long i2), .second, .val (.long i3), .second, iv s9, iv s18, iv s29, iv s43, iv s57, iv s71, iv s85, iv s94, iv s106, iv s118, iv s130, iv s142, rv bS, rv r_13, rv bE, iv v289l21, uu] []) ∧ Stand p l e room_1 s m #[(.int i0), (.int i1), (.long i2), (.long i3)] below meth c T' L' ((((3 + 1) + 1) + 0) + 0) ((((26 + 6) + 6) + 0) + 0) ∧ T'.heap = h') ?_ ?_
              · by_cases hc289 : (own_bit (own_P s18 s29 s43 s57 s71 s85 (1 : Int32))) = (0 : Int32)
                · refine ov (B := T19.setTop (mkF m 301 #[iv i0, iv i1, .val (.long i2), .second, .val (.long i3), .second, iv s9, iv s18, iv s29, iv s43, iv s57, iv s71, iv s85, iv s94, iv s106, iv s118, iv s130, iv s142, rv bS, rv r_13, rv bE, iv v261l21, uu] [])) (fun t k => XS.ifYes X19.here hx rfl (pc0 := 289) (pc' := 301) rfl (hb hby at_289) rfl ((if0 _ _).trans (teq hc289).1) (by decide) (by decide) k) ?_
                  exact own_done ⟨_, _, _, _, N19, (Or.inl ⟨hc289, rfl⟩), (Keep.refl h16 [bE]), (own_VN (j := 1) (own_bit0.mp hc289) jf16_0), (own_kN (j := 1) (own_bit0.mp hc289) jf16_1), rfl, X19, eq19⟩
                · refine ov (B := T19.setTop (mkF m 292 #[iv i0, iv i1, .val (.long i2), .second, .val (.long i3), .second, iv s9, iv s18, iv s29, iv s43, iv s57, iv s71, iv s85, iv s94, iv s106, iv s118, iv s130, iv s142, rv bS, rv r_13, rv bE, iv v261l21, uu] [])) (fun t k => XS.ifNo X19.here hx rfl (hb hby at_289) rfl ((if0 _ _).trans (feq hc289).1) k) ?_
                  refine oAL (n := 294) X19 hx (hb hby at_292) rfl rfl rfl ?_
                  refine oIL (n := 296) X19 hx (hb hby at_294) rfl rfl ?_
                  refine oIC (n := 297) X19 hx (1 : Int32) (hb hby at_296) (by decide) rfl ?_
                  obtain ⟨cl21, Ar21, q21, S21, M21, H21, G21⟩ := (show Arv Z h16 bE kc14 .int (6 : Int32) ((own_E s18 s29 s43 s57 s71 s85 1).map Value.int) (.int (0 : Int32)) from jf16_0).pad (pad_rep _ (.int (0 : Int32)) 1)
                  obtain ⟨T22, h22, X22, e22, W22, st22⟩ := stI X19 hx hZ eq19 Ar21 (j := v261l21) (inb_of S21 (own_k6 (l := (own_E s18 s29 s43 s57 s71 s85 1).length) jf16_1 (Nat.lt_of_le_of_lt (own_El _ _ _ _ _ _ 1) (by decide)))) (g := (mkF m 297 #[iv i0, iv i1, .val (.long i2), .second, .val (.long i3), .second, iv s9, iv s18, iv s29, iv s43, iv s57, iv s71, iv s85, iv s94, iv s106, iv s118, iv s130, iv s142, rv bS, rv r_13, rv bE, iv v261l21, uu] [(.int (1 : Int32)), (.int v261l21), (.ref bE)])) rfl rfl (hb hby at_297)
                  have V22 := own_stepI (l := (own_E s18 s29 s43 s57 s71 s85 1)) Ar21 q21 S21 M21 H21 G21 W22 jf16_1 (Nat.le_trans (own_El _ _ _ _ _ _ 1) (by decide))
                  have N22 := Fr.snoc X22 N19 g_bE
                  refine ov (B := T22.setTop (mkF m 298 #[iv i0, iv i1, .val (.long i2), .second, .val (.long i3), .second, iv s9, iv s18, iv s29, iv s43, iv s57, iv s71, iv s85, iv s94, iv s106, iv s118, iv s130, iv s142, rv bS, rv r_13, rv bE, iv v261l21, uu] [])) (fun t k => st22 t k) ?_
                  refine ov (B := T22.setTop (mkF m 301 #[iv i0, iv i1, .val (.long i2), .second, .val (.long i3), .second, iv s9, iv s18, iv s29, iv s43, iv s57, iv s71, iv s85, iv s94, iv s106, iv s118, iv s130, iv s142, rv bS, rv r_13, rv bE, iv (v261l21 + (1 : Int32)), uu] [])) (fun t k => XS.iinc X22.here hx rfl (hb hby at_298) rfl (l' := #[iv i0, iv i1, .val (.long i2), .second, .val (.long i3), .second, iv s9, iv s18, iv s29, iv s43, iv s57, iv s71, iv s85, iv s94, iv s106, iv s118, iv s130, iv s142, rv bS, rv r_13, rv bE, iv (v261l21 + (1 : Int32)), uu]) rfl k) ?_
                  exact own_done ⟨_, _, _, _, N22, (Or.inr ⟨hc289, rfl⟩), ((Keep.refl h16 [bE]).wr W22 (Or.inl (List.mem_of_getElem? (i := 0) rfl))), (own_VP (j := 1) (Classical.not_not.mp (fun q => hc289 (own_bit0.mpr q))) V22), (own_kP (j := 1) (Classical.not_not.mp (fun q => hc289 (own_bit0.mpr q))) jf16_1), rfl, X22, e22⟩
              · rintro B ⟨T20, L20, h20, v289l21, N20, hv289, K20, jf20_0, jf20_1, rfl, X20, e20⟩
                refine oIC (n := 302) X20 hx (2 : Int32) (hb hby at_301) (by decide) rfl ?_
                refine oIL (n := 304) X20 hx (hb hby at_302) rfl rfl ?_
                refine oIL (n := 306) X20 hx (hb hby at_304) rfl rfl ?_
                refine oIL (n := 308) X20 hx (hb hby at_306) rfl rfl ?_
                refine oIL (n := 310) X20 hx (hb hby at_308) rfl rfl ?_
                refine oIL (n := 312) X20 hx (hb hby at_310) rfl rfl ?_
                refine oIL (n := 314) X20 hx (hb hby at_312) rfl rfl ?_
                obtain ⟨_, _, ⟨T23, L23, k23, n23⟩, -, X23, ⟨Lc23, hQ23, l23, y23, z23⟩, st23⟩ := Jvm.LawKit.callS X20 hx (y := (⟨"com/example/corrib/corrib/lexicon/SenseWeightsSortedPinLaw", "in", "(IIIIIII)Z"⟩ : MethodName)) hown (mvT hZ (oW hw 44 rfl)) (mvT hZ (oW hw 45 rfl)) (mvT hZ (oW hw 19 rfl)) (mvT hZ (oW hw 46 rfl)) (by decide) (backOf (W := 0) (rmJ l Z a0 hw [] (2 : Int32) s18 s29 s43 s57 s71 s85 h20 n0 (Nat.le_trans (Nat.le_trans (Nat.le_trans (Nat.le_trans (Nat.le_trans (Nat.le_trans (Nat.le_trans (Nat.le_trans (Nat.le_trans (Nat.le_trans (Nat.le_trans Z0 E1.1) Kq2.1) K3.1) K5.1) K7.1) K9.1) K11.1) Kq13.1) E14.1) K16.1) K20.1) ) hZ (oW hw 46 rfl) (oW hw 19 rfl) (by decide) (by decide)) (g := (mkF m 314 #[iv i0, iv i1, .val (.long i2), .second, .val (.long i3), .second, iv s9, iv s18, iv s29, iv s43, iv s57, iv s71, iv s85, iv s94, iv s106, iv s118, iv s130, iv s142, rv bS, rv r_13, rv bE, iv v289l21, uu] [(.int s85), (.int s71), (.int s57), (.int s43), (.int s29), (.int s18), (.int (2 : Int32))])) rfl (by rw [hml]; rfl) (argsL := [(.int (2 : Int32)), (.int s18), (.int s29), (.int s43), (.int s57), (.int s71), (.int s85)]) (rest := []) (lenOf own_pd4 rfl) rfl (by show 2 * 0 + _ ≤ _; exact Nat.le_of_eq rfl) (hb hby at_314) (fun _ _ => ⟨rfl, e20, (by decide : ((((3 + 1) + 1) + 0) + 0) + 0 ≤ _), (by decide : ((((26 + 6) + 6) + 0) + 0) + 0 ≤ _)⟩)
                dsimp only [Pt.U, Pt.locs, Pt.cells, Pt.slots] at X23 l23 y23 z23 st23 hQ23
                subst l23 y23 z23
                obtain ⟨rfl, Nq23, eq23⟩ := hQ23
                have N23 := Fr.app N20 Nq23
                refine ov (B := T23.setTop (mkF m 317 #[iv i0, iv i1, .val (.long i2), .second, .val (.long i3), .second, iv s9, iv s18, iv s29, iv s43, iv s57, iv s71, iv s85, iv s94, iv s106, iv s118, iv s130, iv s142, rv bS, rv r_13, rv bE, iv v289l21, uu] [(.int (own_bit (own_P s18 s29 s43 s57 s71 s85 (2 : Int32))))])) (fun t k => st23 t k) ?_
                refine own_bind (G := fun B => ∃ (T' : State) (L' : List Loc) (h' : Heap) (v317l21 : Int32), Fr n0 L' ∧ ((((own_bit (own_P s18 s29 s43 s57 s71 s85 (2 : Int32))) = (0 : Int32)) ∧ v317l21 = v289l21) ∨ ((¬ ((own_bit (own_P s18 s29 s43 s57 s71 s85 (2 : Int32))) = (0 : Int32))) ∧ v317l21 = (v289l21 + (1 : Int32)))) ∧ Keep h20 h' [bE] ∧ (Arv Z h' bE kc14 .int (6 : Int32) ((own_E s18 s29 s43 s57 s71 s85 3).map Value.int) (.int (0 : Int32))) ∧ (v317l21 = Int32.ofNat (own_E s18 s29 s43 s57 s71 s85 3).length) ∧ B = T'.setTop (mkF m 329 #[iv i0, iv i1, .val (.long i2), .second, .val (.long i3), .second, iv s9, iv s18, iv s29, iv s43, iv s57, iv s71, iv s85, iv s94, iv s106, iv s118, iv s130, iv s142, rv bS, rv r_13, rv bE, iv v317l21, uu] []) ∧ Stand p l e room_1 s m #[(.int i0), (.int i1), (.long i2), (.long i3)] below meth c T' L' (((((3 + 1) + 1) + 0) + 0) + 0) (((((26 + 6) + 6) + 0) + 0) + 0) ∧ T'.heap = h') ?_ ?_
                · by_cases hc317 : (own_bit (own_P s18 s29 s43 s57 s71 s85 (2 : Int32))) = (0 : Int32)
                  · refine ov (B := T23.setTop (mkF m 329 #[iv i0, iv i1, .val (.long i2), .second, .val (.long i3), .second, iv s9, iv s18, iv s29, iv s43, iv s57, iv s71, iv s85, iv s94, iv s106, iv s118, iv s130, iv s142, rv bS, rv r_13, rv bE, iv v289l21, uu] [])) (fun t k => XS.ifYes X23.here hx rfl (pc0 := 317) (pc' := 329) rfl (hb hby at_317) rfl ((if0 _ _).trans (teq hc317).1) (by decide) (by decide) k) ?_
                    exact own_done ⟨_, _, _, _, N23, (Or.inl ⟨hc317, rfl⟩), (Keep.refl h20 [bE]), (own_VN (j := 2) (own_bit0.mp hc317) jf20_0), (own_kN (j := 2) (own_bit0.mp hc317) jf20_1), rfl, X23, eq23⟩
                  · refine ov (B := T23.setTop (mkF m 320 #[iv i0, iv i1, .val (.long i2), .second, .val (.long i3), .second, iv s9, iv s18, iv s29, iv s43, iv s57, iv s71, iv s85, iv s94, iv s106, iv s118, iv s130, iv s142, rv bS, rv r_13, rv bE, iv v289l21, uu] [])) (fun t k => XS.ifNo X23.here hx rfl (hb hby at_317) rfl ((if0 _ _).trans (feq hc317).1) k) ?_
                    refine oAL (n := 322) X23 hx (hb hby at_320) rfl rfl rfl ?_
                    refine oIL (n := 324) X23 hx (hb hby at_322) rfl rfl ?_
                    refine oIC (n := 325) X23 hx (2 : Int32) (hb hby at_324) (by decide) rfl ?_
                    obtain ⟨cl25, Ar25, q25, S25, M25, H25, G25⟩ := (show Arv Z h20 bE kc14 .int (6 : Int32) ((own_E s18 s29 s43 s57 s71 s85 2).map Value.int) (.int (0 : Int32)) from jf20_0).pad (pad_rep _ (.int (0 : Int32)) 1)
                    obtain ⟨T26, h26, X26, e26, W26, st26⟩ := stI X23 hx hZ eq23 Ar25 (j := v289l21) (inb_of S25 (own_k6 (l := (own_E s18 s29 s43 s57 s71 s85 2).length) jf20_1 (Nat.lt_of_le_of_lt (own_El _ _ _ _ _ _ 2) (by decide)))) (g := (mkF m 325 #[iv i0, iv i1, .val (.long i2), .second, .val (.long i3), .second, iv s9, iv s18, iv s29, iv s43, iv s57, iv s71, iv s85, iv s94, iv s106, iv s118, iv s130, iv s142, rv bS, rv r_13, rv bE, iv v289l21, uu] [(.int (2 : Int32)), (.int v289l21), (.ref bE)])) rfl rfl (hb hby at_325)
                    have V26 := own_stepI (l := (own_E s18 s29 s43 s57 s71 s85 2)) Ar25 q25 S25 M25 H25 G25 W26 jf20_1 (Nat.le_trans (own_El _ _ _ _ _ _ 2) (by decide))
                    have N26 := Fr.snoc X26 N23 g_bE
                    refine ov (B := T26.setTop (mkF m 326 #[iv i0, iv i1, .val (.long i2), .second, .val (.long i3), .second, iv s9, iv s18, iv s29, iv s43, iv s57, iv s71, iv s85, iv s94, iv s106, iv s118, iv s130, iv s142, rv bS, rv r_13, rv bE, iv v289l21, uu] [])) (fun t k => st26 t k) ?_
                    refine ov (B := T26.setTop (mkF m 329 #[iv i0, iv i1, .val (.long i2), .second, .val (.long i3), .second, iv s9, iv s18, iv s29, iv s43, iv s57, iv s71, iv s85, iv s94, iv s106, iv s118, iv s130, iv s142, rv bS, rv r_13, rv bE, iv (v289l21 + (1 : Int32)), uu] [])) (fun t k => XS.iinc X26.here hx rfl (hb hby at_326) rfl (l' := #[iv i0, iv i1, .val (.long i2), .second, .val (.long i3), .second, iv s9, iv s18, iv s29, iv s43, iv s57, iv s71, iv s85, iv s94, iv s106, iv s118, iv s130, iv s142, rv bS, rv r_13, rv bE, iv (v289l21 + (1 : Int32)), uu]) rfl k) ?_
                    exact own_done ⟨_, _, _, _, N26, (Or.inr ⟨hc317, rfl⟩), ((Keep.refl h20 [bE]).wr W26 (Or.inl (List.mem_of_getElem? (i := 0) rfl))), (own_VP (j := 2) (Classical.not_not.mp (fun q => hc317 (own_bit0.mpr q))) V26), (own_kP (j := 2) (Classical.not_not.mp (fun q => hc317 (own_bit0.mpr q))) jf20_1), rfl, X26, e26⟩
                · rintro B ⟨T24, L24, h24, v317l21, N24, hv317, K24, jf24_0, jf24_1, rfl, X24, e24⟩
                  refine oIC (n := 330) X24 hx (3 : Int32) (hb hby at_329) (by decide) rfl ?_
                  refine oIL (n := 332) X24 hx (hb hby at_330) rfl rfl ?_
                  refine oIL (n := 334) X24 hx (hb hby at_332) rfl rfl ?_
                  refine oIL (n := 336) X24 hx (hb hby at_334) rfl rfl ?_
                  refine oIL (n := 338) X24 hx (hb hby at_336) rfl rfl ?_
                  refine oIL (n := 340) X24 hx (hb hby at_338) rfl rfl ?_
                  refine oIL (n := 342) X24 hx (hb hby at_340) rfl rfl ?_
                  obtain ⟨_, _, ⟨T27, L27, k27, n27⟩, -, X27, ⟨Lc27, hQ27, l27, y27, z27⟩, st27⟩ := Jvm.LawKit.callS X24 hx (y := (⟨"com/example/corrib/corrib/lexicon/SenseWeightsSortedPinLaw", "in", "(IIIIIII)Z"⟩ : MethodName)) hown (mvT hZ (oW hw 44 rfl)) (mvT hZ (oW hw 45 rfl)) (mvT hZ (oW hw 19 rfl)) (mvT hZ (oW hw 46 rfl)) (by decide) (backOf (W := 0) (rmJ l Z a0 hw [] (3 : Int32) s18 s29 s43 s57 s71 s85 h24 n0 (Nat.le_trans (Nat.le_trans (Nat.le_trans (Nat.le_trans (Nat.le_trans (Nat.le_trans (Nat.le_trans (Nat.le_trans (Nat.le_trans (Nat.le_trans (Nat.le_trans (Nat.le_trans Z0 E1.1) Kq2.1) K3.1) K5.1) K7.1) K9.1) K11.1) Kq13.1) E14.1) K16.1) K20.1) K24.1) ) hZ (oW hw 46 rfl) (oW hw 19 rfl) (by decide) (by decide)) (g := (mkF m 342 #[iv i0, iv i1, .val (.long i2), .second, .val (.long i3), .second, iv s9, iv s18, iv s29, iv s43, iv s57, iv s71, iv s85, iv s94, iv s106, iv s118, iv s130, iv s142, rv bS, rv r_13, rv bE, iv v317l21, uu] [(.int s85), (.int s71), (.int s57), (.int s43), (.int s29), (.int s18), (.int (3 : Int32))])) rfl (by rw [hml]; rfl) (argsL := [(.int (3 : Int32)), (.int s18), (.int s29), (.int s43), (.int s57), (.int s71), (.int s85)]) (rest := []) (lenOf own_pd4 rfl) rfl (by show 2 * 0 + _ ≤ _; exact Nat.le_of_eq rfl) (hb hby at_342) (fun _ _ => ⟨rfl, e24, (by decide : (((((3 + 1) + 1) + 0) + 0) + 0) + 0 ≤ _), (by decide : (((((26 + 6) + 6) + 0) + 0) + 0) + 0 ≤ _)⟩)
                  dsimp only [Pt.U, Pt.locs, Pt.cells, Pt.slots] at X27 l27 y27 z27 st27 hQ27
                  subst l27 y27 z27
                  obtain ⟨rfl, Nq27, eq27⟩ := hQ27
                  have N27 := Fr.app N24 Nq27
                  refine ov (B := T27.setTop (mkF m 345 #[iv i0, iv i1, .val (.long i2), .second, .val (.long i3), .second, iv s9, iv s18, iv s29, iv s43, iv s57, iv s71, iv s85, iv s94, iv s106, iv s118, iv s130, iv s142, rv bS, rv r_13, rv bE, iv v317l21, uu] [(.int (own_bit (own_P s18 s29 s43 s57 s71 s85 (3 : Int32))))])) (fun t k => st27 t k) ?_
                  refine own_bind (G := fun B => ∃ (T' : State) (L' : List Loc) (h' : Heap) (v345l21 : Int32), Fr n0 L' ∧ ((((own_bit (own_P s18 s29 s43 s57 s71 s85 (3 : Int32))) = (0 : Int32)) ∧ v345l21 = v317l21) ∨ ((¬ ((own_bit (own_P s18 s29 s43 s57 s71 s85 (3 : Int32))) = (0 : Int32))) ∧ v345l21 = (v317l21 + (1 : Int32)))) ∧ Keep h24 h' [bE] ∧ (Arv Z h' bE kc14 .int (6 : Int32) ((own_E s18 s29 s43 s57 s71 s85 4).map Value.int) (.int (0 : Int32))) ∧ (v345l21 = Int32.ofNat (own_E s18 s29 s43 s57 s71 s85 4).length) ∧ B = T'.setTop (mkF m 357 #[iv i0, iv i1, .val (.long i2), .second, .val (.long i3), .second, iv s9, iv s18, iv s29, iv s43, iv s57, iv s71, iv s85, iv s94, iv s106, iv s118, iv s130, iv s142, rv bS, rv r_13, rv bE, iv v345l21, uu] []) ∧ Stand p l e room_1 s m #[(.int i0), (.int i1), (.long i2), (.long i3)] below meth c T' L' ((((((3 + 1) + 1) + 0) + 0) + 0) + 0) ((((((26 + 6) + 6) + 0) + 0) + 0) + 0) ∧ T'.heap = h') ?_ ?_
                  · by_cases hc345 : (own_bit (own_P s18 s29 s43 s57 s71 s85 (3 : Int32))) = (0 : Int32)
                    · refine ov (B := T27.setTop (mkF m 357 #[iv i0, iv i1, .val (.long i2), .second, .val (.long i3), .second, iv s9, iv s18, iv s29, iv s43, iv s57, iv s71, iv s85, iv s94, iv s106, iv s118, iv s130, iv s142, rv bS, rv r_13, rv bE, iv v317l21, uu] [])) (fun t k => XS.ifYes X27.here hx rfl (pc0 := 345) (pc' := 357) rfl (hb hby at_345) rfl ((if0 _ _).trans (teq hc345).1) (by decide) (by decide) k) ?_
                      exact own_done ⟨_, _, _, _, N27, (Or.inl ⟨hc345, rfl⟩), (Keep.refl h24 [bE]), (own_VN (j := 3) (own_bit0.mp hc345) jf24_0), (own_kN (j := 3) (own_bit0.mp hc345) jf24_1), rfl, X27, eq27⟩
                    · refine ov (B := T27.setTop (mkF m 348 #[iv i0, iv i1, .val (.long i2), .second, .val (.long i3), .second, iv s9, iv s18, iv s29, iv s43, iv s57, iv s71, iv s85, iv s94, iv s106, iv s118, iv s130, iv s142, rv bS, rv r_13, rv bE, iv v317l21, uu] [])) (fun t k => XS.ifNo X27.here hx rfl (hb hby at_345) rfl ((if0 _ _).trans (feq hc345).1) k) ?_
                      refine oAL (n := 350) X27 hx (hb hby at_348) rfl rfl rfl ?_
                      refine oIL (n := 352) X27 hx (hb hby at_350) rfl rfl ?_
                      refine oIC (n := 353) X27 hx (3 : Int32) (hb hby at_352) (by decide) rfl ?_
                      obtain ⟨cl29, Ar29, q29, S29, M29, H29, G29⟩ := (show Arv Z h24 bE kc14 .int (6 : Int32) ((own_E s18 s29 s43 s57 s71 s85 3).map Value.int) (.int (0 : Int32)) from jf24_0).pad (pad_rep _ (.int (0 : Int32)) 1)
                      obtain ⟨T30, h30, X30, e30, W30, st30⟩ := stI X27 hx hZ eq27 Ar29 (j := v317l21) (inb_of S29 (own_k6 (l := (own_E s18 s29 s43 s57 s71 s85 3).length) jf24_1 (Nat.lt_of_le_of_lt (own_El _ _ _ _ _ _ 3) (by decide)))) (g := (mkF m 353 #[iv i0, iv i1, .val (.long i2), .second, .val (.long i3), .second, iv s9, iv s18, iv s29, iv s43, iv s57, iv s71, iv s85, iv s94, iv s106, iv s118, iv s130, iv s142, rv bS, rv r_13, rv bE, iv v317l21, uu] [(.int (3 : Int32)), (.int v317l21), (.ref bE)])) rfl rfl (hb hby at_353)
                      have V30 := own_stepI (l := (own_E s18 s29 s43 s57 s71 s85 3)) Ar29 q29 S29 M29 H29 G29 W30 jf24_1 (Nat.le_trans (own_El _ _ _ _ _ _ 3) (by decide))
                      have N30 := Fr.snoc X30 N27 g_bE
                      refine ov (B := T30.setTop (mkF m 354 #[iv i0, iv i1, .val (.long i2), .second, .val (.long i3), .second, iv s9, iv s18, iv s29, iv s43, iv s57, iv s71, iv s85, iv s94, iv s106, iv s118, iv s130, iv s142, rv bS, rv r_13, rv bE, iv v317l21, uu] [])) (fun t k => st30 t k) ?_
                      refine ov (B := T30.setTop (mkF m 357 #[iv i0, iv i1, .val (.long i2), .second, .val (.long i3), .second, iv s9, iv s18, iv s29, iv s43, iv s57, iv s71, iv s85, iv s94, iv s106, iv s118, iv s130, iv s142, rv bS, rv r_13, rv bE, iv (v317l21 + (1 : Int32)), uu] [])) (fun t k => XS.iinc X30.here hx rfl (hb hby at_354) rfl (l' := #[iv i0, iv i1, .val (.long i2), .second, .val (.long i3), .second, iv s9, iv s18, iv s29, iv s43, iv s57, iv s71, iv s85, iv s94, iv s106, iv s118, iv s130, iv s142, rv bS, rv r_13, rv bE, iv (v317l21 + (1 : Int32)), uu]) rfl k) ?_
                      exact own_done ⟨_, _, _, _, N30, (Or.inr ⟨hc345, rfl⟩), ((Keep.refl h24 [bE]).wr W30 (Or.inl (List.mem_of_getElem? (i := 0) rfl))), (own_VP (j := 3) (Classical.not_not.mp (fun q => hc345 (own_bit0.mpr q))) V30), (own_kP (j := 3) (Classical.not_not.mp (fun q => hc345 (own_bit0.mpr q))) jf24_1), rfl, X30, e30⟩
                  · rintro B ⟨T28, L28, h28, v345l21, N28, hv345, K28, jf28_0, jf28_1, rfl, X28, e28⟩
                    refine oIC (n := 358) X28 hx (4 : Int32) (hb hby at_357) (by decide) rfl ?_
                    refine oIL (n := 360) X28 hx (hb hby at_358) rfl rfl ?_
                    refine oIL (n := 362) X28 hx (hb hby at_360) rfl rfl ?_
                    refine oIL (n := 364) X28 hx (hb hby at_362) rfl rfl ?_
                    refine oIL (n := 366) X28 hx (hb hby at_364) rfl rfl ?_
                    refine oIL (n := 368) X28 hx (hb hby at_366) rfl rfl ?_
                    refine oIL (n := 370) X28 hx (hb hby at_368) rfl rfl ?_
                    obtain ⟨_, _, ⟨T31, L31, k31, n31⟩, -, X31, ⟨Lc31, hQ31, l31, y31, z31⟩, st31⟩ := Jvm.LawKit.callS X28 hx (y := (⟨"com/example/corrib/corrib/lexicon/SenseWeightsSortedPinLaw", "in", "(IIIIIII)Z"⟩ : MethodName)) hown (mvT hZ (oW hw 44 rfl)) (mvT hZ (oW hw 45 rfl)) (mvT hZ (oW hw 19 rfl)) (mvT hZ (oW hw 46 rfl)) (by decide) (backOf (W := 0) (rmJ l Z a0 hw [] (4 : Int32) s18 s29 s43 s57 s71 s85 h28 n0 (Nat.le_trans (Nat.le_trans (Nat.le_trans (Nat.le_trans (Nat.le_trans (Nat.le_trans (Nat.le_trans (Nat.le_trans (Nat.le_trans (Nat.le_trans (Nat.le_trans (Nat.le_trans (Nat.le_trans Z0 E1.1) Kq2.1) K3.1) K5.1) K7.1) K9.1) K11.1) Kq13.1) E14.1) K16.1) K20.1) K24.1) K28.1) ) hZ (oW hw 46 rfl) (oW hw 19 rfl) (by decide) (by decide)) (g := (mkF m 370 #[iv i0, iv i1, .val (.long i2), .second, .val (.long i3), .second, iv s9, iv s18, iv s29, iv s43, iv s57, iv s71, iv s85, iv s94, iv s106, iv s118, iv s130, iv s142, rv bS, rv r_13, rv bE, iv v345l21, uu] [(.int s85), (.int s71), (.int s57), (.int s43), (.int s29), (.int s18), (.int (4 : Int32))])) rfl (by rw [hml]; rfl) (argsL := [(.int (4 : Int32)), (.int s18), (.int s29), (.int s43), (.int s57), (.int s71), (.int s85)]) (rest := []) (lenOf own_pd4 rfl) rfl (by show 2 * 0 + _ ≤ _; exact Nat.le_of_eq rfl) (hb hby at_370) (fun _ _ => ⟨rfl, e28, (by decide : ((((((3 + 1) + 1) + 0) + 0) + 0) + 0) + 0 ≤ _), (by decide : ((((((26 + 6) + 6) + 0) + 0) + 0) + 0) + 0 ≤ _)⟩)
                    dsimp only [Pt.U, Pt.locs, Pt.cells, Pt.slots] at X31 l31 y31 z31 st31 hQ31
                    subst l31 y31 z31
                    obtain ⟨rfl, Nq31, eq31⟩ := hQ31
                    have N31 := Fr.app N28 Nq31
                    refine ov (B := T31.setTop (mkF m 373 #[iv i0, iv i1, .val (.long i2), .second, .val (.long i3), .second, iv s9, iv s18, iv s29, iv s43, iv s57, iv s71, iv s85, iv s94, iv s106, iv s118, iv s130, iv s142, rv bS, rv r_13, rv bE, iv v345l21, uu] [(.int (own_bit (own_P s18 s29 s43 s57 s71 s85 (4 : Int32))))])) (fun t k => st31 t k) ?_
                    refine own_bind (G := fun B => ∃ (T' : State) (L' : List Loc) (h' : Heap) (v373l21 : Int32), Fr n0 L' ∧ ((((own_bit (own_P s18 s29 s43 s57 s71 s85 (4 : Int32))) = (0 : Int32)) ∧ v373l21 = v345l21) ∨ ((¬ ((own_bit (own_P s18 s29 s43 s57 s71 s85 (4 : Int32))) = (0 : Int32))) ∧ v373l21 = (v345l21 + (1 : Int32)))) ∧ Keep h28 h' [bE] ∧ (Arv Z h' bE kc14 .int (6 : Int32) ((own_E s18 s29 s43 s57 s71 s85 5).map Value.int) (.int (0 : Int32))) ∧ (v373l21 = Int32.ofNat (own_E s18 s29 s43 s57 s71 s85 5).length) ∧ B = T'.setTop (mkF m 385 #[iv i0, iv i1, .val (.long i2), .second, .val (.long i3), .second, iv s9, iv s18, iv s29, iv s43, iv s57, iv s71, iv s85, iv s94, iv s106, iv s118, iv s130, iv s142, rv bS, rv r_13, rv bE, iv v373l21, uu] []) ∧ Stand p l e room_1 s m #[(.int i0), (.int i1), (.long i2), (.long i3)] below meth c T' L' (((((((3 + 1) + 1) + 0) + 0) + 0) + 0) + 0) (((((((26 + 6) + 6) + 0) + 0) + 0) + 0) + 0) ∧ T'.heap = h') ?_ ?_
                    · by_cases hc373 : (own_bit (own_P s18 s29 s43 s57 s71 s85 (4 : Int32))) = (0 : Int32)
                      · refine ov (B := T31.setTop (mkF m 385 #[iv i0, iv i1, .val (.long i2), .second, .val (.long i3), .second, iv s9, iv s18, iv s29, iv s43, iv s57, iv s71, iv s85, iv s94, iv s106, iv s118, iv s130, iv s142, rv bS, rv r_13, rv bE, iv v345l21, uu] [])) (fun t k => XS.ifYes X31.here hx rfl (pc0 := 373) (pc' := 385) rfl (hb hby at_373) rfl ((if0 _ _).trans (teq hc373).1) (by decide) (by decide) k) ?_
                        exact own_done ⟨_, _, _, _, N31, (Or.inl ⟨hc373, rfl⟩), (Keep.refl h28 [bE]), (own_VN (j := 4) (own_bit0.mp hc373) jf28_0), (own_kN (j := 4) (own_bit0.mp hc373) jf28_1), rfl, X31, eq31⟩
                      · refine ov (B := T31.setTop (mkF m 376 #[iv i0, iv i1, .val (.long i2), .second, .val (.long i3), .second, iv s9, iv s18, iv s29, iv s43, iv s57, iv s71, iv s85, iv s94, iv s106, iv s118, iv s130, iv s142, rv bS, rv r_13, rv bE, iv v345l21, uu] [])) (fun t k => XS.ifNo X31.here hx rfl (hb hby at_373) rfl ((if0 _ _).trans (feq hc373).1) k) ?_
                        refine oAL (n := 378) X31 hx (hb hby at_376) rfl rfl rfl ?_
                        refine oIL (n := 380) X31 hx (hb hby at_378) rfl rfl ?_
                        refine oIC (n := 381) X31 hx (4 : Int32) (hb hby at_380) (by decide) rfl ?_
                        obtain ⟨cl33, Ar33, q33, S33, M33, H33, G33⟩ := (show Arv Z h28 bE kc14 .int (6 : Int32) ((own_E s18 s29 s43 s57 s71 s85 4).map Value.int) (.int (0 : Int32)) from jf28_0).pad (pad_rep _ (.int (0 : Int32)) 1)
                        obtain ⟨T34, h34, X34, e34, W34, st34⟩ := stI X31 hx hZ eq31 Ar33 (j := v345l21) (inb_of S33 (own_k6 (l := (own_E s18 s29 s43 s57 s71 s85 4).length) jf28_1 (Nat.lt_of_le_of_lt (own_El _ _ _ _ _ _ 4) (by decide)))) (g := (mkF m 381 #[iv i0, iv i1, .val (.long i2), .second, .val (.long i3), .second, iv s9, iv s18, iv s29, iv s43, iv s57, iv s71, iv s85, iv s94, iv s106, iv s118, iv s130, iv s142, rv bS, rv r_13, rv bE, iv v345l21, uu] [(.int (4 : Int32)), (.int v345l21), (.ref bE)])) rfl rfl (hb hby at_381)
                        have V34 := own_stepI (l := (own_E s18 s29 s43 s57 s71 s85 4)) Ar33 q33 S33 M33 H33 G33 W34 jf28_1 (Nat.le_trans (own_El _ _ _ _ _ _ 4) (by decide))
                        have N34 := Fr.snoc X34 N31 g_bE
                        refine ov (B := T34.setTop (mkF m 382 #[iv i0, iv i1, .val (.long i2), .second, .val (.long i3), .second, iv s9, iv s18, iv s29, iv s43, iv s57, iv s71, iv s85, iv s94, iv s106, iv s118, iv s130, iv s142, rv bS, rv r_13, rv bE, iv v345l21, uu] [])) (fun t k => st34 t k) ?_
                        refine ov (B := T34.setTop (mkF m 385 #[iv i0, iv i1, .val (.long i2), .second, .val (.long i3), .second, iv s9, iv s18, iv s29, iv s43, iv s57, iv s71, iv s85, iv s94, iv s106, iv s118, iv s130, iv s142, rv bS, rv r_13, rv bE, iv (v345l21 + (1 : Int32)), uu] [])) (fun t k => XS.iinc X34.here hx rfl (hb hby at_382) rfl (l' := #[iv i0, iv i1, .val (.long i2), .second, .val (.long i3), .second, iv s9, iv s18, iv s29, iv s43, iv s57, iv s71, iv s85, iv s94, iv s106, iv s118, iv s130, iv s142, rv bS, rv r_13, rv bE, iv (v345l21 + (1 : Int32)), uu]) rfl k) ?_
                        exact own_done ⟨_, _, _, _, N34, (Or.inr ⟨hc373, rfl⟩), ((Keep.refl h28 [bE]).wr W34 (Or.inl (List.mem_of_getElem? (i := 0) rfl))), (own_VP (j := 4) (Classical.not_not.mp (fun q => hc373 (own_bit0.mpr q))) V34), (own_kP (j := 4) (Classical.not_not.mp (fun q => hc373 (own_bit0.mpr q))) jf28_1), rfl, X34, e34⟩
                    · rintro B ⟨T32, L32, h32, v373l21, N32, hv373, K32, jf32_0, jf32_1, rfl, X32, e32⟩
                      refine oIC (n := 386) X32 hx (5 : Int32) (hb hby at_385) (by decide) rfl ?_
                      refine oIL (n := 388) X32 hx (hb hby at_386) rfl rfl ?_
                      refine oIL (n := 390) X32 hx (hb hby at_388) rfl rfl ?_
                      refine oIL (n := 392) X32 hx (hb hby at_390) rfl rfl ?_
                      refine oIL (n := 394) X32 hx (hb hby at_392) rfl rfl ?_
                      refine oIL (n := 396) X32 hx (hb hby at_394) rfl rfl ?_
                      refine oIL (n := 398) X32 hx (hb hby at_396) rfl rfl ?_
                      obtain ⟨_, _, ⟨T35, L35, k35, n35⟩, -, X35, ⟨Lc35, hQ35, l35, y35, z35⟩, st35⟩ := Jvm.LawKit.callS X32 hx (y := (⟨"com/example/corrib/corrib/lexicon/SenseWeightsSortedPinLaw", "in", "(IIIIIII)Z"⟩ : MethodName)) hown (mvT hZ (oW hw 44 rfl)) (mvT hZ (oW hw 45 rfl)) (mvT hZ (oW hw 19 rfl)) (mvT hZ (oW hw 46 rfl)) (by decide) (backOf (W := 0) (rmJ l Z a0 hw [] (5 : Int32) s18 s29 s43 s57 s71 s85 h32 n0 (Nat.le_trans (Nat.le_trans (Nat.le_trans (Nat.le_trans (Nat.le_trans (Nat.le_trans (Nat.le_trans (Nat.le_trans (Nat.le_trans (Nat.le_trans (Nat.le_trans (Nat.le_trans (Nat.le_trans (Nat.le_trans Z0 E1.1) Kq2.1) K3.1) K5.1) K7.1) K9.1) K11.1) Kq13.1) E14.1) K16.1) K20.1) K24.1) K28.1) K32.1) ) hZ (oW hw 46 rfl) (oW hw 19 rfl) (by decide) (by decide)) (g := (mkF m 398 #[iv i0, iv i1, .val (.long i2), .second, .val (.long i3), .second, iv s9, iv s18, iv s29, iv s43, iv s57, iv s71, iv s85, iv s94, iv s106, iv s118, iv s130, iv s142, rv bS, rv r_13, rv bE, iv v373l21, uu] [(.int s85), (.int s71), (.int s57), (.int s43), (.int s29), (.int s18), (.int (5 : Int32))])) rfl (by rw [hml]; rfl) (argsL := [(.int (5 : Int32)), (.int s18), (.int s29), (.int s43), (.int s57), (.int s71), (.int s85)]) (rest := []) (lenOf own_pd4 rfl) rfl (by show 2 * 0 + _ ≤ _; exact Nat.le_of_eq rfl) (hb hby at_398) (fun _ _ => ⟨rfl, e32, (by decide : (((((((3 + 1) + 1) + 0) + 0) + 0) + 0) + 0) + 0 ≤ _), (by decide : (((((((26 + 6) + 6) + 0) + 0) + 0) + 0) + 0) + 0 ≤ _)⟩)
                      dsimp only [Pt.U, Pt.locs, Pt.cells, Pt.slots] at X35 l35 y35 z35 st35 hQ35
                      subst l35 y35 z35
                      obtain ⟨rfl, Nq35, eq35⟩ := hQ35
                      have N35 := Fr.app N32 Nq35
                      refine ov (B := T35.setTop (mkF m 401 #[iv i0, iv i1, .val (.long i2), .second, .val (.long i3), .second, iv s9, iv s18, iv s29, iv s43, iv s57, iv s71, iv s85, iv s94, iv s106, iv s118, iv s130, iv s142, rv bS, rv r_13, rv bE, iv v373l21, uu] [(.int (own_bit (own_P s18 s29 s43 s57 s71 s85 (5 : Int32))))])) (fun t k => st35 t k) ?_
                      refine own_bind (G := fun B => ∃ (T' : State) (L' : List Loc) (h' : Heap) (v401l21 : Int32), Fr n0 L' ∧ ((((own_bit (own_P s18 s29 s43 s57 s71 s85 (5 : Int32))) = (0 : Int32)) ∧ v401l21 = v373l21) ∨ ((¬ ((own_bit (own_P s18 s29 s43 s57 s71 s85 (5 : Int32))) = (0 : Int32))) ∧ v401l21 = (v373l21 + (1 : Int32)))) ∧ Keep h32 h' [bE] ∧ (Arv Z h' bE kc14 .int (6 : Int32) ((own_E s18 s29 s43 s57 s71 s85 6).map Value.int) (.int (0 : Int32))) ∧ (v401l21 = Int32.ofNat (own_E s18 s29 s43 s57 s71 s85 6).length) ∧ B = T'.setTop (mkF m 413 #[iv i0, iv i1, .val (.long i2), .second, .val (.long i3), .second, iv s9, iv s18, iv s29, iv s43, iv s57, iv s71, iv s85, iv s94, iv s106, iv s118, iv s130, iv s142, rv bS, rv r_13, rv bE, iv v401l21, uu] []) ∧ Stand p l e room_1 s m #[(.int i0), (.int i1), (.long i2), (.long i3)] below meth c T' L' ((((((((3 + 1) + 1) + 0) + 0) + 0) + 0) + 0) + 0) ((((((((26 + 6) + 6) + 0) + 0) + 0) + 0) + 0) + 0) ∧ T'.heap = h') ?_ ?_
                      · by_cases hc401 : (own_bit (own_P s18 s29 s43 s57 s71 s85 (5 : Int32))) = (0 : Int32)
                        · refine ov (B := T35.setTop (mkF m 413 #[iv i0, iv i1, .val (.long i2), .second, .val (.long i3), .second, iv s9, iv s18, iv s29, iv s43, iv s57, iv s71, iv s85, iv s94, iv s106, iv s118, iv s130, iv s142, rv bS, rv r_13, rv bE, iv v373l21, uu] [])) (fun t k => XS.ifYes X35.here hx rfl (pc0 := 401) (pc' := 413) rfl (hb hby at_401) rfl ((if0 _ _).trans (teq hc401).1) (by decide) (by decide) k) ?_
                          exact own_done ⟨_, _, _, _, N35, (Or.inl ⟨hc401, rfl⟩), (Keep.refl h32 [bE]), (own_VN (j := 5) (own_bit0.mp hc401) jf32_0), (own_kN (j := 5) (own_bit0.mp hc401) jf32_1), rfl, X35, eq35⟩
                        · refine ov (B := T35.setTop (mkF m 404 #[iv i0, iv i1, .val (.long i2), .second, .val (.long i3), .second, iv s9, iv s18, iv s29, iv s43, iv s57, iv s71, iv s85, iv s94, iv s106, iv s118, iv s130, iv s142, rv bS, rv r_13, rv bE, iv v373l21, uu] [])) (fun t k => XS.ifNo X35.here hx rfl (hb hby at_401) rfl ((if0 _ _).trans (feq hc401).1) k) ?_
                          refine oAL (n := 406) X35 hx (hb hby at_404) rfl rfl rfl ?_
                          refine oIL (n := 408) X35 hx (hb hby at_406) rfl rfl ?_
                          refine oIC (n := 409) X35 hx (5 : Int32) (hb hby at_408) (by decide) rfl ?_
                          obtain ⟨cl37, Ar37, q37, S37, M37, H37, G37⟩ := (show Arv Z h32 bE kc14 .int (6 : Int32) ((own_E s18 s29 s43 s57 s71 s85 5).map Value.int) (.int (0 : Int32)) from jf32_0).pad (pad_rep _ (.int (0 : Int32)) 1)
                          obtain ⟨T38, h38, X38, e38, W38, st38⟩ := stI X35 hx hZ eq35 Ar37 (j := v373l21) (inb_of S37 (own_k6 (l := (own_E s18 s29 s43 s57 s71 s85 5).length) jf32_1 (Nat.lt_of_le_of_lt (own_El _ _ _ _ _ _ 5) (by decide)))) (g := (mkF m 409 #[iv i0, iv i1, .val (.long i2), .second, .val (.long i3), .second, iv s9, iv s18, iv s29, iv s43, iv s57, iv s71, iv s85, iv s94, iv s106, iv s118, iv s130, iv s142, rv bS, rv r_13, rv bE, iv v373l21, uu] [(.int (5 : Int32)), (.int v373l21), (.ref bE)])) rfl rfl (hb hby at_409)
                          have V38 := own_stepI (l := (own_E s18 s29 s43 s57 s71 s85 5)) Ar37 q37 S37 M37 H37 G37 W38 jf32_1 (Nat.le_trans (own_El _ _ _ _ _ _ 5) (by decide))
                          have N38 := Fr.snoc X38 N35 g_bE
                          refine ov (B := T38.setTop (mkF m 410 #[iv i0, iv i1, .val (.long i2), .second, .val (.long i3), .second, iv s9, iv s18, iv s29, iv s43, iv s57, iv s71, iv s85, iv s94, iv s106, iv s118, iv s130, iv s142, rv bS, rv r_13, rv bE, iv v373l21, uu] [])) (fun t k => st38 t k) ?_
                          refine ov (B := T38.setTop (mkF m 413 #[iv i0, iv i1, .val (.long i2), .second, .val (.long i3), .second, iv s9, iv s18, iv s29, iv s43, iv s57, iv s71, iv s85, iv s94, iv s106, iv s118, iv s130, iv s142, rv bS, rv r_13, rv bE, iv (v373l21 + (1 : Int32)), uu] [])) (fun t k => XS.iinc X38.here hx rfl (hb hby at_410) rfl (l' := #[iv i0, iv i1, .val (.long i2), .second, .val (.long i3), .second, iv s9, iv s18, iv s29, iv s43, iv s57, iv s71, iv s85, iv s94, iv s106, iv s118, iv s130, iv s142, rv bS, rv r_13, rv bE, iv (v373l21 + (1 : Int32)), uu]) rfl k) ?_
                          exact own_done ⟨_, _, _, _, N38, (Or.inr ⟨hc401, rfl⟩), ((Keep.refl h32 [bE]).wr W38 (Or.inl (List.mem_of_getElem? (i := 0) rfl))), (own_VP (j := 5) (Classical.not_not.mp (fun q => hc401 (own_bit0.mpr q))) V38), (own_kP (j := 5) (Classical.not_not.mp (fun q => hc401 (own_bit0.mpr q))) jf32_1), rfl, X38, e38⟩
                      · rintro B ⟨T36, L36, h36, v401l21, N36, hv401, K36, jf36_0, jf36_1, rfl, X36, e36⟩
                        have hEq : own_so (own_go s18 (4 : Int32) s85 s142 (own_go s18 (3 : Int32) s71 s130 (own_go s18 (2 : Int32) s57 s118 (own_go s18 (1 : Int32) s43 s106 (own_go s18 (0 : Int32) s29 s94 (own_S0 s9)))))).2.2 s9.toNatClampNeg = (own_E s18 s29 s43 s57 s71 s85 6) := own_fin hN hq_0 hq_1 hq_2 hq_3 hq_4
                        refine oAL (n := 415) X36 hx (hb hby at_413) rfl rfl rfl ?_
                        obtain ⟨cl39, Ar39, q39, S39, M39, H39, G39⟩ := id (((((((f13_0.ext E14).keep K16 (ninS (Nat.ne_of_lt (Nat.lt_of_lt_of_le f13_0.lt (Nat.le_of_eq g14.symm))) nin0)).keep K20 (ninS (Nat.ne_of_lt (Nat.lt_of_lt_of_le f13_0.lt (Nat.le_of_eq g14.symm))) nin0)).keep K24 (ninS (Nat.ne_of_lt (Nat.lt_of_lt_of_le f13_0.lt (Nat.le_of_eq g14.symm))) nin0)).keep K28 (ninS (Nat.ne_of_lt (Nat.lt_of_lt_of_le f13_0.lt (Nat.le_of_eq g14.symm))) nin0)).keep K32 (ninS (Nat.ne_of_lt (Nat.lt_of_lt_of_le f13_0.lt (Nat.le_of_eq g14.symm))) nin0)).keep K36 (ninS (Nat.ne_of_lt (Nat.lt_of_lt_of_le f13_0.lt (Nat.le_of_eq g14.symm))) nin0))
                        refine ov (B := T36.setTop (mkF m 416 #[iv i0, iv i1, .val (.long i2), .second, .val (.long i3), .second, iv s9, iv s18, iv s29, iv s43, iv s57, iv s71, iv s85, iv s94, iv s106, iv s118, iv s130, iv s142, rv bS, rv r_13, rv bE, iv v401l21, uu] [(.int (own_go s18 (4 : Int32) s85 s142 (own_go s18 (3 : Int32) s71 s130 (own_go s18 (2 : Int32) s57 s118 (own_go s18 (1 : Int32) s43 s106 (own_go s18 (0 : Int32) s29 s94 (own_S0 s9)))))).2.1)])) (fun t k => X36.arraylength hx (by rw [e36]; exact Ar39.1) (State.isArrayOf_alike hZ.alike Ar39.2.1) (g := (mkF m 415 #[iv i0, iv i1, .val (.long i2), .second, .val (.long i3), .second, iv s9, iv s18, iv s29, iv s43, iv s57, iv s71, iv s85, iv s94, iv s106, iv s118, iv s130, iv s142, rv bS, rv r_13, rv bE, iv v401l21, uu] [(.ref r_13)])) rfl rfl (hb hby at_415) _ (by rw [len_of S39 M39]; exact k)) ?_
                        refine oIL (n := 418) X36 hx (hb hby at_416) rfl rfl ?_
                        have hc418 : (own_go s18 (4 : Int32) s85 s142 (own_go s18 (3 : Int32) s71 s130 (own_go s18 (2 : Int32) s57 s118 (own_go s18 (1 : Int32) s43 s106 (own_go s18 (0 : Int32) s29 s94 (own_S0 s9)))))).2.1 = v401l21 := (own_nof hok_5 (by omega)).trans (by rw [hEq]; exact jf36_1.symm)
                        refine ov (B := T36.setTop (mkF m 423 #[iv i0, iv i1, .val (.long i2), .second, .val (.long i3), .second, iv s9, iv s18, iv s29, iv s43, iv s57, iv s71, iv s85, iv s94, iv s106, iv s118, iv s130, iv s142, rv bS, rv r_13, rv bE, iv v401l21, uu] [])) (fun t k => XS.icmpYes X36.here hx rfl (pc0 := 418) (pc' := 423) rfl (hb hby at_418) rfl (teq hc418).1 (by decide) (by decide) k) ?_
                        refine oIC (n := 424) X36 hx (1 : Int32) (hb hby at_423) (by decide) rfl ?_
                        refine ov (B := T36.setTop (mkF m 426 #[iv i0, iv i1, .val (.long i2), .second, .val (.long i3), .second, iv s9, iv s18, iv s29, iv s43, iv s57, iv s71, iv s85, iv s94, iv s106, iv s118, iv s130, iv s142, rv bS, rv r_13, rv bE, iv v401l21, iv (1 : Int32)] [])) (fun t k => XS.istore X36.here hx rfl (hb hby at_424) rfl (l' := #[iv i0, iv i1, .val (.long i2), .second, .val (.long i3), .second, iv s9, iv s18, iv s29, iv s43, iv s57, iv s71, iv s85, iv s94, iv s106, iv s118, iv s130, iv s142, rv bS, rv r_13, rv bE, iv v401l21, iv (1 : Int32)]) rfl k) ?_
                        refine oIL (n := 428) X36 hx (hb hby at_426) rfl rfl ?_
                        refine own_bind (G := fun B => ∃ (T' : State) (L' : List Loc), Fr n0 L' ∧ ((((0 : Int32) < v401l21) ∧ True) ∨ ((¬ ((0 : Int32) < v401l21)) ∧ True)) ∧ B = T'.setTop (mkF m 454 #[iv i0, iv i1, .val (.long i2), .second, .val (.long i3), .second, iv s9, iv s18, iv s29, iv s43, iv s57, iv s71, iv s85, iv s94, iv s106, iv s118, iv s130, iv s142, rv bS, rv r_13, rv bE, iv v401l21, iv (1 : Int32)] []) ∧ Stand p l e room_1 s m #[(.int i0), (.int i1), (.long i2), (.long i3)] below meth c T' L' ((((((((3 + 1) + 1) + 0) + 0) + 0) + 0) + 0) + 0) ((((((((26 + 6) + 6) + 0) + 0) + 0) + 0) + 0) + 0) ∧ T'.heap = h36) ?_ ?_
                        · by_cases hc428 : (0 : Int32) < v401l21
                          · refine ov (B := T36.setTop (mkF m 431 #[iv i0, iv i1, .val (.long i2), .second, .val (.long i3), .second, iv s9, iv s18, iv s29, iv s43, iv s57, iv s71, iv s85, iv s94, iv s106, iv s118, iv s130, iv s142, rv bS, rv r_13, rv bE, iv v401l21, iv (1 : Int32)] [])) (fun t k => XS.ifNo X36.here hx rfl (hb hby at_428) rfl ((if0 _ _).trans (tlt hc428).2.2.2) k) ?_
                            refine oIL (n := 433) X36 hx (hb hby at_431) rfl rfl ?_
                            have hc433 : ¬ ((1 : Int32) = (0 : Int32)) := by decide
                            refine ov (B := T36.setTop (mkF m 436 #[iv i0, iv i1, .val (.long i2), .second, .val (.long i3), .second, iv s9, iv s18, iv s29, iv s43, iv s57, iv s71, iv s85, iv s94, iv s106, iv s118, iv s130, iv s142, rv bS, rv r_13, rv bE, iv v401l21, iv (1 : Int32)] [])) (fun t k => XS.ifNo X36.here hx rfl (hb hby at_433) rfl ((if0 _ _).trans (feq hc433).1) k) ?_
                            refine oAL (n := 438) X36 hx (hb hby at_436) rfl rfl rfl ?_
                            refine oIC (n := 439) X36 hx (0 : Int32) (hb hby at_438) (by decide) rfl ?_
                            obtain ⟨cl41, Ar41, q41, S41, M41, H41, G41⟩ := id (((((((f13_0.ext E14).keep K16 (ninS (Nat.ne_of_lt (Nat.lt_of_lt_of_le f13_0.lt (Nat.le_of_eq g14.symm))) nin0)).keep K20 (ninS (Nat.ne_of_lt (Nat.lt_of_lt_of_le f13_0.lt (Nat.le_of_eq g14.symm))) nin0)).keep K24 (ninS (Nat.ne_of_lt (Nat.lt_of_lt_of_le f13_0.lt (Nat.le_of_eq g14.symm))) nin0)).keep K28 (ninS (Nat.ne_of_lt (Nat.lt_of_lt_of_le f13_0.lt (Nat.le_of_eq g14.symm))) nin0)).keep K32 (ninS (Nat.ne_of_lt (Nat.lt_of_lt_of_le f13_0.lt (Nat.le_of_eq g14.symm))) nin0)).keep K36 (ninS (Nat.ne_of_lt (Nat.lt_of_lt_of_le f13_0.lt (Nat.le_of_eq g14.symm))) nin0))
                            have hin41 : ¬ ((0 : Int32) < 0 ∨ cl41.slots.size ≤ ((0 : Int32)).toNatClampNeg) := inb_of S41 ⟨by decide, by rw [hc418]; exact hc428⟩
                            refine ov (B := T36.setTop (mkF m 440 #[iv i0, iv i1, .val (.long i2), .second, .val (.long i3), .second, iv s9, iv s18, iv s29, iv s43, iv s57, iv s71, iv s85, iv s94, iv s106, iv s118, iv s130, iv s142, rv bS, rv r_13, rv bE, iv v401l21, iv (1 : Int32)] [(.int ((own_so (own_go s18 (4 : Int32) s85 s142 (own_go s18 (3 : Int32) s71 s130 (own_go s18 (2 : Int32) s57 s118 (own_go s18 (1 : Int32) s43 s106 (own_go s18 (0 : Int32) s29 s94 (own_S0 s9)))))).2.2 s9.toNatClampNeg).getD 0 0))])) (fun t k => X36.iaload hx (j := (0 : Int32)) (v := (.int ((own_so (own_go s18 (4 : Int32) s85 s142 (own_go s18 (3 : Int32) s71 s130 (own_go s18 (2 : Int32) s57 s118 (own_go s18 (1 : Int32) s43 s106 (own_go s18 (0 : Int32) s29 s94 (own_S0 s9)))))).2.2 s9.toNatClampNeg).getD 0 0))) (by rw [e36]; exact Ar41.1) (State.isArrayOf_alike hZ.alike Ar41.2.1) Ar41.2.2 hin41 (Has.at H41 hin41 (own_mgI _ _)) (g := (mkF m 439 #[iv i0, iv i1, .val (.long i2), .second, .val (.long i3), .second, iv s9, iv s18, iv s29, iv s43, iv s57, iv s71, iv s85, iv s94, iv s106, iv s118, iv s130, iv s142, rv bS, rv r_13, rv bE, iv v401l21, iv (1 : Int32)] [(.int (0 : Int32)), (.ref r_13)])) rfl rfl (hb hby at_439) _ k) ?_
                            refine oAL (n := 442) X36 hx (hb hby at_440) rfl rfl rfl ?_
                            refine oIC (n := 443) X36 hx (0 : Int32) (hb hby at_442) (by decide) rfl ?_
                            obtain ⟨cl42, Ar42, q42, S42, M42, H42, G42⟩ := id jf36_0
                            have hin42 : ¬ ((0 : Int32) < 0 ∨ cl42.slots.size ≤ ((0 : Int32)).toNatClampNeg) := inb_of S42 ⟨by decide, by decide⟩
                            refine ov (B := T36.setTop (mkF m 444 #[iv i0, iv i1, .val (.long i2), .second, .val (.long i3), .second, iv s9, iv s18, iv s29, iv s43, iv s57, iv s71, iv s85, iv s94, iv s106, iv s118, iv s130, iv s142, rv bS, rv r_13, rv bE, iv v401l21, iv (1 : Int32)] [(.int ((own_E s18 s29 s43 s57 s71 s85 6).getD 0 0)), (.int ((own_so (own_go s18 (4 : Int32) s85 s142 (own_go s18 (3 : Int32) s71 s130 (own_go s18 (2 : Int32) s57 s118 (own_go s18 (1 : Int32) s43 s106 (own_go s18 (0 : Int32) s29 s94 (own_S0 s9)))))).2.2 s9.toNatClampNeg).getD 0 0))])) (fun t k => X36.iaload hx (j := (0 : Int32)) (v := (.int ((own_E s18 s29 s43 s57 s71 s85 6).getD 0 0))) (by rw [e36]; exact Ar42.1) (State.isArrayOf_alike hZ.alike Ar42.2.1) Ar42.2.2 hin42 (Has.at H42 hin42 (own_mgI _ _)) (g := (mkF m 443 #[iv i0, iv i1, .val (.long i2), .second, .val (.long i3), .second, iv s9, iv s18, iv s29, iv s43, iv s57, iv s71, iv s85, iv s94, iv s106, iv s118, iv s130, iv s142, rv bS, rv r_13, rv bE, iv v401l21, iv (1 : Int32)] [(.int (0 : Int32)), (.ref bE), (.int ((own_so (own_go s18 (4 : Int32) s85 s142 (own_go s18 (3 : Int32) s71 s130 (own_go s18 (2 : Int32) s57 s118 (own_go s18 (1 : Int32) s43 s106 (own_go s18 (0 : Int32) s29 s94 (own_S0 s9)))))).2.2 s9.toNatClampNeg).getD 0 0))])) rfl rfl (hb hby at_443) _ k) ?_
                            have hc444 : ((own_so (own_go s18 (4 : Int32) s85 s142 (own_go s18 (3 : Int32) s71 s130 (own_go s18 (2 : Int32) s57 s118 (own_go s18 (1 : Int32) s43 s106 (own_go s18 (0 : Int32) s29 s94 (own_S0 s9)))))).2.2 s9.toNatClampNeg).getD 0 0) = ((own_E s18 s29 s43 s57 s71 s85 6).getD 0 0) := by rw [hEq]
                            refine ov (B := T36.setTop (mkF m 447 #[iv i0, iv i1, .val (.long i2), .second, .val (.long i3), .second, iv s9, iv s18, iv s29, iv s43, iv s57, iv s71, iv s85, iv s94, iv s106, iv s118, iv s130, iv s142, rv bS, rv r_13, rv bE, iv v401l21, iv (1 : Int32)] [])) (fun t k => XS.icmpNo X36.here hx rfl (hb hby at_444) rfl (teq hc444).2 k) ?_
                            refine oIC (n := 448) X36 hx (1 : Int32) (hb hby at_447) (by decide) rfl ?_
                            refine oGO (n := 452) X36 hx (hb hby at_448) (by decide) (by decide) ?_
                            refine ov (B := T36.setTop (mkF m 454 #[iv i0, iv i1, .val (.long i2), .second, .val (.long i3), .second, iv s9, iv s18, iv s29, iv s43, iv s57, iv s71, iv s85, iv s94, iv s106, iv s118, iv s130, iv s142, rv bS, rv r_13, rv bE, iv v401l21, iv (1 : Int32)] [])) (fun t k => XS.istore X36.here hx rfl (hb hby at_452) rfl (l' := #[iv i0, iv i1, .val (.long i2), .second, .val (.long i3), .second, iv s9, iv s18, iv s29, iv s43, iv s57, iv s71, iv s85, iv s94, iv s106, iv s118, iv s130, iv s142, rv bS, rv r_13, rv bE, iv v401l21, iv (1 : Int32)]) rfl k) ?_
                            exact own_done ⟨_, _, N36, (Or.inl ⟨hc428, trivial⟩), rfl, X36, e36⟩
                          · refine ov (B := T36.setTop (mkF m 454 #[iv i0, iv i1, .val (.long i2), .second, .val (.long i3), .second, iv s9, iv s18, iv s29, iv s43, iv s57, iv s71, iv s85, iv s94, iv s106, iv s118, iv s130, iv s142, rv bS, rv r_13, rv bE, iv v401l21, iv (1 : Int32)] [])) (fun t k => XS.ifYes X36.here hx rfl (pc0 := 428) (pc' := 454) rfl (hb hby at_428) rfl ((if0 _ _).trans (flt hc428).2.2.2) (by decide) (by decide) k) ?_
                            exact own_done ⟨_, _, N36, (Or.inr ⟨hc428, trivial⟩), rfl, X36, e36⟩
                        · rintro B ⟨T40, L40, N40, hv428, rfl, X40, e40⟩
                          refine oIL (n := 456) X40 hx (hb hby at_454) rfl rfl ?_
                          refine oIC (n := 457) X40 hx (1 : Int32) (hb hby at_456) (by decide) rfl ?_
                          refine own_bind (G := fun B => ∃ (T' : State) (L' : List Loc), Fr n0 L' ∧ ((((1 : Int32) < v401l21) ∧ True) ∨ ((¬ ((1 : Int32) < v401l21)) ∧ True)) ∧ B = T'.setTop (mkF m 483 #[iv i0, iv i1, .val (.long i2), .second, .val (.long i3), .second, iv s9, iv s18, iv s29, iv s43, iv s57, iv s71, iv s85, iv s94, iv s106, iv s118, iv s130, iv s142, rv bS, rv r_13, rv bE, iv v401l21, iv (1 : Int32)] []) ∧ Stand p l e room_1 s m #[(.int i0), (.int i1), (.long i2), (.long i3)] below meth c T' L' ((((((((3 + 1) + 1) + 0) + 0) + 0) + 0) + 0) + 0) ((((((((26 + 6) + 6) + 0) + 0) + 0) + 0) + 0) + 0) ∧ T'.heap = h36) ?_ ?_
                          · by_cases hc457 : (1 : Int32) < v401l21
                            · refine ov (B := T40.setTop (mkF m 460 #[iv i0, iv i1, .val (.long i2), .second, .val (.long i3), .second, iv s9, iv s18, iv s29, iv s43, iv s57, iv s71, iv s85, iv s94, iv s106, iv s118, iv s130, iv s142, rv bS, rv r_13, rv bE, iv v401l21, iv (1 : Int32)] [])) (fun t k => XS.icmpNo X40.here hx rfl (hb hby at_457) rfl (tlt hc457).2.2.2 k) ?_
                              refine oIL (n := 462) X40 hx (hb hby at_460) rfl rfl ?_
                              have hc462 : ¬ ((1 : Int32) = (0 : Int32)) := by decide
                              refine ov (B := T40.setTop (mkF m 465 #[iv i0, iv i1, .val (.long i2), .second, .val (.long i3), .second, iv s9, iv s18, iv s29, iv s43, iv s57, iv s71, iv s85, iv s94, iv s106, iv s118, iv s130, iv s142, rv bS, rv r_13, rv bE, iv v401l21, iv (1 : Int32)] [])) (fun t k => XS.ifNo X40.here hx rfl (hb hby at_462) rfl ((if0 _ _).trans (feq hc462).1) k) ?_
                              refine oAL (n := 467) X40 hx (hb hby at_465) rfl rfl rfl ?_
                              refine oIC (n := 468) X40 hx (1 : Int32) (hb hby at_467) (by decide) rfl ?_
                              obtain ⟨cl44, Ar44, q44, S44, M44, H44, G44⟩ := id (((((((f13_0.ext E14).keep K16 (ninS (Nat.ne_of_lt (Nat.lt_of_lt_of_le f13_0.lt (Nat.le_of_eq g14.symm))) nin0)).keep K20 (ninS (Nat.ne_of_lt (Nat.lt_of_lt_of_le f13_0.lt (Nat.le_of_eq g14.symm))) nin0)).keep K24 (ninS (Nat.ne_of_lt (Nat.lt_of_lt_of_le f13_0.lt (Nat.le_of_eq g14.symm))) nin0)).keep K28 (ninS (Nat.ne_of_lt (Nat.lt_of_lt_of_le f13_0.lt (Nat.le_of_eq g14.symm))) nin0)).keep K32 (ninS (Nat.ne_of_lt (Nat.lt_of_lt_of_le f13_0.lt (Nat.le_of_eq g14.symm))) nin0)).keep K36 (ninS (Nat.ne_of_lt (Nat.lt_of_lt_of_le f13_0.lt (Nat.le_of_eq g14.symm))) nin0))
                              have hin44 : ¬ ((1 : Int32) < 0 ∨ cl44.slots.size ≤ ((1 : Int32)).toNatClampNeg) := inb_of S44 ⟨by decide, by rw [hc418]; exact hc457⟩
                              refine ov (B := T40.setTop (mkF m 469 #[iv i0, iv i1, .val (.long i2), .second, .val (.long i3), .second, iv s9, iv s18, iv s29, iv s43, iv s57, iv s71, iv s85, iv s94, iv s106, iv s118, iv s130, iv s142, rv bS, rv r_13, rv bE, iv v401l21, iv (1 : Int32)] [(.int ((own_so (own_go s18 (4 : Int32) s85 s142 (own_go s18 (3 : Int32) s71 s130 (own_go s18 (2 : Int32) s57 s118 (own_go s18 (1 : Int32) s43 s106 (own_go s18 (0 : Int32) s29 s94 (own_S0 s9)))))).2.2 s9.toNatClampNeg).getD 1 0))])) (fun t k => X40.iaload hx (j := (1 : Int32)) (v := (.int ((own_so (own_go s18 (4 : Int32) s85 s142 (own_go s18 (3 : Int32) s71 s130 (own_go s18 (2 : Int32) s57 s118 (own_go s18 (1 : Int32) s43 s106 (own_go s18 (0 : Int32) s29 s94 (own_S0 s9)))))).2.2 s9.toNatClampNeg).getD 1 0))) (by rw [e40]; exact Ar44.1) (State.isArrayOf_alike hZ.alike Ar44.2.1) Ar44.2.2 hin44 (Has.at H44 hin44 (own_mgI _ _)) (g := (mkF m 468 #[iv i0, iv i1, .val (.long i2), .second, .val (.long i3), .second, iv s9, iv s18, iv s29, iv s43, iv s57, iv s71, iv s85, iv s94, iv s106, iv s118, iv s130, iv s142, rv bS, rv r_13, rv bE, iv v401l21, iv (1 : Int32)] [(.int (1 : Int32)), (.ref r_13)])) rfl rfl (hb hby at_468) _ k) ?_
                              refine oAL (n := 471) X40 hx (hb hby at_469) rfl rfl rfl ?_
                              refine oIC (n := 472) X40 hx (1 : Int32) (hb hby at_471) (by decide) rfl ?_
                              obtain ⟨cl45, Ar45, q45, S45, M45, H45, G45⟩ := id jf36_0
                              have hin45 : ¬ ((1 : Int32) < 0 ∨ cl45.slots.size ≤ ((1 : Int32)).toNatClampNeg) := inb_of S45 ⟨by decide, by decide⟩
                              refine ov (B := T40.setTop (mkF m 473 #[iv i0, iv i1, .val (.long i2), .second, .val (.long i3), .second, iv s9, iv s18, iv s29, iv s43, iv s57, iv s71, iv s85, iv s94, iv s106, iv s118, iv s130, iv s142, rv bS, rv r_13, rv bE, iv v401l21, iv (1 : Int32)] [(.int ((own_E s18 s29 s43 s57 s71 s85 6).getD 1 0)), (.int ((own_so (own_go s18 (4 : Int32) s85 s142 (own_go s18 (3 : Int32) s71 s130 (own_go s18 (2 : Int32) s57 s118 (own_go s18 (1 : Int32) s43 s106 (own_go s18 (0 : Int32) s29 s94 (own_S0 s9)))))).2.2 s9.toNatClampNeg).getD 1 0))])) (fun t k => X40.iaload hx (j := (1 : Int32)) (v := (.int ((own_E s18 s29 s43 s57 s71 s85 6).getD 1 0))) (by rw [e40]; exact Ar45.1) (State.isArrayOf_alike hZ.alike Ar45.2.1) Ar45.2.2 hin45 (Has.at H45 hin45 (own_mgI _ _)) (g := (mkF m 472 #[iv i0, iv i1, .val (.long i2), .second, .val (.long i3), .second, iv s9, iv s18, iv s29, iv s43, iv s57, iv s71, iv s85, iv s94, iv s106, iv s118, iv s130, iv s142, rv bS, rv r_13, rv bE, iv v401l21, iv (1 : Int32)] [(.int (1 : Int32)), (.ref bE), (.int ((own_so (own_go s18 (4 : Int32) s85 s142 (own_go s18 (3 : Int32) s71 s130 (own_go s18 (2 : Int32) s57 s118 (own_go s18 (1 : Int32) s43 s106 (own_go s18 (0 : Int32) s29 s94 (own_S0 s9)))))).2.2 s9.toNatClampNeg).getD 1 0))])) rfl rfl (hb hby at_472) _ k) ?_
                              have hc473 : ((own_so (own_go s18 (4 : Int32) s85 s142 (own_go s18 (3 : Int32) s71 s130 (own_go s18 (2 : Int32) s57 s118 (own_go s18 (1 : Int32) s43 s106 (own_go s18 (0 : Int32) s29 s94 (own_S0 s9)))))).2.2 s9.toNatClampNeg).getD 1 0) = ((own_E s18 s29 s43 s57 s71 s85 6).getD 1 0) := by rw [hEq]
                              refine ov (B := T40.setTop (mkF m 476 #[iv i0, iv i1, .val (.long i2), .second, .val (.long i3), .second, iv s9, iv s18, iv s29, iv s43, iv s57, iv s71, iv s85, iv s94, iv s106, iv s118, iv s130, iv s142, rv bS, rv r_13, rv bE, iv v401l21, iv (1 : Int32)] [])) (fun t k => XS.icmpNo X40.here hx rfl (hb hby at_473) rfl (teq hc473).2 k) ?_
                              refine oIC (n := 477) X40 hx (1 : Int32) (hb hby at_476) (by decide) rfl ?_
                              refine oGO (n := 481) X40 hx (hb hby at_477) (by decide) (by decide) ?_
                              refine ov (B := T40.setTop (mkF m 483 #[iv i0, iv i1, .val (.long i2), .second, .val (.long i3), .second, iv s9, iv s18, iv s29, iv s43, iv s57, iv s71, iv s85, iv s94, iv s106, iv s118, iv s130, iv s142, rv bS, rv r_13, rv bE, iv v401l21, iv (1 : Int32)] [])) (fun t k => XS.istore X40.here hx rfl (hb hby at_481) rfl (l' := #[iv i0, iv i1, .val (.long i2), .second, .val (.long i3), .second, iv s9, iv s18, iv s29, iv s43, iv s57, iv s71, iv s85, iv s94, iv s106, iv s118, iv s130, iv s142, rv bS, rv r_13, rv bE, iv v401l21, iv (1 : Int32)]) rfl k) ?_
                              exact own_done ⟨_, _, N40, (Or.inl ⟨hc457, trivial⟩), rfl, X40, e40⟩
                            · refine ov (B := T40.setTop (mkF m 483 #[iv i0, iv i1, .val (.long i2), .second, .val (.long i3), .second, iv s9, iv s18, iv s29, iv s43, iv s57, iv s71, iv s85, iv s94, iv s106, iv s118, iv s130, iv s142, rv bS, rv r_13, rv bE, iv v401l21, iv (1 : Int32)] [])) (fun t k => XS.icmpYes X40.here hx rfl (pc0 := 457) (pc' := 483) rfl (hb hby at_457) rfl (flt hc457).2.2.2 (by decide) (by decide) k) ?_
                              exact own_done ⟨_, _, N40, (Or.inr ⟨hc457, trivial⟩), rfl, X40, e40⟩
                          · rintro B ⟨T43, L43, N43, hv457, rfl, X43, e43⟩
                            refine oIL (n := 485) X43 hx (hb hby at_483) rfl rfl ?_
                            refine oIC (n := 486) X43 hx (2 : Int32) (hb hby at_485) (by decide) rfl ?_
                            refine own_bind (G := fun B => ∃ (T' : State) (L' : List Loc), Fr n0 L' ∧ ((((2 : Int32) < v401l21) ∧ True) ∨ ((¬ ((2 : Int32) < v401l21)) ∧ True)) ∧ B = T'.setTop (mkF m 512 #[iv i0, iv i1, .val (.long i2), .second, .val (.long i3), .second, iv s9, iv s18, iv s29, iv s43, iv s57, iv s71, iv s85, iv s94, iv s106, iv s118, iv s130, iv s142, rv bS, rv r_13, rv bE, iv v401l21, iv (1 : Int32)] []) ∧ Stand p l e room_1 s m #[(.int i0), (.int i1), (.long i2), (.long i3)] below meth c T' L' ((((((((3 + 1) + 1) + 0) + 0) + 0) + 0) + 0) + 0) ((((((((26 + 6) + 6) + 0) + 0) + 0) + 0) + 0) + 0) ∧ T'.heap = h36) ?_ ?_
                            · by_cases hc486 : (2 : Int32) < v401l21
                              · refine ov (B := T43.setTop (mkF m 489 #[iv i0, iv i1, .val (.long i2), .second, .val (.long i3), .second, iv s9, iv s18, iv s29, iv s43, iv s57, iv s71, iv s85, iv s94, iv s106, iv s118, iv s130, iv s142, rv bS, rv r_13, rv bE, iv v401l21, iv (1 : Int32)] [])) (fun t k => XS.icmpNo X43.here hx rfl (hb hby at_486) rfl (tlt hc486).2.2.2 k) ?_
                                refine oIL (n := 491) X43 hx (hb hby at_489) rfl rfl ?_
                                have hc491 : ¬ ((1 : Int32) = (0 : Int32)) := by decide
                                refine ov (B := T43.setTop (mkF m 494 #[iv i0, iv i1, .val (.long i2), .second, .val (.long i3), .second, iv s9, iv s18, iv s29, iv s43, iv s57, iv s71, iv s85, iv s94, iv s106, iv s118, iv s130, iv s142, rv bS, rv r_13, rv bE, iv v401l21, iv (1 : Int32)] [])) (fun t k => XS.ifNo X43.here hx rfl (hb hby at_491) rfl ((if0 _ _).trans (feq hc491).1) k) ?_
                                refine oAL (n := 496) X43 hx (hb hby at_494) rfl rfl rfl ?_
                                refine oIC (n := 497) X43 hx (2 : Int32) (hb hby at_496) (by decide) rfl ?_
                                obtain ⟨cl47, Ar47, q47, S47, M47, H47, G47⟩ := id (((((((f13_0.ext E14).keep K16 (ninS (Nat.ne_of_lt (Nat.lt_of_lt_of_le f13_0.lt (Nat.le_of_eq g14.symm))) nin0)).keep K20 (ninS (Nat.ne_of_lt (Nat.lt_of_lt_of_le f13_0.lt (Nat.le_of_eq g14.symm))) nin0)).keep K24 (ninS (Nat.ne_of_lt (Nat.lt_of_lt_of_le f13_0.lt (Nat.le_of_eq g14.symm))) nin0)).keep K28 (ninS (Nat.ne_of_lt (Nat.lt_of_lt_of_le f13_0.lt (Nat.le_of_eq g14.symm))) nin0)).keep K32 (ninS (Nat.ne_of_lt (Nat.lt_of_lt_of_le f13_0.lt (Nat.le_of_eq g14.symm))) nin0)).keep K36 (ninS (Nat.ne_of_lt (Nat.lt_of_lt_of_le f13_0.lt (Nat.le_of_eq g14.symm))) nin0))
                                have hin47 : ¬ ((2 : Int32) < 0 ∨ cl47.slots.size ≤ ((2 : Int32)).toNatClampNeg) := inb_of S47 ⟨by decide, by rw [hc418]; exact hc486⟩
                                refine ov (B := T43.setTop (mkF m 498 #[iv i0, iv i1, .val (.long i2), .second, .val (.long i3), .second, iv s9, iv s18, iv s29, iv s43, iv s57, iv s71, iv s85, iv s94, iv s106, iv s118, iv s130, iv s142, rv bS, rv r_13, rv bE, iv v401l21, iv (1 : Int32)] [(.int ((own_so (own_go s18 (4 : Int32) s85 s142 (own_go s18 (3 : Int32) s71 s130 (own_go s18 (2 : Int32) s57 s118 (own_go s18 (1 : Int32) s43 s106 (own_go s18 (0 : Int32) s29 s94 (own_S0 s9)))))).2.2 s9.toNatClampNeg).getD 2 0))])) (fun t k => X43.iaload hx (j := (2 : Int32)) (v := (.int ((own_so (own_go s18 (4 : Int32) s85 s142 (own_go s18 (3 : Int32) s71 s130 (own_go s18 (2 : Int32) s57 s118 (own_go s18 (1 : Int32) s43 s106 (own_go s18 (0 : Int32) s29 s94 (own_S0 s9)))))).2.2 s9.toNatClampNeg).getD 2 0))) (by rw [e43]; exact Ar47.1) (State.isArrayOf_alike hZ.alike Ar47.2.1) Ar47.2.2 hin47 (Has.at H47 hin47 (own_mgI _ _)) (g := (mkF m 497 #[iv i0, iv i1, .val (.long i2), .second, .val (.long i3), .second, iv s9, iv s18, iv s29, iv s43, iv s57, iv s71, iv s85, iv s94, iv s106, iv s118, iv s130, iv s142, rv bS, rv r_13, rv bE, iv v401l21, iv (1 : Int32)] [(.int (2 : Int32)), (.ref r_13)])) rfl rfl (hb hby at_497) _ k) ?_
                                refine oAL (n := 500) X43 hx (hb hby at_498) rfl rfl rfl ?_
                                refine oIC (n := 501) X43 hx (2 : Int32) (hb hby at_500) (by decide) rfl ?_
                                obtain ⟨cl48, Ar48, q48, S48, M48, H48, G48⟩ := id jf36_0
                                have hin48 : ¬ ((2 : Int32) < 0 ∨ cl48.slots.size ≤ ((2 : Int32)).toNatClampNeg) := inb_of S48 ⟨by decide, by decide⟩
                                refine ov (B := T43.setTop (mkF m 502 #[iv i0, iv i1, .val (.long i2), .second, .val (.long i3), .second, iv s9, iv s18, iv s29, iv s43, iv s57, iv s71, iv s85, iv s94, iv s106, iv s118, iv s130, iv s142, rv bS, rv r_13, rv bE, iv v401l21, iv (1 : Int32)] [(.int ((own_E s18 s29 s43 s57 s71 s85 6).getD 2 0)), (.int ((own_so (own_go s18 (4 : Int32) s85 s142 (own_go s18 (3 : Int32) s71 s130 (own_go s18 (2 : Int32) s57 s118 (own_go s18 (1 : Int32) s43 s106 (own_go s18 (0 : Int32) s29 s94 (own_S0 s9)))))).2.2 s9.toNatClampNeg).getD 2 0))])) (fun t k => X43.iaload hx (j := (2 : Int32)) (v := (.int ((own_E s18 s29 s43 s57 s71 s85 6).getD 2 0))) (by rw [e43]; exact Ar48.1) (State.isArrayOf_alike hZ.alike Ar48.2.1) Ar48.2.2 hin48 (Has.at H48 hin48 (own_mgI _ _)) (g := (mkF m 501 #[iv i0, iv i1, .val (.long i2), .second, .val (.long i3), .second, iv s9, iv s18, iv s29, iv s43, iv s57, iv s71, iv s85, iv s94, iv s106, iv s118, iv s130, iv s142, rv bS, rv r_13, rv bE, iv v401l21, iv (1 : Int32)] [(.int (2 : Int32)), (.ref bE), (.int ((own_so (own_go s18 (4 : Int32) s85 s142 (own_go s18 (3 : Int32) s71 s130 (own_go s18 (2 : Int32) s57 s118 (own_go s18 (1 : Int32) s43 s106 (own_go s18 (0 : Int32) s29 s94 (own_S0 s9)))))).2.2 s9.toNatClampNeg).getD 2 0))])) rfl rfl (hb hby at_501) _ k) ?_
                                have hc502 : ((own_so (own_go s18 (4 : Int32) s85 s142 (own_go s18 (3 : Int32) s71 s130 (own_go s18 (2 : Int32) s57 s118 (own_go s18 (1 : Int32) s43 s106 (own_go s18 (0 : Int32) s29 s94 (own_S0 s9)))))).2.2 s9.toNatClampNeg).getD 2 0) = ((own_E s18 s29 s43 s57 s71 s85 6).getD 2 0) := by rw [hEq]
                                refine ov (B := T43.setTop (mkF m 505 #[iv i0, iv i1, .val (.long i2), .second, .val (.long i3), .second, iv s9, iv s18, iv s29, iv s43, iv s57, iv s71, iv s85, iv s94, iv s106, iv s118, iv s130, iv s142, rv bS, rv r_13, rv bE, iv v401l21, iv (1 : Int32)] [])) (fun t k => XS.icmpNo X43.here hx rfl (hb hby at_502) rfl (teq hc502).2 k) ?_
                                refine oIC (n := 506) X43 hx (1 : Int32) (hb hby at_505) (by decide) rfl ?_
                                refine oGO (n := 510) X43 hx (hb hby at_506) (by decide) (by decide) ?_
                                refine ov (B := T43.setTop (mkF m 512 #[iv i0, iv i1, .val (.long i2), .second, .val (.long i3), .second, iv s9, iv s18, iv s29, iv s43, iv s57, iv s71, iv s85, iv s94, iv s106, iv s118, iv s130, iv s142, rv bS, rv r_13, rv bE, iv v401l21, iv (1 : Int32)] [])) (fun t k => XS.istore X43.here hx rfl (hb hby at_510) rfl (l' := #[iv i0, iv i1, .val (.long i2), .second, .val (.long i3), .second, iv s9, iv s18, iv s29, iv s43, iv s57, iv s71, iv s85, iv s94, iv s106, iv s118, iv s130, iv s142, rv bS, rv r_13, rv bE, iv v401l21, iv (1 : Int32)]) rfl k) ?_
                                exact own_done ⟨_, _, N43, (Or.inl ⟨hc486, trivial⟩), rfl, X43, e43⟩
                              · refine ov (B := T43.setTop (mkF m 512 #[iv i0, iv i1, .val (.long i2), .second, .val (.long i3), .second, iv s9, iv s18, iv s29, iv s43, iv s57, iv s71, iv s85, iv s94, iv s106, iv s118, iv s130, iv s142, rv bS, rv r_13, rv bE, iv v401l21, iv (1 : Int32)] [])) (fun t k => XS.icmpYes X43.here hx rfl (pc0 := 486) (pc' := 512) rfl (hb hby at_486) rfl (flt hc486).2.2.2 (by decide) (by decide) k) ?_
                                exact own_done ⟨_, _, N43, (Or.inr ⟨hc486, trivial⟩), rfl, X43, e43⟩
                            · rintro B ⟨T46, L46, N46, hv486, rfl, X46, e46⟩
                              refine oIL (n := 514) X46 hx (hb hby at_512) rfl rfl ?_
                              refine oIC (n := 515) X46 hx (3 : Int32) (hb hby at_514) (by decide) rfl ?_
                              refine own_bind (G := fun B => ∃ (T' : State) (L' : List Loc), Fr n0 L' ∧ ((((3 : Int32) < v401l21) ∧ True) ∨ ((¬ ((3 : Int32) < v401l21)) ∧ True)) ∧ B = T'.setTop (mkF m 541 #[iv i0, iv i1, .val (.long i2), .second, .val (.long i3), .second, iv s9, iv s18, iv s29, iv s43, iv s57, iv s71, iv s85, iv s94, iv s106, iv s118, iv s130, iv s142, rv bS, rv r_13, rv bE, iv v401l21, iv (1 : Int32)] []) ∧ Stand p l e room_1 s m #[(.int i0), (.int i1), (.long i2), (.long i3)] below meth c T' L' ((((((((3 + 1) + 1) + 0) + 0) + 0) + 0) + 0) + 0) ((((((((26 + 6) + 6) + 0) + 0) + 0) + 0) + 0) + 0) ∧ T'.heap = h36) ?_ ?_
                              · by_cases hc515 : (3 : Int32) < v401l21
                                · refine ov (B := T46.setTop (mkF m 518 #[iv i0, iv i1, .val (.long i2), .second, .val (.long i3), .second, iv s9, iv s18, iv s29, iv s43, iv s57, iv s71, iv s85, iv s94, iv s106, iv s118, iv s130, iv s142, rv bS, rv r_13, rv bE, iv v401l21, iv (1 : Int32)] [])) (fun t k => XS.icmpNo X46.here hx rfl (hb hby at_515) rfl (tlt hc515).2.2.2 k) ?_
                                  refine oIL (n := 520) X46 hx (hb hby at_518) rfl rfl ?_
                                  have hc520 : ¬ ((1 : Int32) = (0 : Int32)) := by decide
                                  refine ov (B := T46.setTop (mkF m 523 #[iv i0, iv i1, .val (.long i2), .second, .val (.long i3), .second, iv s9, iv s18, iv s29, iv s43, iv s57, iv s71, iv s85, iv s94, iv s106, iv s118, iv s130, iv s142, rv bS, rv r_13, rv bE, iv v401l21, iv (1 : Int32)] [])) (fun t k => XS.ifNo X46.here hx rfl (hb hby at_520) rfl ((if0 _ _).trans (feq hc520).1) k) ?_
                                  refine oAL (n := 525) X46 hx (hb hby at_523) rfl rfl rfl ?_
                                  refine oIC (n := 526) X46 hx (3 : Int32) (hb hby at_525) (by decide) rfl ?_
                                  obtain ⟨cl50, Ar50, q50, S50, M50, H50, G50⟩ := id (((((((f13_0.ext E14).keep K16 (ninS (Nat.ne_of_lt (Nat.lt_of_lt_of_le f13_0.lt (Nat.le_of_eq g14.symm))) nin0)).keep K20 (ninS (Nat.ne_of_lt (Nat.lt_of_lt_of_le f13_0.lt (Nat.le_of_eq g14.symm))) nin0)).keep K24 (ninS (Nat.ne_of_lt (Nat.lt_of_lt_of_le f13_0.lt (Nat.le_of_eq g14.symm))) nin0)).keep K28 (ninS (Nat.ne_of_lt (Nat.lt_of_lt_of_le f13_0.lt (Nat.le_of_eq g14.symm))) nin0)).keep K32 (ninS (Nat.ne_of_lt (Nat.lt_of_lt_of_le f13_0.lt (Nat.le_of_eq g14.symm))) nin0)).keep K36 (ninS (Nat.ne_of_lt (Nat.lt_of_lt_of_le f13_0.lt (Nat.le_of_eq g14.symm))) nin0))
                                  have hin50 : ¬ ((3 : Int32) < 0 ∨ cl50.slots.size ≤ ((3 : Int32)).toNatClampNeg) := inb_of S50 ⟨by decide, by rw [hc418]; exact hc515⟩
                                  refine ov (B := T46.setTop (mkF m 527 #[iv i0, iv i1, .val (.long i2), .second, .val (.long i3), .second, iv s9, iv s18, iv s29, iv s43, iv s57, iv s71, iv s85, iv s94, iv s106, iv s118, iv s130, iv s142, rv bS, rv r_13, rv bE, iv v401l21, iv (1 : Int32)] [(.int ((own_so (own_go s18 (4 : Int32) s85 s142 (own_go s18 (3 : Int32) s71 s130 (own_go s18 (2 : Int32) s57 s118 (own_go s18 (1 : Int32) s43 s106 (own_go s18 (0 : Int32) s29 s94 (own_S0 s9)))))).2.2 s9.toNatClampNeg).getD 3 0))])) (fun t k => X46.iaload hx (j := (3 : Int32)) (v := (.int ((own_so (own_go s18 (4 : Int32) s85 s142 (own_go s18 (3 : Int32) s71 s130 (own_go s18 (2 : Int32) s57 s118 (own_go s18 (1 : Int32) s43 s106 (own_go s18 (0 : Int32) s29 s94 (own_S0 s9)))))).2.2 s9.toNatClampNeg).getD 3 0))) (by rw [e46]; exact Ar50.1) (State.isArrayOf_alike hZ.alike Ar50.2.1) Ar50.2.2 hin50 (Has.at H50 hin50 (own_mgI _ _)) (g := (mkF m 526 #[iv i0, iv i1, .val (.long i2), .second, .val (.long i3), .second, iv s9, iv s18, iv s29, iv s43, iv s57, iv s71, iv s85, iv s94, iv s106, iv s118, iv s130, iv s142, rv bS, rv r_13, rv bE, iv v401l21, iv (1 : Int32)] [(.int (3 : Int32)), (.ref r_13)])) rfl rfl (hb hby at_526) _ k) ?_
                                  refine oAL (n := 529) X46 hx (hb hby at_527) rfl rfl rfl ?_
                                  refine oIC (n := 530) X46 hx (3 : Int32) (hb hby at_529) (by decide) rfl ?_
                                  obtain ⟨cl51, Ar51, q51, S51, M51, H51, G51⟩ := id jf36_0
                                  have hin51 : ¬ ((3 : Int32) < 0 ∨ cl51.slots.size ≤ ((3 : Int32)).toNatClampNeg) := inb_of S51 ⟨by decide, by decide⟩
                                  refine ov (B := T46.setTop (mkF m 531 #[iv i0, iv i1, .val (.long i2), .second, .val (.long i3), .second, iv s9, iv s18, iv s29, iv s43, iv s57, iv s71, iv s85, iv s94, iv s106, iv s118, iv s130, iv s142, rv bS, rv r_13, rv bE, iv v401l21, iv (1 : Int32)] [(.int ((own_E s18 s29 s43 s57 s71 s85 6).getD 3 0)), (.int ((own_so (own_go s18 (4 : Int32) s85 s142 (own_go s18 (3 : Int32) s71 s130 (own_go s18 (2 : Int32) s57 s118 (own_go s18 (1 : Int32) s43 s106 (own_go s18 (0 : Int32) s29 s94 (own_S0 s9)))))).2.2 s9.toNatClampNeg).getD 3 0))])) (fun t k => X46.iaload hx (j := (3 : Int32)) (v := (.int ((own_E s18 s29 s43 s57 s71 s85 6).getD 3 0))) (by rw [e46]; exact Ar51.1) (State.isArrayOf_alike hZ.alike Ar51.2.1) Ar51.2.2 hin51 (Has.at H51 hin51 (own_mgI _ _)) (g := (mkF m 530 #[iv i0, iv i1, .val (.long i2), .second, .val (.long i3), .second, iv s9, iv s18, iv s29, iv s43, iv s57, iv s71, iv s85, iv s94, iv s106, iv s118, iv s130, iv s142, rv bS, rv r_13, rv bE, iv v401l21, iv (1 : Int32)] [(.int (3 : Int32)), (.ref bE), (.int ((own_so (own_go s18 (4 : Int32) s85 s142 (own_go s18 (3 : Int32) s71 s130 (own_go s18 (2 : Int32) s57 s118 (own_go s18 (1 : Int32) s43 s106 (own_go s18 (0 : Int32) s29 s94 (own_S0 s9)))))).2.2 s9.toNatClampNeg).getD 3 0))])) rfl rfl (hb hby at_530) _ k) ?_
                                  have hc531 : ((own_so (own_go s18 (4 : Int32) s85 s142 (own_go s18 (3 : Int32) s71 s130 (own_go s18 (2 : Int32) s57 s118 (own_go s18 (1 : Int32) s43 s106 (own_go s18 (0 : Int32) s29 s94 (own_S0 s9)))))).2.2 s9.toNatClampNeg).getD 3 0) = ((own_E s18 s29 s43 s57 s71 s85 6).getD 3 0) := by rw [hEq]
                                  refine ov (B := T46.setTop (mkF m 534 #[iv i0, iv i1, .val (.long i2), .second, .val (.long i3), .second, iv s9, iv s18, iv s29, iv s43, iv s57, iv s71, iv s85, iv s94, iv s106, iv s118, iv s130, iv s142, rv bS, rv r_13, rv bE, iv v401l21, iv (1 : Int32)] [])) (fun t k => XS.icmpNo X46.here hx rfl (hb hby at_531) rfl (teq hc531).2 k) ?_
                                  refine oIC (n := 535) X46 hx (1 : Int32) (hb hby at_534) (by decide) rfl ?_
                                  refine oGO (n := 539) X46 hx (hb hby at_535) (by decide) (by decide) ?_
                                  refine ov (B := T46.setTop (mkF m 541 #[iv i0, iv i1, .val (.long i2), .second, .val (.long i3), .second, iv s9, iv s18, iv s29, iv s43, iv s57, iv s71, iv s85, iv s94, iv s106, iv s118, iv s130, iv s142, rv bS, rv r_13, rv bE, iv v401l21, iv (1 : Int32)] [])) (fun t k => XS.istore X46.here hx rfl (hb hby at_539) rfl (l' := #[iv i0, iv i1, .val (.long i2), .second, .val (.long i3), .second, iv s9, iv s18, iv s29, iv s43, iv s57, iv s71, iv s85, iv s94, iv s106, iv s118, iv s130, iv s142, rv bS, rv r_13, rv bE, iv v401l21, iv (1 : Int32)]) rfl k) ?_
                                  exact own_done ⟨_, _, N46, (Or.inl ⟨hc515, trivial⟩), rfl, X46, e46⟩
                                · refine ov (B := T46.setTop (mkF m 541 #[iv i0, iv i1, .val (.long i2), .second, .val (.long i3), .second, iv s9, iv s18, iv s29, iv s43, iv s57, iv s71, iv s85, iv s94, iv s106, iv s118, iv s130, iv s142, rv bS, rv r_13, rv bE, iv v401l21, iv (1 : Int32)] [])) (fun t k => XS.icmpYes X46.here hx rfl (pc0 := 515) (pc' := 541) rfl (hb hby at_515) rfl (flt hc515).2.2.2 (by decide) (by decide) k) ?_
                                  exact own_done ⟨_, _, N46, (Or.inr ⟨hc515, trivial⟩), rfl, X46, e46⟩
                              · rintro B ⟨T49, L49, N49, hv515, rfl, X49, e49⟩
                                refine oIL (n := 543) X49 hx (hb hby at_541) rfl rfl ?_
                                refine oIC (n := 544) X49 hx (4 : Int32) (hb hby at_543) (by decide) rfl ?_
                                refine own_bind (G := fun B => ∃ (T' : State) (L' : List Loc), Fr n0 L' ∧ ((((4 : Int32) < v401l21) ∧ True) ∨ ((¬ ((4 : Int32) < v401l21)) ∧ True)) ∧ B = T'.setTop (mkF m 570 #[iv i0, iv i1, .val (.long i2), .second, .val (.long i3), .second, iv s9, iv s18, iv s29, iv s43, iv s57, iv s71, iv s85, iv s94, iv s106, iv s118, iv s130, iv s142, rv bS, rv r_13, rv bE, iv v401l21, iv (1 : Int32)] []) ∧ Stand p l e room_1 s m #[(.int i0), (.int i1), (.long i2), (.long i3)] below meth c T' L' ((((((((3 + 1) + 1) + 0) + 0) + 0) + 0) + 0) + 0) ((((((((26 + 6) + 6) + 0) + 0) + 0) + 0) + 0) + 0) ∧ T'.heap = h36) ?_ ?_
                                · by_cases hc544 : (4 : Int32) < v401l21
                                  · refine ov (B := T49.setTop (mkF m 547 #[iv i0, iv i1, .val (.long i2), .second, .val (.long i3), .second, iv s9, iv s18, iv s29, iv s43, iv s57, iv s71, iv s85, iv s94, iv s106, iv s118, iv s130, iv s142, rv bS, rv r_13, rv bE, iv v401l21, iv (1 : Int32)] [])) (fun t k => XS.icmpNo X49.here hx rfl (hb hby at_544) rfl (tlt hc544).2.2.2 k) ?_
                                    refine oIL (n := 549) X49 hx (hb hby at_547) rfl rfl ?_
                                    have hc549 : ¬ ((1 : Int32) = (0 : Int32)) := by decide
                                    refine ov (B := T49.setTop (mkF m 552 #[iv i0, iv i1, .val (.long i2), .second, .val (.long i3), .second, iv s9, iv s18, iv s29, iv s43, iv s57, iv s71, iv s85, iv s94, iv s106, iv s118, iv s130, iv s142, rv bS, rv r_13, rv bE, iv v401l21, iv (1 : Int32)] [])) (fun t k => XS.ifNo X49.here hx rfl (hb hby at_549) rfl ((if0 _ _).trans (feq hc549).1) k) ?_
                                    refine oAL (n := 554) X49 hx (hb hby at_552) rfl rfl rfl ?_
                                    refine oIC (n := 555) X49 hx (4 : Int32) (hb hby at_554) (by decide) rfl ?_
                                    obtain ⟨cl53, Ar53, q53, S53, M53, H53, G53⟩ := id (((((((f13_0.ext E14).keep K16 (ninS (Nat.ne_of_lt (Nat.lt_of_lt_of_le f13_0.lt (Nat.le_of_eq g14.symm))) nin0)).keep K20 (ninS (Nat.ne_of_lt (Nat.lt_of_lt_of_le f13_0.lt (Nat.le_of_eq g14.symm))) nin0)).keep K24 (ninS (Nat.ne_of_lt (Nat.lt_of_lt_of_le f13_0.lt (Nat.le_of_eq g14.symm))) nin0)).keep K28 (ninS (Nat.ne_of_lt (Nat.lt_of_lt_of_le f13_0.lt (Nat.le_of_eq g14.symm))) nin0)).keep K32 (ninS (Nat.ne_of_lt (Nat.lt_of_lt_of_le f13_0.lt (Nat.le_of_eq g14.symm))) nin0)).keep K36 (ninS (Nat.ne_of_lt (Nat.lt_of_lt_of_le f13_0.lt (Nat.le_of_eq g14.symm))) nin0))
                                    have hin53 : ¬ ((4 : Int32) < 0 ∨ cl53.slots.size ≤ ((4 : Int32)).toNatClampNeg) := inb_of S53 ⟨by decide, by rw [hc418]; exact hc544⟩
                                    refine ov (B := T49.setTop (mkF m 556 #[iv i0, iv i1, .val (.long i2), .second, .val (.long i3), .second, iv s9, iv s18, iv s29, iv s43, iv s57, iv s71, iv s85, iv s94, iv s106, iv s118, iv s130, iv s142, rv bS, rv r_13, rv bE, iv v401l21, iv (1 : Int32)] [(.int ((own_so (own_go s18 (4 : Int32) s85 s142 (own_go s18 (3 : Int32) s71 s130 (own_go s18 (2 : Int32) s57 s118 (own_go s18 (1 : Int32) s43 s106 (own_go s18 (0 : Int32) s29 s94 (own_S0 s9)))))).2.2 s9.toNatClampNeg).getD 4 0))])) (fun t k => X49.iaload hx (j := (4 : Int32)) (v := (.int ((own_so (own_go s18 (4 : Int32) s85 s142 (own_go s18 (3 : Int32) s71 s130 (own_go s18 (2 : Int32) s57 s118 (own_go s18 (1 : Int32) s43 s106 (own_go s18 (0 : Int32) s29 s94 (own_S0 s9)))))).2.2 s9.toNatClampNeg).getD 4 0))) (by rw [e49]; exact Ar53.1) (State.isArrayOf_alike hZ.alike Ar53.2.1) Ar53.2.2 hin53 (Has.at H53 hin53 (own_mgI _ _)) (g := (mkF m 555 #[iv i0, iv i1, .val (.long i2), .second, .val (.long i3), .second, iv s9, iv s18, iv s29, iv s43, iv s57, iv s71, iv s85, iv s94, iv s106, iv s118, iv s130, iv s142, rv bS, rv r_13, rv bE, iv v401l21, iv (1 : Int32)] [(.int (4 : Int32)), (.ref r_13)])) rfl rfl (hb hby at_555) _ k) ?_
                                    refine oAL (n := 558) X49 hx (hb hby at_556) rfl rfl rfl ?_
                                    refine oIC (n := 559) X49 hx (4 : Int32) (hb hby at_558) (by decide) rfl ?_
                                    obtain ⟨cl54, Ar54, q54, S54, M54, H54, G54⟩ := id jf36_0
                                    have hin54 : ¬ ((4 : Int32) < 0 ∨ cl54.slots.size ≤ ((4 : Int32)).toNatClampNeg) := inb_of S54 ⟨by decide, by decide⟩
                                    refine ov (B := T49.setTop (mkF m 560 #[iv i0, iv i1, .val (.long i2), .second, .val (.long i3), .second, iv s9, iv s18, iv s29, iv s43, iv s57, iv s71, iv s85, iv s94, iv s106, iv s118, iv s130, iv s142, rv bS, rv r_13, rv bE, iv v401l21, iv (1 : Int32)] [(.int ((own_E s18 s29 s43 s57 s71 s85 6).getD 4 0)), (.int ((own_so (own_go s18 (4 : Int32) s85 s142 (own_go s18 (3 : Int32) s71 s130 (own_go s18 (2 : Int32) s57 s118 (own_go s18 (1 : Int32) s43 s106 (own_go s18 (0 : Int32) s29 s94 (own_S0 s9)))))).2.2 s9.toNatClampNeg).getD 4 0))])) (fun t k => X49.iaload hx (j := (4 : Int32)) (v := (.int ((own_E s18 s29 s43 s57 s71 s85 6).getD 4 0))) (by rw [e49]; exact Ar54.1) (State.isArrayOf_alike hZ.alike Ar54.2.1) Ar54.2.2 hin54 (Has.at H54 hin54 (own_mgI _ _)) (g := (mkF m 559 #[iv i0, iv i1, .val (.long i2), .second, .val (.long i3), .second, iv s9, iv s18, iv s29, iv s43, iv s57, iv s71, iv s85, iv s94, iv s106, iv s118, iv s130, iv s142, rv bS, rv r_13, rv bE, iv v401l21, iv (1 : Int32)] [(.int (4 : Int32)), (.ref bE), (.int ((own_so (own_go s18 (4 : Int32) s85 s142 (own_go s18 (3 : Int32) s71 s130 (own_go s18 (2 : Int32) s57 s118 (own_go s18 (1 : Int32) s43 s106 (own_go s18 (0 : Int32) s29 s94 (own_S0 s9)))))).2.2 s9.toNatClampNeg).getD 4 0))])) rfl rfl (hb hby at_559) _ k) ?_
                                    have hc560 : ((own_so (own_go s18 (4 : Int32) s85 s142 (own_go s18 (3 : Int32) s71 s130 (own_go s18 (2 : Int32) s57 s118 (own_go s18 (1 : Int32) s43 s106 (own_go s18 (0 : Int32) s29 s94 (own_S0 s9)))))).2.2 s9.toNatClampNeg).getD 4 0) = ((own_E s18 s29 s43 s57 s71 s85 6).getD 4 0) := by rw [hEq]
                                    refine ov (B := T49.setTop (mkF m 563 #[iv i0, iv i1, .val (.long i2), .second, .val (.long i3), .second, iv s9, iv s18, iv s29, iv s43, iv s57, iv s71, iv s85, iv s94, iv s106, iv s118, iv s130, iv s142, rv bS, rv r_13, rv bE, iv v401l21, iv (1 : Int32)] [])) (fun t k => XS.icmpNo X49.here hx rfl (hb hby at_560) rfl (teq hc560).2 k) ?_
                                    refine oIC (n := 564) X49 hx (1 : Int32) (hb hby at_563) (by decide) rfl ?_
                                    refine oGO (n := 568) X49 hx (hb hby at_564) (by decide) (by decide) ?_
                                    refine ov (B := T49.setTop (mkF m 570 #[iv i0, iv i1, .val (.long i2), .second, .val (.long i3), .second, iv s9, iv s18, iv s29, iv s43, iv s57, iv s71, iv s85, iv s94, iv s106, iv s118, iv s130, iv s142, rv bS, rv r_13, rv bE, iv v401l21, iv (1 : Int32)] [])) (fun t k => XS.istore X49.here hx rfl (hb hby at_568) rfl (l' := #[iv i0, iv i1, .val (.long i2), .second, .val (.long i3), .second, iv s9, iv s18, iv s29, iv s43, iv s57, iv s71, iv s85, iv s94, iv s106, iv s118, iv s130, iv s142, rv bS, rv r_13, rv bE, iv v401l21, iv (1 : Int32)]) rfl k) ?_
                                    exact own_done ⟨_, _, N49, (Or.inl ⟨hc544, trivial⟩), rfl, X49, e49⟩
                                  · refine ov (B := T49.setTop (mkF m 570 #[iv i0, iv i1, .val (.long i2), .second, .val (.long i3), .second, iv s9, iv s18, iv s29, iv s43, iv s57, iv s71, iv s85, iv s94, iv s106, iv s118, iv s130, iv s142, rv bS, rv r_13, rv bE, iv v401l21, iv (1 : Int32)] [])) (fun t k => XS.icmpYes X49.here hx rfl (pc0 := 544) (pc' := 570) rfl (hb hby at_544) rfl (flt hc544).2.2.2 (by decide) (by decide) k) ?_
                                    exact own_done ⟨_, _, N49, (Or.inr ⟨hc544, trivial⟩), rfl, X49, e49⟩
                                · rintro B ⟨T52, L52, N52, hv544, rfl, X52, e52⟩
                                  refine oIL (n := 572) X52 hx (hb hby at_570) rfl rfl ?_
                                  refine oIC (n := 573) X52 hx (5 : Int32) (hb hby at_572) (by decide) rfl ?_
                                  refine own_bind (G := fun B => ∃ (T' : State) (L' : List Loc), Fr n0 L' ∧ ((((5 : Int32) < v401l21) ∧ True) ∨ ((¬ ((5 : Int32) < v401l21)) ∧ True)) ∧ B = T'.setTop (mkF m 599 #[iv i0, iv i1, .val (.long i2), .second, .val (.long i3), .second, iv s9, iv s18, iv s29, iv s43, iv s57, iv s71, iv s85, iv s94, iv s106, iv s118, iv s130, iv s142, rv bS, rv r_13, rv bE, iv v401l21, iv (1 : Int32)] []) ∧ Stand p l e room_1 s m #[(.int i0), (.int i1), (.long i2), (.long i3)] below meth c T' L' ((((((((3 + 1) + 1) + 0) + 0) + 0) + 0) + 0) + 0) ((((((((26 + 6) + 6) + 0) + 0) + 0) + 0) + 0) + 0) ∧ T'.heap = h36) ?_ ?_
                                  · by_cases hc573 : (5 : Int32) < v401l21
                                    · refine ov (B := T52.setTop (mkF m 576 #[iv i0, iv i1, .val (.long i2), .second, .val (.long i3), .second, iv s9, iv s18, iv s29, iv s43, iv s57, iv s71, iv s85, iv s94, iv s106, iv s118, iv s130, iv s142, rv bS, rv r_13, rv bE, iv v401l21, iv (1 : Int32)] [])) (fun t k => XS.icmpNo X52.here hx rfl (hb hby at_573) rfl (tlt hc573).2.2.2 k) ?_
                                      refine oIL (n := 578) X52 hx (hb hby at_576) rfl rfl ?_
                                      have hc578 : ¬ ((1 : Int32) = (0 : Int32)) := by decide
                                      refine ov (B := T52.setTop (mkF m 581 #[iv i0, iv i1, .val (.long i2), .second, .val (.long i3), .second, iv s9, iv s18, iv s29, iv s43, iv s57, iv s71, iv s85, iv s94, iv s106, iv s118, iv s130, iv s142, rv bS, rv r_13, rv bE, iv v401l21, iv (1 : Int32)] [])) (fun t k => XS.ifNo X52.here hx rfl (hb hby at_578) rfl ((if0 _ _).trans (feq hc578).1) k) ?_
                                      refine oAL (n := 583) X52 hx (hb hby at_581) rfl rfl rfl ?_
                                      refine oIC (n := 584) X52 hx (5 : Int32) (hb hby at_583) (by decide) rfl ?_
                                      obtain ⟨cl56, Ar56, q56, S56, M56, H56, G56⟩ := id (((((((f13_0.ext E14).keep K16 (ninS (Nat.ne_of_lt (Nat.lt_of_lt_of_le f13_0.lt (Nat.le_of_eq g14.symm))) nin0)).keep K20 (ninS (Nat.ne_of_lt (Nat.lt_of_lt_of_le f13_0.lt (Nat.le_of_eq g14.symm))) nin0)).keep K24 (ninS (Nat.ne_of_lt (Nat.lt_of_lt_of_le f13_0.lt (Nat.le_of_eq g14.symm))) nin0)).keep K28 (ninS (Nat.ne_of_lt (Nat.lt_of_lt_of_le f13_0.lt (Nat.le_of_eq g14.symm))) nin0)).keep K32 (ninS (Nat.ne_of_lt (Nat.lt_of_lt_of_le f13_0.lt (Nat.le_of_eq g14.symm))) nin0)).keep K36 (ninS (Nat.ne_of_lt (Nat.lt_of_lt_of_le f13_0.lt (Nat.le_of_eq g14.symm))) nin0))
                                      have hin56 : ¬ ((5 : Int32) < 0 ∨ cl56.slots.size ≤ ((5 : Int32)).toNatClampNeg) := inb_of S56 ⟨by decide, by rw [hc418]; exact hc573⟩
                                      refine ov (B := T52.setTop (mkF m 585 #[iv i0, iv i1, .val (.long i2), .second, .val (.long i3), .second, iv s9, iv s18, iv s29, iv s43, iv s57, iv s71, iv s85, iv s94, iv s106, iv s118, iv s130, iv s142, rv bS, rv r_13, rv bE, iv v401l21, iv (1 : Int32)] [(.int ((own_so (own_go s18 (4 : Int32) s85 s142 (own_go s18 (3 : Int32) s71 s130 (own_go s18 (2 : Int32) s57 s118 (own_go s18 (1 : Int32) s43 s106 (own_go s18 (0 : Int32) s29 s94 (own_S0 s9)))))).2.2 s9.toNatClampNeg).getD 5 0))])) (fun t k => X52.iaload hx (j := (5 : Int32)) (v := (.int ((own_so (own_go s18 (4 : Int32) s85 s142 (own_go s18 (3 : Int32) s71 s130 (own_go s18 (2 : Int32) s57 s118 (own_go s18 (1 : Int32) s43 s106 (own_go s18 (0 : Int32) s29 s94 (own_S0 s9)))))).2.2 s9.toNatClampNeg).getD 5 0))) (by rw [e52]; exact Ar56.1) (State.isArrayOf_alike hZ.alike Ar56.2.1) Ar56.2.2 hin56 (Has.at H56 hin56 (own_mgI _ _)) (g := (mkF m 584 #[iv i0, iv i1, .val (.long i2), .second, .val (.long i3), .second, iv s9, iv s18, iv s29, iv s43, iv s57, iv s71, iv s85, iv s94, iv s106, iv s118, iv s130, iv s142, rv bS, rv r_13, rv bE, iv v401l21, iv (1 : Int32)] [(.int (5 : Int32)), (.ref r_13)])) rfl rfl (hb hby at_584) _ k) ?_
                                      refine oAL (n := 587) X52 hx (hb hby at_585) rfl rfl rfl ?_
                                      refine oIC (n := 588) X52 hx (5 : Int32) (hb hby at_587) (by decide) rfl ?_
                                      obtain ⟨cl57, Ar57, q57, S57, M57, H57, G57⟩ := id jf36_0
                                      have hin57 : ¬ ((5 : Int32) < 0 ∨ cl57.slots.size ≤ ((5 : Int32)).toNatClampNeg) := inb_of S57 ⟨by decide, by decide⟩
                                      refine ov (B := T52.setTop (mkF m 589 #[iv i0, iv i1, .val (.long i2), .second, .val (.long i3), .second, iv s9, iv s18, iv s29, iv s43, iv s57, iv s71, iv s85, iv s94, iv s106, iv s118, iv s130, iv s142, rv bS, rv r_13, rv bE, iv v401l21, iv (1 : Int32)] [(.int ((own_E s18 s29 s43 s57 s71 s85 6).getD 5 0)), (.int ((own_so (own_go s18 (4 : Int32) s85 s142 (own_go s18 (3 : Int32) s71 s130 (own_go s18 (2 : Int32) s57 s118 (own_go s18 (1 : Int32) s43 s106 (own_go s18 (0 : Int32) s29 s94 (own_S0 s9)))))).2.2 s9.toNatClampNeg).getD 5 0))])) (fun t k => X52.iaload hx (j := (5 : Int32)) (v := (.int ((own_E s18 s29 s43 s57 s71 s85 6).getD 5 0))) (by rw [e52]; exact Ar57.1) (State.isArrayOf_alike hZ.alike Ar57.2.1) Ar57.2.2 hin57 (Has.at H57 hin57 (own_mgI _ _)) (g := (mkF m 588 #[iv i0, iv i1, .val (.long i2), .second, .val (.long i3), .second, iv s9, iv s18, iv s29, iv s43, iv s57, iv s71, iv s85, iv s94, iv s106, iv s118, iv s130, iv s142, rv bS, rv r_13, rv bE, iv v401l21, iv (1 : Int32)] [(.int (5 : Int32)), (.ref bE), (.int ((own_so (own_go s18 (4 : Int32) s85 s142 (own_go s18 (3 : Int32) s71 s130 (own_go s18 (2 : Int32) s57 s118 (own_go s18 (1 : Int32) s43 s106 (own_go s18 (0 : Int32) s29 s94 (own_S0 s9)))))).2.2 s9.toNatClampNeg).getD 5 0))])) rfl rfl (hb hby at_588) _ k) ?_
                                      have hc589 : ((own_so (own_go s18 (4 : Int32) s85 s142 (own_go s18 (3 : Int32) s71 s130 (own_go s18 (2 : Int32) s57 s118 (own_go s18 (1 : Int32) s43 s106 (own_go s18 (0 : Int32) s29 s94 (own_S0 s9)))))).2.2 s9.toNatClampNeg).getD 5 0) = ((own_E s18 s29 s43 s57 s71 s85 6).getD 5 0) := by rw [hEq]
                                      refine ov (B := T52.setTop (mkF m 592 #[iv i0, iv i1, .val (.long i2), .second, .val (.long i3), .second, iv s9, iv s18, iv s29, iv s43, iv s57, iv s71, iv s85, iv s94, iv s106, iv s118, iv s130, iv s142, rv bS, rv r_13, rv bE, iv v401l21, iv (1 : Int32)] [])) (fun t k => XS.icmpNo X52.here hx rfl (hb hby at_589) rfl (teq hc589).2 k) ?_
                                      refine oIC (n := 593) X52 hx (1 : Int32) (hb hby at_592) (by decide) rfl ?_
                                      refine oGO (n := 597) X52 hx (hb hby at_593) (by decide) (by decide) ?_
                                      refine ov (B := T52.setTop (mkF m 599 #[iv i0, iv i1, .val (.long i2), .second, .val (.long i3), .second, iv s9, iv s18, iv s29, iv s43, iv s57, iv s71, iv s85, iv s94, iv s106, iv s118, iv s130, iv s142, rv bS, rv r_13, rv bE, iv v401l21, iv (1 : Int32)] [])) (fun t k => XS.istore X52.here hx rfl (hb hby at_597) rfl (l' := #[iv i0, iv i1, .val (.long i2), .second, .val (.long i3), .second, iv s9, iv s18, iv s29, iv s43, iv s57, iv s71, iv s85, iv s94, iv s106, iv s118, iv s130, iv s142, rv bS, rv r_13, rv bE, iv v401l21, iv (1 : Int32)]) rfl k) ?_
                                      exact own_done ⟨_, _, N52, (Or.inl ⟨hc573, trivial⟩), rfl, X52, e52⟩
                                    · refine ov (B := T52.setTop (mkF m 599 #[iv i0, iv i1, .val (.long i2), .second, .val (.long i3), .second, iv s9, iv s18, iv s29, iv s43, iv s57, iv s71, iv s85, iv s94, iv s106, iv s118, iv s130, iv s142, rv bS, rv r_13, rv bE, iv v401l21, iv (1 : Int32)] [])) (fun t k => XS.icmpYes X52.here hx rfl (pc0 := 573) (pc' := 599) rfl (hb hby at_573) rfl (flt hc573).2.2.2 (by decide) (by decide) k) ?_
                                      exact own_done ⟨_, _, N52, (Or.inr ⟨hc573, trivial⟩), rfl, X52, e52⟩
                                  · rintro B ⟨T55, L55, N55, hv573, rfl, X55, e55⟩
                                    refine oIL (n := 601) X55 hx (hb hby at_599) rfl rfl ?_
                                    refine own_leaf X55 hx hlk (t := .boolean) Bd.returns (by decide) (Or.inl ⟨rfl, by simp, _, rfl⟩) (hb hby at_601) (by decide) (by decide) ?_
                                    show Q0 Z i0 i1 i2 i3 h0 n0 _ T55.heap _
                                    rw [e55]
                                    refine ⟨?_, N55⟩
                                    rfl
set_option maxRecDepth 65536 in
set_option maxHeartbeats 40000000 in
theorem comes_1 {Post : Tables → Env → Array Value → State → Outcome → State → Prop} (hpost : ∀ tb e args s v u, (limb_1_1.after args s (.returned v) u = true ∧ limb_1_2.after args s (.returned v) u = true ∧ True) → FrameEnd s (.returned v) u (Jvm.fieldLocs frame_1_writes args s ++ Jvm.arrayLocs frame_1_arrays args s ++ Jvm.staticLocs frame_1_statics s) 24 192 → Post tb e args s (.returned v) u) :
    ArmFor flags0 classFile x code maxLocals ret World_1 tables_1 room_1 Calls_1 rest_1 Pre_1 Post := by
  intro l hfl _ _ p e ha hc hk s m args below hf hA hF happ hP
  obtain ⟨hcalls, hrest, hpre⟩ := hP
  obtain ⟨-, -, -, hnamed, -, -, -, hat⟩ := (Spec.applies_iff hf).mp happ
  obtain ⟨hg, hn⟩ := and_e (Cond.before_iff.mp (show (Jvm.Cond.and given_1 narrow_1).before args s = true from hpre))
  obtain ⟨g1, g2⟩ := and_e hg
  obtain ⟨g3, g4⟩ := and_e g2
  obtain ⟨g5, g6⟩ := and_e g4
  obtain ⟨g7, g8⟩ := and_e g6
  obtain ⟨w0, w1, w2, w3, rfl⟩ : ∃ w0 w1 w2 w3 : Value, args = #[w0, w1, w2, w3] := by
    have hs : args.size = 4 := by simpa [Cond.value, given_1] using g1
    obtain ⟨L⟩ := args
    match L, hs with
    | [w0, w1, w2, w3], _ => exact ⟨w0, w1, w2, w3, rfl⟩
  have hw := fun d (hd : d ∈ tables_1) => atoms_spec (ws := Jvm.Cond.code x code maxLocals ret :: tables_1) hat d (List.mem_cons_of_mem _ hd)
  have hfit : Fit s := fun {y c} hc i hi => by
    obtain ⟨ha, rfl⟩ := Array.getElem?_eq_some_iff.mp hc
    have q := List.all_eq_true.mp ((Array.all_eq_true_iff_forall_mem.mp hF) _ (Array.getElem_mem ha)) i (List.mem_range.mpr hi)
    simpa [Array.getElem?_eq_getElem hi] using q
  obtain ⟨i0, ei0⟩ := is_v g3
  obtain rfl : w0 = (.int i0) := Option.some.inj ei0
  obtain ⟨i1, ei1⟩ := is_v g5
  obtain rfl : w1 = (.int i1) := Option.some.inj ei1
  obtain ⟨i2, ei2⟩ := isL_v g7
  obtain rfl : w2 = (.long i2) := Option.some.inj ei2
  obtain ⟨i3, ei3⟩ := isL_v g8
  obtain rfl : w3 = (.long i3) := Option.some.inj ei3
  obtain ⟨n, o, h1, h2, h3, _, L, rfl, ⟨rfl, N⟩, hq⟩ := rm0 l s _ hw tables_1 i0 i1 i2 i3 s.heap s.heap.size (Nat.le_refl _)  p e ha hc hk s m _ below hf ((Spec.applies_iff_loose hf).mp happ).1 ⟨rfl, State.Warmed39.refl s, rfl⟩ trivial
  refine ⟨n, _, h1, h2, h3, hpost _ _ _ _ _ _ ⟨Cond.after_iff.mpr rfl, Cond.after_iff.mpr (eq_i res_at (Term.int_eval (1)) rfl), trivial⟩ ⟨hq.1, hq.2.1, (hq.2.2.sift fun y hy => Or.inr (N y hy)).mono (by decide) (by decide)⟩⟩
theorem main_1_1 : Claimed_1_1 := comes_1 fun _ _ _ _ _ _ h hF => ⟨h.1, hF⟩
theorem main_1_2 : Claimed_1_2 := comes_1 fun _ _ _ _ _ _ h hF => ⟨h.2.1, hF⟩
end Jvm.Pilot.@@N@@
namespace Jvm.Pilot.@@N@@
open Jvm Jvm.ClassFile Sem Op Lib Jvm.Free Jvm.Stand Jvm.Pilot.@@N@@.Jvm.D
/-! MADE BY PROGRAM (witnessworld.py) out of the Statement's table words and the real class files: 9 classes; the members and pool entries that the words name. The judged class is class 1, her method 1. -/
namespace start1
open Jvm.ClassFile
def u (s : String) : CpInfo := .utf8 (stringToUtf16 s)
/-- a pool by its gaps: so many unusable entries, then the entry; so many at the end -/
def gap : Nat → List CpInfo → List CpInfo
  | 0, r => r
  | n + 1, r => .unusable :: gap n r
def poolList (es : List (Nat × CpInfo)) (last : Nat) : List CpInfo := es.foldr (fun e r => gap e.1 (e.2 :: r)) (gap last [])
def pool (es : List (Nat × CpInfo)) (last : Nat) : Array CpInfo := ⟨poolList es last⟩
def fileOf (pool : Array CpInfo) (this : Nat) (attrs : Array Attribute := #[]) (ms : Array MethodInfo := #[]) (fl : Nat := 33) (sup : Nat := 0) (ifs : Array Nat := #[]) (fds : Array FieldInfo := #[]) : ClassFile where
  minorVersion := 0
  majorVersion := 65
  constantPool := pool
  accessFlags := fl
  thisClass := this
  superClass := sup
  interfaces := ifs
  fields := fds
  methods := ms
  attributes := attrs
def plain (name : String) (sup : Option ClassId) : Class where
  name := name
  kind := .ordinary
  loader := none
  accessFlags := 33
  super := sup
  interfaces := #[]
  cf := none
  fields := #[]
  methods := #[]
  instanceTypes := #[]
  staticTypes := #[]
  resolved := #[]
  callSites := []
  init := .initialized
  statics := none
  mirror := none

def pool0 : Array CpInfo := pool [(5, u "<init>"), (0, u "()V"), (1, .class_ 10), (1, u "java/lang/Object")] 113

def k0c0 : Code := { maxStack := 0, maxLocals := 1, code := object_method_1_code, exceptionTable := #[], attributes := #[] }
def k0m0 : Method := { name := "<init>", desc := "()V", sig := { parameters := [], returnType := none }, accessFlags := 1, code := some k0c0 }
/-- java/lang/Object -/
def k0 : Class := { plain "java/lang/Object" none with
  accessFlags := 33
  interfaces := #[]
  cf := some (fileOf pool0 8 #[] #[{ accessFlags := 1, nameIndex := 5, descriptorIndex := 6, attributes := #[] }] 33 0 #[] #[])
  fields := #[]
  methods := #[k0m0]
  instanceTypes := #[]
  staticTypes := #[]
  resolved := Array.replicate 124 none
  statics := none }

def pool1 : Array CpInfo := pool [(2, .class_ 4), (1, u "java/lang/Object"), (0, u "<init>"), (0, u "()V"), (0, .integer 2147483647), (0, .long 255), (1, .class_ 11), (0, u "com/example/corrib/corrib/lexicon/SenseWeights"), (0, .methodref 10 13), (0, .nameAndType 5 14), (0, u "(I)V"), (0, .methodref 16 17), (0, .class_ 18), (0, .nameAndType 19 20), (0, u "com/example/corrib/corrib/lexicon/SenseWeightsSortedPinLaw"), (0, u "give"), (0, u "(Lcom/example/corrib/corrib/lexicon/SenseWeights;II)V"), (0, .methodref 10 22), (0, .nameAndType 23 24), (0, u "sorted"), (0, u "()[I"), (0, .methodref 16 26), (0, .nameAndType 27 28), (0, u "in"), (0, u "(IIIIIII)Z"), (0, .methodref 10 30), (0, .nameAndType 31 32), (0, u "add"), (0, u "(ID)V"), (0, .methodref 10 34), (0, .nameAndType 35 32), (0, u "set"), (2, u "law"), (0, u "(IIJJ)Z")] 5

def k1m0 : Method := { name := "<init>", desc := "()V", sig := { parameters := [], returnType := none }, accessFlags := 1, code := none }
def k1c1 : Code := { maxStack := 7, maxLocals := 23, code := code, exceptionTable := #[], attributes := #[] }
def k1m1 : Method := { name := "law", desc := "(IIJJ)Z", sig := { parameters := [.int, .int, .long, .long], returnType := some .boolean }, accessFlags := 9, code := some k1c1 }
def k1c2 : Code := { maxStack := 4, maxLocals := 5, code := method_3_code, exceptionTable := #[], attributes := #[] }
def k1m2 : Method := { name := "give", desc := "(Lcom/example/corrib/corrib/lexicon/SenseWeights;II)V", sig := { parameters := [(.object "com/example/corrib/corrib/lexicon/SenseWeights"), .int, .int], returnType := none }, accessFlags := 10, code := some k1c2 }
def k1c3 : Code := { maxStack := 2, maxLocals := 7, code := method_4_code, exceptionTable := #[], attributes := #[] }
def k1m3 : Method := { name := "in", desc := "(IIIIIII)Z", sig := { parameters := [.int, .int, .int, .int, .int, .int, .int], returnType := some .boolean }, accessFlags := 10, code := some k1c3 }
/-- com/example/corrib/corrib/lexicon/SenseWeightsSortedPinLaw -/
def k1 : Class := { plain "com/example/corrib/corrib/lexicon/SenseWeightsSortedPinLaw" (some 0) with
  accessFlags := 49
  interfaces := #[]
  cf := some (fileOf pool1 16 #[] #[{ accessFlags := 1, nameIndex := 5, descriptorIndex := 6, attributes := #[] }, { accessFlags := 9, nameIndex := 38, descriptorIndex := 39, attributes := #[] }, { accessFlags := 10, nameIndex := 19, descriptorIndex := 20, attributes := #[] }, { accessFlags := 10, nameIndex := 27, descriptorIndex := 28, attributes := #[] }] 49 2 #[] #[])
  fields := #[]
  methods := #[k1m0, k1m1, k1m2, k1m3]
  instanceTypes := #[]
  staticTypes := #[]
  resolved := Array.replicate 45 none
  statics := none }

def pool2 : Array CpInfo := pool [(1, .methodref 2 3), (0, .class_ 4), (0, .nameAndType 5 6), (0, u "java/lang/Object"), (0, u "<init>"), (0, u "()V"), (0, .fieldref 8 9), (0, .class_ 10), (0, .nameAndType 11 12), (0, u "com/example/corrib/corrib/lexicon/SenseWeights"), (0, u "given"), (0, u "[I"), (0, .fieldref 8 14), (0, .nameAndType 15 16), (0, u "bySense"), (0, u "[D"), (0, .methodref 8 18), (0, .nameAndType 19 20), (0, u "give"), (0, u "(I)V"), (0, .fieldref 8 22), (0, .nameAndType 23 12), (0, u "setOut"), (5, u "set"), (0, u "(ID)V"), (0, .fieldref 8 32), (0, .nameAndType 33 34), (0, u "size"), (0, u "I"), (8, u "add"), (7, u "sorted"), (0, u "()[I")] 3

def k2c0 : Code := { maxStack := 2, maxLocals := 2, code := prog_19_method_1_code, exceptionTable := #[], attributes := #[] }
def k2m0 : Method := { name := "<init>", desc := "(I)V", sig := { parameters := [.int], returnType := none }, accessFlags := 0, code := some k2c0 }
def k2c1 : Code := { maxStack := 6, maxLocals := 4, code := prog_19_method_2_code, exceptionTable := #[], attributes := #[] }
def k2m1 : Method := { name := "add", desc := "(ID)V", sig := { parameters := [.int, .double], returnType := none }, accessFlags := 0, code := some k2c1 }
def k2c2 : Code := { maxStack := 4, maxLocals := 4, code := prog_19_method_3_code, exceptionTable := #[], attributes := #[] }
def k2m2 : Method := { name := "set", desc := "(ID)V", sig := { parameters := [.int, .double], returnType := none }, accessFlags := 0, code := some k2c2 }
def k2c3 : Code := { maxStack := 4, maxLocals := 2, code := prog_19_method_5_code, exceptionTable := #[], attributes := #[] }
def k2m3 : Method := { name := "give", desc := "(I)V", sig := { parameters := [.int], returnType := none }, accessFlags := 2, code := some k2c3 }
def k2c4 : Code := { maxStack := 4, maxLocals := 4, code := prog_19_method_9_code, exceptionTable := #[], attributes := #[] }
def k2m4 : Method := { name := "sorted", desc := "()[I", sig := { parameters := [], returnType := some (.array .int) }, accessFlags := 0, code := some k2c4 }
/-- com/example/corrib/corrib/lexicon/SenseWeights -/
def k2 : Class := { plain "com/example/corrib/corrib/lexicon/SenseWeights" (some 0) with
  accessFlags := 48
  interfaces := #[]
  cf := some (fileOf pool2 8 #[] #[{ accessFlags := 0, nameIndex := 5, descriptorIndex := 20, attributes := #[] }, { accessFlags := 0, nameIndex := 43, descriptorIndex := 30, attributes := #[] }, { accessFlags := 0, nameIndex := 29, descriptorIndex := 30, attributes := #[] }, { accessFlags := 2, nameIndex := 19, descriptorIndex := 20, attributes := #[] }, { accessFlags := 0, nameIndex := 51, descriptorIndex := 52, attributes := #[] }] 48 2 #[] #[{ accessFlags := 18, nameIndex := 15, descriptorIndex := 16, attributes := #[] }, { accessFlags := 2, nameIndex := 11, descriptorIndex := 12, attributes := #[] }, { accessFlags := 2, nameIndex := 33, descriptorIndex := 34, attributes := #[] }, { accessFlags := 2, nameIndex := 23, descriptorIndex := 12, attributes := #[] }])
  fields := #[{ name := "bySense", type := (.array .double), accessFlags := 18, slot := 0, constantValue := 0 }, { name := "given", type := (.array .int), accessFlags := 2, slot := 1, constantValue := 0 }, { name := "size", type := .int, accessFlags := 2, slot := 2, constantValue := 0 }, { name := "setOut", type := (.array .int), accessFlags := 2, slot := 3, constantValue := 0 }]
  methods := #[k2m0, k2m1, k2m2, k2m3, k2m4]
  instanceTypes := #[(.array .double), (.array .int), .int, (.array .int)]
  staticTypes := #[]
  resolved := Array.replicate 56 none
  statics := none }

def pool3 : Array CpInfo := pool [(1, u "java/lang/Cloneable"), (0, .class_ 1), (0, u "java/lang/Object"), (0, .class_ 3)] 3

/-- java/lang/Cloneable -/
def k3 : Class := { plain "java/lang/Cloneable" (some 0) with
  accessFlags := 1537
  interfaces := #[]
  cf := some (fileOf pool3 2 #[] #[] 1537 4 #[] #[])
  fields := #[]
  methods := #[]
  instanceTypes := #[]
  staticTypes := #[]
  resolved := Array.replicate 8 none
  statics := none }

def pool4 : Array CpInfo := pool [(1, u "java/io/Serializable"), (0, .class_ 1), (0, u "java/lang/Object"), (0, .class_ 3)] 3

/-- java/io/Serializable -/
def k4 : Class := { plain "java/io/Serializable" (some 0) with
  accessFlags := 1537
  interfaces := #[]
  cf := some (fileOf pool4 2 #[] #[] 1537 4 #[] #[])
  fields := #[]
  methods := #[]
  instanceTypes := #[]
  staticTypes := #[]
  resolved := Array.replicate 8 none
  statics := none }

/-- the primitive byte -/
def k5 : Class := { plain "byte" none with kind := .primitive 'B', accessFlags := 0x411 }
/-- [B -/
def k6 : Class := { plain "[B" (some 0) with kind := .array 5 .byte, interfaces := #[3, 4], accessFlags := 1041 }

/-- the primitive int -/
def k7 : Class := { plain "int" none with kind := .primitive 'I', accessFlags := 0x411 }
/-- [I -/
def k8 : Class := { plain "[I" (some 0) with kind := .array 7 .int, interfaces := #[3, 4], accessFlags := 1041 }

def heap : Heap := #[]
def k9 : Class := { plain "double" none with kind := .primitive 'D', accessFlags := 0x411 }
def k10 : Class := { plain "[D" (some 0) with kind := .array 9 .double, interfaces := #[3, 4], accessFlags := 1041 }
def classes : Array Class := #[k0, k1, k2, k3, k4, k5, k6, k7, k8, k9, k10]
def interned : List (Array UInt16 × Addr) := []
def slotsUsed : Nat := 0
def theMethod : MethodId := ⟨1, 1⟩
def args0 : Array Value := #[.int 5, .int 6, .long 7, .long 8]
def aboutOver (below : List Frame) : State where
  vm := { classes := classes, interned := interned.toArray }
  heap := heap
  slotsUsed := slotsUsed
  threads := #[{ frames := .invoking theMethod args0 :: below }]
def below0 : List Frame := [.native { method := ⟨0, 0⟩, args := #[] }]
def about1 : State := aboutOver below0
def p0 : Program := .bare "" "" ""
def e0 : Env := launch0.env 0 0 0
theorem w_frames : about1.frames = Frame.invoking theMethod args0 :: below0 := rfl
set_option maxRecDepth 65536 in
theorem w_args : argsFit about1.vm theMethod args0 = true := by decide +kernel
set_option maxRecDepth 65536 in
theorem w_heap : heapFits about1 = true := by decide +kernel
set_option maxRecDepth 65536 in
theorem w_runnable : about1.curStatus? = some .runnable := by decide +kernel
set_option maxRecDepth 65536 in
theorem w_alone : about1.alone = true := by decide +kernel
set_option maxRecDepth 65536 in
theorem w_named : about1.methodNamed? x = some theMethod := by decide +kernel
set_option maxRecDepth 65536 in
theorem w_hears : about1.hears theMethod below0 = true := by decide +kernel
set_option maxRecDepth 65536 in
theorem w_ripe : about1.ripe theMethod args0 below0 = true := by decide +kernel
theorem w_running : about1.status = .running := rfl
set_option maxRecDepth 65536 in
theorem w_room : about1.hasRoom e0.platform room_1 = true :=
  launch0.hasRoom_least _ room_1 (by decide +kernel) (by decide +kernel) (by decide +kernel) (by decide +kernel) (by decide +kernel) (by decide +kernel)
theorem allAtoms_all (ts : List Jvm.Cond) (a : Array Jvm.Value) (st : Jvm.State) : (allAtoms ts).before a st = ts.all (fun c => c.before a st) := by
  induction ts with
  | nil => rfl
  | cons c t ih =>
    show (Jvm.Cond.and c (allAtoms t)).before a st = _
    rw [Jvm.Cond.before_and, ih, List.all_cons]
def words1 : List Jvm.Cond := Jvm.Cond.code x code maxLocals ret :: tables_1
/-- a 'code' word, met by the world's own term for the bytes: nothing is compared byte by byte -/
theorem code_word {y : MethodName} {bytes : ByteArray} {mx : Nat} {rt : Option FieldType} {a : Array Value} {s : State} {m : MethodId} {meth : Method} {c : Code} (h1 : s.methodNamed? y = some m) (h2 : s.vm.method? m = some meth) (h3 : meth.code = some c) (h4 : c.code = bytes)
    (h5 : (c.maxLocals == mx && c.exceptionTable.isEmpty && decide (c.maxStack ≤ mostOperands) && decide (meth.sig.returnType = rt) && !meth.locks && decide (parseMethodDescriptor y.desc = some meth.sig)) = true) : (Jvm.Cond.code y bytes mx rt).before a s = true := by
  simp only [Bool.and_eq_true, beq_iff_eq, Bool.not_eq_true', decide_eq_true_eq] at h5
  obtain ⟨⟨⟨⟨⟨g1, g2⟩, g3⟩, g4⟩, g5⟩, g6⟩ := h5
  simp [Cond.before, Cond.holds, Cond.value, h1, h2, h3, h4, g1, g2, g3, g4, g5, g6]
def isCode : Jvm.Cond → Bool
  | .code _ _ _ _ => true
  | _ => false
theorem all_split {L : List Jvm.Cond} {P : Jvm.Cond → Bool} (h1 : L.all (fun c => isCode c || P c) = true) (h2 : ∀ c ∈ L.filter isCode, P c = true) : L.all P = true := by
  refine List.all_eq_true.mpr fun c hc => ?_
  have h := List.all_eq_true.mp h1 c hc
  rcases Bool.eq_false_or_eq_true (isCode c) with hi | hi
  · exact h2 c (List.mem_filter.mpr ⟨hc, hi⟩)
  · simpa [hi] using h
set_option maxRecDepth 65536 in
theorem w_c0 : (Jvm.Cond.code x code maxLocals ret).before args0 about1 = true := code_word (m := ⟨1, 1⟩) (meth := k1m1) (c := k1c1) (by decide +kernel) rfl rfl rfl (by decide +kernel)
set_option maxRecDepth 65536 in
theorem w_c1 : (Jvm.Cond.code ({ cls := "com/example/corrib/corrib/lexicon/SenseWeights", name := "<init>", desc := "(I)V" } : Jvm.MethodName) prog_19_method_1_code (2 : Nat) (Option.none : Option Jvm.ClassFile.FieldType)).before args0 about1 = true := code_word (m := ⟨2, 0⟩) (meth := k2m0) (c := k2c0) (by decide +kernel) rfl rfl rfl (by decide +kernel)
set_option maxRecDepth 65536 in
theorem w_c2 : (Jvm.Cond.code ({ cls := "java/lang/Object", name := "<init>", desc := "()V" } : Jvm.MethodName) object_method_1_code (1 : Nat) (Option.none : Option Jvm.ClassFile.FieldType)).before args0 about1 = true := code_word (m := ⟨0, 0⟩) (meth := k0m0) (c := k0c0) (by decide +kernel) rfl rfl rfl (by decide +kernel)
set_option maxRecDepth 65536 in
theorem w_c3 : (Jvm.Cond.code ({ cls := "com/example/corrib/corrib/lexicon/SenseWeightsSortedPinLaw", name := "give", desc := "(Lcom/example/corrib/corrib/lexicon/SenseWeights;II)V" } : Jvm.MethodName) method_3_code (5 : Nat) (Option.none : Option Jvm.ClassFile.FieldType)).before args0 about1 = true := code_word (m := ⟨1, 2⟩) (meth := k1m2) (c := k1c2) (by decide +kernel) rfl rfl rfl (by decide +kernel)
set_option maxRecDepth 65536 in
theorem w_c4 : (Jvm.Cond.code ({ cls := "com/example/corrib/corrib/lexicon/SenseWeights", name := "set", desc := "(ID)V" } : Jvm.MethodName) prog_19_method_3_code (4 : Nat) (Option.none : Option Jvm.ClassFile.FieldType)).before args0 about1 = true := code_word (m := ⟨2, 2⟩) (meth := k2m2) (c := k2c2) (by decide +kernel) rfl rfl rfl (by decide +kernel)
set_option maxRecDepth 65536 in
theorem w_c5 : (Jvm.Cond.code ({ cls := "com/example/corrib/corrib/lexicon/SenseWeights", name := "give", desc := "(I)V" } : Jvm.MethodName) prog_19_method_5_code (2 : Nat) (Option.none : Option Jvm.ClassFile.FieldType)).before args0 about1 = true := code_word (m := ⟨2, 3⟩) (meth := k2m3) (c := k2c3) (by decide +kernel) rfl rfl rfl (by decide +kernel)
set_option maxRecDepth 65536 in
theorem w_c6 : (Jvm.Cond.code ({ cls := "com/example/corrib/corrib/lexicon/SenseWeights", name := "add", desc := "(ID)V" } : Jvm.MethodName) prog_19_method_2_code (4 : Nat) (Option.none : Option Jvm.ClassFile.FieldType)).before args0 about1 = true := code_word (m := ⟨2, 1⟩) (meth := k2m1) (c := k2c1) (by decide +kernel) rfl rfl rfl (by decide +kernel)
set_option maxRecDepth 65536 in
theorem w_c7 : (Jvm.Cond.code ({ cls := "com/example/corrib/corrib/lexicon/SenseWeights", name := "sorted", desc := "()[I" } : Jvm.MethodName) prog_19_method_9_code (4 : Nat) (Option.some (Jvm.ClassFile.FieldType.array Jvm.ClassFile.FieldType.int))).before args0 about1 = true := code_word (m := ⟨2, 4⟩) (meth := k2m4) (c := k2c4) (by decide +kernel) rfl rfl rfl (by decide +kernel)
set_option maxRecDepth 65536 in
theorem w_c8 : (Jvm.Cond.code ({ cls := "com/example/corrib/corrib/lexicon/SenseWeightsSortedPinLaw", name := "in", desc := "(IIIIIII)Z" } : Jvm.MethodName) method_4_code (7 : Nat) (Option.some Jvm.ClassFile.FieldType.boolean)).before args0 about1 = true := code_word (m := ⟨1, 3⟩) (meth := k1m3) (c := k1c3) (by decide +kernel) rfl rfl rfl (by decide +kernel)
def codes1 : List Jvm.Cond := [Jvm.Cond.code x code maxLocals ret, Jvm.Cond.code ({ cls := "com/example/corrib/corrib/lexicon/SenseWeights", name := "<init>", desc := "(I)V" } : Jvm.MethodName) prog_19_method_1_code (2 : Nat) (Option.none : Option Jvm.ClassFile.FieldType), Jvm.Cond.code ({ cls := "java/lang/Object", name := "<init>", desc := "()V" } : Jvm.MethodName) object_method_1_code (1 : Nat) (Option.none : Option Jvm.ClassFile.FieldType), Jvm.Cond.code ({ cls := "com/example/corrib/corrib/lexicon/SenseWeightsSortedPinLaw", name := "give", desc := "(Lcom/example/corrib/corrib/lexicon/SenseWeights;II)V" } : Jvm.MethodName) method_3_code (5 : Nat) (Option.none : Option Jvm.ClassFile.FieldType), Jvm.Cond.code ({ cls := "com/example/corrib/corrib/lexicon/SenseWeights", name := "set", desc := "(ID)V" } : Jvm.MethodName) prog_19_method_3_code (4 : Nat) (Option.none : Option Jvm.ClassFile.FieldType), Jvm.Cond.code ({ cls := "com/example/corrib/corrib/lexicon/SenseWeights", name := "give", desc := "(I)V" } : Jvm.MethodName) prog_19_method_5_code (2 : Nat) (Option.none : Option Jvm.ClassFile.FieldType), Jvm.Cond.code ({ cls := "com/example/corrib/corrib/lexicon/SenseWeights", name := "add", desc := "(ID)V" } : Jvm.MethodName) prog_19_method_2_code (4 : Nat) (Option.none : Option Jvm.ClassFile.FieldType), Jvm.Cond.code ({ cls := "com/example/corrib/corrib/lexicon/SenseWeights", name := "sorted", desc := "()[I" } : Jvm.MethodName) prog_19_method_9_code (4 : Nat) (Option.some (Jvm.ClassFile.FieldType.array Jvm.ClassFile.FieldType.int)), Jvm.Cond.code ({ cls := "com/example/corrib/corrib/lexicon/SenseWeightsSortedPinLaw", name := "in", desc := "(IIIIIII)Z" } : Jvm.MethodName) method_4_code (7 : Nat) (Option.some Jvm.ClassFile.FieldType.boolean)]
set_option maxRecDepth 65536 in
theorem codes_eq : words1.filter isCode = codes1 := rfl
theorem w_codes : ∀ c ∈ words1.filter isCode, c.before args0 about1 = true := by
  rw [codes_eq]
  intro c hc
  simp only [codes1, List.mem_cons, List.not_mem_nil, or_false] at hc
  rcases hc with rfl | rfl | rfl | rfl | rfl | rfl | rfl | rfl | rfl
  · exact w_c0
  · exact w_c1
  · exact w_c2
  · exact w_c3
  · exact w_c4
  · exact w_c5
  · exact w_c6
  · exact w_c7
  · exact w_c8
set_option maxRecDepth 65536 in
theorem w_t1 : (words1.take 24).all (fun c => isCode c || c.before args0 about1) = true := by decide +kernel
set_option maxRecDepth 65536 in
theorem w_t2 : (words1.drop 24).all (fun c => isCode c || c.before args0 about1) = true := by decide +kernel
theorem w_tables : (allAtoms (Jvm.Cond.code x code maxLocals ret :: tables_1)).before args0 about1 = true := by
  rw [allAtoms_all]
  show words1.all (fun c => c.before args0 about1) = true
  refine all_split ?_ w_codes
  rw [← List.take_append_drop 24 words1, List.all_append, w_t1, w_t2]
  rfl
set_option maxRecDepth 65536 in
theorem w_case : (Jvm.Cond.and given_1 narrow_1).before args0 about1 = true := by decide +kernel
theorem w_applies : (headSpec (Jvm.Cond.code x code maxLocals ret :: tables_1) room_1).applies x e0.platform about1 = true :=
  (Spec.applies_iff w_frames).mpr ⟨w_running, w_runnable, w_alone, w_named, w_hears, w_ripe, w_room, w_tables⟩
theorem atStart : AtStart classFile x code maxLocals ret World_1 tables_1 room_1 Calls_1 rest_1 Pre_1 launch0 p0 e0 about1 theMethod args0 below0 :=
  ⟨lists_1, trivial, launch0.admits_env _ _ _, launch0.least_env, fairChoices_fair.cas, fairChoices_fair.clock, w_frames, w_args, w_heap, w_applies, trivial, trivial, w_case⟩
end start1
theorem witness_1 : WitnessClaimed_1 := ⟨start1.p0, start1.e0, start1.about1, start1.theMethod, start1.args0, start1.below0, start1.atStart⟩
end Jvm.Pilot.@@N@@
