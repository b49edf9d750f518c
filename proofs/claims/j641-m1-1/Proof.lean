import JvmDerived
import JvmDerived.Pilot.@@N@@Statement
import JvmDerived.Pilot.@@N@@Code
set_option linter.unusedVariables false
set_option linter.unusedSimpArgs false
namespace Jvm.Pilot.@@N@@
open Jvm Jvm.ClassFile Sem Op Lib Jvm.Free Jvm.Stand Jvm.LawKit Jvm.RoadKit Bundle Jvm.Pilot.@@N@@.Jvm.D
/-- what a walk owes from a state on: the run comes to a state of which G speaks -/
def own_Go (p : Program) (e : Env) (below : List Frame) (A : State) (G : State → Prop) : Prop := ∃ B, (∀ t, Steps p.tables e below B t → Steps p.tables e below A t) ∧ G B
theorem own_via {p : Program} {e : Env} {below : List Frame} {A B : State} {G : State → Prop} (h : ∀ t, Steps p.tables e below B t → Steps p.tables e below A t) (k : own_Go p e below B G) : own_Go p e below A G := by
  obtain ⟨C, h1, h2⟩ := k
  exact ⟨C, fun t q => h t (h1 t q), h2⟩
theorem own_done {p : Program} {e : Env} {below : List Frame} {A : State} {G : State → Prop} (g : G A) : own_Go p e below A G := ⟨A, fun _ q => q, g⟩
theorem own_bind {p : Program} {e : Env} {below : List Frame} {A : State} {G G' : State → Prop} (h : own_Go p e below A G) (k : ∀ B, G B → own_Go p e below B G') : own_Go p e below A G' := by
  obtain ⟨B, h1, h2⟩ := h
  exact own_via h1 (k B h2)
/-- the method ends here -/
def own_End (p : Program) (e : Env) (below : List Frame) (s : State) (Q : Option Value → Heap → List Loc → Prop) (C S : Nat) (B : State) : Prop :=
  ∃ s₂ o, Steps p.tables e below B s₂ ∧ s₂.status = .running ∧ Ended s₂ below o ∧ ∃ v L, o = .returned v ∧ Q v s₂.heap L ∧ FrameEnd s o s₂ L C S
theorem own_body {p : Program} {e : Env} {below : List Frame} {s A A' : State} {Q : Option Value → Heap → List Loc → Prop} {C S : Nat} (q : ∀ t, Steps p.tables e below A t → Steps p.tables e below A' t) (h : own_Go p e below A (own_End p e below s Q C S)) :
    ∃ s₂ o, Steps p.tables e below A' s₂ ∧ s₂.status = .running ∧ Ended s₂ below o ∧ ∃ v L, o = .returned v ∧ Q v s₂.heap L ∧ FrameEnd s o s₂ L C S := by
  obtain ⟨B, h1, s₂, o, h2, h3⟩ := h
  exact ⟨s₂, o, q _ (h1 _ h2), h3⟩
section Leaf
variable {p : Program} {l : Launch} {e : Env} {R : Room} {s : State} {m : MethodId} {args : Array Value} {below : List Frame} {meth : Method} {c : Code} {T : State} {locs : List Loc} {cells slots : Nat}
theorem own_leaf (X : Stand p l e R s m args below meth c T locs cells slots) (hx : p.tables.exec = Jvm.exec) (hlk : meth.locks = false) {pc : Nat} {Ls : Array Slot} {w : Value} {t : FieldType} {i : Instr} {rest : List Value} (hret : meth.sig.returnType = some t) (hn : narrow t w = w)
    (hi : (i = .ireturn ∧ (t = .int ∨ t = .boolean ∨ t = .byte ∨ t = .char ∨ t = .short) ∧ ∃ z, w = .int z) ∨ (i = .lreturn ∧ t = .long ∧ ∃ z, w = .long z) ∨ (i = .dreturn ∧ t = .double ∧ ∃ z, w = .double z) ∨ (i = .freturn ∧ t = .float ∧ ∃ z, w = .float z) ∨ (i = .areturn ∧ t.isReference = true ∧ w.isRef = true))
    (hd : decode c.code pc = .ok (i, 1)) {Q : Option Value → Heap → List Loc → Prop} {C S : Nat} (hC : cells ≤ C) (hS : slots ≤ S) (hq : Q (some w) T.heap locs) : own_Go p e below (T.setTop (mkF m pc Ls (w :: rest))) (own_End p e below s Q C S) := by
  obtain ⟨fs, hr, hrun, hended, hW, hsame⟩ := X.leave (v := some w) (fun h => by rw [hret] at h; cases h) hlk
  exact own_done ⟨_, _, retOut X hx hret hn hi hd hr, hrun, hended, _, _, rfl, hq, ⟨_, rfl⟩, hW, hsame.mono hC hS⟩
theorem own_leafV (X : Stand p l e R s m args below meth c T locs cells slots) (hx : p.tables.exec = Jvm.exec) (hlk : meth.locks = false) {pc : Nat} {Ls : Array Slot} (hret : meth.sig.returnType = none)
    (hd : decode c.code pc = .ok (.return_, 1)) {Q : Option Value → Heap → List Loc → Prop} {C S : Nat} (hC : cells ≤ C) (hS : slots ≤ S) (hq : Q none T.heap locs) : own_Go p e below (T.setTop (mkF m pc Ls [])) (own_End p e below s Q C S) := by
  obtain ⟨fs, hr, hrun, hended, hW, hsame⟩ := X.leave (v := none) (fun _ => rfl) hlk
  exact own_done ⟨_, _, X.returnOut hx hret hd hr, hrun, hended, _, _, rfl, hq, ⟨_, rfl⟩, hW, hsame.mono hC hS⟩
theorem own_getFR {Z : State} {a0 : Array Value} {h : Heap} (X : Stand p l e R s m args below meth c T locs cells slots) (hx : p.tables.exec = Jvm.exec) (hZ : Z.Warmed39 s.vm) {own R0 O n d : String} {index : Nat} (hown : s.vm.findClass own = some m.cls) (w : (Cond.fieldRef own index R0 n d).before a0 Z = true) (via : Via Z R0 O n d)
    (eT : T.heap = h) {a : Addr} {v : Value} (F : Fld Z h a O n d v) {g : JFrame} (hg : g.method = m) {rest : List Value} (hs : g.stack = .ref a :: rest) (hd : decode c.code g.pc = .ok (.getfield index, 3)) : ∃ T', Stand p l e R s m args below meth c T' locs cells slots ∧ T'.heap = h ∧ ∀ target, Steps p.tables e below (T'.setTop { g with pc := g.pc + 3, stack := v :: rest }) target → Steps p.tables e below (T.setTop g) target := by
  obtain ⟨cell, cf, k, i, f, h1, h2, h3, h4, -, -, h7⟩ := F
  have hW : Z.Warmed39 T.vm := wtrans hZ X.warmed
  have w1 := Cond.fieldRef_warmed39 hW w
  obtain ⟨c', k', i', f', hi, hr⟩ := Cond.fieldRef_spec (cur := m.cls) (show (Z.setVm T.vm).vm.findClass own = some m.cls by show T.vm.findClass own = _; rw [X.warmed.alike.findClass]; exact hown) w1
  obtain ⟨k'', hi', -⟩ := State.fieldFound?_setVm (s := Z) hW.alike (via _ h2)
  cases hi.symm.trans hi'
  refine ⟨T, X, eT, fun target hrest => ?_⟩
  subst hg
  jvm_step X.here [hx, hd, getfield.wp_ready (e := e) (s := T) (f := g) X.here.top hr h3 hs (by rw [eT]; exact h1) h4 h7]
  exact hrest
def own_EndW (p : Program) (e : Env) (below : List Frame) (s : State) (Q : Option Value → Heap → List Loc → Prop) (C S : Nat) (B : State) : Prop :=
  ∃ s₂ o, Steps p.tables e below B s₂ ∧ s₂.status = .running ∧ Ended s₂ below o ∧ ∃ v L, o = .returned v ∧ Q v s₂.heap L ∧ ReturnedEndW s o s₂ L C S
theorem own_bodyW {A A' : State} {Q : Option Value → Heap → List Loc → Prop} {C S : Nat} (q : ∀ t, Steps p.tables e below A t → Steps p.tables e below A' t) (h : own_Go p e below A (own_EndW p e below s Q C S)) :
    ∃ s₂ o, Steps p.tables e below A' s₂ ∧ s₂.status = .running ∧ Ended s₂ below o ∧ ∃ v L, o = .returned v ∧ Q v s₂.heap L ∧ ReturnedEndW s o s₂ L C S := by
  obtain ⟨B, h1, s₂, o, h2, h3⟩ := h
  exact ⟨s₂, o, q _ (h1 _ h2), h3⟩
theorem own_leafW {vm₁ : Vm} (X : Stand p l e R (s.setVm vm₁) m args below meth c T locs cells slots) (hx : p.tables.exec = Jvm.exec) (hlk : meth.locks = false) {n : Nat} (hS : s.Since vm₁ n) (hk : n ≤ T.heap.size) {pc : Nat} {Ls : Array Slot} {w : Value} {t : FieldType} {i : Instr} {rest : List Value} (hret : meth.sig.returnType = some t) (hn : narrow t w = w)
    (hi : (i = .ireturn ∧ (t = .int ∨ t = .boolean ∨ t = .byte ∨ t = .char ∨ t = .short) ∧ ∃ z, w = .int z) ∨ (i = .lreturn ∧ t = .long ∧ ∃ z, w = .long z) ∨ (i = .dreturn ∧ t = .double ∧ ∃ z, w = .double z) ∨ (i = .freturn ∧ t = .float ∧ ∃ z, w = .float z) ∨ (i = .areturn ∧ t.isReference = true ∧ w.isRef = true))
    (hd : decode c.code pc = .ok (i, 1)) {Q : Option Value → Heap → List Loc → Prop} {C S : Nat} (hC : cells ≤ C) (hS' : slots ≤ S) (hq : Q (some w) T.heap locs) : own_Go p e below (T.setTop (mkF m pc Ls (w :: rest))) (own_EndW p e below s Q C S) := by
  obtain ⟨fs, hr, hrun, hended, h1, h2, h3, hsame⟩ := X.leaveW hS hk (v := some w) (fun h => by rw [hret] at h; cases h) hlk
  exact own_done ⟨_, _, retOut X hx hret hn hi hd hr, hrun, hended, _, _, rfl, hq, h1, h2, h3, hsame.mono hC hS'⟩
theorem own_leafVW {vm₁ : Vm} (X : Stand p l e R (s.setVm vm₁) m args below meth c T locs cells slots) (hx : p.tables.exec = Jvm.exec) (hlk : meth.locks = false) {n : Nat} (hS : s.Since vm₁ n) (hk : n ≤ T.heap.size) {pc : Nat} {Ls : Array Slot} (hret : meth.sig.returnType = none)
    (hd : decode c.code pc = .ok (.return_, 1)) {Q : Option Value → Heap → List Loc → Prop} {C S : Nat} (hC : cells ≤ C) (hS' : slots ≤ S) (hq : Q none T.heap locs) : own_Go p e below (T.setTop (mkF m pc Ls [])) (own_EndW p e below s Q C S) := by
  obtain ⟨fs, hr, hrun, hended, h1, h2, h3, hsame⟩ := X.leaveW hS hk (v := none) (fun _ => rfl) hlk
  exact own_done ⟨_, _, X.returnOut hx hret hd hr, hrun, hended, _, _, rfl, hq, h1, h2, h3, hsame.mono hC hS'⟩
def own_bit (P : Prop) [Decidable P] : Int32 := if P then 1 else 0
theorem own_bit01 (P : Prop) [Decidable P] : own_bit P = 0 ∨ own_bit P = 1 := by unfold own_bit; split <;> simp
theorem own_bitT {P : Prop} [Decidable P] (h : P) : own_bit P = 1 := if_pos h
theorem own_bitF {P : Prop} [Decidable P] (h : ¬ P) : own_bit P = 0 := if_neg h
theorem own_bit0 {P : Prop} [Decidable P] : own_bit P = 0 ↔ ¬ P := by unfold own_bit; split <;> simp_all
theorem own_bit1 {P : Prop} [Decidable P] : own_bit P = 1 ↔ P := by unfold own_bit; split <;> simp_all
theorem own_bits {P P' : Prop} [Decidable P] [Decidable P'] (h : P ↔ P') : own_bit P = own_bit P' := by unfold own_bit; simp [h]
theorem own_lt (x y : Int32) : x < y ↔ x.toInt < y.toInt := Int32.lt_iff_toInt_lt
theorem own_eq (x y : Int32) : x = y ↔ x.toInt = y.toInt := Int32.toInt_inj.symm
theorem own_ltL (x y : Int64) : x < y ↔ x.toInt < y.toInt := Int64.lt_iff_toInt_lt
theorem own_eqL (x y : Int64) : x = y ↔ x.toInt = y.toInt := Int64.toInt_inj.symm
theorem own_mask (x : Int32) : 0 ≤ (x &&& (2147483647 : Int32)).toInt := by
  have h : (x &&& (2147483647 : Int32)).toBitVec.msb = false := by
    show (x.toBitVec &&& 2147483647#32).msb = false
    have e : (2147483647#32).msb = false := by decide
    rw [BitVec.msb_and, e]; simp
  have := BitVec.toInt_eq_msb_cond (x &&& (2147483647 : Int32)).toBitVec
  rw [h] at this
  show 0 ≤ (x &&& (2147483647 : Int32)).toBitVec.toInt
  rw [this]
  simp only [Bool.false_eq_true, if_false]
  exact Int.natCast_nonneg _
theorem own_modm (x m : Int32) (hm : 0 < m.toInt) : 0 ≤ ((x &&& (2147483647 : Int32)) % m).toInt ∧ ((x &&& (2147483647 : Int32)) % m).toInt < m.toInt := by
  have h := own_mask x
  rw [Int32.toInt_mod, Int.tmod_eq_emod_of_nonneg h]
  exact ⟨Int.emod_nonneg _ (by omega), Int.emod_lt_of_pos _ hm⟩
theorem own_fb {x : Int32} (h : x = 0 ∨ x = 1) : fits .boolean (.int x) = true := by rcases h with rfl | rfl <;> decide
theorem own_eqI {t : Term} {k : Int32} {args : Array Value} {s : State} (h : (Cond.eq t (Term.int k)).value args s none s [] = some true) : t.eval args s none [] s = some (.int k) := by
  simp only [Cond.value] at h
  have hn : (Term.int k).eval args s none [] s = some (.int k) := rfl
  rw [hn] at h
  cases ht : t.eval args s none [] s with
  | none => simp [ht] at h
  | some v => cases v <;> simp [ht] at h ⊢ <;> first | exact h | (exact h.elim) | simp_all
theorem own_eqJ {t : Term} {k : Int64} {args : Array Value} {s : State} (h : (Cond.eq t (Term.long k)).value args s none s [] = some true) : t.eval args s none [] s = some (.long k) := by
  simp only [Cond.value] at h
  have hn : (Term.long k).eval args s none [] s = some (.long k) := rfl
  rw [hn] at h
  cases ht : t.eval args s none [] s with
  | none => simp [ht] at h
  | some v => cases v <;> simp [ht] at h ⊢ <;> first | exact h | (exact h.elim) | simp_all
theorem own_b1 {x : Int32} (h : x = 0 ∨ x = 1) : narrow .boolean (.int x) = .int x := by rcases h with rfl | rfl <;> rfl
end Leaf

def own_mx (x y : Int32) : Int32 := if x < y then y else x
def own_pick (p : Int32) (w0 w1 w2 : Addr) : Addr := if p = 0 then w0 else if p = 1 then w1 else w2
def own_E (Z : State) (h : Heap) (w : Addr) (n : String) : Prop := Sta Z h "com/example/fenceline/fenceline/litmus/Instruction$Fence" n "Lcom/example/fenceline/fenceline/litmus/Instruction$Fence;" (.ref w) ∧ Exa Z h w "com/example/fenceline/fenceline/litmus/Instruction$Fence"
def own_All (Z : State) (h : Heap) (w0 w1 w2 : Addr) : Prop := own_E Z h w0 "MFENCE" ∧ own_E Z h w1 "SFENCE" ∧ own_E Z h w2 "LFENCE"
theorem own_at {Z : State} {h : Heap} {w0 w1 w2 : Addr} (A : own_All Z h w0 w1 w2) (p : Int32) : Exa Z h (own_pick p w0 w1 w2) "com/example/fenceline/fenceline/litmus/Instruction$Fence" := by
  obtain ⟨A0, A1, A2⟩ := A
  unfold own_pick
  (repeat' split) <;> first | exact A0.2 | exact A1.2 | exact A2.2
def own_No (Z : State) (C K : String) : Prop := ∃ c t, Z.vm.findClass C = some c ∧ Z.vm.findClass K = some t ∧ Z.vm.assignable c t = false
/-- a class whose chain of superclasses doesn't meet an instantiable class isn't assignable to it -/
theorem own_no {Z : State} {a0 : Array Value} {C S K : String} {n : Nat} (w : (Cond.superclass C S).before a0 Z = true) (wk : (Cond.instantiable K n).before a0 Z = true) (N : NS Z C K) (hn : C ≠ K) : own_No Z C K := by
  obtain ⟨c, t, h0, g0, n3⟩ := N
  obtain ⟨p, k, kp, h1, h2, h3, h4, h5, -, h7⟩ := Cond.superclass_spec h0 w
  obtain ⟨t', k', g1, g2, g3, g4, -⟩ := Cond.instantiable_spec wk
  cases g0.symm.trans g1
  have ne := ids_ne h0 g0 hn
  refine ⟨c, t, h0, g0, ?_⟩
  simp only [Bool.or_eq_false_iff] at g4
  show Z.vm.assignableAux (255 + 1) c t = false
  simp [Vm.assignableAux, ne, h2, g2, h5, g3, g4.1, Vm.isSubclass, n3]
theorem own_root {Z : State} {a0 : Array Value} {O K : String} {n : Nat} (w : (Cond.noSuperclass O).before a0 Z = true) (wk : (Cond.instantiable K n).before a0 Z = true) (hn : O ≠ K) : NS Z O K := by
  obtain ⟨c, k, h1, h2, h3, -, -⟩ := Cond.noSuperclass_spec w
  obtain ⟨t, k', g1, -⟩ := Cond.instantiable_spec wk
  have ne := ids_ne h1 g1 hn
  refine ⟨c, t, h1, g1, fun fuel => ?_⟩
  cases fuel with
  | zero => rfl
  | succ f => simp [Vm.isSubclassAux, ne, h2, h3]
theorem own_nn (x : Int32) : ¬ (x &&& (2147483647 : Int32)) < 0 := by
  have := own_mask x
  rw [own_lt]; have e : (0 : Int32).toInt = 0 := by decide
  omega
theorem own_m1 (y : Int32) : ¬ own_mx 1 y < 1 := by
  unfold own_mx; split
  · rename_i h; rw [own_lt] at h ⊢; omega
  · rw [own_lt]; omega

theorem own_len {s : State} {args : Array Value} {t : Term} {a : Addr} {cl : Cell} {ty : FieldType} (ev : t.eval args s none [] s = some (.ref a)) (A : Arr s s.heap a cl ty) (h : (Cond.eq (Term.length t) (Term.int 256)).before args s = true) : cl.slots.size = 256 := by
  obtain ⟨hb, he⟩ := Jvm.Free.IntBox.length_fwd h ev A.1 A.2.1 A.2.2
  have h1 := len_toInt hb
  rw [he] at h1
  have e : (256 : Int32).toInt = 256 := by decide
  omega
theorem own_all {s : State} {args : Array Value} {C n d : String} {a : Addr} {cl : Cell} (ev : (Term.static C n d).eval args s none [] s = some (.ref a)) (A : Arr s s.heap a cl (.object "java/lang/Integer")) (hsz : cl.slots.size = 256) {D : Cond} (h : (Cond.all (Term.static C n d) (Cond.and (Cond.exactly (Term.elem (Term.static C n d) (Term.index 0)) "java/lang/Integer") D)).before args s = true) : ∀ i : Nat, i < 256 → ∃ r, cl.slots[i]? = some (.ref r) ∧ Exa s s.heap r "java/lang/Integer" := by
  intro i hi
  have hat := Jvm.Free.IntBox.arrayAt_of A.1 A.2.1 A.2.2
  have hj := Cond.all_elim ev hat (Cond.before_iff.mp h) i (by rw [hsz]; exact hi)
  obtain ⟨h1, -⟩ := and_e hj
  obtain ⟨r, er⟩ := exa_v h1
  have ei : (Term.index 0).eval args s none [i] s = some (.int i.toInt32) := Term.index_eval _
  obtain ⟨-, e2⟩ := elem_in (x := a) (j := i.toInt32) (cl := cl) er ev ei A.1
  rw [(Jvm.Free.IntBox.place_nonneg i hi).2] at e2
  exact ⟨r, e2, exa_at er h1⟩
theorem own_d1_0 : decode jdk_29_method_65_code 0 = .ok (.iload_n 0, 1) := by decide +kernel
theorem own_d1_1 : decode jdk_29_method_65_code 1 = .ok (.iload_n 1, 1) := by decide +kernel
theorem own_d1_2 : decode jdk_29_method_65_code 2 = .ok (.if_icmp .lt 7, 3) := by decide +kernel
theorem own_d1_5 : decode jdk_29_method_65_code 5 = .ok (.iload_n 0, 1) := by decide +kernel
theorem own_d1_6 : decode jdk_29_method_65_code 6 = .ok (.goto 4, 3) := by decide +kernel
theorem own_d1_9 : decode jdk_29_method_65_code 9 = .ok (.iload_n 1, 1) := by decide +kernel
theorem own_d1_10 : decode jdk_29_method_65_code 10 = .ok (.ireturn, 1) := by decide +kernel
theorem own_ef1 (m : MethodId) (x0 : Int32) (x1 : Int32) : entryFrame m #[(.int x0), (.int x1)] 2 = mkF m 0 #[.val (.int x0), .val (.int x1)] [] := by first | (simp [entryFrame, mkF, argsToLocals, Value.category]; done) | rfl
def Q1 (Z : State) (x1 : Int32) (y1 : Int32) (h0 : Heap) (n0 : Nat) (v : Option Value) (h : Heap) (L : List Loc) : Prop := v = some (.int (own_mx x1 y1)) ∧ Fr n0 L ∧ h = h0
set_option maxRecDepth 65536 in
set_option maxHeartbeats 40000000 in
theorem rm1 (l : Launch) (Z : State) (a0 : Array Value) (hw : ∀ d ∈ tables_1, d.before a0 Z = true) (ws : List Jvm.Cond) (x1 : Int32) (y1 : Int32) (h0 : Heap) (n0 : Nat) (Z0 : n0 ≤ h0.size) :
    MetFree l (⟨"java/lang/Math", "max", "(II)I"⟩ : MethodName) (head1 (Jvm.Cond.code (⟨"java/lang/Math", "max", "(II)I"⟩ : MethodName) jdk_29_method_65_code 2 (some .int) :: ws) ({ frames := 0, cells := 0, slots := 0, locals := 0 } : Room)) (fun a U => a = #[(.int x1), (.int y1)] ∧ Z.Warmed39 U.vm ∧ U.heap = h0) (fun _ _ _ _ _ => True) (fun _ U o U' => ∃ v L, o = .returned v ∧ Q1 Z x1 y1 h0 n0 v U'.heap L ∧ FrameEnd U o U' L ({ frames := 0, cells := 0, slots := 0, locals := 0 } : Room).cells ({ frames := 0, cells := 0, slots := 0, locals := 0 } : Room).slots) := by
  refine MetFree.of_bodySF (Jvm.Free.JP.mathPlain rfl (by decide +kernel)) hisR ?_
  intro p e s m args below meth c s₁ Bd hml0 hP hK
  obtain ⟨rfl, hZ, hh⟩ := hP
  have hx := Bd.exec
  have hby := Bd.bytes
  have hlk : meth.locks = false := Bd.notSynchronized
  have hml : c.maxLocals = 2 := hml0
  have hown : s.vm.findClass "java/lang/Math" = some m.cls := findClass_of_methodNamed Bd.named
  have hnm := (name_of_methodNamed Bd.named Bd.method).1
  have X0 : Stand p l e ({ frames := 0, cells := 0, slots := 0, locals := 0 } : Room) s m #[(.int x1), (.int y1)] below meth c s₁ [] 0 0 := Stand.of_body Bd
  have e0 : s₁.heap = h0 := by rw [← hh, Bd.state]; rfl
  have N0 := Fr.nil n0
  refine own_body (A := s₁.setTop (mkF m 0 #[.val (.int x1), .val (.int y1)] [])) (Q := Q1 Z x1 y1 h0 n0) (fun t k => castTop (own_ef1 m x1 y1) k) ?_
  refine own_via (B := s₁.setTop (mkF m 1 #[.val (.int x1), .val (.int y1)] [(.int x1)])) (fun t k => XS.iloadN X0.here hx rfl (hb hby own_d1_0) rfl k) ?_
  refine own_via (B := s₁.setTop (mkF m 2 #[.val (.int x1), .val (.int y1)] [(.int y1), (.int x1)])) (fun t k => XS.iloadN X0.here hx rfl (hb hby own_d1_1) rfl k) ?_
  refine own_bind (G := fun B => ∃ (T' : State) (L' : List Loc) (v2s0 : Int32), Fr n0 L' ∧ (((x1 < y1) ∧ v2s0 = y1) ∨ ((¬ (x1 < y1)) ∧ v2s0 = x1)) ∧ B = T'.setTop (mkF m 10 #[.val (.int x1), .val (.int y1)] [(.int v2s0)]) ∧ Stand p l e ({ frames := 0, cells := 0, slots := 0, locals := 0 } : Room) s m #[(.int x1), (.int y1)] below meth c T' L' 0 0 ∧ T'.heap = h0) ?_ ?_
  · by_cases hc2 : x1 < y1
    · refine own_via (B := s₁.setTop (mkF m 9 #[.val (.int x1), .val (.int y1)] [])) (fun t k => XS.icmpYes X0.here hx rfl (pc0 := 2) (pc' := 9) rfl (hb hby own_d1_2) rfl (tlt hc2).1 (by decide) (by decide) k) ?_
      refine own_via (B := s₁.setTop (mkF m 10 #[.val (.int x1), .val (.int y1)] [(.int y1)])) (fun t k => XS.iloadN X0.here hx rfl (hb hby own_d1_9) rfl k) ?_
      exact own_done ⟨_, _, _, N0, (Or.inl ⟨hc2, rfl⟩), rfl, X0, e0⟩
    · refine own_via (B := s₁.setTop (mkF m 5 #[.val (.int x1), .val (.int y1)] [])) (fun t k => XS.icmpNo X0.here hx rfl (hb hby own_d1_2) rfl (flt hc2).1 k) ?_
      refine own_via (B := s₁.setTop (mkF m 6 #[.val (.int x1), .val (.int y1)] [(.int x1)])) (fun t k => XS.iloadN X0.here hx rfl (hb hby own_d1_5) rfl k) ?_
      refine own_via (B := s₁.setTop (mkF m 10 #[.val (.int x1), .val (.int y1)] [(.int x1)])) (fun t k => XS.goto X0.here hx rfl (pc0 := 6) (pc' := 10) rfl (hb hby own_d1_6) (by decide) (by decide) k) ?_
      exact own_done ⟨_, _, _, N0, (Or.inr ⟨hc2, rfl⟩), rfl, X0, e0⟩
  · rintro B ⟨T1, L1, v2s0, N1, hv2, rfl, X1, e1⟩
    refine own_leaf X1 hx hlk (t := .int) Bd.returns rfl (Or.inl ⟨rfl, by simp, _, rfl⟩) (hb hby own_d1_10) (by decide) (by decide) ?_
    show Q1 Z x1 y1 h0 n0 _ T1.heap _
    rw [e1]
    refine ⟨?_, N1, rfl⟩
    rcases hv2 with ⟨h, rfl⟩ | ⟨h, rfl⟩ <;> simp [own_mx, h]
theorem own_pn0 : plainName "com/example/fenceline/fenceline/litmus/PlacedFenceEqualsPinLaw" = true := by first | (simp [plainName, overriddenIn]; done) | decide +kernel
theorem own_d2_0 : decode method_2_code 0 = .ok (.iload_n 0, 1) := by decide +kernel
theorem own_d2_1 : decode method_2_code 1 = .ok (.ldc 7, 2) := by decide +kernel
theorem own_d2_3 : decode method_2_code 3 = .ok (.iand, 1) := by decide +kernel
theorem own_d2_4 : decode method_2_code 4 = .ok (.iconst 3, 1) := by decide +kernel
theorem own_d2_5 : decode method_2_code 5 = .ok (.irem, 1) := by decide +kernel
theorem own_d2_6 : decode method_2_code 6 = .ok (.istore_n 1, 1) := by decide +kernel
theorem own_d2_7 : decode method_2_code 7 = .ok (.iload_n 1, 1) := by decide +kernel
theorem own_d2_8 : decode method_2_code 8 = .ok (.ifCond .ne 7, 3) := by decide +kernel
theorem own_d2_11 : decode method_2_code 11 = .ok (.getstatic 8, 3) := by decide +kernel
theorem own_d2_14 : decode method_2_code 14 = .ok (.areturn, 1) := by decide +kernel
theorem own_d2_15 : decode method_2_code 15 = .ok (.iload_n 1, 1) := by decide +kernel
theorem own_d2_16 : decode method_2_code 16 = .ok (.iconst 1, 1) := by decide +kernel
theorem own_d2_17 : decode method_2_code 17 = .ok (.if_icmp .ne 7, 3) := by decide +kernel
theorem own_d2_20 : decode method_2_code 20 = .ok (.getstatic 14, 3) := by decide +kernel
theorem own_d2_23 : decode method_2_code 23 = .ok (.areturn, 1) := by decide +kernel
theorem own_d2_24 : decode method_2_code 24 = .ok (.getstatic 17, 3) := by decide +kernel
theorem own_d2_27 : decode method_2_code 27 = .ok (.areturn, 1) := by decide +kernel
theorem own_ef2 (m : MethodId) (x0 : Int32) : entryFrame m #[(.int x0)] 2 = mkF m 0 #[.val (.int x0), .unset] [] := by first | (simp [entryFrame, mkF, argsToLocals, Value.category]; done) | rfl
def Q2 (Z : State) (p2 : Int32) (w0 : Addr) (w1 : Addr) (w2 : Addr) (h0 : Heap) (n0 : Nat) (v : Option Value) (h : Heap) (L : List Loc) : Prop := v = some (.ref (own_pick ((p2 &&& (2147483647 : Int32)) % (3 : Int32)) w0 w1 w2)) ∧ Fr n0 L ∧ h = h0 ∧ (Exa Z h0 (own_pick ((p2 &&& (2147483647 : Int32)) % (3 : Int32)) w0 w1 w2) "com/example/fenceline/fenceline/litmus/Instruction$Fence")
set_option maxRecDepth 65536 in
set_option maxHeartbeats 40000000 in
theorem rm2 (l : Launch) (Z : State) (a0 : Array Value) (hw : ∀ d ∈ tables_1, d.before a0 Z = true) (ws : List Jvm.Cond) (p2 : Int32) (w0 : Addr) (w1 : Addr) (w2 : Addr) (h0 : Heap) (n0 : Nat) (Z0 : n0 ≤ h0.size) (hall : own_All Z Z.heap w0 w1 w2) (O0 : Old Z n0 h0) :
    MetFree l (⟨"com/example/fenceline/fenceline/litmus/PlacedFenceEqualsPinLaw", "fenceOf", "(I)Lcom/example/fenceline/fenceline/litmus/Instruction$Fence;"⟩ : MethodName) (head1 (Jvm.Cond.code (⟨"com/example/fenceline/fenceline/litmus/PlacedFenceEqualsPinLaw", "fenceOf", "(I)Lcom/example/fenceline/fenceline/litmus/Instruction$Fence;"⟩ : MethodName) method_2_code 2 (some (.object "com/example/fenceline/fenceline/litmus/Instruction$Fence")) :: ws) ({ frames := 0, cells := 0, slots := 0, locals := 0 } : Room)) (fun a U => a = #[(.int p2)] ∧ Z.Warmed39 U.vm ∧ U.heap = h0) (fun _ _ _ _ _ => True) (fun _ U o U' => ∃ v L, o = .returned v ∧ Q2 Z p2 w0 w1 w2 h0 n0 v U'.heap L ∧ FrameEnd U o U' L ({ frames := 0, cells := 0, slots := 0, locals := 0 } : Room).cells ({ frames := 0, cells := 0, slots := 0, locals := 0 } : Room).slots) := by
  refine MetFree.of_bodySF (plainFor_of_name own_pn0) hisR ?_
  intro p e s m args below meth c s₁ Bd hml0 hP hK
  obtain ⟨rfl, hZ, hh⟩ := hP
  have hx := Bd.exec
  have hby := Bd.bytes
  have hlk : meth.locks = false := Bd.notSynchronized
  have hml : c.maxLocals = 2 := hml0
  have hown : s.vm.findClass "com/example/fenceline/fenceline/litmus/PlacedFenceEqualsPinLaw" = some m.cls := findClass_of_methodNamed Bd.named
  have hnm := (name_of_methodNamed Bd.named Bd.method).1
  have X0 : Stand p l e ({ frames := 0, cells := 0, slots := 0, locals := 0 } : Room) s m #[(.int p2)] below meth c s₁ [] 0 0 := Stand.of_body Bd
  have e0 : s₁.heap = h0 := by rw [← hh, Bd.state]; rfl
  have N0 := Fr.nil n0
  refine own_body (A := s₁.setTop (mkF m 0 #[.val (.int p2), .unset] [])) (Q := Q2 Z p2 w0 w1 w2 h0 n0) (fun t k => castTop (own_ef2 m p2) k) ?_
  have hall' := hall
  obtain ⟨A0, A1, A2⟩ := hall'
  refine own_via (B := s₁.setTop (mkF m 1 #[.val (.int p2), .unset] [(.int p2)])) (fun t k => XS.iloadN X0.here hx rfl (hb hby own_d2_0) rfl k) ?_
  refine own_via (B := s₁.setTop (mkF m 3 #[.val (.int p2), .unset] [(.int (2147483647 : Int32)), (.int p2)])) (fun t k => X0.ldcInt hx hown (mvT hZ (hw _ (List.mem_of_getElem? (i := 0) rfl))) (g := (mkF m 1 #[.val (.int p2), .unset] [(.int p2)])) rfl (hb hby own_d2_1) _ k) ?_
  refine own_via (B := s₁.setTop (mkF m 4 #[.val (.int p2), .unset] [(.int (p2 &&& (2147483647 : Int32)))])) (fun t k => XS.iand X0.here hx rfl (hb hby own_d2_3) rfl k) ?_
  refine own_via (B := s₁.setTop (mkF m 5 #[.val (.int p2), .unset] [(.int (3 : Int32)), (.int (p2 &&& (2147483647 : Int32)))])) (fun t k => XS.iconst X0.here hx rfl (hb hby own_d2_4) k) ?_
  refine own_via (B := s₁.setTop (mkF m 6 #[.val (.int p2), .unset] [(.int ((p2 &&& (2147483647 : Int32)) % (3 : Int32)))])) (fun t k => iremM X0 hx rfl (hb hby own_d2_5) rfl (by decide) k) ?_
  refine own_via (B := s₁.setTop (mkF m 7 #[.val (.int p2), .val (.int ((p2 &&& (2147483647 : Int32)) % (3 : Int32)))] [])) (fun t k => XS.istoreN X0.here hx rfl (hb hby own_d2_6) rfl (l' := #[.val (.int p2), .val (.int ((p2 &&& (2147483647 : Int32)) % (3 : Int32)))]) rfl k) ?_
  generalize hs6 : ((p2 &&& (2147483647 : Int32)) % (3 : Int32)) = s6
  refine own_via (B := s₁.setTop (mkF m 8 #[.val (.int p2), .val (.int s6)] [(.int s6)])) (fun t k => XS.iloadN X0.here hx rfl (hb hby own_d2_7) rfl k) ?_
  by_cases hc8 : s6 = (0 : Int32)
  · refine own_via (B := s₁.setTop (mkF m 11 #[.val (.int p2), .val (.int s6)] [])) (fun t k => XS.ifNo X0.here hx rfl (hb hby own_d2_8) rfl ((if0 _ _).trans (teq hc8).2) k) ?_
    obtain ⟨T1, X1, e1, st1⟩ := getS2 X0 hx hZ hown (host := "") (Or.inl (hw _ (List.mem_of_getElem? (i := 9) rfl))) Via.refl e0 (A0.1.ext O0.2) (g := (mkF m 11 #[.val (.int p2), .val (.int s6)] [])) rfl (hb hby own_d2_11)
    refine own_via (B := T1.setTop (mkF m 14 #[.val (.int p2), .val (.int s6)] [(.ref w0)])) (fun t k => st1 t k) ?_
    refine own_leaf X1 hx hlk (t := (.object "com/example/fenceline/fenceline/litmus/Instruction$Fence")) Bd.returns rfl (Or.inr (Or.inr (Or.inr (Or.inr ⟨rfl, rfl, rfl⟩)))) (hb hby own_d2_14) (by decide) (by decide) ?_
    show Q2 Z p2 w0 w1 w2 h0 n0 _ T1.heap _
    rw [e1]
    refine ⟨?_, N0, rfl, (own_at hall _).ext O0.2⟩
    simp [own_pick, hs6, hc8]
  · refine own_via (B := s₁.setTop (mkF m 15 #[.val (.int p2), .val (.int s6)] [])) (fun t k => XS.ifYes X0.here hx rfl (pc0 := 8) (pc' := 15) rfl (hb hby own_d2_8) rfl ((if0 _ _).trans (feq hc8).2) (by decide) (by decide) k) ?_
    refine own_via (B := s₁.setTop (mkF m 16 #[.val (.int p2), .val (.int s6)] [(.int s6)])) (fun t k => XS.iloadN X0.here hx rfl (hb hby own_d2_15) rfl k) ?_
    refine own_via (B := s₁.setTop (mkF m 17 #[.val (.int p2), .val (.int s6)] [(.int (1 : Int32)), (.int s6)])) (fun t k => XS.iconst X0.here hx rfl (hb hby own_d2_16) k) ?_
    by_cases hc17 : s6 = (1 : Int32)
    · refine own_via (B := s₁.setTop (mkF m 20 #[.val (.int p2), .val (.int s6)] [])) (fun t k => XS.icmpNo X0.here hx rfl (hb hby own_d2_17) rfl (teq hc17).2 k) ?_
      obtain ⟨T2, X2, e2, st2⟩ := getS2 X0 hx hZ hown (host := "") (Or.inl (hw _ (List.mem_of_getElem? (i := 63) rfl))) Via.refl e0 (A1.1.ext O0.2) (g := (mkF m 20 #[.val (.int p2), .val (.int s6)] [])) rfl (hb hby own_d2_20)
      refine own_via (B := T2.setTop (mkF m 23 #[.val (.int p2), .val (.int s6)] [(.ref w1)])) (fun t k => st2 t k) ?_
      refine own_leaf X2 hx hlk (t := (.object "com/example/fenceline/fenceline/litmus/Instruction$Fence")) Bd.returns rfl (Or.inr (Or.inr (Or.inr (Or.inr ⟨rfl, rfl, rfl⟩)))) (hb hby own_d2_23) (by decide) (by decide) ?_
      show Q2 Z p2 w0 w1 w2 h0 n0 _ T2.heap _
      rw [e2]
      refine ⟨?_, N0, rfl, (own_at hall _).ext O0.2⟩
      simp [own_pick, hs6, hc8, hc17]
    · refine own_via (B := s₁.setTop (mkF m 24 #[.val (.int p2), .val (.int s6)] [])) (fun t k => XS.icmpYes X0.here hx rfl (pc0 := 17) (pc' := 24) rfl (hb hby own_d2_17) rfl (feq hc17).2 (by decide) (by decide) k) ?_
      obtain ⟨T3, X3, e3, st3⟩ := getS2 X0 hx hZ hown (host := "") (Or.inl (hw _ (List.mem_of_getElem? (i := 65) rfl))) Via.refl e0 (A2.1.ext O0.2) (g := (mkF m 24 #[.val (.int p2), .val (.int s6)] [])) rfl (hb hby own_d2_24)
      refine own_via (B := T3.setTop (mkF m 27 #[.val (.int p2), .val (.int s6)] [(.ref w2)])) (fun t k => st3 t k) ?_
      refine own_leaf X3 hx hlk (t := (.object "com/example/fenceline/fenceline/litmus/Instruction$Fence")) Bd.returns rfl (Or.inr (Or.inr (Or.inr (Or.inr ⟨rfl, rfl, rfl⟩)))) (hb hby own_d2_27) (by decide) (by decide) ?_
      show Q2 Z p2 w0 w1 w2 h0 n0 _ T3.heap _
      rw [e3]
      refine ⟨?_, N0, rfl, (own_at hall _).ext O0.2⟩
      simp [own_pick, hs6, hc8, hc17]
theorem own_pn1 : plainName "java/lang/Record" = true := by first | (simp [plainName, overriddenIn]; done) | decide +kernel
theorem own_d3_0 : decode jdk_30_method_1_code 0 = .ok (.aload_n 0, 1) := by decide +kernel
theorem own_d3_1 : decode jdk_30_method_1_code 1 = .ok (.invokespecial 1, 3) := by decide +kernel
theorem own_d3_4 : decode jdk_30_method_1_code 4 = .ok (.return_, 1) := by decide +kernel
theorem own_ef3 (m : MethodId) (x0 : Addr) : entryFrame m #[(.ref x0)] 1 = mkF m 0 #[.val (.ref x0)] [] := by first | (simp [entryFrame, mkF, argsToLocals, Value.category]; done) | rfl
def Q3 (Z : State) (a3 : Addr) (h0 : Heap) (n0 : Nat) (v : Option Value) (h : Heap) (L : List Loc) : Prop := v = none ∧ Fr n0 L ∧ h = h0
set_option maxRecDepth 65536 in
set_option maxHeartbeats 40000000 in
theorem rm3 (l : Launch) (Z : State) (a0 : Array Value) (hw : ∀ d ∈ tables_1, d.before a0 Z = true) (ws : List Jvm.Cond) (a3 : Addr) (h0 : Heap) (n0 : Nat) (Z0 : n0 ≤ h0.size) :
    MetFree l (⟨"java/lang/Record", "<init>", "()V"⟩ : MethodName) (head1 (Jvm.Cond.code (⟨"java/lang/Record", "<init>", "()V"⟩ : MethodName) jdk_30_method_1_code 1 none :: ws) ({ frames := 1, cells := 0, slots := 0, locals := 12 } : Room)) (fun a U => a = #[(.ref a3)] ∧ Z.Warmed39 U.vm ∧ U.heap = h0) (fun _ _ _ _ _ => True) (fun _ U o U' => ∃ v L, o = .returned v ∧ Q3 Z a3 h0 n0 v U'.heap L ∧ FrameEnd U o U' L ({ frames := 1, cells := 0, slots := 0, locals := 12 } : Room).cells ({ frames := 1, cells := 0, slots := 0, locals := 12 } : Room).slots) := by
  refine MetFree.of_bodySF (plainFor_of_name own_pn1) hisR ?_
  intro p e s m args below meth c s₁ Bd hml0 hP hK
  obtain ⟨rfl, hZ, hh⟩ := hP
  have hx := Bd.exec
  have hby := Bd.bytes
  have hlk : meth.locks = false := Bd.notSynchronized
  have hml : c.maxLocals = 1 := hml0
  have hown : s.vm.findClass "java/lang/Record" = some m.cls := findClass_of_methodNamed Bd.named
  have hnm := (name_of_methodNamed Bd.named Bd.method).1
  have X0 : Stand p l e ({ frames := 1, cells := 0, slots := 0, locals := 12 } : Room) s m #[(.ref a3)] below meth c s₁ [] 0 0 := Stand.of_body Bd
  have e0 : s₁.heap = h0 := by rw [← hh, Bd.state]; rfl
  have N0 := Fr.nil n0
  refine own_body (A := s₁.setTop (mkF m 0 #[.val (.ref a3)] [])) (Q := Q3 Z a3 h0 n0) (fun t k => castTop (own_ef3 m a3) k) ?_
  refine own_via (B := s₁.setTop (mkF m 1 #[.val (.ref a3)] [(.ref a3)])) (fun t k => XS.aloadN X0.here hx rfl (hb hby own_d3_0) rfl rfl k) ?_
  obtain ⟨T1, X1, e1, st1⟩ := initO X0 hx hZ hown (hw _ (List.mem_of_getElem? (i := 23) rfl)) (hw _ (List.mem_of_getElem? (i := 24) rfl)) (hw _ (List.mem_of_getElem? (i := 25) rfl)) e0 (g := (mkF m 1 #[.val (.ref a3)] [(.ref a3)])) rfl (by rw [hml]; rfl) rfl (hb hby own_d3_1) (by decide) (W := 0) (by show 2 * 0 + _ ≤ _; exact Nat.le_of_eq rfl) (by decide)
  refine own_via (B := T1.setTop (mkF m 4 #[.val (.ref a3)] [])) (fun t k => st1 t k) ?_
  refine own_leafV X1 hx hlk Bd.returns (hb hby own_d3_4) (by decide) (by decide) ?_
  show Q3 Z a3 h0 n0 _ T1.heap _
  rw [e1]
  refine ⟨?_, N0, rfl⟩
  rfl
theorem own_pn2 : plainName "java/util/Objects" = true := by first | (simp [plainName, overriddenIn]; done) | decide +kernel
theorem own_d4_0 : decode jdk_31_method_11_code 0 = .ok (.aload_n 0, 1) := by decide +kernel
theorem own_d4_1 : decode jdk_31_method_11_code 1 = .ok (.ifnonnull 12, 3) := by decide +kernel
theorem own_d4_13 : decode jdk_31_method_11_code 13 = .ok (.aload_n 0, 1) := by decide +kernel
theorem own_d4_14 : decode jdk_31_method_11_code 14 = .ok (.areturn, 1) := by decide +kernel
theorem own_ef4 (m : MethodId) (x0 : Addr) (x1 : Addr) : entryFrame m #[(.ref x0), (.ref x1)] 2 = mkF m 0 #[.val (.ref x0), .val (.ref x1)] [] := by first | (simp [entryFrame, mkF, argsToLocals, Value.category]; done) | rfl
def Q4 (Z : State) (a4 : Addr) (b4 : Addr) (h0 : Heap) (n0 : Nat) (v : Option Value) (h : Heap) (L : List Loc) : Prop := v = some (.ref a4) ∧ Fr n0 L ∧ h = h0
set_option maxRecDepth 65536 in
set_option maxHeartbeats 40000000 in
theorem rm4 (l : Launch) (Z : State) (a0 : Array Value) (hw : ∀ d ∈ tables_1, d.before a0 Z = true) (ws : List Jvm.Cond) (a4 : Addr) (b4 : Addr) (h0 : Heap) (n0 : Nat) (Z0 : n0 ≤ h0.size) :
    MetFree l (⟨"java/util/Objects", "requireNonNull", "(Ljava/lang/Object;Ljava/lang/String;)Ljava/lang/Object;"⟩ : MethodName) (head1 (Jvm.Cond.code (⟨"java/util/Objects", "requireNonNull", "(Ljava/lang/Object;Ljava/lang/String;)Ljava/lang/Object;"⟩ : MethodName) jdk_31_method_11_code 2 (some (.object "java/lang/Object")) :: ws) ({ frames := 0, cells := 0, slots := 0, locals := 0 } : Room)) (fun a U => a = #[(.ref a4), (.ref b4)] ∧ Z.Warmed39 U.vm ∧ U.heap = h0) (fun _ _ _ _ _ => True) (fun _ U o U' => ∃ v L, o = .returned v ∧ Q4 Z a4 b4 h0 n0 v U'.heap L ∧ FrameEnd U o U' L ({ frames := 0, cells := 0, slots := 0, locals := 0 } : Room).cells ({ frames := 0, cells := 0, slots := 0, locals := 0 } : Room).slots) := by
  refine MetFree.of_bodySF (plainFor_of_name own_pn2) hisR ?_
  intro p e s m args below meth c s₁ Bd hml0 hP hK
  obtain ⟨rfl, hZ, hh⟩ := hP
  have hx := Bd.exec
  have hby := Bd.bytes
  have hlk : meth.locks = false := Bd.notSynchronized
  have hml : c.maxLocals = 2 := hml0
  have hown : s.vm.findClass "java/util/Objects" = some m.cls := findClass_of_methodNamed Bd.named
  have hnm := (name_of_methodNamed Bd.named Bd.method).1
  have X0 : Stand p l e ({ frames := 0, cells := 0, slots := 0, locals := 0 } : Room) s m #[(.ref a4), (.ref b4)] below meth c s₁ [] 0 0 := Stand.of_body Bd
  have e0 : s₁.heap = h0 := by rw [← hh, Bd.state]; rfl
  have N0 := Fr.nil n0
  refine own_body (A := s₁.setTop (mkF m 0 #[.val (.ref a4), .val (.ref b4)] [])) (Q := Q4 Z a4 b4 h0 n0) (fun t k => castTop (own_ef4 m a4 b4) k) ?_
  refine own_via (B := s₁.setTop (mkF m 1 #[.val (.ref a4), .val (.ref b4)] [(.ref a4)])) (fun t k => XS.aloadN X0.here hx rfl (hb hby own_d4_0) rfl rfl k) ?_
  refine own_via (B := s₁.setTop (mkF m 13 #[.val (.ref a4), .val (.ref b4)] [])) (fun t k => XS.ifnonnullYes X0.here hx rfl (pc0 := 1) (pc' := 13) rfl (hb hby own_d4_1) rfl (by decide) (by decide) k) ?_
  refine own_via (B := s₁.setTop (mkF m 14 #[.val (.ref a4), .val (.ref b4)] [(.ref a4)])) (fun t k => XS.aloadN X0.here hx rfl (hb hby own_d4_13) rfl rfl k) ?_
  refine own_leaf X0 hx hlk (t := (.object "java/lang/Object")) Bd.returns rfl (Or.inr (Or.inr (Or.inr (Or.inr ⟨rfl, rfl, rfl⟩)))) (hb hby own_d4_14) (by decide) (by decide) ?_
  show Q4 Z a4 b4 h0 n0 _ s₁.heap _
  rw [e0]
  refine ⟨?_, N0, rfl⟩
  rfl
theorem own_pn3 : plainName "com/example/fenceline/fenceline/litmus/PlacedFence" = true := by first | (simp [plainName, overriddenIn]; done) | decide +kernel
theorem own_pd0 : parseMethodDescriptor "()V" = some ⟨[], none⟩ := by decide +kernel
theorem own_pd1 : parseMethodDescriptor "(Ljava/lang/Object;Ljava/lang/String;)Ljava/lang/Object;" = some ⟨[(.object "java/lang/Object"), (.object "java/lang/String")], some (.object "java/lang/Object")⟩ := by decide +kernel
theorem own_d5_0 : decode prog_19_method_1_code 0 = .ok (.aload_n 0, 1) := by decide +kernel
theorem own_d5_1 : decode prog_19_method_1_code 1 = .ok (.invokespecial 1, 3) := by decide +kernel
theorem own_d5_4 : decode prog_19_method_1_code 4 = .ok (.aload_n 3, 1) := by decide +kernel
theorem own_d5_5 : decode prog_19_method_1_code 5 = .ok (.ldc 7, 2) := by decide +kernel
theorem own_d5_7 : decode prog_19_method_1_code 7 = .ok (.invokestatic 9, 3) := by decide +kernel
theorem own_d5_10 : decode prog_19_method_1_code 10 = .ok (.pop, 1) := by decide +kernel
theorem own_d5_11 : decode prog_19_method_1_code 11 = .ok (.iload_n 1, 1) := by decide +kernel
theorem own_d5_12 : decode prog_19_method_1_code 12 = .ok (.ifCond .lt 8, 3) := by decide +kernel
theorem own_d5_15 : decode prog_19_method_1_code 15 = .ok (.iload_n 2, 1) := by decide +kernel
theorem own_d5_16 : decode prog_19_method_1_code 16 = .ok (.iconst 1, 1) := by decide +kernel
theorem own_d5_17 : decode prog_19_method_1_code 17 = .ok (.if_icmp .ge 34, 3) := by decide +kernel
theorem own_d5_51 : decode prog_19_method_1_code 51 = .ok (.aload_n 0, 1) := by decide +kernel
theorem own_d5_52 : decode prog_19_method_1_code 52 = .ok (.iload_n 1, 1) := by decide +kernel
theorem own_d5_53 : decode prog_19_method_1_code 53 = .ok (.putfield 36, 3) := by decide +kernel
theorem own_d5_56 : decode prog_19_method_1_code 56 = .ok (.aload_n 0, 1) := by decide +kernel
theorem own_d5_57 : decode prog_19_method_1_code 57 = .ok (.iload_n 2, 1) := by decide +kernel
theorem own_d5_58 : decode prog_19_method_1_code 58 = .ok (.putfield 42, 3) := by decide +kernel
theorem own_d5_61 : decode prog_19_method_1_code 61 = .ok (.aload_n 0, 1) := by decide +kernel
theorem own_d5_62 : decode prog_19_method_1_code 62 = .ok (.aload_n 3, 1) := by decide +kernel
theorem own_d5_63 : decode prog_19_method_1_code 63 = .ok (.putfield 45, 3) := by decide +kernel
theorem own_d5_66 : decode prog_19_method_1_code 66 = .ok (.return_, 1) := by decide +kernel
theorem own_ef5 (m : MethodId) (x0 : Addr) (x1 : Int32) (x2 : Int32) (x3 : Addr) : entryFrame m #[(.ref x0), (.int x1), (.int x2), (.ref x3)] 4 = mkF m 0 #[.val (.ref x0), .val (.int x1), .val (.int x2), .val (.ref x3)] [] := by first | (simp [entryFrame, mkF, argsToLocals, Value.category]; done) | rfl
def Q5 (Z : State) (a5 : Addr) (t5 : Int32) (f5 : Int32) (w5 : Addr) (u0 : Int32) (u1 : Int32) (u2 : Value) (h0 : Heap) (n0 : Nat) (v : Option Value) (h : Heap) (L : List Loc) : Prop := v = none ∧ Fr n0 L ∧ Keep h0 h [a5] ∧ (Fld Z h a5 "com/example/fenceline/fenceline/litmus/PlacedFence" "thread" "I" (.int t5)) ∧ (Fld Z h a5 "com/example/fenceline/fenceline/litmus/PlacedFence" "after" "I" (.int f5)) ∧ (Fld Z h a5 "com/example/fenceline/fenceline/litmus/PlacedFence" "fence" "Lcom/example/fenceline/fenceline/litmus/Instruction$Fence;" (.ref w5))
set_option maxRecDepth 65536 in
set_option maxHeartbeats 40000000 in
theorem rm5 (l : Launch) (Z : State) (a0 : Array Value) (hw : ∀ d ∈ tables_1, d.before a0 Z = true) (ws : List Jvm.Cond) (a5 : Addr) (t5 : Int32) (f5 : Int32) (w5 : Addr) (u0 : Int32) (u1 : Int32) (u2 : Value) (h0 : Heap) (n0 : Nat) (Z0 : n0 ≤ h0.size) (E5 : Exa Z h0 a5 "com/example/fenceline/fenceline/litmus/PlacedFence") (F50 : Fld Z h0 a5 "com/example/fenceline/fenceline/litmus/PlacedFence" "thread" "I" (.int u0)) (F51 : Fld Z h0 a5 "com/example/fenceline/fenceline/litmus/PlacedFence" "after" "I" (.int u1)) (F52 : Fld Z h0 a5 "com/example/fenceline/fenceline/litmus/PlacedFence" "fence" "Lcom/example/fenceline/fenceline/litmus/Instruction$Fence;" u2) (g_a5 : n0 ≤ a5) (ht : ¬ (t5 < (0 : Int32))) (hf : ¬ (f5 < (1 : Int32))) :
    MetFree l (⟨"com/example/fenceline/fenceline/litmus/PlacedFence", "<init>", "(IILcom/example/fenceline/fenceline/litmus/Instruction$Fence;)V"⟩ : MethodName) (head1 (Jvm.Cond.code (⟨"com/example/fenceline/fenceline/litmus/PlacedFence", "<init>", "(IILcom/example/fenceline/fenceline/litmus/Instruction$Fence;)V"⟩ : MethodName) prog_19_method_1_code 4 none :: ws) ({ frames := 2, cells := 2, slots := 92, locals := 24 } : Room)) (fun a U => a = #[(.ref a5), (.int t5), (.int f5), (.ref w5)] ∧ Z.Warmed39 U.vm ∧ U.heap = h0) (fun _ _ _ _ _ => True) (fun _ U o U' => ∃ v L, o = .returned v ∧ Q5 Z a5 t5 f5 w5 u0 u1 u2 h0 n0 v U'.heap L ∧ ReturnedEndW U o U' L ({ frames := 2, cells := 2, slots := 92, locals := 24 } : Room).cells ({ frames := 2, cells := 2, slots := 92, locals := 24 } : Room).slots) := by
  refine MetFree.of_bodySF (plainFor_of_name own_pn3) hisR ?_
  intro p e s m args below meth c s₁ Bd hml0 hP hK
  obtain ⟨rfl, hZ, hh⟩ := hP
  have hx := Bd.exec
  have hby := Bd.bytes
  have hlk : meth.locks = false := Bd.notSynchronized
  have hml : c.maxLocals = 4 := hml0
  have hown : s.vm.findClass "com/example/fenceline/fenceline/litmus/PlacedFence" = some m.cls := findClass_of_methodNamed Bd.named
  have hnm := (name_of_methodNamed Bd.named Bd.method).1
  have X0 : Stand p l e ({ frames := 2, cells := 2, slots := 92, locals := 24 } : Room) (s.setVm s.vm) m #[(.ref a5), (.int t5), (.int f5), (.ref w5)] below meth c s₁ [] 0 0 := Stand.of_body Bd
  have e0 : s₁.heap = h0 := by rw [← hh, Bd.state]; rfl
  have N0 := Fr.nil n0
  have hS0 : s.Since s.vm h0.size := (State.WarmedH.refl s).since _
  have hk0 : h0.size ≤ h0.size := Nat.le_refl _
  have wS : ∀ a ∈ Bundle.stringAtoms, a.before a0 Z = true := by
    intro a ha
    simp only [Bundle.stringAtoms, List.mem_cons, List.not_mem_nil, or_false] at ha
    rcases ha with rfl | rfl | rfl | rfl | rfl | rfl | rfl
    · exact (hw _ (List.mem_of_getElem? (i := 27) rfl))
    · exact (hw _ (List.mem_of_getElem? (i := 28) rfl))
    · exact (hw _ (List.mem_of_getElem? (i := 29) rfl))
    · exact (hw _ (List.mem_of_getElem? (i := 30) rfl))
    · exact (hw _ (List.mem_of_getElem? (i := 31) rfl))
    · exact (hw _ (List.mem_of_getElem? (i := 32) rfl))
    · exact (hw _ (List.mem_of_getElem? (i := 33) rfl))
  refine own_bodyW (A := s₁.setTop (mkF m 0 #[.val (.ref a5), .val (.int t5), .val (.int f5), .val (.ref w5)] [])) (Q := Q5 Z a5 t5 f5 w5 u0 u1 u2 h0 n0) (fun t k => castTop (own_ef5 m a5 t5 f5 w5) k) ?_
  refine own_via (B := s₁.setTop (mkF m 1 #[.val (.ref a5), .val (.int t5), .val (.int f5), .val (.ref w5)] [(.ref a5)])) (fun t k => XS.aloadN X0.here hx rfl (hb hby own_d5_0) rfl rfl k) ?_
  obtain ⟨_, _, ⟨T1, L1, k1, n1⟩, -, X1, ⟨Lc1, hQ1, l1, y1, z1⟩, st1⟩ := X0.specialBack hx (y := (⟨"java/lang/Record", "<init>", "()V"⟩ : MethodName)) rfl hown (mvT hZ (hw _ (List.mem_of_getElem? (i := 18) rfl))) (mvT hZ (hw _ (List.mem_of_getElem? (i := 19) rfl))) (mvT hZ (hw _ (List.mem_of_getElem? (i := 22) rfl))) (by decide) (backOf (W := 0) (rm3 l Z a0 hw [] a5 h0 n0 Z0 ) hZ (hw _ (List.mem_of_getElem? (i := 22) rfl)) (hw _ (List.mem_of_getElem? (i := 21) rfl)) (by decide) (by decide)) (g := (mkF m 1 #[.val (.ref a5), .val (.int t5), .val (.int f5), .val (.ref w5)] [(.ref a5)])) rfl (by rw [hml]; rfl) (Steps.refl _) (a := a5) (argsL := []) (rest := []) (lenOf own_pd0 rfl) rfl (by show 2 * 0 + _ ≤ _; exact Nat.le_of_eq rfl) (hb hby own_d5_1) (fun _ _ => ⟨rfl, e0, (by decide : 0 + 0 ≤ _), (by decide : 0 + 0 ≤ _)⟩)
  dsimp only [Pt.U, Pt.locs, Pt.cells, Pt.slots] at X1 l1 y1 z1 st1 hQ1
  subst l1 y1 z1
  obtain ⟨rfl, Nq1, eq1⟩ := hQ1
  have N1 := Fr.app N0 Nq1
  refine own_via (B := T1.setTop (mkF m 4 #[.val (.ref a5), .val (.int t5), .val (.int f5), .val (.ref w5)] [])) (fun t k => st1.trans k) ?_
  refine own_via (B := T1.setTop (mkF m 5 #[.val (.ref a5), .val (.int t5), .val (.int f5), .val (.ref w5)] [(.ref w5)])) (fun t k => XS.aloadN X1.here hx rfl (hb hby own_d5_4) rfl rfl k) ?_
  obtain ⟨c2, T2, h2, k2, X2, e2, E2, hS2, hk2, hZ, hown, st2⟩ := ldcS X1 hx hZ hown (hw _ (List.mem_of_getElem? (i := 26) rfl)) wS eq1 hS0 hk0 (g := (mkF m 5 #[.val (.ref a5), .val (.int t5), .val (.int f5), .val (.ref w5)] [(.ref w5)])) rfl (hb hby own_d5_5) (n := 88) (by decide) (by decide) (by decide) (by decide)
  refine own_via (B := T2.setTop (mkF m 7 #[.val (.ref a5), .val (.int t5), .val (.int f5), .val (.ref w5)] [(.ref c2), (.ref w5)])) (fun t k => st2 t k) ?_
  obtain ⟨_, _, ⟨T3, L3, k3, n3⟩, -, X3, ⟨Lc3, hQ3, l3, y3, z3⟩, st3⟩ := Jvm.LawKit.callS X2 hx (y := (⟨"java/util/Objects", "requireNonNull", "(Ljava/lang/Object;Ljava/lang/String;)Ljava/lang/Object;"⟩ : MethodName)) hown (mvT hZ (hw _ (List.mem_of_getElem? (i := 34) rfl))) (mvT hZ (hw _ (List.mem_of_getElem? (i := 35) rfl))) (mvT hZ (hw _ (List.mem_of_getElem? (i := 36) rfl))) (mvT hZ (hw _ (List.mem_of_getElem? (i := 37) rfl))) (by decide) (backOf (W := 0) (rm4 l Z a0 hw [] w5 c2 h2 n0 (Nat.le_trans Z0 E2.1) ) hZ (hw _ (List.mem_of_getElem? (i := 37) rfl)) (hw _ (List.mem_of_getElem? (i := 36) rfl)) (by decide) (by decide)) (g := (mkF m 7 #[.val (.ref a5), .val (.int t5), .val (.int f5), .val (.ref w5)] [(.ref c2), (.ref w5)])) rfl (by rw [hml]; rfl) (argsL := [(.ref w5), (.ref c2)]) (rest := []) (lenOf own_pd1 rfl) rfl (by show 2 * 0 + _ ≤ _; exact Nat.le_of_eq rfl) (hb hby own_d5_7) (fun _ _ => ⟨rfl, e2, (by decide : ((0 + 0) + 2) + 0 ≤ _), (by decide : ((0 + 0) + (88 + 4)) + 0 ≤ _)⟩)
  dsimp only [Pt.U, Pt.locs, Pt.cells, Pt.slots] at X3 l3 y3 z3 st3 hQ3
  subst l3 y3 z3
  obtain ⟨rfl, Nq3, eq3⟩ := hQ3
  have N3 := Fr.app N1 Nq3
  refine own_via (B := T3.setTop (mkF m 10 #[.val (.ref a5), .val (.int t5), .val (.int f5), .val (.ref w5)] [(.ref w5)])) (fun t k => st3 t k) ?_
  refine own_via (B := T3.setTop (mkF m 11 #[.val (.ref a5), .val (.int t5), .val (.int f5), .val (.ref w5)] [])) (fun t k => XS.pop X3.here hx rfl (hb hby own_d5_10) rfl rfl k) ?_
  refine own_via (B := T3.setTop (mkF m 12 #[.val (.ref a5), .val (.int t5), .val (.int f5), .val (.ref w5)] [(.int t5)])) (fun t k => XS.iloadN X3.here hx rfl (hb hby own_d5_11) rfl k) ?_
  have hc12 : ¬ (t5 < (0 : Int32)) := ht
  refine own_via (B := T3.setTop (mkF m 15 #[.val (.ref a5), .val (.int t5), .val (.int f5), .val (.ref w5)] [])) (fun t k => XS.ifNo X3.here hx rfl (hb hby own_d5_12) rfl ((if0 _ _).trans (flt hc12).1) k) ?_
  refine own_via (B := T3.setTop (mkF m 16 #[.val (.ref a5), .val (.int t5), .val (.int f5), .val (.ref w5)] [(.int f5)])) (fun t k => XS.iloadN X3.here hx rfl (hb hby own_d5_15) rfl k) ?_
  refine own_via (B := T3.setTop (mkF m 17 #[.val (.ref a5), .val (.int t5), .val (.int f5), .val (.ref w5)] [(.int (1 : Int32)), (.int f5)])) (fun t k => XS.iconst X3.here hx rfl (hb hby own_d5_16) k) ?_
  have hc17 : ¬ (f5 < (1 : Int32)) := hf
  refine own_via (B := T3.setTop (mkF m 51 #[.val (.ref a5), .val (.int t5), .val (.int f5), .val (.ref w5)] [])) (fun t k => XS.icmpYes X3.here hx rfl (pc0 := 17) (pc' := 51) rfl (hb hby own_d5_17) rfl (flt hc17).2.1 (by decide) (by decide) k) ?_
  refine own_via (B := T3.setTop (mkF m 52 #[.val (.ref a5), .val (.int t5), .val (.int f5), .val (.ref w5)] [(.ref a5)])) (fun t k => XS.aloadN X3.here hx rfl (hb hby own_d5_51) rfl rfl k) ?_
  refine own_via (B := T3.setTop (mkF m 53 #[.val (.ref a5), .val (.int t5), .val (.int f5), .val (.ref w5)] [(.int t5), (.ref a5)])) (fun t k => XS.iloadN X3.here hx rfl (hb hby own_d5_52) rfl k) ?_
  obtain ⟨T4, h4, X4, e4, W4, st4⟩ := putF X3 hx hZ hown (host := "") (Or.inl (hw _ (List.mem_of_getElem? (i := 38) rfl))) Via.refl eq3 (F50.ext E2) (E5.ext E2) (Or.inr ⟨(hw _ (List.mem_of_getElem? (i := 39) rfl)), rfl, hnm⟩) (hw _ (List.mem_of_getElem? (i := 13) rfl)) (ty := .int) (by decide) rfl rfl (g := (mkF m 53 #[.val (.ref a5), .val (.int t5), .val (.int f5), .val (.ref w5)] [(.int t5), (.ref a5)])) rfl rfl (hb hby own_d5_53)
  have Fw4 := (F50.ext E2).same W4
  have N4 := Fr.snoc X4 N3 g_a5
  refine own_via (B := T4.setTop (mkF m 56 #[.val (.ref a5), .val (.int t5), .val (.int f5), .val (.ref w5)] [])) (fun t k => st4 t k) ?_
  refine own_via (B := T4.setTop (mkF m 57 #[.val (.ref a5), .val (.int t5), .val (.int f5), .val (.ref w5)] [(.ref a5)])) (fun t k => XS.aloadN X4.here hx rfl (hb hby own_d5_56) rfl rfl k) ?_
  refine own_via (B := T4.setTop (mkF m 58 #[.val (.ref a5), .val (.int t5), .val (.int f5), .val (.ref w5)] [(.int f5), (.ref a5)])) (fun t k => XS.iloadN X4.here hx rfl (hb hby own_d5_57) rfl k) ?_
  obtain ⟨T5, h5, X5, e5, W5, st5⟩ := putF X4 hx hZ hown (host := "") (Or.inl (hw _ (List.mem_of_getElem? (i := 40) rfl))) Via.refl e4 ((F51.ext E2).other W4 (Or.inr (slot_ne (Or.inr (hw _ (List.mem_of_getElem? (i := 41) rfl))) (Or.inr (hw _ (List.mem_of_getElem? (i := 39) rfl))) (by decide +kernel) (t := .int) (t' := .int) (by decide +kernel) (by decide +kernel)))) ((E5.ext E2).wr W4) (Or.inr ⟨(hw _ (List.mem_of_getElem? (i := 41) rfl)), rfl, hnm⟩) (hw _ (List.mem_of_getElem? (i := 13) rfl)) (ty := .int) (by decide) rfl rfl (g := (mkF m 58 #[.val (.ref a5), .val (.int t5), .val (.int f5), .val (.ref w5)] [(.int f5), (.ref a5)])) rfl rfl (hb hby own_d5_58)
  have Fw5 := ((F51.ext E2).other W4 (Or.inr (slot_ne (Or.inr (hw _ (List.mem_of_getElem? (i := 41) rfl))) (Or.inr (hw _ (List.mem_of_getElem? (i := 39) rfl))) (by decide +kernel) (t := .int) (t' := .int) (by decide +kernel) (by decide +kernel)))).same W5
  have N5 := Fr.snoc X5 N4 g_a5
  refine own_via (B := T5.setTop (mkF m 61 #[.val (.ref a5), .val (.int t5), .val (.int f5), .val (.ref w5)] [])) (fun t k => st5 t k) ?_
  refine own_via (B := T5.setTop (mkF m 62 #[.val (.ref a5), .val (.int t5), .val (.int f5), .val (.ref w5)] [(.ref a5)])) (fun t k => XS.aloadN X5.here hx rfl (hb hby own_d5_61) rfl rfl k) ?_
  refine own_via (B := T5.setTop (mkF m 63 #[.val (.ref a5), .val (.int t5), .val (.int f5), .val (.ref w5)] [(.ref w5), (.ref a5)])) (fun t k => XS.aloadN X5.here hx rfl (hb hby own_d5_62) rfl rfl k) ?_
  obtain ⟨T6, h6, X6, e6, W6, st6⟩ := putF X5 hx hZ hown (host := "") (Or.inl (hw _ (List.mem_of_getElem? (i := 42) rfl))) Via.refl e5 (((F52.ext E2).other W4 (Or.inr (slot_ne (Or.inr (hw _ (List.mem_of_getElem? (i := 43) rfl))) (Or.inr (hw _ (List.mem_of_getElem? (i := 39) rfl))) (by decide +kernel) (t := (.object "com/example/fenceline/fenceline/litmus/Instruction$Fence")) (t' := .int) (by decide +kernel) (by decide +kernel)))).other W5 (Or.inr (slot_ne (Or.inr (hw _ (List.mem_of_getElem? (i := 43) rfl))) (Or.inr (hw _ (List.mem_of_getElem? (i := 41) rfl))) (by decide +kernel) (t := (.object "com/example/fenceline/fenceline/litmus/Instruction$Fence")) (t' := .int) (by decide +kernel) (by decide +kernel)))) (((E5.ext E2).wr W4).wr W5) (Or.inr ⟨(hw _ (List.mem_of_getElem? (i := 43) rfl)), rfl, hnm⟩) (hw _ (List.mem_of_getElem? (i := 13) rfl)) (ty := (.object "com/example/fenceline/fenceline/litmus/Instruction$Fence")) (by decide) rfl rfl (g := (mkF m 63 #[.val (.ref a5), .val (.int t5), .val (.int f5), .val (.ref w5)] [(.ref w5), (.ref a5)])) rfl rfl (hb hby own_d5_63)
  have Fw6 := (((F52.ext E2).other W4 (Or.inr (slot_ne (Or.inr (hw _ (List.mem_of_getElem? (i := 43) rfl))) (Or.inr (hw _ (List.mem_of_getElem? (i := 39) rfl))) (by decide +kernel) (t := (.object "com/example/fenceline/fenceline/litmus/Instruction$Fence")) (t' := .int) (by decide +kernel) (by decide +kernel)))).other W5 (Or.inr (slot_ne (Or.inr (hw _ (List.mem_of_getElem? (i := 43) rfl))) (Or.inr (hw _ (List.mem_of_getElem? (i := 41) rfl))) (by decide +kernel) (t := (.object "com/example/fenceline/fenceline/litmus/Instruction$Fence")) (t' := .int) (by decide +kernel) (by decide +kernel)))).same W6
  have N6 := Fr.snoc X6 N5 g_a5
  refine own_via (B := T6.setTop (mkF m 66 #[.val (.ref a5), .val (.int t5), .val (.int f5), .val (.ref w5)] [])) (fun t k => st6 t k) ?_
  refine own_leafVW X6 hx hlk hS2 (by rw [e6]; exact (Nat.le_trans (Nat.le_trans (Nat.le_trans hk2 (Keep.of_wr W4).1) (Keep.of_wr W5).1) (Keep.of_wr W6).1)) Bd.returns (hb hby own_d5_66) (by decide) (by decide) ?_
  show Q5 Z a5 t5 f5 w5 u0 u1 u2 h0 n0 _ T6.heap _
  rw [e6]
  refine ⟨?_, N6, (((((Keep.refl h0 [a5]).ext E2).wr W4 (Or.inl (List.mem_of_getElem? (i := 0) rfl))).wr W5 (Or.inl (List.mem_of_getElem? (i := 0) rfl))).wr W6 (Or.inl (List.mem_of_getElem? (i := 0) rfl))), ((Fw4.other W5 (Or.inr (slot_ne (Or.inr (hw _ (List.mem_of_getElem? (i := 39) rfl))) (Or.inr (hw _ (List.mem_of_getElem? (i := 41) rfl))) (by decide +kernel) (t := .int) (t' := .int) (by decide +kernel) (by decide +kernel)))).other W6 (Or.inr (slot_ne (Or.inr (hw _ (List.mem_of_getElem? (i := 39) rfl))) (Or.inr (hw _ (List.mem_of_getElem? (i := 43) rfl))) (by decide +kernel) (t := .int) (t' := (.object "com/example/fenceline/fenceline/litmus/Instruction$Fence")) (by decide +kernel) (by decide +kernel)))), (Fw5.other W6 (Or.inr (slot_ne (Or.inr (hw _ (List.mem_of_getElem? (i := 41) rfl))) (Or.inr (hw _ (List.mem_of_getElem? (i := 43) rfl))) (by decide +kernel) (t := .int) (t' := (.object "com/example/fenceline/fenceline/litmus/Instruction$Fence")) (by decide +kernel) (by decide +kernel)))), Fw6⟩
  rfl
theorem own_d6_0 : decode prog_19_method_2_code 0 = .ok (.aload_n 1, 1) := by decide +kernel
theorem own_d6_1 : decode prog_19_method_2_code 1 = .ok (.instanceof 37, 3) := by decide +kernel
theorem own_d6_4 : decode prog_19_method_2_code 4 = .ok (.ifCond .eq 45, 3) := by decide +kernel
theorem own_d6_7 : decode prog_19_method_2_code 7 = .ok (.aload_n 1, 1) := by decide +kernel
theorem own_d6_8 : decode prog_19_method_2_code 8 = .ok (.checkcast 37, 3) := by decide +kernel
theorem own_d6_11 : decode prog_19_method_2_code 11 = .ok (.astore_n 2, 1) := by decide +kernel
theorem own_d6_12 : decode prog_19_method_2_code 12 = .ok (.aload_n 0, 1) := by decide +kernel
theorem own_d6_13 : decode prog_19_method_2_code 13 = .ok (.getfield 36, 3) := by decide +kernel
theorem own_d6_16 : decode prog_19_method_2_code 16 = .ok (.aload_n 2, 1) := by decide +kernel
theorem own_d6_17 : decode prog_19_method_2_code 17 = .ok (.getfield 36, 3) := by decide +kernel
theorem own_d6_20 : decode prog_19_method_2_code 20 = .ok (.if_icmp .ne 29, 3) := by decide +kernel
theorem own_d6_23 : decode prog_19_method_2_code 23 = .ok (.aload_n 0, 1) := by decide +kernel
theorem own_d6_24 : decode prog_19_method_2_code 24 = .ok (.getfield 42, 3) := by decide +kernel
theorem own_d6_27 : decode prog_19_method_2_code 27 = .ok (.aload_n 2, 1) := by decide +kernel
theorem own_d6_28 : decode prog_19_method_2_code 28 = .ok (.getfield 42, 3) := by decide +kernel
theorem own_d6_31 : decode prog_19_method_2_code 31 = .ok (.if_icmp .ne 18, 3) := by decide +kernel
theorem own_d6_34 : decode prog_19_method_2_code 34 = .ok (.aload_n 0, 1) := by decide +kernel
theorem own_d6_35 : decode prog_19_method_2_code 35 = .ok (.getfield 45, 3) := by decide +kernel
theorem own_d6_38 : decode prog_19_method_2_code 38 = .ok (.aload_n 2, 1) := by decide +kernel
theorem own_d6_39 : decode prog_19_method_2_code 39 = .ok (.getfield 45, 3) := by decide +kernel
theorem own_d6_42 : decode prog_19_method_2_code 42 = .ok (.if_acmp .ne 7, 3) := by decide +kernel
theorem own_d6_45 : decode prog_19_method_2_code 45 = .ok (.iconst 1, 1) := by decide +kernel
theorem own_d6_46 : decode prog_19_method_2_code 46 = .ok (.goto 4, 3) := by decide +kernel
theorem own_d6_49 : decode prog_19_method_2_code 49 = .ok (.iconst 0, 1) := by decide +kernel
theorem own_d6_50 : decode prog_19_method_2_code 50 = .ok (.ireturn, 1) := by decide +kernel
theorem own_ef6 (m : MethodId) (x0 : Addr) (x1 : Addr) : entryFrame m #[(.ref x0), (.ref x1)] 3 = mkF m 0 #[.val (.ref x0), .val (.ref x1), .unset] [] := by first | (simp [entryFrame, mkF, argsToLocals, Value.category]; done) | rfl
def Q6 (Z : State) (a6 : Addr) (b6 : Addr) (t6 : Int32) (f6 : Int32) (w6 : Addr) (t7 : Int32) (f7 : Int32) (w7 : Addr) (h0 : Heap) (n0 : Nat) (v : Option Value) (h : Heap) (L : List Loc) : Prop := v = some (.int (own_bit (t6 = t7 ∧ f6 = f7 ∧ w6 = w7))) ∧ Fr n0 L ∧ h = h0
set_option maxRecDepth 65536 in
set_option maxHeartbeats 40000000 in
theorem rm6 (l : Launch) (Z : State) (a0 : Array Value) (hw : ∀ d ∈ tables_1, d.before a0 Z = true) (ws : List Jvm.Cond) (a6 : Addr) (b6 : Addr) (t6 : Int32) (f6 : Int32) (w6 : Addr) (t7 : Int32) (f7 : Int32) (w7 : Addr) (h0 : Heap) (n0 : Nat) (Z0 : n0 ≤ h0.size) (E6 : Exa Z h0 b6 "com/example/fenceline/fenceline/litmus/PlacedFence") (Ga0 : Fld Z h0 a6 "com/example/fenceline/fenceline/litmus/PlacedFence" "thread" "I" (.int t6)) (Ga1 : Fld Z h0 a6 "com/example/fenceline/fenceline/litmus/PlacedFence" "after" "I" (.int f6)) (Ga2 : Fld Z h0 a6 "com/example/fenceline/fenceline/litmus/PlacedFence" "fence" "Lcom/example/fenceline/fenceline/litmus/Instruction$Fence;" (.ref w6)) (Gb0 : Fld Z h0 b6 "com/example/fenceline/fenceline/litmus/PlacedFence" "thread" "I" (.int t7)) (Gb1 : Fld Z h0 b6 "com/example/fenceline/fenceline/litmus/PlacedFence" "after" "I" (.int f7)) (Gb2 : Fld Z h0 b6 "com/example/fenceline/fenceline/litmus/PlacedFence" "fence" "Lcom/example/fenceline/fenceline/litmus/Instruction$Fence;" (.ref w7)) :
    MetFree l (⟨"com/example/fenceline/fenceline/litmus/PlacedFence", "equals", "(Ljava/lang/Object;)Z"⟩ : MethodName) (head1 (Jvm.Cond.code (⟨"com/example/fenceline/fenceline/litmus/PlacedFence", "equals", "(Ljava/lang/Object;)Z"⟩ : MethodName) prog_19_method_2_code 3 (some .boolean) :: ws) ({ frames := 0, cells := 0, slots := 0, locals := 0 } : Room)) (fun a U => a = #[(.ref a6), (.ref b6)] ∧ Z.Warmed39 U.vm ∧ U.heap = h0) (fun _ _ _ _ _ => True) (fun _ U o U' => ∃ v L, o = .returned v ∧ Q6 Z a6 b6 t6 f6 w6 t7 f7 w7 h0 n0 v U'.heap L ∧ FrameEnd U o U' L ({ frames := 0, cells := 0, slots := 0, locals := 0 } : Room).cells ({ frames := 0, cells := 0, slots := 0, locals := 0 } : Room).slots) := by
  refine MetFree.of_bodySF (plainFor_of_name own_pn3) hisR ?_
  intro p e s m args below meth c s₁ Bd hml0 hP hK
  obtain ⟨rfl, hZ, hh⟩ := hP
  have hx := Bd.exec
  have hby := Bd.bytes
  have hlk : meth.locks = false := Bd.notSynchronized
  have hml : c.maxLocals = 3 := hml0
  have hown : s.vm.findClass "com/example/fenceline/fenceline/litmus/PlacedFence" = some m.cls := findClass_of_methodNamed Bd.named
  have hnm := (name_of_methodNamed Bd.named Bd.method).1
  have X0 : Stand p l e ({ frames := 0, cells := 0, slots := 0, locals := 0 } : Room) s m #[(.ref a6), (.ref b6)] below meth c s₁ [] 0 0 := Stand.of_body Bd
  have e0 : s₁.heap = h0 := by rw [← hh, Bd.state]; rfl
  have N0 := Fr.nil n0
  refine own_body (A := s₁.setTop (mkF m 0 #[.val (.ref a6), .val (.ref b6), .unset] [])) (Q := Q6 Z a6 b6 t6 f6 w6 t7 f7 w7 h0 n0) (fun t k => castTop (own_ef6 m a6 b6) k) ?_
  refine own_via (B := s₁.setTop (mkF m 1 #[.val (.ref a6), .val (.ref b6), .unset] [(.ref b6)])) (fun t k => XS.aloadN X0.here hx rfl (hb hby own_d6_0) rfl rfl k) ?_
  obtain ⟨T1, X1, e1, st1⟩ := instY X0 hx hZ hown (hw _ (List.mem_of_getElem? (i := 49) rfl)) e0 (Ins.self E6) (g := (mkF m 1 #[.val (.ref a6), .val (.ref b6), .unset] [(.ref b6)])) rfl rfl (hb hby own_d6_1)
  refine own_via (B := T1.setTop (mkF m 4 #[.val (.ref a6), .val (.ref b6), .unset] [(.int (1 : Int32))])) (fun t k => st1 t k) ?_
  have hc4 : ¬ ((1 : Int32) = (0 : Int32)) := by decide
  refine own_via (B := T1.setTop (mkF m 7 #[.val (.ref a6), .val (.ref b6), .unset] [])) (fun t k => XS.ifNo X1.here hx rfl (hb hby own_d6_4) rfl ((if0 _ _).trans (feq hc4).1) k) ?_
  refine own_via (B := T1.setTop (mkF m 8 #[.val (.ref a6), .val (.ref b6), .unset] [(.ref b6)])) (fun t k => XS.aloadN X1.here hx rfl (hb hby own_d6_7) rfl rfl k) ?_
  obtain ⟨T2, X2, e2, st2⟩ := castY X1 hx hZ hown (hw _ (List.mem_of_getElem? (i := 49) rfl)) e1 (Ins.self E6) (g := (mkF m 8 #[.val (.ref a6), .val (.ref b6), .unset] [(.ref b6)])) rfl rfl (hb hby own_d6_8)
  refine own_via (B := T2.setTop (mkF m 11 #[.val (.ref a6), .val (.ref b6), .unset] [(.ref b6)])) (fun t k => st2 t k) ?_
  refine own_via (B := T2.setTop (mkF m 12 #[.val (.ref a6), .val (.ref b6), .val (.ref b6)] [])) (fun t k => XS.astoreN X2.here hx rfl (hb hby own_d6_11) rfl rfl (l' := #[.val (.ref a6), .val (.ref b6), .val (.ref b6)]) rfl k) ?_
  refine own_via (B := T2.setTop (mkF m 13 #[.val (.ref a6), .val (.ref b6), .val (.ref b6)] [(.ref a6)])) (fun t k => XS.aloadN X2.here hx rfl (hb hby own_d6_12) rfl rfl k) ?_
  obtain ⟨T3, X3, e3, st3⟩ := getF X2 hx hZ hown (host := "") (Or.inl (hw _ (List.mem_of_getElem? (i := 38) rfl))) Via.refl e2 Ga0 (g := (mkF m 13 #[.val (.ref a6), .val (.ref b6), .val (.ref b6)] [(.ref a6)])) rfl rfl (hb hby own_d6_13)
  refine own_via (B := T3.setTop (mkF m 16 #[.val (.ref a6), .val (.ref b6), .val (.ref b6)] [(.int t6)])) (fun t k => st3 t k) ?_
  refine own_via (B := T3.setTop (mkF m 17 #[.val (.ref a6), .val (.ref b6), .val (.ref b6)] [(.ref b6), (.int t6)])) (fun t k => XS.aloadN X3.here hx rfl (hb hby own_d6_16) rfl rfl k) ?_
  obtain ⟨T4, X4, e4, st4⟩ := getF X3 hx hZ hown (host := "") (Or.inl (hw _ (List.mem_of_getElem? (i := 38) rfl))) Via.refl e3 Gb0 (g := (mkF m 17 #[.val (.ref a6), .val (.ref b6), .val (.ref b6)] [(.ref b6), (.int t6)])) rfl rfl (hb hby own_d6_17)
  refine own_via (B := T4.setTop (mkF m 20 #[.val (.ref a6), .val (.ref b6), .val (.ref b6)] [(.int t7), (.int t6)])) (fun t k => st4 t k) ?_
  refine own_bind (G := fun B => ∃ (T' : State) (L' : List Loc) (v20s0 : Int32), Fr n0 L' ∧ (((t6 = t7) ∧ (f6 = f7) ∧ (w6 = w7) ∧ v20s0 = (1 : Int32)) ∨ ((t6 = t7) ∧ (f6 = f7) ∧ (¬ (w6 = w7)) ∧ v20s0 = (0 : Int32)) ∨ ((t6 = t7) ∧ (¬ (f6 = f7)) ∧ v20s0 = (0 : Int32)) ∨ ((¬ (t6 = t7)) ∧ v20s0 = (0 : Int32))) ∧ B = T'.setTop (mkF m 50 #[.val (.ref a6), .val (.ref b6), .val (.ref b6)] [(.int v20s0)]) ∧ Stand p l e ({ frames := 0, cells := 0, slots := 0, locals := 0 } : Room) s m #[(.ref a6), (.ref b6)] below meth c T' L' 0 0 ∧ T'.heap = h0) ?_ ?_
  · by_cases hc20 : t6 = t7
    · refine own_via (B := T4.setTop (mkF m 23 #[.val (.ref a6), .val (.ref b6), .val (.ref b6)] [])) (fun t k => XS.icmpNo X4.here hx rfl (hb hby own_d6_20) rfl (teq hc20).2 k) ?_
      refine own_via (B := T4.setTop (mkF m 24 #[.val (.ref a6), .val (.ref b6), .val (.ref b6)] [(.ref a6)])) (fun t k => XS.aloadN X4.here hx rfl (hb hby own_d6_23) rfl rfl k) ?_
      obtain ⟨T6, X6, e6, st6⟩ := getF X4 hx hZ hown (host := "") (Or.inl (hw _ (List.mem_of_getElem? (i := 40) rfl))) Via.refl e4 Ga1 (g := (mkF m 24 #[.val (.ref a6), .val (.ref b6), .val (.ref b6)] [(.ref a6)])) rfl rfl (hb hby own_d6_24)
      refine own_via (B := T6.setTop (mkF m 27 #[.val (.ref a6), .val (.ref b6), .val (.ref b6)] [(.int f6)])) (fun t k => st6 t k) ?_
      refine own_via (B := T6.setTop (mkF m 28 #[.val (.ref a6), .val (.ref b6), .val (.ref b6)] [(.ref b6), (.int f6)])) (fun t k => XS.aloadN X6.here hx rfl (hb hby own_d6_27) rfl rfl k) ?_
      obtain ⟨T7, X7, e7, st7⟩ := getF X6 hx hZ hown (host := "") (Or.inl (hw _ (List.mem_of_getElem? (i := 40) rfl))) Via.refl e6 Gb1 (g := (mkF m 28 #[.val (.ref a6), .val (.ref b6), .val (.ref b6)] [(.ref b6), (.int f6)])) rfl rfl (hb hby own_d6_28)
      refine own_via (B := T7.setTop (mkF m 31 #[.val (.ref a6), .val (.ref b6), .val (.ref b6)] [(.int f7), (.int f6)])) (fun t k => st7 t k) ?_
      by_cases hc31 : f6 = f7
      · refine own_via (B := T7.setTop (mkF m 34 #[.val (.ref a6), .val (.ref b6), .val (.ref b6)] [])) (fun t k => XS.icmpNo X7.here hx rfl (hb hby own_d6_31) rfl (teq hc31).2 k) ?_
        refine own_via (B := T7.setTop (mkF m 35 #[.val (.ref a6), .val (.ref b6), .val (.ref b6)] [(.ref a6)])) (fun t k => XS.aloadN X7.here hx rfl (hb hby own_d6_34) rfl rfl k) ?_
        obtain ⟨T8, X8, e8, st8⟩ := getF X7 hx hZ hown (host := "") (Or.inl (hw _ (List.mem_of_getElem? (i := 42) rfl))) Via.refl e7 Ga2 (g := (mkF m 35 #[.val (.ref a6), .val (.ref b6), .val (.ref b6)] [(.ref a6)])) rfl rfl (hb hby own_d6_35)
        refine own_via (B := T8.setTop (mkF m 38 #[.val (.ref a6), .val (.ref b6), .val (.ref b6)] [(.ref w6)])) (fun t k => st8 t k) ?_
        refine own_via (B := T8.setTop (mkF m 39 #[.val (.ref a6), .val (.ref b6), .val (.ref b6)] [(.ref b6), (.ref w6)])) (fun t k => XS.aloadN X8.here hx rfl (hb hby own_d6_38) rfl rfl k) ?_
        obtain ⟨T9, X9, e9, st9⟩ := getF X8 hx hZ hown (host := "") (Or.inl (hw _ (List.mem_of_getElem? (i := 42) rfl))) Via.refl e8 Gb2 (g := (mkF m 39 #[.val (.ref a6), .val (.ref b6), .val (.ref b6)] [(.ref b6), (.ref w6)])) rfl rfl (hb hby own_d6_39)
        refine own_via (B := T9.setTop (mkF m 42 #[.val (.ref a6), .val (.ref b6), .val (.ref b6)] [(.ref w7), (.ref w6)])) (fun t k => st9 t k) ?_
        by_cases hc42 : w6 = w7
        · refine own_via (B := T9.setTop (mkF m 45 #[.val (.ref a6), .val (.ref b6), .val (.ref b6)] [])) (fun t k => Jvm.RoadKit.acmp (g := (mkF m 42 #[.val (.ref a6), .val (.ref b6), .val (.ref b6)] [(.ref w7), (.ref w6)])) X9 hx rfl rfl rfl (pc0 := 42) (pc' := 45) (same := true) rfl (hb hby own_d6_42) rfl (decide_eq_true (congrArg Value.ref hc42)) (by decide) (by decide) k) ?_
          refine own_via (B := T9.setTop (mkF m 46 #[.val (.ref a6), .val (.ref b6), .val (.ref b6)] [(.int (1 : Int32))])) (fun t k => XS.iconst X9.here hx rfl (hb hby own_d6_45) k) ?_
          refine own_via (B := T9.setTop (mkF m 50 #[.val (.ref a6), .val (.ref b6), .val (.ref b6)] [(.int (1 : Int32))])) (fun t k => XS.goto X9.here hx rfl (pc0 := 46) (pc' := 50) rfl (hb hby own_d6_46) (by decide) (by decide) k) ?_
          exact own_done ⟨_, _, _, N0, (Or.inl ⟨hc20, hc31, hc42, rfl⟩), rfl, X9, e9⟩
        · refine own_via (B := T9.setTop (mkF m 49 #[.val (.ref a6), .val (.ref b6), .val (.ref b6)] [])) (fun t k => Jvm.RoadKit.acmp (g := (mkF m 42 #[.val (.ref a6), .val (.ref b6), .val (.ref b6)] [(.ref w7), (.ref w6)])) X9 hx rfl rfl rfl (pc0 := 42) (pc' := 49) (same := false) rfl (hb hby own_d6_42) rfl (decide_eq_false fun q => hc42 (Value.ref.inj q)) (by decide) (by decide) k) ?_
          refine own_via (B := T9.setTop (mkF m 50 #[.val (.ref a6), .val (.ref b6), .val (.ref b6)] [(.int (0 : Int32))])) (fun t k => XS.iconst X9.here hx rfl (hb hby own_d6_49) k) ?_
          exact own_done ⟨_, _, _, N0, (Or.inr (Or.inl ⟨hc20, hc31, hc42, rfl⟩)), rfl, X9, e9⟩
      · refine own_via (B := T7.setTop (mkF m 49 #[.val (.ref a6), .val (.ref b6), .val (.ref b6)] [])) (fun t k => XS.icmpYes X7.here hx rfl (pc0 := 31) (pc' := 49) rfl (hb hby own_d6_31) rfl (feq hc31).2 (by decide) (by decide) k) ?_
        refine own_via (B := T7.setTop (mkF m 50 #[.val (.ref a6), .val (.ref b6), .val (.ref b6)] [(.int (0 : Int32))])) (fun t k => XS.iconst X7.here hx rfl (hb hby own_d6_49) k) ?_
        exact own_done ⟨_, _, _, N0, (Or.inr (Or.inr (Or.inl ⟨hc20, hc31, rfl⟩))), rfl, X7, e7⟩
    · refine own_via (B := T4.setTop (mkF m 49 #[.val (.ref a6), .val (.ref b6), .val (.ref b6)] [])) (fun t k => XS.icmpYes X4.here hx rfl (pc0 := 20) (pc' := 49) rfl (hb hby own_d6_20) rfl (feq hc20).2 (by decide) (by decide) k) ?_
      refine own_via (B := T4.setTop (mkF m 50 #[.val (.ref a6), .val (.ref b6), .val (.ref b6)] [(.int (0 : Int32))])) (fun t k => XS.iconst X4.here hx rfl (hb hby own_d6_49) k) ?_
      exact own_done ⟨_, _, _, N0, (Or.inr (Or.inr (Or.inr ⟨hc20, rfl⟩))), rfl, X4, e4⟩
  · rintro B ⟨T5, L5, v20s0, N5, hv20, rfl, X5, e5⟩
    refine own_leaf X5 hx hlk (t := .boolean) Bd.returns (own_b1 (by rcases hv20 with ⟨_, _, _, rfl⟩ | ⟨_, _, _, rfl⟩ | ⟨_, _, rfl⟩ | ⟨_, rfl⟩ <;> decide)) (Or.inl ⟨rfl, by simp, _, rfl⟩) (hb hby own_d6_50) (by decide) (by decide) ?_
    show Q6 Z a6 b6 t6 f6 w6 t7 f7 w7 h0 n0 _ T5.heap _
    rw [e5]
    refine ⟨?_, N5, rfl⟩
    rcases hv20 with ⟨h0, h1, h2, rfl⟩ | ⟨h0, h1, h2, rfl⟩ | ⟨h0, h1, rfl⟩ | ⟨h0, rfl⟩
    · rw [own_bitT ⟨h0, h1, h2⟩]
    · rw [own_bitF (fun q => h2 q.2.2)]
    · rw [own_bitF (fun q => h1 q.2.1)]
    · rw [own_bitF (fun q => h0 q.1)]
theorem own_d7_0 : decode prog_19_method_2_code 0 = .ok (.aload_n 1, 1) := by decide +kernel
theorem own_d7_1 : decode prog_19_method_2_code 1 = .ok (.instanceof 37, 3) := by decide +kernel
theorem own_d7_4 : decode prog_19_method_2_code 4 = .ok (.ifCond .eq 45, 3) := by decide +kernel
theorem own_d7_49 : decode prog_19_method_2_code 49 = .ok (.iconst 0, 1) := by decide +kernel
theorem own_d7_50 : decode prog_19_method_2_code 50 = .ok (.ireturn, 1) := by decide +kernel
theorem own_ef7 (m : MethodId) (x0 : Addr) : entryFrame m #[(.ref x0), .null] 3 = mkF m 0 #[.val (.ref x0), .val .null, .unset] [] := by first | (simp [entryFrame, mkF, argsToLocals, Value.category]; done) | rfl
def Q7 (Z : State) (a7 : Addr) (h0 : Heap) (n0 : Nat) (v : Option Value) (h : Heap) (L : List Loc) : Prop := v = some (.int (0 : Int32)) ∧ Fr n0 L ∧ h = h0
set_option maxRecDepth 65536 in
set_option maxHeartbeats 40000000 in
theorem rm7 (l : Launch) (Z : State) (a0 : Array Value) (hw : ∀ d ∈ tables_1, d.before a0 Z = true) (ws : List Jvm.Cond) (a7 : Addr) (h0 : Heap) (n0 : Nat) (Z0 : n0 ≤ h0.size) :
    MetFree l (⟨"com/example/fenceline/fenceline/litmus/PlacedFence", "equals", "(Ljava/lang/Object;)Z"⟩ : MethodName) (head1 (Jvm.Cond.code (⟨"com/example/fenceline/fenceline/litmus/PlacedFence", "equals", "(Ljava/lang/Object;)Z"⟩ : MethodName) prog_19_method_2_code 3 (some .boolean) :: ws) ({ frames := 0, cells := 0, slots := 0, locals := 0 } : Room)) (fun a U => a = #[(.ref a7), .null] ∧ Z.Warmed39 U.vm ∧ U.heap = h0) (fun _ _ _ _ _ => True) (fun _ U o U' => ∃ v L, o = .returned v ∧ Q7 Z a7 h0 n0 v U'.heap L ∧ FrameEnd U o U' L ({ frames := 0, cells := 0, slots := 0, locals := 0 } : Room).cells ({ frames := 0, cells := 0, slots := 0, locals := 0 } : Room).slots) := by
  refine MetFree.of_bodySF (plainFor_of_name own_pn3) hisR ?_
  intro p e s m args below meth c s₁ Bd hml0 hP hK
  obtain ⟨rfl, hZ, hh⟩ := hP
  have hx := Bd.exec
  have hby := Bd.bytes
  have hlk : meth.locks = false := Bd.notSynchronized
  have hml : c.maxLocals = 3 := hml0
  have hown : s.vm.findClass "com/example/fenceline/fenceline/litmus/PlacedFence" = some m.cls := findClass_of_methodNamed Bd.named
  have hnm := (name_of_methodNamed Bd.named Bd.method).1
  have X0 : Stand p l e ({ frames := 0, cells := 0, slots := 0, locals := 0 } : Room) s m #[(.ref a7), .null] below meth c s₁ [] 0 0 := Stand.of_body Bd
  have e0 : s₁.heap = h0 := by rw [← hh, Bd.state]; rfl
  have N0 := Fr.nil n0
  refine own_body (A := s₁.setTop (mkF m 0 #[.val (.ref a7), .val .null, .unset] [])) (Q := Q7 Z a7 h0 n0) (fun t k => castTop (own_ef7 m a7) k) ?_
  refine own_via (B := s₁.setTop (mkF m 1 #[.val (.ref a7), .val .null, .unset] [.null])) (fun t k => XS.aloadN X0.here hx rfl (hb hby own_d7_0) rfl rfl k) ?_
  refine own_via (B := s₁.setTop (mkF m 4 #[.val (.ref a7), .val .null, .unset] [(.int (0 : Int32))])) (fun t k => X0.instanceofNull hx (g := (mkF m 1 #[.val (.ref a7), .val .null, .unset] [.null])) rfl rfl (hb hby own_d7_1) _ k) ?_
  have hc4 : (0 : Int32) = (0 : Int32) := by decide
  refine own_via (B := s₁.setTop (mkF m 49 #[.val (.ref a7), .val .null, .unset] [])) (fun t k => XS.ifYes X0.here hx rfl (pc0 := 4) (pc' := 49) rfl (hb hby own_d7_4) rfl ((if0 _ _).trans (teq hc4).1) (by decide) (by decide) k) ?_
  refine own_via (B := s₁.setTop (mkF m 50 #[.val (.ref a7), .val .null, .unset] [(.int (0 : Int32))])) (fun t k => XS.iconst X0.here hx rfl (hb hby own_d7_49) k) ?_
  refine own_leaf X0 hx hlk (t := .boolean) Bd.returns (by decide) (Or.inl ⟨rfl, by simp, _, rfl⟩) (hb hby own_d7_50) (by decide) (by decide) ?_
  show Q7 Z a7 h0 n0 _ s₁.heap _
  rw [e0]
  refine ⟨?_, N0, rfl⟩
  rfl
theorem own_d8_0 : decode prog_19_method_2_code 0 = .ok (.aload_n 1, 1) := by decide +kernel
theorem own_d8_1 : decode prog_19_method_2_code 1 = .ok (.instanceof 37, 3) := by decide +kernel
theorem own_d8_4 : decode prog_19_method_2_code 4 = .ok (.ifCond .eq 45, 3) := by decide +kernel
theorem own_d8_49 : decode prog_19_method_2_code 49 = .ok (.iconst 0, 1) := by decide +kernel
theorem own_d8_50 : decode prog_19_method_2_code 50 = .ok (.ireturn, 1) := by decide +kernel
theorem own_ef8 (m : MethodId) (x0 : Addr) (x1 : Addr) : entryFrame m #[(.ref x0), (.ref x1)] 3 = mkF m 0 #[.val (.ref x0), .val (.ref x1), .unset] [] := by first | (simp [entryFrame, mkF, argsToLocals, Value.category]; done) | rfl
def Q8 (Z : State) (a8 : Addr) (b8 : Addr) (k8 : String) (h0 : Heap) (n0 : Nat) (v : Option Value) (h : Heap) (L : List Loc) : Prop := v = some (.int (0 : Int32)) ∧ Fr n0 L ∧ h = h0
set_option maxRecDepth 65536 in
set_option maxHeartbeats 40000000 in
theorem rm8 (l : Launch) (Z : State) (a0 : Array Value) (hw : ∀ d ∈ tables_1, d.before a0 Z = true) (ws : List Jvm.Cond) (a8 : Addr) (b8 : Addr) (k8 : String) (h0 : Heap) (n0 : Nat) (Z0 : n0 ≤ h0.size) (E8 : Exa Z h0 b8 k8) (hno : own_No Z k8 "com/example/fenceline/fenceline/litmus/PlacedFence") :
    MetFree l (⟨"com/example/fenceline/fenceline/litmus/PlacedFence", "equals", "(Ljava/lang/Object;)Z"⟩ : MethodName) (head1 (Jvm.Cond.code (⟨"com/example/fenceline/fenceline/litmus/PlacedFence", "equals", "(Ljava/lang/Object;)Z"⟩ : MethodName) prog_19_method_2_code 3 (some .boolean) :: ws) ({ frames := 0, cells := 0, slots := 0, locals := 0 } : Room)) (fun a U => a = #[(.ref a8), (.ref b8)] ∧ Z.Warmed39 U.vm ∧ U.heap = h0) (fun _ _ _ _ _ => True) (fun _ U o U' => ∃ v L, o = .returned v ∧ Q8 Z a8 b8 k8 h0 n0 v U'.heap L ∧ FrameEnd U o U' L ({ frames := 0, cells := 0, slots := 0, locals := 0 } : Room).cells ({ frames := 0, cells := 0, slots := 0, locals := 0 } : Room).slots) := by
  refine MetFree.of_bodySF (plainFor_of_name own_pn3) hisR ?_
  intro p e s m args below meth c s₁ Bd hml0 hP hK
  obtain ⟨rfl, hZ, hh⟩ := hP
  have hx := Bd.exec
  have hby := Bd.bytes
  have hlk : meth.locks = false := Bd.notSynchronized
  have hml : c.maxLocals = 3 := hml0
  have hown : s.vm.findClass "com/example/fenceline/fenceline/litmus/PlacedFence" = some m.cls := findClass_of_methodNamed Bd.named
  have hnm := (name_of_methodNamed Bd.named Bd.method).1
  have X0 : Stand p l e ({ frames := 0, cells := 0, slots := 0, locals := 0 } : Room) s m #[(.ref a8), (.ref b8)] below meth c s₁ [] 0 0 := Stand.of_body Bd
  have e0 : s₁.heap = h0 := by rw [← hh, Bd.state]; rfl
  have N0 := Fr.nil n0
  refine own_body (A := s₁.setTop (mkF m 0 #[.val (.ref a8), .val (.ref b8), .unset] [])) (Q := Q8 Z a8 b8 k8 h0 n0) (fun t k => castTop (own_ef8 m a8 b8) k) ?_
  refine own_via (B := s₁.setTop (mkF m 1 #[.val (.ref a8), .val (.ref b8), .unset] [(.ref b8)])) (fun t k => XS.aloadN X0.here hx rfl (hb hby own_d8_0) rfl rfl k) ?_
  obtain ⟨T1, X1, e1, st1⟩ := instNo X0 hx hZ hown (hw _ (List.mem_of_getElem? (i := 49) rfl)) e0 E8 hno (g := (mkF m 1 #[.val (.ref a8), .val (.ref b8), .unset] [(.ref b8)])) rfl rfl (hb hby own_d8_1)
  refine own_via (B := T1.setTop (mkF m 4 #[.val (.ref a8), .val (.ref b8), .unset] [(.int (0 : Int32))])) (fun t k => st1 t k) ?_
  have hc4 : (0 : Int32) = (0 : Int32) := by decide
  refine own_via (B := T1.setTop (mkF m 49 #[.val (.ref a8), .val (.ref b8), .unset] [])) (fun t k => XS.ifYes X1.here hx rfl (pc0 := 4) (pc' := 49) rfl (hb hby own_d8_4) rfl ((if0 _ _).trans (teq hc4).1) (by decide) (by decide) k) ?_
  refine own_via (B := T1.setTop (mkF m 50 #[.val (.ref a8), .val (.ref b8), .unset] [(.int (0 : Int32))])) (fun t k => XS.iconst X1.here hx rfl (hb hby own_d8_49) k) ?_
  refine own_leaf X1 hx hlk (t := .boolean) Bd.returns (by decide) (Or.inl ⟨rfl, by simp, _, rfl⟩) (hb hby own_d8_50) (by decide) (by decide) ?_
  show Q8 Z a8 b8 k8 h0 n0 _ T1.heap _
  rw [e1]
  refine ⟨?_, N0, rfl⟩
  rfl
theorem own_pn4 : plainName "java/lang/Number" = true := by first | (simp [plainName, overriddenIn]; done) | decide +kernel
theorem own_d9_0 : decode jdk_18_method_1_code 0 = .ok (.aload_n 0, 1) := by decide +kernel
theorem own_d9_1 : decode jdk_18_method_1_code 1 = .ok (.invokespecial 1, 3) := by decide +kernel
theorem own_d9_4 : decode jdk_18_method_1_code 4 = .ok (.return_, 1) := by decide +kernel
theorem own_ef9 (m : MethodId) (x0 : Addr) : entryFrame m #[(.ref x0)] 1 = mkF m 0 #[.val (.ref x0)] [] := by first | (simp [entryFrame, mkF, argsToLocals, Value.category]; done) | rfl
def Q9 (Z : State) (a9 : Addr) (h0 : Heap) (n0 : Nat) (v : Option Value) (h : Heap) (L : List Loc) : Prop := v = none ∧ Fr n0 L ∧ h = h0
set_option maxRecDepth 65536 in
set_option maxHeartbeats 40000000 in
theorem rm9 (l : Launch) (Z : State) (a0 : Array Value) (hw : ∀ d ∈ tables_1, d.before a0 Z = true) (ws : List Jvm.Cond) (a9 : Addr) (h0 : Heap) (n0 : Nat) (Z0 : n0 ≤ h0.size) :
    MetFree l (⟨"java/lang/Number", "<init>", "()V"⟩ : MethodName) (head1 (Jvm.Cond.code (⟨"java/lang/Number", "<init>", "()V"⟩ : MethodName) jdk_18_method_1_code 1 none :: ws) ({ frames := 1, cells := 0, slots := 0, locals := 12 } : Room)) (fun a U => a = #[(.ref a9)] ∧ Z.Warmed39 U.vm ∧ U.heap = h0) (fun _ _ _ _ _ => True) (fun _ U o U' => ∃ v L, o = .returned v ∧ Q9 Z a9 h0 n0 v U'.heap L ∧ FrameEnd U o U' L ({ frames := 1, cells := 0, slots := 0, locals := 12 } : Room).cells ({ frames := 1, cells := 0, slots := 0, locals := 12 } : Room).slots) := by
  refine MetFree.of_bodySF (plainFor_of_name own_pn4) hisR ?_
  intro p e s m args below meth c s₁ Bd hml0 hP hK
  obtain ⟨rfl, hZ, hh⟩ := hP
  have hx := Bd.exec
  have hby := Bd.bytes
  have hlk : meth.locks = false := Bd.notSynchronized
  have hml : c.maxLocals = 1 := hml0
  have hown : s.vm.findClass "java/lang/Number" = some m.cls := findClass_of_methodNamed Bd.named
  have hnm := (name_of_methodNamed Bd.named Bd.method).1
  have X0 : Stand p l e ({ frames := 1, cells := 0, slots := 0, locals := 12 } : Room) s m #[(.ref a9)] below meth c s₁ [] 0 0 := Stand.of_body Bd
  have e0 : s₁.heap = h0 := by rw [← hh, Bd.state]; rfl
  have N0 := Fr.nil n0
  refine own_body (A := s₁.setTop (mkF m 0 #[.val (.ref a9)] [])) (Q := Q9 Z a9 h0 n0) (fun t k => castTop (own_ef9 m a9) k) ?_
  refine own_via (B := s₁.setTop (mkF m 1 #[.val (.ref a9)] [(.ref a9)])) (fun t k => XS.aloadN X0.here hx rfl (hb hby own_d9_0) rfl rfl k) ?_
  obtain ⟨T1, X1, e1, st1⟩ := initO X0 hx hZ hown (hw _ (List.mem_of_getElem? (i := 79) rfl)) (hw _ (List.mem_of_getElem? (i := 24) rfl)) (hw _ (List.mem_of_getElem? (i := 25) rfl)) e0 (g := (mkF m 1 #[.val (.ref a9)] [(.ref a9)])) rfl (by rw [hml]; rfl) rfl (hb hby own_d9_1) (by decide) (W := 0) (by show 2 * 0 + _ ≤ _; exact Nat.le_of_eq rfl) (by decide)
  refine own_via (B := T1.setTop (mkF m 4 #[.val (.ref a9)] [])) (fun t k => st1 t k) ?_
  refine own_leafV X1 hx hlk Bd.returns (hb hby own_d9_4) (by decide) (by decide) ?_
  show Q9 Z a9 h0 n0 _ T1.heap _
  rw [e1]
  refine ⟨?_, N0, rfl⟩
  rfl
theorem own_pn5 : plainName "java/lang/Integer" = true := by first | (simp [plainName, overriddenIn]; done) | decide +kernel
theorem own_d10_0 : decode jdk_33_method_23_code 0 = .ok (.aload_n 0, 1) := by decide +kernel
theorem own_d10_1 : decode jdk_33_method_23_code 1 = .ok (.invokespecial 202, 3) := by decide +kernel
theorem own_d10_4 : decode jdk_33_method_23_code 4 = .ok (.aload_n 0, 1) := by decide +kernel
theorem own_d10_5 : decode jdk_33_method_23_code 5 = .ok (.iload_n 1, 1) := by decide +kernel
theorem own_d10_6 : decode jdk_33_method_23_code 6 = .ok (.putfield 205, 3) := by decide +kernel
theorem own_d10_9 : decode jdk_33_method_23_code 9 = .ok (.return_, 1) := by decide +kernel
theorem own_ef10 (m : MethodId) (x0 : Addr) (x1 : Int32) : entryFrame m #[(.ref x0), (.int x1)] 2 = mkF m 0 #[.val (.ref x0), .val (.int x1)] [] := by first | (simp [entryFrame, mkF, argsToLocals, Value.category]; done) | rfl
def Q10 (Z : State) (a10 : Addr) (x10 : Int32) (u10 : Int32) (h0 : Heap) (n0 : Nat) (v : Option Value) (h : Heap) (L : List Loc) : Prop := v = none ∧ Fr n0 L ∧ Keep h0 h [a10]
set_option maxRecDepth 65536 in
set_option maxHeartbeats 40000000 in
theorem rm10 (l : Launch) (Z : State) (a0 : Array Value) (hw : ∀ d ∈ tables_1, d.before a0 Z = true) (ws : List Jvm.Cond) (a10 : Addr) (x10 : Int32) (u10 : Int32) (h0 : Heap) (n0 : Nat) (Z0 : n0 ≤ h0.size) (E10 : Exa Z h0 a10 "java/lang/Integer") (F10 : Fld Z h0 a10 "java/lang/Integer" "value" "I" (.int u10)) (g_a10 : n0 ≤ a10) :
    MetFree l (⟨"java/lang/Integer", "<init>", "(I)V"⟩ : MethodName) (head1 (Jvm.Cond.code (⟨"java/lang/Integer", "<init>", "(I)V"⟩ : MethodName) jdk_33_method_23_code 2 none :: ws) ({ frames := 2, cells := 0, slots := 0, locals := 24 } : Room)) (fun a U => a = #[(.ref a10), (.int x10)] ∧ Z.Warmed39 U.vm ∧ U.heap = h0) (fun _ _ _ _ _ => True) (fun _ U o U' => ∃ v L, o = .returned v ∧ Q10 Z a10 x10 u10 h0 n0 v U'.heap L ∧ FrameEnd U o U' L ({ frames := 2, cells := 0, slots := 0, locals := 24 } : Room).cells ({ frames := 2, cells := 0, slots := 0, locals := 24 } : Room).slots) := by
  refine MetFree.of_bodySF (plainFor_of_name own_pn5) hisR ?_
  intro p e s m args below meth c s₁ Bd hml0 hP hK
  obtain ⟨rfl, hZ, hh⟩ := hP
  have hx := Bd.exec
  have hby := Bd.bytes
  have hlk : meth.locks = false := Bd.notSynchronized
  have hml : c.maxLocals = 2 := hml0
  have hown : s.vm.findClass "java/lang/Integer" = some m.cls := findClass_of_methodNamed Bd.named
  have hnm := (name_of_methodNamed Bd.named Bd.method).1
  have X0 : Stand p l e ({ frames := 2, cells := 0, slots := 0, locals := 24 } : Room) s m #[(.ref a10), (.int x10)] below meth c s₁ [] 0 0 := Stand.of_body Bd
  have e0 : s₁.heap = h0 := by rw [← hh, Bd.state]; rfl
  have N0 := Fr.nil n0
  refine own_body (A := s₁.setTop (mkF m 0 #[.val (.ref a10), .val (.int x10)] [])) (Q := Q10 Z a10 x10 u10 h0 n0) (fun t k => castTop (own_ef10 m a10 x10) k) ?_
  refine own_via (B := s₁.setTop (mkF m 1 #[.val (.ref a10), .val (.int x10)] [(.ref a10)])) (fun t k => XS.aloadN X0.here hx rfl (hb hby own_d10_0) rfl rfl k) ?_
  obtain ⟨_, _, ⟨T1, L1, k1, n1⟩, -, X1, ⟨Lc1, hQ1, l1, y1, z1⟩, st1⟩ := X0.specialBack hx (y := (⟨"java/lang/Number", "<init>", "()V"⟩ : MethodName)) rfl hown (mvT hZ (hw _ (List.mem_of_getElem? (i := 73) rfl))) (mvT hZ (hw _ (List.mem_of_getElem? (i := 74) rfl))) (mvT hZ (hw _ (List.mem_of_getElem? (i := 78) rfl))) (by decide) (backOf (W := 0) (rm9 l Z a0 hw [] a10 h0 n0 Z0 ) hZ (hw _ (List.mem_of_getElem? (i := 78) rfl)) (hw _ (List.mem_of_getElem? (i := 77) rfl)) (by decide) (by decide)) (g := (mkF m 1 #[.val (.ref a10), .val (.int x10)] [(.ref a10)])) rfl (by rw [hml]; rfl) (Steps.refl _) (a := a10) (argsL := []) (rest := []) (lenOf own_pd0 rfl) rfl (by show 2 * 0 + _ ≤ _; exact Nat.le_of_eq rfl) (hb hby own_d10_1) (fun _ _ => ⟨rfl, e0, (by decide : 0 + 0 ≤ _), (by decide : 0 + 0 ≤ _)⟩)
  dsimp only [Pt.U, Pt.locs, Pt.cells, Pt.slots] at X1 l1 y1 z1 st1 hQ1
  subst l1 y1 z1
  obtain ⟨rfl, Nq1, eq1⟩ := hQ1
  have N1 := Fr.app N0 Nq1
  refine own_via (B := T1.setTop (mkF m 4 #[.val (.ref a10), .val (.int x10)] [])) (fun t k => st1.trans k) ?_
  refine own_via (B := T1.setTop (mkF m 5 #[.val (.ref a10), .val (.int x10)] [(.ref a10)])) (fun t k => XS.aloadN X1.here hx rfl (hb hby own_d10_4) rfl rfl k) ?_
  refine own_via (B := T1.setTop (mkF m 6 #[.val (.ref a10), .val (.int x10)] [(.int x10), (.ref a10)])) (fun t k => XS.iloadN X1.here hx rfl (hb hby own_d10_5) rfl k) ?_
  obtain ⟨T2, h2, X2, e2, W2, st2⟩ := putF X1 hx hZ hown (host := "") (Or.inl (hw _ (List.mem_of_getElem? (i := 80) rfl))) Via.refl eq1 F10 E10 (Or.inr ⟨(hw _ (List.mem_of_getElem? (i := 81) rfl)), rfl, hnm⟩) (hw _ (List.mem_of_getElem? (i := 68) rfl)) (ty := .int) (by decide) rfl rfl (g := (mkF m 6 #[.val (.ref a10), .val (.int x10)] [(.int x10), (.ref a10)])) rfl rfl (hb hby own_d10_6)
  have Fw2 := F10.same W2
  have N2 := Fr.snoc X2 N1 g_a10
  refine own_via (B := T2.setTop (mkF m 9 #[.val (.ref a10), .val (.int x10)] [])) (fun t k => st2 t k) ?_
  refine own_leafV X2 hx hlk Bd.returns (hb hby own_d10_9) (by decide) (by decide) ?_
  show Q10 Z a10 x10 u10 h0 n0 _ T2.heap _
  rw [e2]
  refine ⟨?_, N2, ((Keep.refl h0 [a10]).wr W2 (Or.inl (List.mem_of_getElem? (i := 0) rfl)))⟩
  rfl
theorem own_pd2 : parseMethodDescriptor "(I)V" = some ⟨[.int], none⟩ := by decide +kernel
theorem own_d11_0 : decode jdk_33_method_22_code 0 = .ok (.iload_n 0, 1) := by decide +kernel
theorem own_d11_1 : decode jdk_33_method_22_code 1 = .ok (.bipush (-128), 2) := by decide +kernel
theorem own_d11_3 : decode jdk_33_method_22_code 3 = .ok (.if_icmp .lt 20, 3) := by decide +kernel
theorem own_d11_6 : decode jdk_33_method_22_code 6 = .ok (.iload_n 0, 1) := by decide +kernel
theorem own_d11_7 : decode jdk_33_method_22_code 7 = .ok (.getstatic 191, 3) := by decide +kernel
theorem own_d11_10 : decode jdk_33_method_22_code 10 = .ok (.if_icmp .gt 13, 3) := by decide +kernel
theorem own_d11_13 : decode jdk_33_method_22_code 13 = .ok (.getstatic 195, 3) := by decide +kernel
theorem own_d11_16 : decode jdk_33_method_22_code 16 = .ok (.iload_n 0, 1) := by decide +kernel
theorem own_d11_17 : decode jdk_33_method_22_code 17 = .ok (.sipush 128, 3) := by decide +kernel
theorem own_d11_20 : decode jdk_33_method_22_code 20 = .ok (.iadd, 1) := by decide +kernel
theorem own_d11_21 : decode jdk_33_method_22_code 21 = .ok (.aaload, 1) := by decide +kernel
theorem own_d11_22 : decode jdk_33_method_22_code 22 = .ok (.areturn, 1) := by decide +kernel
theorem own_d11_23 : decode jdk_33_method_22_code 23 = .ok (.new 1, 3) := by decide +kernel
theorem own_d11_26 : decode jdk_33_method_22_code 26 = .ok (.dup, 1) := by decide +kernel
theorem own_d11_27 : decode jdk_33_method_22_code 27 = .ok (.iload_n 0, 1) := by decide +kernel
theorem own_d11_28 : decode jdk_33_method_22_code 28 = .ok (.invokespecial 199, 3) := by decide +kernel
theorem own_d11_31 : decode jdk_33_method_22_code 31 = .ok (.areturn, 1) := by decide +kernel
theorem own_ef11 (m : MethodId) (x0 : Int32) : entryFrame m #[(.int x0)] 1 = mkF m 0 #[.val (.int x0)] [] := by first | (simp [entryFrame, mkF, argsToLocals, Value.category]; done) | rfl
def Q11 (Z : State) (x11 : Int32) (aC : Addr) (cl : Cell) (h0 : Heap) (n0 : Nat) (v : Option Value) (h : Heap) (L : List Loc) : Prop := ∃ (r : Addr), v = some (.ref r) ∧ Fr n0 L ∧ Keep h0 h [] ∧ (Exa Z h r "java/lang/Integer")
set_option maxRecDepth 65536 in
set_option maxHeartbeats 40000000 in
theorem rm11 (l : Launch) (Z : State) (a0 : Array Value) (hw : ∀ d ∈ tables_1, d.before a0 Z = true) (ws : List Jvm.Cond) (x11 : Int32) (aC : Addr) (cl : Cell) (h0 : Heap) (n0 : Nat) (Z0 : n0 ≤ h0.size) (O0 : Old Z n0 h0) (SH : Sta Z Z.heap "java/lang/Integer$IntegerCache" "high" "I" (.int (127 : Int32))) (SC : Sta Z Z.heap "java/lang/Integer$IntegerCache" "cache" "[Ljava/lang/Integer;" (.ref aC)) (ArC : Arr Z Z.heap aC cl (.object "java/lang/Integer")) (hsz : cl.slots.size = 256) (hel : ∀ i : Nat, i < 256 → ∃ r, cl.slots[i]? = some (.ref r) ∧ Exa Z Z.heap r "java/lang/Integer") :
    MetFree l (⟨"java/lang/Integer", "valueOf", "(I)Ljava/lang/Integer;"⟩ : MethodName) (head1 (Jvm.Cond.code (⟨"java/lang/Integer", "valueOf", "(I)Ljava/lang/Integer;"⟩ : MethodName) jdk_33_method_22_code 1 (some (.object "java/lang/Integer")) :: ws) ({ frames := 3, cells := 1, slots := 1, locals := 38 } : Room)) (fun a U => a = #[(.int x11)] ∧ Z.Warmed39 U.vm ∧ U.heap = h0) (fun _ _ _ _ _ => True) (fun _ U o U' => ∃ v L, o = .returned v ∧ Q11 Z x11 aC cl h0 n0 v U'.heap L ∧ FrameEnd U o U' L ({ frames := 3, cells := 1, slots := 1, locals := 38 } : Room).cells ({ frames := 3, cells := 1, slots := 1, locals := 38 } : Room).slots) := by
  refine MetFree.of_bodySF (plainFor_of_name own_pn5) hisR ?_
  intro p e s m args below meth c s₁ Bd hml0 hP hK
  obtain ⟨rfl, hZ, hh⟩ := hP
  have hx := Bd.exec
  have hby := Bd.bytes
  have hlk : meth.locks = false := Bd.notSynchronized
  have hml : c.maxLocals = 1 := hml0
  have hown : s.vm.findClass "java/lang/Integer" = some m.cls := findClass_of_methodNamed Bd.named
  have hnm := (name_of_methodNamed Bd.named Bd.method).1
  have X0 : Stand p l e ({ frames := 3, cells := 1, slots := 1, locals := 38 } : Room) s m #[(.int x11)] below meth c s₁ [] 0 0 := Stand.of_body Bd
  have e0 : s₁.heap = h0 := by rw [← hh, Bd.state]; rfl
  have N0 := Fr.nil n0
  refine own_body (A := s₁.setTop (mkF m 0 #[.val (.int x11)] [])) (Q := Q11 Z x11 aC cl h0 n0) (fun t k => castTop (own_ef11 m x11) k) ?_
  refine own_via (B := s₁.setTop (mkF m 1 #[.val (.int x11)] [(.int x11)])) (fun t k => XS.iloadN X0.here hx rfl (hb hby own_d11_0) rfl k) ?_
  refine own_via (B := s₁.setTop (mkF m 3 #[.val (.int x11)] [(.int (-128 : Int32)), (.int x11)])) (fun t k => XS.bipush X0.here hx rfl (hb hby own_d11_1) k) ?_
  by_cases hc3 : x11 < (-128 : Int32)
  · refine own_via (B := s₁.setTop (mkF m 23 #[.val (.int x11)] [])) (fun t k => XS.icmpYes X0.here hx rfl (pc0 := 3) (pc' := 23) rfl (hb hby own_d11_3) rfl (tlt hc3).1 (by decide) (by decide) k) ?_
    obtain ⟨T1, h1, X1, e1, E1, A1, D1, -, st1⟩ := newO X0 hx hZ hown (hw _ (List.mem_of_getElem? (i := 67) rfl)) (hw _ (List.mem_of_getElem? (i := 68) rfl)) (hw _ (List.mem_of_getElem? (i := 56) rfl)) e0 (g := (mkF m 23 #[.val (.int x11)] [])) rfl (hb hby own_d11_23) (by decide) (by decide)
    obtain ⟨b1, g1⟩ : ∃ z, z = h0.size := ⟨_, rfl⟩
    rw [← g1] at A1 D1 st1
    have g_b1 : n0 ≤ b1 := Nat.le_trans Z0 (Nat.le_of_eq g1.symm)
    have F1_value : Fld Z h1 b1 "java/lang/Integer" "value" "I" (.int (0 : Int32)) := D1 (Or.inr (hw _ (List.mem_of_getElem? (i := 81) rfl))) (ty := .int) (by decide)
    refine own_via (B := T1.setTop (mkF m 26 #[.val (.int x11)] [(.ref b1)])) (fun t k => st1 t k) ?_
    refine own_via (B := T1.setTop (mkF m 27 #[.val (.int x11)] [(.ref b1), (.ref b1)])) (fun t k => XS.dup X1.here hx rfl (hb hby own_d11_26) rfl rfl k) ?_
    refine own_via (B := T1.setTop (mkF m 28 #[.val (.int x11)] [(.int x11), (.ref b1), (.ref b1)])) (fun t k => XS.iloadN X1.here hx rfl (hb hby own_d11_27) rfl k) ?_
    obtain ⟨_, _, ⟨T2, L2, k2, n2⟩, -, X2, ⟨Lc2, hQ2, l2, y2, z2⟩, st2⟩ := X1.specialBack hx (y := (⟨"java/lang/Integer", "<init>", "(I)V"⟩ : MethodName)) rfl hown (mvT hZ (hw _ (List.mem_of_getElem? (i := 69) rfl))) (mvT hZ (hw _ (List.mem_of_getElem? (i := 70) rfl))) (mvT hZ (hw _ (List.mem_of_getElem? (i := 72) rfl))) (by decide) (backOf (W := 1) (rm10 l Z a0 hw [] b1 x11 (0 : Int32) h1 n0 (Nat.le_trans Z0 E1.1) A1 F1_value g_b1) hZ (hw _ (List.mem_of_getElem? (i := 72) rfl)) (hw _ (List.mem_of_getElem? (i := 56) rfl)) (by decide) (by decide)) (g := (mkF m 28 #[.val (.int x11)] [(.int x11), (.ref b1), (.ref b1)])) rfl (by rw [hml]; rfl) (Steps.refl _) (a := b1) (argsL := [(.int x11)]) (rest := [(.ref b1)]) (lenOf own_pd2 rfl) rfl (by show 2 * 0 + _ ≤ _; exact Nat.le_of_eq rfl) (hb hby own_d11_28) (fun _ _ => ⟨rfl, e1, (by decide : (0 + 1) + 0 ≤ _), (by decide : (0 + 1) + 0 ≤ _)⟩)
    dsimp only [Pt.U, Pt.locs, Pt.cells, Pt.slots] at X2 l2 y2 z2 st2 hQ2
    subst l2 y2 z2
    obtain ⟨rfl, Nq2, Kq2⟩ := hQ2
    have N2 := Fr.app N0 Nq2
    refine own_via (B := T2.setTop (mkF m 31 #[.val (.int x11)] [(.ref b1)])) (fun t k => st2.trans k) ?_
    refine own_leaf X2 hx hlk (t := (.object "java/lang/Integer")) Bd.returns rfl (Or.inr (Or.inr (Or.inr (Or.inr ⟨rfl, rfl, rfl⟩)))) (hb hby own_d11_31) (by decide) (by decide) ?_
    show Q11 Z x11 aC cl h0 n0 _ T2.heap _
    refine ⟨b1, ?_, N2, (((Keep.refl h0 []).ext E1).trans Kq2 (allS (Or.inr (Nat.le_of_eq g1.symm)) all0)), (A1.keep Kq2)⟩
    rfl
  · refine own_via (B := s₁.setTop (mkF m 6 #[.val (.int x11)] [])) (fun t k => XS.icmpNo X0.here hx rfl (hb hby own_d11_3) rfl (flt hc3).1 k) ?_
    refine own_via (B := s₁.setTop (mkF m 7 #[.val (.int x11)] [(.int x11)])) (fun t k => XS.iloadN X0.here hx rfl (hb hby own_d11_6) rfl k) ?_
    obtain ⟨T3, X3, e3, st3⟩ := getS2 X0 hx hZ hown (host := "") (Or.inl (hw _ (List.mem_of_getElem? (i := 58) rfl))) Via.refl e0 (SH.ext O0.2) (g := (mkF m 7 #[.val (.int x11)] [(.int x11)])) rfl (hb hby own_d11_7)
    refine own_via (B := T3.setTop (mkF m 10 #[.val (.int x11)] [(.int (127 : Int32)), (.int x11)])) (fun t k => st3 t k) ?_
    by_cases hc10 : (127 : Int32) < x11
    · refine own_via (B := T3.setTop (mkF m 23 #[.val (.int x11)] [])) (fun t k => XS.icmpYes X3.here hx rfl (pc0 := 10) (pc' := 23) rfl (hb hby own_d11_10) rfl (tlt hc10).2.2.1 (by decide) (by decide) k) ?_
      obtain ⟨T4, h4, X4, e4, E4, A4, D4, -, st4⟩ := newO X3 hx hZ hown (hw _ (List.mem_of_getElem? (i := 67) rfl)) (hw _ (List.mem_of_getElem? (i := 68) rfl)) (hw _ (List.mem_of_getElem? (i := 56) rfl)) e3 (g := (mkF m 23 #[.val (.int x11)] [])) rfl (hb hby own_d11_23) (by decide) (by decide)
      obtain ⟨b4, g4⟩ : ∃ z, z = h0.size := ⟨_, rfl⟩
      rw [← g4] at A4 D4 st4
      have g_b4 : n0 ≤ b4 := Nat.le_trans Z0 (Nat.le_of_eq g4.symm)
      have F4_value : Fld Z h4 b4 "java/lang/Integer" "value" "I" (.int (0 : Int32)) := D4 (Or.inr (hw _ (List.mem_of_getElem? (i := 81) rfl))) (ty := .int) (by decide)
      refine own_via (B := T4.setTop (mkF m 26 #[.val (.int x11)] [(.ref b4)])) (fun t k => st4 t k) ?_
      refine own_via (B := T4.setTop (mkF m 27 #[.val (.int x11)] [(.ref b4), (.ref b4)])) (fun t k => XS.dup X4.here hx rfl (hb hby own_d11_26) rfl rfl k) ?_
      refine own_via (B := T4.setTop (mkF m 28 #[.val (.int x11)] [(.int x11), (.ref b4), (.ref b4)])) (fun t k => XS.iloadN X4.here hx rfl (hb hby own_d11_27) rfl k) ?_
      obtain ⟨_, _, ⟨T5, L5, k5, n5⟩, -, X5, ⟨Lc5, hQ5, l5, y5, z5⟩, st5⟩ := X4.specialBack hx (y := (⟨"java/lang/Integer", "<init>", "(I)V"⟩ : MethodName)) rfl hown (mvT hZ (hw _ (List.mem_of_getElem? (i := 69) rfl))) (mvT hZ (hw _ (List.mem_of_getElem? (i := 70) rfl))) (mvT hZ (hw _ (List.mem_of_getElem? (i := 72) rfl))) (by decide) (backOf (W := 1) (rm10 l Z a0 hw [] b4 x11 (0 : Int32) h4 n0 (Nat.le_trans Z0 E4.1) A4 F4_value g_b4) hZ (hw _ (List.mem_of_getElem? (i := 72) rfl)) (hw _ (List.mem_of_getElem? (i := 56) rfl)) (by decide) (by decide)) (g := (mkF m 28 #[.val (.int x11)] [(.int x11), (.ref b4), (.ref b4)])) rfl (by rw [hml]; rfl) (Steps.refl _) (a := b4) (argsL := [(.int x11)]) (rest := [(.ref b4)]) (lenOf own_pd2 rfl) rfl (by show 2 * 0 + _ ≤ _; exact Nat.le_of_eq rfl) (hb hby own_d11_28) (fun _ _ => ⟨rfl, e4, (by decide : (0 + 1) + 0 ≤ _), (by decide : (0 + 1) + 0 ≤ _)⟩)
      dsimp only [Pt.U, Pt.locs, Pt.cells, Pt.slots] at X5 l5 y5 z5 st5 hQ5
      subst l5 y5 z5
      obtain ⟨rfl, Nq5, Kq5⟩ := hQ5
      have N5 := Fr.app N0 Nq5
      refine own_via (B := T5.setTop (mkF m 31 #[.val (.int x11)] [(.ref b4)])) (fun t k => st5.trans k) ?_
      refine own_leaf X5 hx hlk (t := (.object "java/lang/Integer")) Bd.returns rfl (Or.inr (Or.inr (Or.inr (Or.inr ⟨rfl, rfl, rfl⟩)))) (hb hby own_d11_31) (by decide) (by decide) ?_
      show Q11 Z x11 aC cl h0 n0 _ T5.heap _
      refine ⟨b4, ?_, N5, (((Keep.refl h0 []).ext E4).trans Kq5 (allS (Or.inr (Nat.le_of_eq g4.symm)) all0)), (A4.keep Kq5)⟩
      rfl
    · refine own_via (B := T3.setTop (mkF m 13 #[.val (.int x11)] [])) (fun t k => XS.icmpNo X3.here hx rfl (hb hby own_d11_10) rfl (flt hc10).2.2.1 k) ?_
      obtain ⟨T6, X6, e6, st6⟩ := getS2 X3 hx hZ hown (host := "") (Or.inl (hw _ (List.mem_of_getElem? (i := 60) rfl))) Via.refl e3 (SC.ext O0.2) (g := (mkF m 13 #[.val (.int x11)] [])) rfl (hb hby own_d11_13)
      refine own_via (B := T6.setTop (mkF m 16 #[.val (.int x11)] [(.ref aC)])) (fun t k => st6 t k) ?_
      refine own_via (B := T6.setTop (mkF m 17 #[.val (.int x11)] [(.int x11), (.ref aC)])) (fun t k => XS.iloadN X6.here hx rfl (hb hby own_d11_16) rfl k) ?_
      refine own_via (B := T6.setTop (mkF m 20 #[.val (.int x11)] [(.int (128 : Int32)), (.int x11), (.ref aC)])) (fun t k => XS.sipush X6.here hx rfl (hb hby own_d11_17) k) ?_
      refine own_via (B := T6.setTop (mkF m 21 #[.val (.int x11)] [(.int (x11 + (128 : Int32))), (.ref aC)])) (fun t k => XS.iadd X6.here hx rfl (hb hby own_d11_20) rfl k) ?_
      have pl := Jvm.Free.IntBox.place_ok x11 hc3 hc10
      obtain ⟨r11, hr1, hrE⟩ := hel _ pl.2
      have Ar1 := ArC.ext O0.2
      refine own_via (B := T6.setTop (mkF m 22 #[.val (.int x11)] [(.ref r11)])) (fun t k => X6.aaload hx (j := (x11 + (128 : Int32))) (v := (.ref r11)) (by rw [e6]; exact Ar1.1) (State.isArrayOf_alike hZ.alike Ar1.2.1) rfl Ar1.2.2 (by rw [hsz]; exact pl.1) hr1 (g := (mkF m 21 #[.val (.int x11)] [(.int (x11 + (128 : Int32))), (.ref aC)])) rfl rfl (hb hby own_d11_21) _ k) ?_
      refine own_leaf X6 hx hlk (t := (.object "java/lang/Integer")) Bd.returns rfl (Or.inr (Or.inr (Or.inr (Or.inr ⟨rfl, rfl, rfl⟩)))) (hb hby own_d11_22) (by decide) (by decide) ?_
      show Q11 Z x11 aC cl h0 n0 _ T6.heap _
      rw [e6]
      refine ⟨r11, ?_, N0, (Keep.refl h0 []), (hrE.ext O0.2)⟩
      rfl
theorem own_noF (Z : State) (a0 : Array Value) (hw : ∀ d ∈ tables_1, d.before a0 Z = true) : own_No Z "com/example/fenceline/fenceline/litmus/Instruction$Fence" "com/example/fenceline/fenceline/litmus/PlacedFence" := (own_no (hw _ (List.mem_of_getElem? (i := 51) rfl)) (hw _ (List.mem_of_getElem? (i := 13) rfl)) (NS.step (hw _ (List.mem_of_getElem? (i := 51) rfl)) (NS.step (hw _ (List.mem_of_getElem? (i := 52) rfl)) (own_root (hw _ (List.mem_of_getElem? (i := 53) rfl)) (hw _ (List.mem_of_getElem? (i := 13) rfl)) (by decide +kernel)) (by decide +kernel)) (by decide +kernel)) (by decide +kernel))
theorem own_noI (Z : State) (a0 : Array Value) (hw : ∀ d ∈ tables_1, d.before a0 Z = true) : own_No Z "java/lang/Integer" "com/example/fenceline/fenceline/litmus/PlacedFence" := (own_no (hw _ (List.mem_of_getElem? (i := 61) rfl)) (hw _ (List.mem_of_getElem? (i := 13) rfl)) (NS.step (hw _ (List.mem_of_getElem? (i := 61) rfl)) (NS.step (hw _ (List.mem_of_getElem? (i := 62) rfl)) (own_root (hw _ (List.mem_of_getElem? (i := 53) rfl)) (hw _ (List.mem_of_getElem? (i := 13) rfl)) (by decide +kernel)) (by decide +kernel)) (by decide +kernel)) (by decide +kernel))
theorem own_pd3 : parseMethodDescriptor "(II)I" = some ⟨[.int, .int], some .int⟩ := by decide +kernel
theorem own_pd4 : parseMethodDescriptor "(I)Lcom/example/fenceline/fenceline/litmus/Instruction$Fence;" = some ⟨[.int], some (.object "com/example/fenceline/fenceline/litmus/Instruction$Fence")⟩ := by decide +kernel
theorem own_pd5 : parseMethodDescriptor "(IILcom/example/fenceline/fenceline/litmus/Instruction$Fence;)V" = some ⟨[.int, .int, (.object "com/example/fenceline/fenceline/litmus/Instruction$Fence")], none⟩ := by decide +kernel
theorem own_pd6 : parseMethodDescriptor "(Ljava/lang/Object;)Z" = some ⟨[(.object "java/lang/Object")], some .boolean⟩ := by decide +kernel
theorem own_pd7 : parseMethodDescriptor "(I)Ljava/lang/Integer;" = some ⟨[.int], some (.object "java/lang/Integer")⟩ := by decide +kernel
theorem own_ef0 (m : MethodId) (x0 : Int32) (x1 : Int32) (x2 : Int32) (x3 : Int32) (x4 : Int32) (x5 : Int32) : entryFrame m #[(.int x0), (.int x1), (.int x2), (.int x3), (.int x4), (.int x5)] maxLocals = mkF m 0 #[.val (.int x0), .val (.int x1), .val (.int x2), .val (.int x3), .val (.int x4), .val (.int x5), .unset, .unset, .unset, .unset, .unset, .unset, .unset, .unset, .unset, .unset] [] := by first | (simp [entryFrame, mkF, argsToLocals, Value.category, maxLocals]; done) | rfl
def Q0 (Z : State) (i0 : Int32) (i1 : Int32) (i2 : Int32) (i3 : Int32) (i4 : Int32) (i5 : Int32) (w0 : Addr) (w1 : Addr) (w2 : Addr) (aC : Addr) (cl : Cell) (h0 : Heap) (n0 : Nat) (v : Option Value) (h : Heap) (L : List Loc) : Prop := v = some (.int 1) ∧ Fr n0 L
set_option maxRecDepth 65536 in
set_option maxHeartbeats 40000000 in
theorem rm0 (l : Launch) (Z : State) (a0 : Array Value) (hw : ∀ d ∈ tables_1, d.before a0 Z = true) (ws : List Jvm.Cond) (i0 : Int32) (i1 : Int32) (i2 : Int32) (i3 : Int32) (i4 : Int32) (i5 : Int32) (w0 : Addr) (w1 : Addr) (w2 : Addr) (aC : Addr) (cl : Cell) (h0 : Heap) (n0 : Nat) (Z0 : n0 ≤ h0.size) (hall : own_All Z Z.heap w0 w1 w2) (O0 : Old Z n0 h0) (SH : Sta Z Z.heap "java/lang/Integer$IntegerCache" "high" "I" (.int (127 : Int32))) (SC : Sta Z Z.heap "java/lang/Integer$IntegerCache" "cache" "[Ljava/lang/Integer;" (.ref aC)) (ArC : Arr Z Z.heap aC cl (.object "java/lang/Integer")) (hsz : cl.slots.size = 256) (hel : ∀ i : Nat, i < 256 → ∃ r, cl.slots[i]? = some (.ref r) ∧ Exa Z Z.heap r "java/lang/Integer") :
    MetFree l x (head1 (Jvm.Cond.code x code maxLocals ret :: ws) room_1) (fun a U => a = #[(.int i0), (.int i1), (.int i2), (.int i3), (.int i4), (.int i5)] ∧ Z.Warmed39 U.vm ∧ U.heap = h0) (fun _ _ _ _ _ => True) (fun _ U o U' => ∃ v L, o = .returned v ∧ Q0 Z i0 i1 i2 i3 i4 i5 w0 w1 w2 aC cl h0 n0 v U'.heap L ∧ ReturnedEndW U o U' L room_1.cells room_1.slots) := by
  refine MetFree.of_bodySF (plainFor_of_name own_pn0) hisR ?_
  intro p e s m args below meth c s₁ Bd hml0 hP hK
  obtain ⟨rfl, hZ, hh⟩ := hP
  have hx := Bd.exec
  have hby := Bd.bytes
  have hlk : meth.locks = false := Bd.notSynchronized
  have hml : c.maxLocals = 16 := hml0
  have hown : s.vm.findClass "com/example/fenceline/fenceline/litmus/PlacedFenceEqualsPinLaw" = some m.cls := findClass_of_methodNamed Bd.named
  have hnm := (name_of_methodNamed Bd.named Bd.method).1
  have X0 : Stand p l e room_1 (s.setVm s.vm) m #[(.int i0), (.int i1), (.int i2), (.int i3), (.int i4), (.int i5)] below meth c s₁ [] 0 0 := Stand.of_body Bd
  have e0 : s₁.heap = h0 := by rw [← hh, Bd.state]; rfl
  have N0 := Fr.nil n0
  have hS0 : s.Since s.vm h0.size := (State.WarmedH.refl s).since _
  have hk0 : h0.size ≤ h0.size := Nat.le_refl _
  have wS : ∀ a ∈ Bundle.stringAtoms, a.before a0 Z = true := by
    intro a ha
    simp only [Bundle.stringAtoms, List.mem_cons, List.not_mem_nil, or_false] at ha
    rcases ha with rfl | rfl | rfl | rfl | rfl | rfl | rfl
    · exact (hw _ (List.mem_of_getElem? (i := 27) rfl))
    · exact (hw _ (List.mem_of_getElem? (i := 28) rfl))
    · exact (hw _ (List.mem_of_getElem? (i := 29) rfl))
    · exact (hw _ (List.mem_of_getElem? (i := 30) rfl))
    · exact (hw _ (List.mem_of_getElem? (i := 31) rfl))
    · exact (hw _ (List.mem_of_getElem? (i := 32) rfl))
    · exact (hw _ (List.mem_of_getElem? (i := 33) rfl))
  refine own_bodyW (A := s₁.setTop (mkF m 0 #[.val (.int i0), .val (.int i1), .val (.int i2), .val (.int i3), .val (.int i4), .val (.int i5), .unset, .unset, .unset, .unset, .unset, .unset, .unset, .unset, .unset, .unset] [])) (Q := Q0 Z i0 i1 i2 i3 i4 i5 w0 w1 w2 aC cl h0 n0) (fun t k => castTop (own_ef0 m i0 i1 i2 i3 i4 i5) k) ?_
  refine own_via (B := s₁.setTop (mkF m 1 #[.val (.int i0), .val (.int i1), .val (.int i2), .val (.int i3), .val (.int i4), .val (.int i5), .unset, .unset, .unset, .unset, .unset, .unset, .unset, .unset, .unset, .unset] [(.int i0)])) (fun t k => XS.iloadN X0.here hx rfl (hb hby at_0) rfl k) ?_
  refine own_via (B := s₁.setTop (mkF m 3 #[.val (.int i0), .val (.int i1), .val (.int i2), .val (.int i3), .val (.int i4), .val (.int i5), .unset, .unset, .unset, .unset, .unset, .unset, .unset, .unset, .unset, .unset] [(.int (2147483647 : Int32)), (.int i0)])) (fun t k => X0.ldcInt hx hown (mvT hZ (hw _ (List.mem_of_getElem? (i := 0) rfl))) (g := (mkF m 1 #[.val (.int i0), .val (.int i1), .val (.int i2), .val (.int i3), .val (.int i4), .val (.int i5), .unset, .unset, .unset, .unset, .unset, .unset, .unset, .unset, .unset, .unset] [(.int i0)])) rfl (hb hby at_1) _ k) ?_
  refine own_via (B := s₁.setTop (mkF m 4 #[.val (.int i0), .val (.int i1), .val (.int i2), .val (.int i3), .val (.int i4), .val (.int i5), .unset, .unset, .unset, .unset, .unset, .unset, .unset, .unset, .unset, .unset] [(.int (i0 &&& (2147483647 : Int32)))])) (fun t k => XS.iand X0.here hx rfl (hb hby at_3) rfl k) ?_
  refine own_via (B := s₁.setTop (mkF m 6 #[.val (.int i0), .val (.int i1), .val (.int i2), .val (.int i3), .val (.int i4), .val (.int i5), .val (.int (i0 &&& (2147483647 : Int32))), .unset, .unset, .unset, .unset, .unset, .unset, .unset, .unset, .unset] [])) (fun t k => XS.istore X0.here hx rfl (hb hby at_4) rfl (l' := #[.val (.int i0), .val (.int i1), .val (.int i2), .val (.int i3), .val (.int i4), .val (.int i5), .val (.int (i0 &&& (2147483647 : Int32))), .unset, .unset, .unset, .unset, .unset, .unset, .unset, .unset, .unset]) rfl k) ?_
  generalize hs4 : (i0 &&& (2147483647 : Int32)) = s4
  refine own_via (B := s₁.setTop (mkF m 7 #[.val (.int i0), .val (.int i1), .val (.int i2), .val (.int i3), .val (.int i4), .val (.int i5), .val (.int s4), .unset, .unset, .unset, .unset, .unset, .unset, .unset, .unset, .unset] [(.int (1 : Int32))])) (fun t k => XS.iconst X0.here hx rfl (hb hby at_6) k) ?_
  refine own_via (B := s₁.setTop (mkF m 8 #[.val (.int i0), .val (.int i1), .val (.int i2), .val (.int i3), .val (.int i4), .val (.int i5), .val (.int s4), .unset, .unset, .unset, .unset, .unset, .unset, .unset, .unset, .unset] [(.int i1), (.int (1 : Int32))])) (fun t k => XS.iloadN X0.here hx rfl (hb hby at_7) rfl k) ?_
  refine own_via (B := s₁.setTop (mkF m 10 #[.val (.int i0), .val (.int i1), .val (.int i2), .val (.int i3), .val (.int i4), .val (.int i5), .val (.int s4), .unset, .unset, .unset, .unset, .unset, .unset, .unset, .unset, .unset] [(.int (2147483647 : Int32)), (.int i1), (.int (1 : Int32))])) (fun t k => X0.ldcInt hx hown (mvT hZ (hw _ (List.mem_of_getElem? (i := 0) rfl))) (g := (mkF m 8 #[.val (.int i0), .val (.int i1), .val (.int i2), .val (.int i3), .val (.int i4), .val (.int i5), .val (.int s4), .unset, .unset, .unset, .unset, .unset, .unset, .unset, .unset, .unset] [(.int i1), (.int (1 : Int32))])) rfl (hb hby at_8) _ k) ?_
  refine own_via (B := s₁.setTop (mkF m 11 #[.val (.int i0), .val (.int i1), .val (.int i2), .val (.int i3), .val (.int i4), .val (.int i5), .val (.int s4), .unset, .unset, .unset, .unset, .unset, .unset, .unset, .unset, .unset] [(.int (i1 &&& (2147483647 : Int32))), (.int (1 : Int32))])) (fun t k => XS.iand X0.here hx rfl (hb hby at_10) rfl k) ?_
  obtain ⟨_, _, ⟨T1, L1, k1, n1⟩, -, X1, ⟨Lc1, hQ1, l1, y1, z1⟩, st1⟩ := Jvm.LawKit.callS X0 hx (y := (⟨"java/lang/Math", "max", "(II)I"⟩ : MethodName)) hown (mvT hZ (hw _ (List.mem_of_getElem? (i := 1) rfl))) (mvT hZ (hw _ (List.mem_of_getElem? (i := 2) rfl))) (mvT hZ (hw _ (List.mem_of_getElem? (i := 3) rfl))) (mvT hZ (hw _ (List.mem_of_getElem? (i := 4) rfl))) (by decide) (backOf (W := 0) (rm1 l Z a0 hw [] (1 : Int32) (i1 &&& (2147483647 : Int32)) h0 n0 Z0 ) hZ (hw _ (List.mem_of_getElem? (i := 4) rfl)) (hw _ (List.mem_of_getElem? (i := 3) rfl)) (by decide) (by decide)) (g := (mkF m 11 #[.val (.int i0), .val (.int i1), .val (.int i2), .val (.int i3), .val (.int i4), .val (.int i5), .val (.int s4), .unset, .unset, .unset, .unset, .unset, .unset, .unset, .unset, .unset] [(.int (i1 &&& (2147483647 : Int32))), (.int (1 : Int32))])) rfl (by rw [hml]; rfl) (argsL := [(.int (1 : Int32)), (.int (i1 &&& (2147483647 : Int32)))]) (rest := []) (lenOf own_pd3 rfl) rfl (by show 2 * 0 + _ ≤ _; exact Nat.le_of_eq rfl) (hb hby at_11) (fun _ _ => ⟨rfl, e0, (by decide : 0 + 0 ≤ _), (by decide : 0 + 0 ≤ _)⟩)
  dsimp only [Pt.U, Pt.locs, Pt.cells, Pt.slots] at X1 l1 y1 z1 st1 hQ1
  subst l1 y1 z1
  obtain ⟨rfl, Nq1, eq1⟩ := hQ1
  have N1 := Fr.app N0 Nq1
  refine own_via (B := T1.setTop (mkF m 14 #[.val (.int i0), .val (.int i1), .val (.int i2), .val (.int i3), .val (.int i4), .val (.int i5), .val (.int s4), .unset, .unset, .unset, .unset, .unset, .unset, .unset, .unset, .unset] [(.int (own_mx (1 : Int32) (i1 &&& (2147483647 : Int32))))])) (fun t k => st1 t k) ?_
  refine own_via (B := T1.setTop (mkF m 16 #[.val (.int i0), .val (.int i1), .val (.int i2), .val (.int i3), .val (.int i4), .val (.int i5), .val (.int s4), .val (.int (own_mx (1 : Int32) (i1 &&& (2147483647 : Int32)))), .unset, .unset, .unset, .unset, .unset, .unset, .unset, .unset] [])) (fun t k => XS.istore X1.here hx rfl (hb hby at_14) rfl (l' := #[.val (.int i0), .val (.int i1), .val (.int i2), .val (.int i3), .val (.int i4), .val (.int i5), .val (.int s4), .val (.int (own_mx (1 : Int32) (i1 &&& (2147483647 : Int32)))), .unset, .unset, .unset, .unset, .unset, .unset, .unset, .unset]) rfl k) ?_
  generalize hs14 : (own_mx (1 : Int32) (i1 &&& (2147483647 : Int32))) = s14
  refine own_via (B := T1.setTop (mkF m 18 #[.val (.int i0), .val (.int i1), .val (.int i2), .val (.int i3), .val (.int i4), .val (.int i5), .val (.int s4), .val (.int s14), .unset, .unset, .unset, .unset, .unset, .unset, .unset, .unset] [(.int i4)])) (fun t k => XS.iload X1.here hx rfl (hb hby at_16) rfl k) ?_
  refine own_via (B := T1.setTop (mkF m 19 #[.val (.int i0), .val (.int i1), .val (.int i2), .val (.int i3), .val (.int i4), .val (.int i5), .val (.int s4), .val (.int s14), .unset, .unset, .unset, .unset, .unset, .unset, .unset, .unset] [(.int (3 : Int32)), (.int i4)])) (fun t k => XS.iconst X1.here hx rfl (hb hby at_18) k) ?_
  refine own_via (B := T1.setTop (mkF m 20 #[.val (.int i0), .val (.int i1), .val (.int i2), .val (.int i3), .val (.int i4), .val (.int i5), .val (.int s4), .val (.int s14), .unset, .unset, .unset, .unset, .unset, .unset, .unset, .unset] [(.int ((i4.toUInt32 >>> ((3 : Int32) &&& 31).toUInt32).toInt32))])) (fun t k => XS.iushr X1.here hx rfl (hb hby at_19) rfl k) ?_
  obtain ⟨_, _, ⟨T2, L2, k2, n2⟩, -, X2, ⟨Lc2, hQ2, l2, y2, z2⟩, st2⟩ := Jvm.LawKit.callS X1 hx (y := (⟨"com/example/fenceline/fenceline/litmus/PlacedFenceEqualsPinLaw", "fenceOf", "(I)Lcom/example/fenceline/fenceline/litmus/Instruction$Fence;"⟩ : MethodName)) hown (mvT hZ (hw _ (List.mem_of_getElem? (i := 5) rfl))) (mvT hZ (hw _ (List.mem_of_getElem? (i := 6) rfl))) (mvT hZ (hw _ (List.mem_of_getElem? (i := 7) rfl))) (mvT hZ (hw _ (List.mem_of_getElem? (i := 8) rfl))) (by decide) (backOf (W := 0) (rm2 l Z a0 hw [] ((i4.toUInt32 >>> ((3 : Int32) &&& 31).toUInt32).toInt32) w0 w1 w2 h0 n0 Z0 (by assumption) O0) hZ (hw _ (List.mem_of_getElem? (i := 8) rfl)) (hw _ (List.mem_of_getElem? (i := 7) rfl)) (by decide) (by decide)) (g := (mkF m 20 #[.val (.int i0), .val (.int i1), .val (.int i2), .val (.int i3), .val (.int i4), .val (.int i5), .val (.int s4), .val (.int s14), .unset, .unset, .unset, .unset, .unset, .unset, .unset, .unset] [(.int ((i4.toUInt32 >>> ((3 : Int32) &&& 31).toUInt32).toInt32))])) rfl (by rw [hml]; rfl) (argsL := [(.int ((i4.toUInt32 >>> ((3 : Int32) &&& 31).toUInt32).toInt32))]) (rest := []) (lenOf own_pd4 rfl) rfl (by show 2 * 0 + _ ≤ _; exact Nat.le_of_eq rfl) (hb hby at_20) (fun _ _ => ⟨rfl, eq1, (by decide : (0 + 0) + 0 ≤ _), (by decide : (0 + 0) + 0 ≤ _)⟩)
  dsimp only [Pt.U, Pt.locs, Pt.cells, Pt.slots] at X2 l2 y2 z2 st2 hQ2
  subst l2 y2 z2
  obtain ⟨rfl, Nq2, eq2, f2_0⟩ := hQ2
  have N2 := Fr.app N1 Nq2
  refine own_via (B := T2.setTop (mkF m 23 #[.val (.int i0), .val (.int i1), .val (.int i2), .val (.int i3), .val (.int i4), .val (.int i5), .val (.int s4), .val (.int s14), .unset, .unset, .unset, .unset, .unset, .unset, .unset, .unset] [(.ref (own_pick ((((i4.toUInt32 >>> ((3 : Int32) &&& 31).toUInt32).toInt32) &&& (2147483647 : Int32)) % (3 : Int32)) w0 w1 w2))])) (fun t k => st2 t k) ?_
  refine own_via (B := T2.setTop (mkF m 25 #[.val (.int i0), .val (.int i1), .val (.int i2), .val (.int i3), .val (.int i4), .val (.int i5), .val (.int s4), .val (.int s14), .val (.ref (own_pick ((((i4.toUInt32 >>> ((3 : Int32) &&& 31).toUInt32).toInt32) &&& (2147483647 : Int32)) % (3 : Int32)) w0 w1 w2)), .unset, .unset, .unset, .unset, .unset, .unset, .unset] [])) (fun t k => XS.astore X2.here hx rfl (hb hby at_23) rfl rfl (l' := #[.val (.int i0), .val (.int i1), .val (.int i2), .val (.int i3), .val (.int i4), .val (.int i5), .val (.int s4), .val (.int s14), .val (.ref (own_pick ((((i4.toUInt32 >>> ((3 : Int32) &&& 31).toUInt32).toInt32) &&& (2147483647 : Int32)) % (3 : Int32)) w0 w1 w2)), .unset, .unset, .unset, .unset, .unset, .unset, .unset]) rfl k) ?_
  refine own_via (B := T2.setTop (mkF m 27 #[.val (.int i0), .val (.int i1), .val (.int i2), .val (.int i3), .val (.int i4), .val (.int i5), .val (.int s4), .val (.int s14), .val (.ref (own_pick ((((i4.toUInt32 >>> ((3 : Int32) &&& 31).toUInt32).toInt32) &&& (2147483647 : Int32)) % (3 : Int32)) w0 w1 w2)), .unset, .unset, .unset, .unset, .unset, .unset, .unset] [(.int i4)])) (fun t k => XS.iload X2.here hx rfl (hb hby at_25) rfl k) ?_
  refine own_via (B := T2.setTop (mkF m 28 #[.val (.int i0), .val (.int i1), .val (.int i2), .val (.int i3), .val (.int i4), .val (.int i5), .val (.int s4), .val (.int s14), .val (.ref (own_pick ((((i4.toUInt32 >>> ((3 : Int32) &&& 31).toUInt32).toInt32) &&& (2147483647 : Int32)) % (3 : Int32)) w0 w1 w2)), .unset, .unset, .unset, .unset, .unset, .unset, .unset] [(.int (1 : Int32)), (.int i4)])) (fun t k => XS.iconst X2.here hx rfl (hb hby at_27) k) ?_
  refine own_via (B := T2.setTop (mkF m 29 #[.val (.int i0), .val (.int i1), .val (.int i2), .val (.int i3), .val (.int i4), .val (.int i5), .val (.int s4), .val (.int s14), .val (.ref (own_pick ((((i4.toUInt32 >>> ((3 : Int32) &&& 31).toUInt32).toInt32) &&& (2147483647 : Int32)) % (3 : Int32)) w0 w1 w2)), .unset, .unset, .unset, .unset, .unset, .unset, .unset] [(.int (i4 &&& (1 : Int32)))])) (fun t k => XS.iand X2.here hx rfl (hb hby at_28) rfl k) ?_
  refine own_bind (G := fun B => ∃ (T' : State) (L' : List Loc) (v29s0 : Int32), Fr n0 L' ∧ ((((i4 &&& (1 : Int32)) = (0 : Int32)) ∧ v29s0 = (i2 &&& (2147483647 : Int32))) ∨ ((¬ ((i4 &&& (1 : Int32)) = (0 : Int32))) ∧ v29s0 = s4)) ∧ B = T'.setTop (mkF m 41 #[.val (.int i0), .val (.int i1), .val (.int i2), .val (.int i3), .val (.int i4), .val (.int i5), .val (.int s4), .val (.int s14), .val (.ref (own_pick ((((i4.toUInt32 >>> ((3 : Int32) &&& 31).toUInt32).toInt32) &&& (2147483647 : Int32)) % (3 : Int32)) w0 w1 w2)), .unset, .unset, .unset, .unset, .unset, .unset, .unset] [(.int v29s0)]) ∧ Stand p l e room_1 (s.setVm s.vm) m #[(.int i0), (.int i1), (.int i2), (.int i3), (.int i4), (.int i5)] below meth c T' L' ((0 + 0) + 0) ((0 + 0) + 0) ∧ T'.heap = h0) ?_ ?_
  · by_cases hc29 : (i4 &&& (1 : Int32)) = (0 : Int32)
    · refine own_via (B := T2.setTop (mkF m 37 #[.val (.int i0), .val (.int i1), .val (.int i2), .val (.int i3), .val (.int i4), .val (.int i5), .val (.int s4), .val (.int s14), .val (.ref (own_pick ((((i4.toUInt32 >>> ((3 : Int32) &&& 31).toUInt32).toInt32) &&& (2147483647 : Int32)) % (3 : Int32)) w0 w1 w2)), .unset, .unset, .unset, .unset, .unset, .unset, .unset] [])) (fun t k => XS.ifYes X2.here hx rfl (pc0 := 29) (pc' := 37) rfl (hb hby at_29) rfl ((if0 _ _).trans (teq hc29).1) (by decide) (by decide) k) ?_
      refine own_via (B := T2.setTop (mkF m 38 #[.val (.int i0), .val (.int i1), .val (.int i2), .val (.int i3), .val (.int i4), .val (.int i5), .val (.int s4), .val (.int s14), .val (.ref (own_pick ((((i4.toUInt32 >>> ((3 : Int32) &&& 31).toUInt32).toInt32) &&& (2147483647 : Int32)) % (3 : Int32)) w0 w1 w2)), .unset, .unset, .unset, .unset, .unset, .unset, .unset] [(.int i2)])) (fun t k => XS.iloadN X2.here hx rfl (hb hby at_37) rfl k) ?_
      refine own_via (B := T2.setTop (mkF m 40 #[.val (.int i0), .val (.int i1), .val (.int i2), .val (.int i3), .val (.int i4), .val (.int i5), .val (.int s4), .val (.int s14), .val (.ref (own_pick ((((i4.toUInt32 >>> ((3 : Int32) &&& 31).toUInt32).toInt32) &&& (2147483647 : Int32)) % (3 : Int32)) w0 w1 w2)), .unset, .unset, .unset, .unset, .unset, .unset, .unset] [(.int (2147483647 : Int32)), (.int i2)])) (fun t k => X2.ldcInt hx hown (mvT hZ (hw _ (List.mem_of_getElem? (i := 0) rfl))) (g := (mkF m 38 #[.val (.int i0), .val (.int i1), .val (.int i2), .val (.int i3), .val (.int i4), .val (.int i5), .val (.int s4), .val (.int s14), .val (.ref (own_pick ((((i4.toUInt32 >>> ((3 : Int32) &&& 31).toUInt32).toInt32) &&& (2147483647 : Int32)) % (3 : Int32)) w0 w1 w2)), .unset, .unset, .unset, .unset, .unset, .unset, .unset] [(.int i2)])) rfl (hb hby at_38) _ k) ?_
      refine own_via (B := T2.setTop (mkF m 41 #[.val (.int i0), .val (.int i1), .val (.int i2), .val (.int i3), .val (.int i4), .val (.int i5), .val (.int s4), .val (.int s14), .val (.ref (own_pick ((((i4.toUInt32 >>> ((3 : Int32) &&& 31).toUInt32).toInt32) &&& (2147483647 : Int32)) % (3 : Int32)) w0 w1 w2)), .unset, .unset, .unset, .unset, .unset, .unset, .unset] [(.int (i2 &&& (2147483647 : Int32)))])) (fun t k => XS.iand X2.here hx rfl (hb hby at_40) rfl k) ?_
      exact own_done ⟨_, _, _, N2, (Or.inl ⟨hc29, rfl⟩), rfl, X2, eq2⟩
    · refine own_via (B := T2.setTop (mkF m 32 #[.val (.int i0), .val (.int i1), .val (.int i2), .val (.int i3), .val (.int i4), .val (.int i5), .val (.int s4), .val (.int s14), .val (.ref (own_pick ((((i4.toUInt32 >>> ((3 : Int32) &&& 31).toUInt32).toInt32) &&& (2147483647 : Int32)) % (3 : Int32)) w0 w1 w2)), .unset, .unset, .unset, .unset, .unset, .unset, .unset] [])) (fun t k => XS.ifNo X2.here hx rfl (hb hby at_29) rfl ((if0 _ _).trans (feq hc29).1) k) ?_
      refine own_via (B := T2.setTop (mkF m 34 #[.val (.int i0), .val (.int i1), .val (.int i2), .val (.int i3), .val (.int i4), .val (.int i5), .val (.int s4), .val (.int s14), .val (.ref (own_pick ((((i4.toUInt32 >>> ((3 : Int32) &&& 31).toUInt32).toInt32) &&& (2147483647 : Int32)) % (3 : Int32)) w0 w1 w2)), .unset, .unset, .unset, .unset, .unset, .unset, .unset] [(.int s4)])) (fun t k => XS.iload X2.here hx rfl (hb hby at_32) rfl k) ?_
      refine own_via (B := T2.setTop (mkF m 41 #[.val (.int i0), .val (.int i1), .val (.int i2), .val (.int i3), .val (.int i4), .val (.int i5), .val (.int s4), .val (.int s14), .val (.ref (own_pick ((((i4.toUInt32 >>> ((3 : Int32) &&& 31).toUInt32).toInt32) &&& (2147483647 : Int32)) % (3 : Int32)) w0 w1 w2)), .unset, .unset, .unset, .unset, .unset, .unset, .unset] [(.int s4)])) (fun t k => XS.goto X2.here hx rfl (pc0 := 34) (pc' := 41) rfl (hb hby at_34) (by decide) (by decide) k) ?_
      exact own_done ⟨_, _, _, N2, (Or.inr ⟨hc29, rfl⟩), rfl, X2, eq2⟩
  · rintro B ⟨T3, L3, v29s0, N3, hv29, rfl, X3, e3⟩
    refine own_via (B := T3.setTop (mkF m 43 #[.val (.int i0), .val (.int i1), .val (.int i2), .val (.int i3), .val (.int i4), .val (.int i5), .val (.int s4), .val (.int s14), .val (.ref (own_pick ((((i4.toUInt32 >>> ((3 : Int32) &&& 31).toUInt32).toInt32) &&& (2147483647 : Int32)) % (3 : Int32)) w0 w1 w2)), .val (.int v29s0), .unset, .unset, .unset, .unset, .unset, .unset] [])) (fun t k => XS.istore X3.here hx rfl (hb hby at_41) rfl (l' := #[.val (.int i0), .val (.int i1), .val (.int i2), .val (.int i3), .val (.int i4), .val (.int i5), .val (.int s4), .val (.int s14), .val (.ref (own_pick ((((i4.toUInt32 >>> ((3 : Int32) &&& 31).toUInt32).toInt32) &&& (2147483647 : Int32)) % (3 : Int32)) w0 w1 w2)), .val (.int v29s0), .unset, .unset, .unset, .unset, .unset, .unset]) rfl k) ?_
    refine own_via (B := T3.setTop (mkF m 45 #[.val (.int i0), .val (.int i1), .val (.int i2), .val (.int i3), .val (.int i4), .val (.int i5), .val (.int s4), .val (.int s14), .val (.ref (own_pick ((((i4.toUInt32 >>> ((3 : Int32) &&& 31).toUInt32).toInt32) &&& (2147483647 : Int32)) % (3 : Int32)) w0 w1 w2)), .val (.int v29s0), .unset, .unset, .unset, .unset, .unset, .unset] [(.int i4)])) (fun t k => XS.iload X3.here hx rfl (hb hby at_43) rfl k) ?_
    refine own_via (B := T3.setTop (mkF m 46 #[.val (.int i0), .val (.int i1), .val (.int i2), .val (.int i3), .val (.int i4), .val (.int i5), .val (.int s4), .val (.int s14), .val (.ref (own_pick ((((i4.toUInt32 >>> ((3 : Int32) &&& 31).toUInt32).toInt32) &&& (2147483647 : Int32)) % (3 : Int32)) w0 w1 w2)), .val (.int v29s0), .unset, .unset, .unset, .unset, .unset, .unset] [(.int (2 : Int32)), (.int i4)])) (fun t k => XS.iconst X3.here hx rfl (hb hby at_45) k) ?_
    refine own_via (B := T3.setTop (mkF m 47 #[.val (.int i0), .val (.int i1), .val (.int i2), .val (.int i3), .val (.int i4), .val (.int i5), .val (.int s4), .val (.int s14), .val (.ref (own_pick ((((i4.toUInt32 >>> ((3 : Int32) &&& 31).toUInt32).toInt32) &&& (2147483647 : Int32)) % (3 : Int32)) w0 w1 w2)), .val (.int v29s0), .unset, .unset, .unset, .unset, .unset, .unset] [(.int (i4 &&& (2 : Int32)))])) (fun t k => XS.iand X3.here hx rfl (hb hby at_46) rfl k) ?_
    refine own_bind (G := fun B => ∃ (T' : State) (L' : List Loc) (v47s0 : Int32), Fr n0 L' ∧ ((((i4 &&& (2 : Int32)) = (0 : Int32)) ∧ v47s0 = (own_mx (1 : Int32) (i3 &&& (2147483647 : Int32)))) ∨ ((¬ ((i4 &&& (2 : Int32)) = (0 : Int32))) ∧ v47s0 = s14)) ∧ B = T'.setTop (mkF m 63 #[.val (.int i0), .val (.int i1), .val (.int i2), .val (.int i3), .val (.int i4), .val (.int i5), .val (.int s4), .val (.int s14), .val (.ref (own_pick ((((i4.toUInt32 >>> ((3 : Int32) &&& 31).toUInt32).toInt32) &&& (2147483647 : Int32)) % (3 : Int32)) w0 w1 w2)), .val (.int v29s0), .unset, .unset, .unset, .unset, .unset, .unset] [(.int v47s0)]) ∧ Stand p l e room_1 (s.setVm s.vm) m #[(.int i0), (.int i1), (.int i2), (.int i3), (.int i4), (.int i5)] below meth c T' L' 0 0 ∧ T'.heap = h0) ?_ ?_
    · by_cases hc47 : (i4 &&& (2 : Int32)) = (0 : Int32)
      · refine own_via (B := T3.setTop (mkF m 55 #[.val (.int i0), .val (.int i1), .val (.int i2), .val (.int i3), .val (.int i4), .val (.int i5), .val (.int s4), .val (.int s14), .val (.ref (own_pick ((((i4.toUInt32 >>> ((3 : Int32) &&& 31).toUInt32).toInt32) &&& (2147483647 : Int32)) % (3 : Int32)) w0 w1 w2)), .val (.int v29s0), .unset, .unset, .unset, .unset, .unset, .unset] [])) (fun t k => XS.ifYes X3.here hx rfl (pc0 := 47) (pc' := 55) rfl (hb hby at_47) rfl ((if0 _ _).trans (teq hc47).1) (by decide) (by decide) k) ?_
        refine own_via (B := T3.setTop (mkF m 56 #[.val (.int i0), .val (.int i1), .val (.int i2), .val (.int i3), .val (.int i4), .val (.int i5), .val (.int s4), .val (.int s14), .val (.ref (own_pick ((((i4.toUInt32 >>> ((3 : Int32) &&& 31).toUInt32).toInt32) &&& (2147483647 : Int32)) % (3 : Int32)) w0 w1 w2)), .val (.int v29s0), .unset, .unset, .unset, .unset, .unset, .unset] [(.int (1 : Int32))])) (fun t k => XS.iconst X3.here hx rfl (hb hby at_55) k) ?_
        refine own_via (B := T3.setTop (mkF m 57 #[.val (.int i0), .val (.int i1), .val (.int i2), .val (.int i3), .val (.int i4), .val (.int i5), .val (.int s4), .val (.int s14), .val (.ref (own_pick ((((i4.toUInt32 >>> ((3 : Int32) &&& 31).toUInt32).toInt32) &&& (2147483647 : Int32)) % (3 : Int32)) w0 w1 w2)), .val (.int v29s0), .unset, .unset, .unset, .unset, .unset, .unset] [(.int i3), (.int (1 : Int32))])) (fun t k => XS.iloadN X3.here hx rfl (hb hby at_56) rfl k) ?_
        refine own_via (B := T3.setTop (mkF m 59 #[.val (.int i0), .val (.int i1), .val (.int i2), .val (.int i3), .val (.int i4), .val (.int i5), .val (.int s4), .val (.int s14), .val (.ref (own_pick ((((i4.toUInt32 >>> ((3 : Int32) &&& 31).toUInt32).toInt32) &&& (2147483647 : Int32)) % (3 : Int32)) w0 w1 w2)), .val (.int v29s0), .unset, .unset, .unset, .unset, .unset, .unset] [(.int (2147483647 : Int32)), (.int i3), (.int (1 : Int32))])) (fun t k => X3.ldcInt hx hown (mvT hZ (hw _ (List.mem_of_getElem? (i := 0) rfl))) (g := (mkF m 57 #[.val (.int i0), .val (.int i1), .val (.int i2), .val (.int i3), .val (.int i4), .val (.int i5), .val (.int s4), .val (.int s14), .val (.ref (own_pick ((((i4.toUInt32 >>> ((3 : Int32) &&& 31).toUInt32).toInt32) &&& (2147483647 : Int32)) % (3 : Int32)) w0 w1 w2)), .val (.int v29s0), .unset, .unset, .unset, .unset, .unset, .unset] [(.int i3), (.int (1 : Int32))])) rfl (hb hby at_57) _ k) ?_
        refine own_via (B := T3.setTop (mkF m 60 #[.val (.int i0), .val (.int i1), .val (.int i2), .val (.int i3), .val (.int i4), .val (.int i5), .val (.int s4), .val (.int s14), .val (.ref (own_pick ((((i4.toUInt32 >>> ((3 : Int32) &&& 31).toUInt32).toInt32) &&& (2147483647 : Int32)) % (3 : Int32)) w0 w1 w2)), .val (.int v29s0), .unset, .unset, .unset, .unset, .unset, .unset] [(.int (i3 &&& (2147483647 : Int32))), (.int (1 : Int32))])) (fun t k => XS.iand X3.here hx rfl (hb hby at_59) rfl k) ?_
        obtain ⟨_, _, ⟨T5, L5, k5, n5⟩, -, X5, ⟨Lc5, hQ5, l5, y5, z5⟩, st5⟩ := Jvm.LawKit.callS X3 hx (y := (⟨"java/lang/Math", "max", "(II)I"⟩ : MethodName)) hown (mvT hZ (hw _ (List.mem_of_getElem? (i := 1) rfl))) (mvT hZ (hw _ (List.mem_of_getElem? (i := 2) rfl))) (mvT hZ (hw _ (List.mem_of_getElem? (i := 3) rfl))) (mvT hZ (hw _ (List.mem_of_getElem? (i := 4) rfl))) (by decide) (backOf (W := 0) (rm1 l Z a0 hw [] (1 : Int32) (i3 &&& (2147483647 : Int32)) h0 n0 Z0 ) hZ (hw _ (List.mem_of_getElem? (i := 4) rfl)) (hw _ (List.mem_of_getElem? (i := 3) rfl)) (by decide) (by decide)) (g := (mkF m 60 #[.val (.int i0), .val (.int i1), .val (.int i2), .val (.int i3), .val (.int i4), .val (.int i5), .val (.int s4), .val (.int s14), .val (.ref (own_pick ((((i4.toUInt32 >>> ((3 : Int32) &&& 31).toUInt32).toInt32) &&& (2147483647 : Int32)) % (3 : Int32)) w0 w1 w2)), .val (.int v29s0), .unset, .unset, .unset, .unset, .unset, .unset] [(.int (i3 &&& (2147483647 : Int32))), (.int (1 : Int32))])) rfl (by rw [hml]; rfl) (argsL := [(.int (1 : Int32)), (.int (i3 &&& (2147483647 : Int32)))]) (rest := []) (lenOf own_pd3 rfl) rfl (by show 2 * 0 + _ ≤ _; exact Nat.le_of_eq rfl) (hb hby at_60) (fun _ _ => ⟨rfl, e3, (by decide : ((0 + 0) + 0) + 0 ≤ _), (by decide : ((0 + 0) + 0) + 0 ≤ _)⟩)
        dsimp only [Pt.U, Pt.locs, Pt.cells, Pt.slots] at X5 l5 y5 z5 st5 hQ5
        subst l5 y5 z5
        obtain ⟨rfl, Nq5, eq5⟩ := hQ5
        have N5 := Fr.app N3 Nq5
        refine own_via (B := T5.setTop (mkF m 63 #[.val (.int i0), .val (.int i1), .val (.int i2), .val (.int i3), .val (.int i4), .val (.int i5), .val (.int s4), .val (.int s14), .val (.ref (own_pick ((((i4.toUInt32 >>> ((3 : Int32) &&& 31).toUInt32).toInt32) &&& (2147483647 : Int32)) % (3 : Int32)) w0 w1 w2)), .val (.int v29s0), .unset, .unset, .unset, .unset, .unset, .unset] [(.int (own_mx (1 : Int32) (i3 &&& (2147483647 : Int32))))])) (fun t k => st5 t k) ?_
        exact own_done ⟨_, _, _, N5, (Or.inl ⟨hc47, rfl⟩), rfl, (X5.more (by decide) (by decide)), eq5⟩
      · refine own_via (B := T3.setTop (mkF m 50 #[.val (.int i0), .val (.int i1), .val (.int i2), .val (.int i3), .val (.int i4), .val (.int i5), .val (.int s4), .val (.int s14), .val (.ref (own_pick ((((i4.toUInt32 >>> ((3 : Int32) &&& 31).toUInt32).toInt32) &&& (2147483647 : Int32)) % (3 : Int32)) w0 w1 w2)), .val (.int v29s0), .unset, .unset, .unset, .unset, .unset, .unset] [])) (fun t k => XS.ifNo X3.here hx rfl (hb hby at_47) rfl ((if0 _ _).trans (feq hc47).1) k) ?_
        refine own_via (B := T3.setTop (mkF m 52 #[.val (.int i0), .val (.int i1), .val (.int i2), .val (.int i3), .val (.int i4), .val (.int i5), .val (.int s4), .val (.int s14), .val (.ref (own_pick ((((i4.toUInt32 >>> ((3 : Int32) &&& 31).toUInt32).toInt32) &&& (2147483647 : Int32)) % (3 : Int32)) w0 w1 w2)), .val (.int v29s0), .unset, .unset, .unset, .unset, .unset, .unset] [(.int s14)])) (fun t k => XS.iload X3.here hx rfl (hb hby at_50) rfl k) ?_
        refine own_via (B := T3.setTop (mkF m 63 #[.val (.int i0), .val (.int i1), .val (.int i2), .val (.int i3), .val (.int i4), .val (.int i5), .val (.int s4), .val (.int s14), .val (.ref (own_pick ((((i4.toUInt32 >>> ((3 : Int32) &&& 31).toUInt32).toInt32) &&& (2147483647 : Int32)) % (3 : Int32)) w0 w1 w2)), .val (.int v29s0), .unset, .unset, .unset, .unset, .unset, .unset] [(.int s14)])) (fun t k => XS.goto X3.here hx rfl (pc0 := 52) (pc' := 63) rfl (hb hby at_52) (by decide) (by decide) k) ?_
        exact own_done ⟨_, _, _, N3, (Or.inr ⟨hc47, rfl⟩), rfl, (X3.more (by decide) (by decide)), e3⟩
    · rintro B ⟨T4, L4, v47s0, N4, hv47, rfl, X4, e4⟩
      refine own_via (B := T4.setTop (mkF m 65 #[.val (.int i0), .val (.int i1), .val (.int i2), .val (.int i3), .val (.int i4), .val (.int i5), .val (.int s4), .val (.int s14), .val (.ref (own_pick ((((i4.toUInt32 >>> ((3 : Int32) &&& 31).toUInt32).toInt32) &&& (2147483647 : Int32)) % (3 : Int32)) w0 w1 w2)), .val (.int v29s0), .val (.int v47s0), .unset, .unset, .unset, .unset, .unset] [])) (fun t k => XS.istore X4.here hx rfl (hb hby at_63) rfl (l' := #[.val (.int i0), .val (.int i1), .val (.int i2), .val (.int i3), .val (.int i4), .val (.int i5), .val (.int s4), .val (.int s14), .val (.ref (own_pick ((((i4.toUInt32 >>> ((3 : Int32) &&& 31).toUInt32).toInt32) &&& (2147483647 : Int32)) % (3 : Int32)) w0 w1 w2)), .val (.int v29s0), .val (.int v47s0), .unset, .unset, .unset, .unset, .unset]) rfl k) ?_
      refine own_via (B := T4.setTop (mkF m 67 #[.val (.int i0), .val (.int i1), .val (.int i2), .val (.int i3), .val (.int i4), .val (.int i5), .val (.int s4), .val (.int s14), .val (.ref (own_pick ((((i4.toUInt32 >>> ((3 : Int32) &&& 31).toUInt32).toInt32) &&& (2147483647 : Int32)) % (3 : Int32)) w0 w1 w2)), .val (.int v29s0), .val (.int v47s0), .unset, .unset, .unset, .unset, .unset] [(.int i4)])) (fun t k => XS.iload X4.here hx rfl (hb hby at_65) rfl k) ?_
      refine own_via (B := T4.setTop (mkF m 68 #[.val (.int i0), .val (.int i1), .val (.int i2), .val (.int i3), .val (.int i4), .val (.int i5), .val (.int s4), .val (.int s14), .val (.ref (own_pick ((((i4.toUInt32 >>> ((3 : Int32) &&& 31).toUInt32).toInt32) &&& (2147483647 : Int32)) % (3 : Int32)) w0 w1 w2)), .val (.int v29s0), .val (.int v47s0), .unset, .unset, .unset, .unset, .unset] [(.int (4 : Int32)), (.int i4)])) (fun t k => XS.iconst X4.here hx rfl (hb hby at_67) k) ?_
      refine own_via (B := T4.setTop (mkF m 69 #[.val (.int i0), .val (.int i1), .val (.int i2), .val (.int i3), .val (.int i4), .val (.int i5), .val (.int s4), .val (.int s14), .val (.ref (own_pick ((((i4.toUInt32 >>> ((3 : Int32) &&& 31).toUInt32).toInt32) &&& (2147483647 : Int32)) % (3 : Int32)) w0 w1 w2)), .val (.int v29s0), .val (.int v47s0), .unset, .unset, .unset, .unset, .unset] [(.int (i4 &&& (4 : Int32)))])) (fun t k => XS.iand X4.here hx rfl (hb hby at_68) rfl k) ?_
      refine own_bind (G := fun B => ∃ (T' : State) (L' : List Loc) (v69s0 : Addr), Fr n0 L' ∧ ((((i4 &&& (4 : Int32)) = (0 : Int32)) ∧ v69s0 = (own_pick ((i5 &&& (2147483647 : Int32)) % (3 : Int32)) w0 w1 w2)) ∨ ((¬ ((i4 &&& (4 : Int32)) = (0 : Int32))) ∧ v69s0 = (own_pick ((((i4.toUInt32 >>> ((3 : Int32) &&& 31).toUInt32).toInt32) &&& (2147483647 : Int32)) % (3 : Int32)) w0 w1 w2))) ∧ (Exa Z h0 v69s0 "com/example/fenceline/fenceline/litmus/Instruction$Fence") ∧ B = T'.setTop (mkF m 82 #[.val (.int i0), .val (.int i1), .val (.int i2), .val (.int i3), .val (.int i4), .val (.int i5), .val (.int s4), .val (.int s14), .val (.ref (own_pick ((((i4.toUInt32 >>> ((3 : Int32) &&& 31).toUInt32).toInt32) &&& (2147483647 : Int32)) % (3 : Int32)) w0 w1 w2)), .val (.int v29s0), .val (.int v47s0), .unset, .unset, .unset, .unset, .unset] [(.ref v69s0)]) ∧ Stand p l e room_1 (s.setVm s.vm) m #[(.int i0), (.int i1), (.int i2), (.int i3), (.int i4), (.int i5)] below meth c T' L' 0 0 ∧ T'.heap = h0) ?_ ?_
      · by_cases hc69 : (i4 &&& (4 : Int32)) = (0 : Int32)
        · refine own_via (B := T4.setTop (mkF m 77 #[.val (.int i0), .val (.int i1), .val (.int i2), .val (.int i3), .val (.int i4), .val (.int i5), .val (.int s4), .val (.int s14), .val (.ref (own_pick ((((i4.toUInt32 >>> ((3 : Int32) &&& 31).toUInt32).toInt32) &&& (2147483647 : Int32)) % (3 : Int32)) w0 w1 w2)), .val (.int v29s0), .val (.int v47s0), .unset, .unset, .unset, .unset, .unset] [])) (fun t k => XS.ifYes X4.here hx rfl (pc0 := 69) (pc' := 77) rfl (hb hby at_69) rfl ((if0 _ _).trans (teq hc69).1) (by decide) (by decide) k) ?_
          refine own_via (B := T4.setTop (mkF m 79 #[.val (.int i0), .val (.int i1), .val (.int i2), .val (.int i3), .val (.int i4), .val (.int i5), .val (.int s4), .val (.int s14), .val (.ref (own_pick ((((i4.toUInt32 >>> ((3 : Int32) &&& 31).toUInt32).toInt32) &&& (2147483647 : Int32)) % (3 : Int32)) w0 w1 w2)), .val (.int v29s0), .val (.int v47s0), .unset, .unset, .unset, .unset, .unset] [(.int i5)])) (fun t k => XS.iload X4.here hx rfl (hb hby at_77) rfl k) ?_
          obtain ⟨_, _, ⟨T7, L7, k7, n7⟩, -, X7, ⟨Lc7, hQ7, l7, y7, z7⟩, st7⟩ := Jvm.LawKit.callS X4 hx (y := (⟨"com/example/fenceline/fenceline/litmus/PlacedFenceEqualsPinLaw", "fenceOf", "(I)Lcom/example/fenceline/fenceline/litmus/Instruction$Fence;"⟩ : MethodName)) hown (mvT hZ (hw _ (List.mem_of_getElem? (i := 5) rfl))) (mvT hZ (hw _ (List.mem_of_getElem? (i := 6) rfl))) (mvT hZ (hw _ (List.mem_of_getElem? (i := 7) rfl))) (mvT hZ (hw _ (List.mem_of_getElem? (i := 8) rfl))) (by decide) (backOf (W := 0) (rm2 l Z a0 hw [] i5 w0 w1 w2 h0 n0 Z0 (by assumption) O0) hZ (hw _ (List.mem_of_getElem? (i := 8) rfl)) (hw _ (List.mem_of_getElem? (i := 7) rfl)) (by decide) (by decide)) (g := (mkF m 79 #[.val (.int i0), .val (.int i1), .val (.int i2), .val (.int i3), .val (.int i4), .val (.int i5), .val (.int s4), .val (.int s14), .val (.ref (own_pick ((((i4.toUInt32 >>> ((3 : Int32) &&& 31).toUInt32).toInt32) &&& (2147483647 : Int32)) % (3 : Int32)) w0 w1 w2)), .val (.int v29s0), .val (.int v47s0), .unset, .unset, .unset, .unset, .unset] [(.int i5)])) rfl (by rw [hml]; rfl) (argsL := [(.int i5)]) (rest := []) (lenOf own_pd4 rfl) rfl (by show 2 * 0 + _ ≤ _; exact Nat.le_of_eq rfl) (hb hby at_79) (fun _ _ => ⟨rfl, e4, (by decide : 0 + 0 ≤ _), (by decide : 0 + 0 ≤ _)⟩)
          dsimp only [Pt.U, Pt.locs, Pt.cells, Pt.slots] at X7 l7 y7 z7 st7 hQ7
          subst l7 y7 z7
          obtain ⟨rfl, Nq7, eq7, f7_0⟩ := hQ7
          have N7 := Fr.app N4 Nq7
          refine own_via (B := T7.setTop (mkF m 82 #[.val (.int i0), .val (.int i1), .val (.int i2), .val (.int i3), .val (.int i4), .val (.int i5), .val (.int s4), .val (.int s14), .val (.ref (own_pick ((((i4.toUInt32 >>> ((3 : Int32) &&& 31).toUInt32).toInt32) &&& (2147483647 : Int32)) % (3 : Int32)) w0 w1 w2)), .val (.int v29s0), .val (.int v47s0), .unset, .unset, .unset, .unset, .unset] [(.ref (own_pick ((i5 &&& (2147483647 : Int32)) % (3 : Int32)) w0 w1 w2))])) (fun t k => st7 t k) ?_
          exact own_done ⟨_, _, _, N7, (Or.inl ⟨hc69, rfl⟩), f7_0, rfl, (X7.more (by decide) (by decide)), eq7⟩
        · refine own_via (B := T4.setTop (mkF m 72 #[.val (.int i0), .val (.int i1), .val (.int i2), .val (.int i3), .val (.int i4), .val (.int i5), .val (.int s4), .val (.int s14), .val (.ref (own_pick ((((i4.toUInt32 >>> ((3 : Int32) &&& 31).toUInt32).toInt32) &&& (2147483647 : Int32)) % (3 : Int32)) w0 w1 w2)), .val (.int v29s0), .val (.int v47s0), .unset, .unset, .unset, .unset, .unset] [])) (fun t k => XS.ifNo X4.here hx rfl (hb hby at_69) rfl ((if0 _ _).trans (feq hc69).1) k) ?_
          refine own_via (B := T4.setTop (mkF m 74 #[.val (.int i0), .val (.int i1), .val (.int i2), .val (.int i3), .val (.int i4), .val (.int i5), .val (.int s4), .val (.int s14), .val (.ref (own_pick ((((i4.toUInt32 >>> ((3 : Int32) &&& 31).toUInt32).toInt32) &&& (2147483647 : Int32)) % (3 : Int32)) w0 w1 w2)), .val (.int v29s0), .val (.int v47s0), .unset, .unset, .unset, .unset, .unset] [(.ref (own_pick ((((i4.toUInt32 >>> ((3 : Int32) &&& 31).toUInt32).toInt32) &&& (2147483647 : Int32)) % (3 : Int32)) w0 w1 w2))])) (fun t k => XS.aload X4.here hx rfl (hb hby at_72) rfl rfl k) ?_
          refine own_via (B := T4.setTop (mkF m 82 #[.val (.int i0), .val (.int i1), .val (.int i2), .val (.int i3), .val (.int i4), .val (.int i5), .val (.int s4), .val (.int s14), .val (.ref (own_pick ((((i4.toUInt32 >>> ((3 : Int32) &&& 31).toUInt32).toInt32) &&& (2147483647 : Int32)) % (3 : Int32)) w0 w1 w2)), .val (.int v29s0), .val (.int v47s0), .unset, .unset, .unset, .unset, .unset] [(.ref (own_pick ((((i4.toUInt32 >>> ((3 : Int32) &&& 31).toUInt32).toInt32) &&& (2147483647 : Int32)) % (3 : Int32)) w0 w1 w2))])) (fun t k => XS.goto X4.here hx rfl (pc0 := 74) (pc' := 82) rfl (hb hby at_74) (by decide) (by decide) k) ?_
          exact own_done ⟨_, _, _, N4, (Or.inr ⟨hc69, rfl⟩), f2_0, rfl, (X4.more (by decide) (by decide)), e4⟩
      · rintro B ⟨T6, L6, v69s0, N6, hv69, jf6_0, rfl, X6, e6⟩
        refine own_via (B := T6.setTop (mkF m 84 #[.val (.int i0), .val (.int i1), .val (.int i2), .val (.int i3), .val (.int i4), .val (.int i5), .val (.int s4), .val (.int s14), .val (.ref (own_pick ((((i4.toUInt32 >>> ((3 : Int32) &&& 31).toUInt32).toInt32) &&& (2147483647 : Int32)) % (3 : Int32)) w0 w1 w2)), .val (.int v29s0), .val (.int v47s0), .val (.ref v69s0), .unset, .unset, .unset, .unset] [])) (fun t k => XS.astore X6.here hx rfl (hb hby at_82) rfl rfl (l' := #[.val (.int i0), .val (.int i1), .val (.int i2), .val (.int i3), .val (.int i4), .val (.int i5), .val (.int s4), .val (.int s14), .val (.ref (own_pick ((((i4.toUInt32 >>> ((3 : Int32) &&& 31).toUInt32).toInt32) &&& (2147483647 : Int32)) % (3 : Int32)) w0 w1 w2)), .val (.int v29s0), .val (.int v47s0), .val (.ref v69s0), .unset, .unset, .unset, .unset]) rfl k) ?_
        obtain ⟨T8, h8, X8, e8, E8, A8, D8, -, st8⟩ := newO X6 hx hZ hown (hw _ (List.mem_of_getElem? (i := 12) rfl)) (hw _ (List.mem_of_getElem? (i := 13) rfl)) (hw _ (List.mem_of_getElem? (i := 14) rfl)) e6 (g := (mkF m 84 #[.val (.int i0), .val (.int i1), .val (.int i2), .val (.int i3), .val (.int i4), .val (.int i5), .val (.int s4), .val (.int s14), .val (.ref (own_pick ((((i4.toUInt32 >>> ((3 : Int32) &&& 31).toUInt32).toInt32) &&& (2147483647 : Int32)) % (3 : Int32)) w0 w1 w2)), .val (.int v29s0), .val (.int v47s0), .val (.ref v69s0), .unset, .unset, .unset, .unset] [])) rfl (hb hby at_84) (by decide) (by decide)
        obtain ⟨bp, g8⟩ : ∃ z, z = h0.size := ⟨_, rfl⟩
        rw [← g8] at A8 D8 st8
        have g_bp : n0 ≤ bp := Nat.le_trans Z0 (Nat.le_of_eq g8.symm)
        have F8_thread : Fld Z h8 bp "com/example/fenceline/fenceline/litmus/PlacedFence" "thread" "I" (.int (0 : Int32)) := D8 (Or.inr (hw _ (List.mem_of_getElem? (i := 39) rfl))) (ty := .int) (by decide)
        have F8_after : Fld Z h8 bp "com/example/fenceline/fenceline/litmus/PlacedFence" "after" "I" (.int (0 : Int32)) := D8 (Or.inr (hw _ (List.mem_of_getElem? (i := 41) rfl))) (ty := .int) (by decide)
        have F8_fence : Fld Z h8 bp "com/example/fenceline/fenceline/litmus/PlacedFence" "fence" "Lcom/example/fenceline/fenceline/litmus/Instruction$Fence;" .null := D8 (Or.inr (hw _ (List.mem_of_getElem? (i := 43) rfl))) (ty := (.object "com/example/fenceline/fenceline/litmus/Instruction$Fence")) (by decide)
        refine own_via (B := T8.setTop (mkF m 87 #[.val (.int i0), .val (.int i1), .val (.int i2), .val (.int i3), .val (.int i4), .val (.int i5), .val (.int s4), .val (.int s14), .val (.ref (own_pick ((((i4.toUInt32 >>> ((3 : Int32) &&& 31).toUInt32).toInt32) &&& (2147483647 : Int32)) % (3 : Int32)) w0 w1 w2)), .val (.int v29s0), .val (.int v47s0), .val (.ref v69s0), .unset, .unset, .unset, .unset] [(.ref bp)])) (fun t k => st8 t k) ?_
        refine own_via (B := T8.setTop (mkF m 88 #[.val (.int i0), .val (.int i1), .val (.int i2), .val (.int i3), .val (.int i4), .val (.int i5), .val (.int s4), .val (.int s14), .val (.ref (own_pick ((((i4.toUInt32 >>> ((3 : Int32) &&& 31).toUInt32).toInt32) &&& (2147483647 : Int32)) % (3 : Int32)) w0 w1 w2)), .val (.int v29s0), .val (.int v47s0), .val (.ref v69s0), .unset, .unset, .unset, .unset] [(.ref bp), (.ref bp)])) (fun t k => XS.dup X8.here hx rfl (hb hby at_87) rfl rfl k) ?_
        refine own_via (B := T8.setTop (mkF m 90 #[.val (.int i0), .val (.int i1), .val (.int i2), .val (.int i3), .val (.int i4), .val (.int i5), .val (.int s4), .val (.int s14), .val (.ref (own_pick ((((i4.toUInt32 >>> ((3 : Int32) &&& 31).toUInt32).toInt32) &&& (2147483647 : Int32)) % (3 : Int32)) w0 w1 w2)), .val (.int v29s0), .val (.int v47s0), .val (.ref v69s0), .unset, .unset, .unset, .unset] [(.int s4), (.ref bp), (.ref bp)])) (fun t k => XS.iload X8.here hx rfl (hb hby at_88) rfl k) ?_
        refine own_via (B := T8.setTop (mkF m 92 #[.val (.int i0), .val (.int i1), .val (.int i2), .val (.int i3), .val (.int i4), .val (.int i5), .val (.int s4), .val (.int s14), .val (.ref (own_pick ((((i4.toUInt32 >>> ((3 : Int32) &&& 31).toUInt32).toInt32) &&& (2147483647 : Int32)) % (3 : Int32)) w0 w1 w2)), .val (.int v29s0), .val (.int v47s0), .val (.ref v69s0), .unset, .unset, .unset, .unset] [(.int s14), (.int s4), (.ref bp), (.ref bp)])) (fun t k => XS.iload X8.here hx rfl (hb hby at_90) rfl k) ?_
        refine own_via (B := T8.setTop (mkF m 94 #[.val (.int i0), .val (.int i1), .val (.int i2), .val (.int i3), .val (.int i4), .val (.int i5), .val (.int s4), .val (.int s14), .val (.ref (own_pick ((((i4.toUInt32 >>> ((3 : Int32) &&& 31).toUInt32).toInt32) &&& (2147483647 : Int32)) % (3 : Int32)) w0 w1 w2)), .val (.int v29s0), .val (.int v47s0), .val (.ref v69s0), .unset, .unset, .unset, .unset] [(.ref (own_pick ((((i4.toUInt32 >>> ((3 : Int32) &&& 31).toUInt32).toInt32) &&& (2147483647 : Int32)) % (3 : Int32)) w0 w1 w2)), (.int s14), (.int s4), (.ref bp), (.ref bp)])) (fun t k => XS.aload X8.here hx rfl (hb hby at_92) rfl rfl k) ?_
        obtain ⟨_, _, ⟨T9, L9, k9, n9⟩, -, X9, hT9, gT9, ⟨Lc9, hQ9, l9, y9, z9⟩, st9⟩ := X8.specialBackS hx (y := (⟨"com/example/fenceline/fenceline/litmus/PlacedFence", "<init>", "(IILcom/example/fenceline/fenceline/litmus/Instruction$Fence;)V"⟩ : MethodName)) rfl hown (mvT hZ (hw _ (List.mem_of_getElem? (i := 15) rfl))) (mvT hZ (hw _ (List.mem_of_getElem? (i := 16) rfl))) (mvT hZ (hw _ (List.mem_of_getElem? (i := 17) rfl))) (by decide) (backOfS (W := 1) (rm5 l Z a0 hw [] bp s4 s14 (own_pick ((((i4.toUInt32 >>> ((3 : Int32) &&& 31).toUInt32).toInt32) &&& (2147483647 : Int32)) % (3 : Int32)) w0 w1 w2) (0 : Int32) (0 : Int32) .null h8 n0 (Nat.le_trans Z0 E8.1) A8 F8_thread F8_after F8_fence g_bp (by rw [← hs4]; exact own_nn i0) (by rw [← hs14]; exact own_m1 _)) hZ (hw _ (List.mem_of_getElem? (i := 17) rfl)) (hw _ (List.mem_of_getElem? (i := 14) rfl)) (by decide) (by decide)) (g := (mkF m 94 #[.val (.int i0), .val (.int i1), .val (.int i2), .val (.int i3), .val (.int i4), .val (.int i5), .val (.int s4), .val (.int s14), .val (.ref (own_pick ((((i4.toUInt32 >>> ((3 : Int32) &&& 31).toUInt32).toInt32) &&& (2147483647 : Int32)) % (3 : Int32)) w0 w1 w2)), .val (.int v29s0), .val (.int v47s0), .val (.ref v69s0), .unset, .unset, .unset, .unset] [(.ref (own_pick ((((i4.toUInt32 >>> ((3 : Int32) &&& 31).toUInt32).toInt32) &&& (2147483647 : Int32)) % (3 : Int32)) w0 w1 w2)), (.int s14), (.int s4), (.ref bp), (.ref bp)])) rfl (by rw [hml]; rfl) (Steps.refl _) (a := bp) (argsL := [(.int s4), (.int s14), (.ref (own_pick ((((i4.toUInt32 >>> ((3 : Int32) &&& 31).toUInt32).toInt32) &&& (2147483647 : Int32)) % (3 : Int32)) w0 w1 w2))]) (rest := [(.ref bp)]) (lenOf own_pd5 rfl) rfl (by show 2 * 0 + _ ≤ _; exact Nat.le_of_eq rfl) (hb hby at_94) (fun _ _ => ⟨rfl, e8, (by decide : (0 + 1) + 2 ≤ _), (by decide : (0 + 3) + 92 ≤ _)⟩)
        dsimp only [Pt.U, Pt.locs, Pt.cells, Pt.slots] at X9 l9 y9 z9 st9 hQ9 hT9 gT9
        subst l9 y9 z9
        obtain ⟨X9, hS9, hZ, hown⟩ := rebS hS0 (by rw [e8]; exact (Nat.le_trans hk0 E8.1)) X9 hT9 gT9 hZ hown
        obtain ⟨rfl, Nq9, Kq9, f9_0, f9_1, f9_2⟩ := hQ9
        have N9 := Fr.app N6 Nq9
        refine own_via (B := T9.setTop (mkF m 97 #[.val (.int i0), .val (.int i1), .val (.int i2), .val (.int i3), .val (.int i4), .val (.int i5), .val (.int s4), .val (.int s14), .val (.ref (own_pick ((((i4.toUInt32 >>> ((3 : Int32) &&& 31).toUInt32).toInt32) &&& (2147483647 : Int32)) % (3 : Int32)) w0 w1 w2)), .val (.int v29s0), .val (.int v47s0), .val (.ref v69s0), .unset, .unset, .unset, .unset] [(.ref bp)])) (fun t k => st9.trans k) ?_
        refine own_via (B := T9.setTop (mkF m 99 #[.val (.int i0), .val (.int i1), .val (.int i2), .val (.int i3), .val (.int i4), .val (.int i5), .val (.int s4), .val (.int s14), .val (.ref (own_pick ((((i4.toUInt32 >>> ((3 : Int32) &&& 31).toUInt32).toInt32) &&& (2147483647 : Int32)) % (3 : Int32)) w0 w1 w2)), .val (.int v29s0), .val (.int v47s0), .val (.ref v69s0), .val (.ref bp), .unset, .unset, .unset] [])) (fun t k => XS.astore X9.here hx rfl (hb hby at_97) rfl rfl (l' := #[.val (.int i0), .val (.int i1), .val (.int i2), .val (.int i3), .val (.int i4), .val (.int i5), .val (.int s4), .val (.int s14), .val (.ref (own_pick ((((i4.toUInt32 >>> ((3 : Int32) &&& 31).toUInt32).toInt32) &&& (2147483647 : Int32)) % (3 : Int32)) w0 w1 w2)), .val (.int v29s0), .val (.int v47s0), .val (.ref v69s0), .val (.ref bp), .unset, .unset, .unset]) rfl k) ?_
        obtain ⟨T10, h10, X10, e10, E10, A10, D10, -, st10⟩ := newO X9 hx hZ hown (hw _ (List.mem_of_getElem? (i := 12) rfl)) (hw _ (List.mem_of_getElem? (i := 13) rfl)) (hw _ (List.mem_of_getElem? (i := 14) rfl)) rfl (g := (mkF m 99 #[.val (.int i0), .val (.int i1), .val (.int i2), .val (.int i3), .val (.int i4), .val (.int i5), .val (.int s4), .val (.int s14), .val (.ref (own_pick ((((i4.toUInt32 >>> ((3 : Int32) &&& 31).toUInt32).toInt32) &&& (2147483647 : Int32)) % (3 : Int32)) w0 w1 w2)), .val (.int v29s0), .val (.int v47s0), .val (.ref v69s0), .val (.ref bp), .unset, .unset, .unset] [])) rfl (hb hby at_99) (by decide) (by decide)
        obtain ⟨bq, g10⟩ : ∃ z, z = T9.heap.size := ⟨_, rfl⟩
        rw [← g10] at A10 D10 st10
        have g_bq : n0 ≤ bq := Nat.le_trans (Nat.le_trans (Nat.le_trans Z0 E8.1) Kq9.1) (Nat.le_of_eq g10.symm)
        have F10_thread : Fld Z h10 bq "com/example/fenceline/fenceline/litmus/PlacedFence" "thread" "I" (.int (0 : Int32)) := D10 (Or.inr (hw _ (List.mem_of_getElem? (i := 39) rfl))) (ty := .int) (by decide)
        have F10_after : Fld Z h10 bq "com/example/fenceline/fenceline/litmus/PlacedFence" "after" "I" (.int (0 : Int32)) := D10 (Or.inr (hw _ (List.mem_of_getElem? (i := 41) rfl))) (ty := .int) (by decide)
        have F10_fence : Fld Z h10 bq "com/example/fenceline/fenceline/litmus/PlacedFence" "fence" "Lcom/example/fenceline/fenceline/litmus/Instruction$Fence;" .null := D10 (Or.inr (hw _ (List.mem_of_getElem? (i := 43) rfl))) (ty := (.object "com/example/fenceline/fenceline/litmus/Instruction$Fence")) (by decide)
        refine own_via (B := T10.setTop (mkF m 102 #[.val (.int i0), .val (.int i1), .val (.int i2), .val (.int i3), .val (.int i4), .val (.int i5), .val (.int s4), .val (.int s14), .val (.ref (own_pick ((((i4.toUInt32 >>> ((3 : Int32) &&& 31).toUInt32).toInt32) &&& (2147483647 : Int32)) % (3 : Int32)) w0 w1 w2)), .val (.int v29s0), .val (.int v47s0), .val (.ref v69s0), .val (.ref bp), .unset, .unset, .unset] [(.ref bq)])) (fun t k => st10 t k) ?_
        refine own_via (B := T10.setTop (mkF m 103 #[.val (.int i0), .val (.int i1), .val (.int i2), .val (.int i3), .val (.int i4), .val (.int i5), .val (.int s4), .val (.int s14), .val (.ref (own_pick ((((i4.toUInt32 >>> ((3 : Int32) &&& 31).toUInt32).toInt32) &&& (2147483647 : Int32)) % (3 : Int32)) w0 w1 w2)), .val (.int v29s0), .val (.int v47s0), .val (.ref v69s0), .val (.ref bp), .unset, .unset, .unset] [(.ref bq), (.ref bq)])) (fun t k => XS.dup X10.here hx rfl (hb hby at_102) rfl rfl k) ?_
        refine own_via (B := T10.setTop (mkF m 105 #[.val (.int i0), .val (.int i1), .val (.int i2), .val (.int i3), .val (.int i4), .val (.int i5), .val (.int s4), .val (.int s14), .val (.ref (own_pick ((((i4.toUInt32 >>> ((3 : Int32) &&& 31).toUInt32).toInt32) &&& (2147483647 : Int32)) % (3 : Int32)) w0 w1 w2)), .val (.int v29s0), .val (.int v47s0), .val (.ref v69s0), .val (.ref bp), .unset, .unset, .unset] [(.int v29s0), (.ref bq), (.ref bq)])) (fun t k => XS.iload X10.here hx rfl (hb hby at_103) rfl k) ?_
        refine own_via (B := T10.setTop (mkF m 107 #[.val (.int i0), .val (.int i1), .val (.int i2), .val (.int i3), .val (.int i4), .val (.int i5), .val (.int s4), .val (.int s14), .val (.ref (own_pick ((((i4.toUInt32 >>> ((3 : Int32) &&& 31).toUInt32).toInt32) &&& (2147483647 : Int32)) % (3 : Int32)) w0 w1 w2)), .val (.int v29s0), .val (.int v47s0), .val (.ref v69s0), .val (.ref bp), .unset, .unset, .unset] [(.int v47s0), (.int v29s0), (.ref bq), (.ref bq)])) (fun t k => XS.iload X10.here hx rfl (hb hby at_105) rfl k) ?_
        refine own_via (B := T10.setTop (mkF m 109 #[.val (.int i0), .val (.int i1), .val (.int i2), .val (.int i3), .val (.int i4), .val (.int i5), .val (.int s4), .val (.int s14), .val (.ref (own_pick ((((i4.toUInt32 >>> ((3 : Int32) &&& 31).toUInt32).toInt32) &&& (2147483647 : Int32)) % (3 : Int32)) w0 w1 w2)), .val (.int v29s0), .val (.int v47s0), .val (.ref v69s0), .val (.ref bp), .unset, .unset, .unset] [(.ref v69s0), (.int v47s0), (.int v29s0), (.ref bq), (.ref bq)])) (fun t k => XS.aload X10.here hx rfl (hb hby at_107) rfl rfl k) ?_
        obtain ⟨_, _, ⟨T11, L11, k11, n11⟩, -, X11, hT11, gT11, ⟨Lc11, hQ11, l11, y11, z11⟩, st11⟩ := X10.specialBackS hx (y := (⟨"com/example/fenceline/fenceline/litmus/PlacedFence", "<init>", "(IILcom/example/fenceline/fenceline/litmus/Instruction$Fence;)V"⟩ : MethodName)) rfl hown (mvT hZ (hw _ (List.mem_of_getElem? (i := 15) rfl))) (mvT hZ (hw _ (List.mem_of_getElem? (i := 16) rfl))) (mvT hZ (hw _ (List.mem_of_getElem? (i := 17) rfl))) (by decide) (backOfS (W := 1) (rm5 l Z a0 hw [] bq v29s0 v47s0 v69s0 (0 : Int32) (0 : Int32) .null h10 n0 (Nat.le_trans (Nat.le_trans (Nat.le_trans Z0 E8.1) Kq9.1) E10.1) A10 F10_thread F10_after F10_fence g_bq (by rcases hv29 with ⟨_, h⟩ | ⟨_, h⟩; (rw [h]; exact own_nn i2); (rw [h, ← hs4]; exact own_nn i0)) (by rcases hv47 with ⟨_, h⟩ | ⟨_, h⟩; (rw [h]; exact own_m1 _); (rw [h, ← hs14]; exact own_m1 _))) hZ (hw _ (List.mem_of_getElem? (i := 17) rfl)) (hw _ (List.mem_of_getElem? (i := 14) rfl)) (by decide) (by decide)) (g := (mkF m 109 #[.val (.int i0), .val (.int i1), .val (.int i2), .val (.int i3), .val (.int i4), .val (.int i5), .val (.int s4), .val (.int s14), .val (.ref (own_pick ((((i4.toUInt32 >>> ((3 : Int32) &&& 31).toUInt32).toInt32) &&& (2147483647 : Int32)) % (3 : Int32)) w0 w1 w2)), .val (.int v29s0), .val (.int v47s0), .val (.ref v69s0), .val (.ref bp), .unset, .unset, .unset] [(.ref v69s0), (.int v47s0), (.int v29s0), (.ref bq), (.ref bq)])) rfl (by rw [hml]; rfl) (Steps.refl _) (a := bq) (argsL := [(.int v29s0), (.int v47s0), (.ref v69s0)]) (rest := [(.ref bq)]) (lenOf own_pd5 rfl) rfl (by show 2 * 0 + _ ≤ _; exact Nat.le_of_eq rfl) (hb hby at_109) (fun _ _ => ⟨rfl, e10, (by decide : (((0 + 1) + 2) + 1) + 2 ≤ _), (by decide : (((0 + 3) + 92) + 3) + 92 ≤ _)⟩)
        dsimp only [Pt.U, Pt.locs, Pt.cells, Pt.slots] at X11 l11 y11 z11 st11 hQ11 hT11 gT11
        subst l11 y11 z11
        obtain ⟨X11, hS11, hZ, hown⟩ := rebS hS9 (by rw [e10]; exact (Nat.le_trans (Nat.le_refl _) E10.1)) X11 hT11 gT11 hZ hown
        obtain ⟨rfl, Nq11, Kq11, f11_0, f11_1, f11_2⟩ := hQ11
        have N11 := Fr.app N9 Nq11
        refine own_via (B := T11.setTop (mkF m 112 #[.val (.int i0), .val (.int i1), .val (.int i2), .val (.int i3), .val (.int i4), .val (.int i5), .val (.int s4), .val (.int s14), .val (.ref (own_pick ((((i4.toUInt32 >>> ((3 : Int32) &&& 31).toUInt32).toInt32) &&& (2147483647 : Int32)) % (3 : Int32)) w0 w1 w2)), .val (.int v29s0), .val (.int v47s0), .val (.ref v69s0), .val (.ref bp), .unset, .unset, .unset] [(.ref bq)])) (fun t k => st11.trans k) ?_
        refine own_via (B := T11.setTop (mkF m 114 #[.val (.int i0), .val (.int i1), .val (.int i2), .val (.int i3), .val (.int i4), .val (.int i5), .val (.int s4), .val (.int s14), .val (.ref (own_pick ((((i4.toUInt32 >>> ((3 : Int32) &&& 31).toUInt32).toInt32) &&& (2147483647 : Int32)) % (3 : Int32)) w0 w1 w2)), .val (.int v29s0), .val (.int v47s0), .val (.ref v69s0), .val (.ref bp), .val (.ref bq), .unset, .unset] [])) (fun t k => XS.astore X11.here hx rfl (hb hby at_112) rfl rfl (l' := #[.val (.int i0), .val (.int i1), .val (.int i2), .val (.int i3), .val (.int i4), .val (.int i5), .val (.int s4), .val (.int s14), .val (.ref (own_pick ((((i4.toUInt32 >>> ((3 : Int32) &&& 31).toUInt32).toInt32) &&& (2147483647 : Int32)) % (3 : Int32)) w0 w1 w2)), .val (.int v29s0), .val (.int v47s0), .val (.ref v69s0), .val (.ref bp), .val (.ref bq), .unset, .unset]) rfl k) ?_
        refine own_via (B := T11.setTop (mkF m 116 #[.val (.int i0), .val (.int i1), .val (.int i2), .val (.int i3), .val (.int i4), .val (.int i5), .val (.int s4), .val (.int s14), .val (.ref (own_pick ((((i4.toUInt32 >>> ((3 : Int32) &&& 31).toUInt32).toInt32) &&& (2147483647 : Int32)) % (3 : Int32)) w0 w1 w2)), .val (.int v29s0), .val (.int v47s0), .val (.ref v69s0), .val (.ref bp), .val (.ref bq), .unset, .unset] [(.int s4)])) (fun t k => XS.iload X11.here hx rfl (hb hby at_114) rfl k) ?_
        refine own_via (B := T11.setTop (mkF m 118 #[.val (.int i0), .val (.int i1), .val (.int i2), .val (.int i3), .val (.int i4), .val (.int i5), .val (.int s4), .val (.int s14), .val (.ref (own_pick ((((i4.toUInt32 >>> ((3 : Int32) &&& 31).toUInt32).toInt32) &&& (2147483647 : Int32)) % (3 : Int32)) w0 w1 w2)), .val (.int v29s0), .val (.int v47s0), .val (.ref v69s0), .val (.ref bp), .val (.ref bq), .unset, .unset] [(.int v29s0), (.int s4)])) (fun t k => XS.iload X11.here hx rfl (hb hby at_116) rfl k) ?_
        refine own_bind (G := fun B => ∃ (T' : State) (L' : List Loc) (v118s0 : Int32), Fr n0 L' ∧ (((s4 = v29s0) ∧ (s14 = v47s0) ∧ ((own_pick ((((i4.toUInt32 >>> ((3 : Int32) &&& 31).toUInt32).toInt32) &&& (2147483647 : Int32)) % (3 : Int32)) w0 w1 w2) = v69s0) ∧ v118s0 = (1 : Int32)) ∨ ((s4 = v29s0) ∧ (s14 = v47s0) ∧ (¬ ((own_pick ((((i4.toUInt32 >>> ((3 : Int32) &&& 31).toUInt32).toInt32) &&& (2147483647 : Int32)) % (3 : Int32)) w0 w1 w2) = v69s0)) ∧ v118s0 = (0 : Int32)) ∨ ((s4 = v29s0) ∧ (¬ (s14 = v47s0)) ∧ v118s0 = (0 : Int32)) ∨ ((¬ (s4 = v29s0)) ∧ v118s0 = (0 : Int32))) ∧ B = T'.setTop (mkF m 140 #[.val (.int i0), .val (.int i1), .val (.int i2), .val (.int i3), .val (.int i4), .val (.int i5), .val (.int s4), .val (.int s14), .val (.ref (own_pick ((((i4.toUInt32 >>> ((3 : Int32) &&& 31).toUInt32).toInt32) &&& (2147483647 : Int32)) % (3 : Int32)) w0 w1 w2)), .val (.int v29s0), .val (.int v47s0), .val (.ref v69s0), .val (.ref bp), .val (.ref bq), .unset, .unset] [(.int v118s0)]) ∧ Stand p l e room_1 (s.setVm T11.vm) m #[(.int i0), (.int i1), (.int i2), (.int i3), (.int i4), (.int i5)] below meth c T' L' ((((0 + 1) + 2) + 1) + 2) ((((0 + 3) + 92) + 3) + 92) ∧ T'.heap = T11.heap) ?_ ?_
        · by_cases hc118 : s4 = v29s0
          · refine own_via (B := T11.setTop (mkF m 121 #[.val (.int i0), .val (.int i1), .val (.int i2), .val (.int i3), .val (.int i4), .val (.int i5), .val (.int s4), .val (.int s14), .val (.ref (own_pick ((((i4.toUInt32 >>> ((3 : Int32) &&& 31).toUInt32).toInt32) &&& (2147483647 : Int32)) % (3 : Int32)) w0 w1 w2)), .val (.int v29s0), .val (.int v47s0), .val (.ref v69s0), .val (.ref bp), .val (.ref bq), .unset, .unset] [])) (fun t k => XS.icmpNo X11.here hx rfl (hb hby at_118) rfl (teq hc118).2 k) ?_
            refine own_via (B := T11.setTop (mkF m 123 #[.val (.int i0), .val (.int i1), .val (.int i2), .val (.int i3), .val (.int i4), .val (.int i5), .val (.int s4), .val (.int s14), .val (.ref (own_pick ((((i4.toUInt32 >>> ((3 : Int32) &&& 31).toUInt32).toInt32) &&& (2147483647 : Int32)) % (3 : Int32)) w0 w1 w2)), .val (.int v29s0), .val (.int v47s0), .val (.ref v69s0), .val (.ref bp), .val (.ref bq), .unset, .unset] [(.int s14)])) (fun t k => XS.iload X11.here hx rfl (hb hby at_121) rfl k) ?_
            refine own_via (B := T11.setTop (mkF m 125 #[.val (.int i0), .val (.int i1), .val (.int i2), .val (.int i3), .val (.int i4), .val (.int i5), .val (.int s4), .val (.int s14), .val (.ref (own_pick ((((i4.toUInt32 >>> ((3 : Int32) &&& 31).toUInt32).toInt32) &&& (2147483647 : Int32)) % (3 : Int32)) w0 w1 w2)), .val (.int v29s0), .val (.int v47s0), .val (.ref v69s0), .val (.ref bp), .val (.ref bq), .unset, .unset] [(.int v47s0), (.int s14)])) (fun t k => XS.iload X11.here hx rfl (hb hby at_123) rfl k) ?_
            by_cases hc125 : s14 = v47s0
            · refine own_via (B := T11.setTop (mkF m 128 #[.val (.int i0), .val (.int i1), .val (.int i2), .val (.int i3), .val (.int i4), .val (.int i5), .val (.int s4), .val (.int s14), .val (.ref (own_pick ((((i4.toUInt32 >>> ((3 : Int32) &&& 31).toUInt32).toInt32) &&& (2147483647 : Int32)) % (3 : Int32)) w0 w1 w2)), .val (.int v29s0), .val (.int v47s0), .val (.ref v69s0), .val (.ref bp), .val (.ref bq), .unset, .unset] [])) (fun t k => XS.icmpNo X11.here hx rfl (hb hby at_125) rfl (teq hc125).2 k) ?_
              refine own_via (B := T11.setTop (mkF m 130 #[.val (.int i0), .val (.int i1), .val (.int i2), .val (.int i3), .val (.int i4), .val (.int i5), .val (.int s4), .val (.int s14), .val (.ref (own_pick ((((i4.toUInt32 >>> ((3 : Int32) &&& 31).toUInt32).toInt32) &&& (2147483647 : Int32)) % (3 : Int32)) w0 w1 w2)), .val (.int v29s0), .val (.int v47s0), .val (.ref v69s0), .val (.ref bp), .val (.ref bq), .unset, .unset] [(.ref (own_pick ((((i4.toUInt32 >>> ((3 : Int32) &&& 31).toUInt32).toInt32) &&& (2147483647 : Int32)) % (3 : Int32)) w0 w1 w2))])) (fun t k => XS.aload X11.here hx rfl (hb hby at_128) rfl rfl k) ?_
              refine own_via (B := T11.setTop (mkF m 132 #[.val (.int i0), .val (.int i1), .val (.int i2), .val (.int i3), .val (.int i4), .val (.int i5), .val (.int s4), .val (.int s14), .val (.ref (own_pick ((((i4.toUInt32 >>> ((3 : Int32) &&& 31).toUInt32).toInt32) &&& (2147483647 : Int32)) % (3 : Int32)) w0 w1 w2)), .val (.int v29s0), .val (.int v47s0), .val (.ref v69s0), .val (.ref bp), .val (.ref bq), .unset, .unset] [(.ref v69s0), (.ref (own_pick ((((i4.toUInt32 >>> ((3 : Int32) &&& 31).toUInt32).toInt32) &&& (2147483647 : Int32)) % (3 : Int32)) w0 w1 w2))])) (fun t k => XS.aload X11.here hx rfl (hb hby at_130) rfl rfl k) ?_
              by_cases hc132 : (own_pick ((((i4.toUInt32 >>> ((3 : Int32) &&& 31).toUInt32).toInt32) &&& (2147483647 : Int32)) % (3 : Int32)) w0 w1 w2) = v69s0
              · refine own_via (B := T11.setTop (mkF m 135 #[.val (.int i0), .val (.int i1), .val (.int i2), .val (.int i3), .val (.int i4), .val (.int i5), .val (.int s4), .val (.int s14), .val (.ref (own_pick ((((i4.toUInt32 >>> ((3 : Int32) &&& 31).toUInt32).toInt32) &&& (2147483647 : Int32)) % (3 : Int32)) w0 w1 w2)), .val (.int v29s0), .val (.int v47s0), .val (.ref v69s0), .val (.ref bp), .val (.ref bq), .unset, .unset] [])) (fun t k => Jvm.RoadKit.acmp (g := (mkF m 132 #[.val (.int i0), .val (.int i1), .val (.int i2), .val (.int i3), .val (.int i4), .val (.int i5), .val (.int s4), .val (.int s14), .val (.ref (own_pick ((((i4.toUInt32 >>> ((3 : Int32) &&& 31).toUInt32).toInt32) &&& (2147483647 : Int32)) % (3 : Int32)) w0 w1 w2)), .val (.int v29s0), .val (.int v47s0), .val (.ref v69s0), .val (.ref bp), .val (.ref bq), .unset, .unset] [(.ref v69s0), (.ref (own_pick ((((i4.toUInt32 >>> ((3 : Int32) &&& 31).toUInt32).toInt32) &&& (2147483647 : Int32)) % (3 : Int32)) w0 w1 w2))])) X11 hx rfl rfl rfl (pc0 := 132) (pc' := 135) (same := true) rfl (hb hby at_132) rfl (decide_eq_true (congrArg Value.ref hc132)) (by decide) (by decide) k) ?_
                refine own_via (B := T11.setTop (mkF m 136 #[.val (.int i0), .val (.int i1), .val (.int i2), .val (.int i3), .val (.int i4), .val (.int i5), .val (.int s4), .val (.int s14), .val (.ref (own_pick ((((i4.toUInt32 >>> ((3 : Int32) &&& 31).toUInt32).toInt32) &&& (2147483647 : Int32)) % (3 : Int32)) w0 w1 w2)), .val (.int v29s0), .val (.int v47s0), .val (.ref v69s0), .val (.ref bp), .val (.ref bq), .unset, .unset] [(.int (1 : Int32))])) (fun t k => XS.iconst X11.here hx rfl (hb hby at_135) k) ?_
                refine own_via (B := T11.setTop (mkF m 140 #[.val (.int i0), .val (.int i1), .val (.int i2), .val (.int i3), .val (.int i4), .val (.int i5), .val (.int s4), .val (.int s14), .val (.ref (own_pick ((((i4.toUInt32 >>> ((3 : Int32) &&& 31).toUInt32).toInt32) &&& (2147483647 : Int32)) % (3 : Int32)) w0 w1 w2)), .val (.int v29s0), .val (.int v47s0), .val (.ref v69s0), .val (.ref bp), .val (.ref bq), .unset, .unset] [(.int (1 : Int32))])) (fun t k => XS.goto X11.here hx rfl (pc0 := 136) (pc' := 140) rfl (hb hby at_136) (by decide) (by decide) k) ?_
                exact own_done ⟨_, _, _, N11, (Or.inl ⟨hc118, hc125, hc132, rfl⟩), rfl, X11, rfl⟩
              · refine own_via (B := T11.setTop (mkF m 139 #[.val (.int i0), .val (.int i1), .val (.int i2), .val (.int i3), .val (.int i4), .val (.int i5), .val (.int s4), .val (.int s14), .val (.ref (own_pick ((((i4.toUInt32 >>> ((3 : Int32) &&& 31).toUInt32).toInt32) &&& (2147483647 : Int32)) % (3 : Int32)) w0 w1 w2)), .val (.int v29s0), .val (.int v47s0), .val (.ref v69s0), .val (.ref bp), .val (.ref bq), .unset, .unset] [])) (fun t k => Jvm.RoadKit.acmp (g := (mkF m 132 #[.val (.int i0), .val (.int i1), .val (.int i2), .val (.int i3), .val (.int i4), .val (.int i5), .val (.int s4), .val (.int s14), .val (.ref (own_pick ((((i4.toUInt32 >>> ((3 : Int32) &&& 31).toUInt32).toInt32) &&& (2147483647 : Int32)) % (3 : Int32)) w0 w1 w2)), .val (.int v29s0), .val (.int v47s0), .val (.ref v69s0), .val (.ref bp), .val (.ref bq), .unset, .unset] [(.ref v69s0), (.ref (own_pick ((((i4.toUInt32 >>> ((3 : Int32) &&& 31).toUInt32).toInt32) &&& (2147483647 : Int32)) % (3 : Int32)) w0 w1 w2))])) X11 hx rfl rfl rfl (pc0 := 132) (pc' := 139) (same := false) rfl (hb hby at_132) rfl (decide_eq_false fun q => hc132 (Value.ref.inj q)) (by decide) (by decide) k) ?_
                refine own_via (B := T11.setTop (mkF m 140 #[.val (.int i0), .val (.int i1), .val (.int i2), .val (.int i3), .val (.int i4), .val (.int i5), .val (.int s4), .val (.int s14), .val (.ref (own_pick ((((i4.toUInt32 >>> ((3 : Int32) &&& 31).toUInt32).toInt32) &&& (2147483647 : Int32)) % (3 : Int32)) w0 w1 w2)), .val (.int v29s0), .val (.int v47s0), .val (.ref v69s0), .val (.ref bp), .val (.ref bq), .unset, .unset] [(.int (0 : Int32))])) (fun t k => XS.iconst X11.here hx rfl (hb hby at_139) k) ?_
                exact own_done ⟨_, _, _, N11, (Or.inr (Or.inl ⟨hc118, hc125, hc132, rfl⟩)), rfl, X11, rfl⟩
            · refine own_via (B := T11.setTop (mkF m 139 #[.val (.int i0), .val (.int i1), .val (.int i2), .val (.int i3), .val (.int i4), .val (.int i5), .val (.int s4), .val (.int s14), .val (.ref (own_pick ((((i4.toUInt32 >>> ((3 : Int32) &&& 31).toUInt32).toInt32) &&& (2147483647 : Int32)) % (3 : Int32)) w0 w1 w2)), .val (.int v29s0), .val (.int v47s0), .val (.ref v69s0), .val (.ref bp), .val (.ref bq), .unset, .unset] [])) (fun t k => XS.icmpYes X11.here hx rfl (pc0 := 125) (pc' := 139) rfl (hb hby at_125) rfl (feq hc125).2 (by decide) (by decide) k) ?_
              refine own_via (B := T11.setTop (mkF m 140 #[.val (.int i0), .val (.int i1), .val (.int i2), .val (.int i3), .val (.int i4), .val (.int i5), .val (.int s4), .val (.int s14), .val (.ref (own_pick ((((i4.toUInt32 >>> ((3 : Int32) &&& 31).toUInt32).toInt32) &&& (2147483647 : Int32)) % (3 : Int32)) w0 w1 w2)), .val (.int v29s0), .val (.int v47s0), .val (.ref v69s0), .val (.ref bp), .val (.ref bq), .unset, .unset] [(.int (0 : Int32))])) (fun t k => XS.iconst X11.here hx rfl (hb hby at_139) k) ?_
              exact own_done ⟨_, _, _, N11, (Or.inr (Or.inr (Or.inl ⟨hc118, hc125, rfl⟩))), rfl, X11, rfl⟩
          · refine own_via (B := T11.setTop (mkF m 139 #[.val (.int i0), .val (.int i1), .val (.int i2), .val (.int i3), .val (.int i4), .val (.int i5), .val (.int s4), .val (.int s14), .val (.ref (own_pick ((((i4.toUInt32 >>> ((3 : Int32) &&& 31).toUInt32).toInt32) &&& (2147483647 : Int32)) % (3 : Int32)) w0 w1 w2)), .val (.int v29s0), .val (.int v47s0), .val (.ref v69s0), .val (.ref bp), .val (.ref bq), .unset, .unset] [])) (fun t k => XS.icmpYes X11.here hx rfl (pc0 := 118) (pc' := 139) rfl (hb hby at_118) rfl (feq hc118).2 (by decide) (by decide) k) ?_
            refine own_via (B := T11.setTop (mkF m 140 #[.val (.int i0), .val (.int i1), .val (.int i2), .val (.int i3), .val (.int i4), .val (.int i5), .val (.int s4), .val (.int s14), .val (.ref (own_pick ((((i4.toUInt32 >>> ((3 : Int32) &&& 31).toUInt32).toInt32) &&& (2147483647 : Int32)) % (3 : Int32)) w0 w1 w2)), .val (.int v29s0), .val (.int v47s0), .val (.ref v69s0), .val (.ref bp), .val (.ref bq), .unset, .unset] [(.int (0 : Int32))])) (fun t k => XS.iconst X11.here hx rfl (hb hby at_139) k) ?_
            exact own_done ⟨_, _, _, N11, (Or.inr (Or.inr (Or.inr ⟨hc118, rfl⟩))), rfl, X11, rfl⟩
        · rintro B ⟨T12, L12, v118s0, N12, hv118, rfl, X12, e12⟩
          refine own_via (B := T12.setTop (mkF m 142 #[.val (.int i0), .val (.int i1), .val (.int i2), .val (.int i3), .val (.int i4), .val (.int i5), .val (.int s4), .val (.int s14), .val (.ref (own_pick ((((i4.toUInt32 >>> ((3 : Int32) &&& 31).toUInt32).toInt32) &&& (2147483647 : Int32)) % (3 : Int32)) w0 w1 w2)), .val (.int v29s0), .val (.int v47s0), .val (.ref v69s0), .val (.ref bp), .val (.ref bq), .val (.int v118s0), .unset] [])) (fun t k => XS.istore X12.here hx rfl (hb hby at_140) rfl (l' := #[.val (.int i0), .val (.int i1), .val (.int i2), .val (.int i3), .val (.int i4), .val (.int i5), .val (.int s4), .val (.int s14), .val (.ref (own_pick ((((i4.toUInt32 >>> ((3 : Int32) &&& 31).toUInt32).toInt32) &&& (2147483647 : Int32)) % (3 : Int32)) w0 w1 w2)), .val (.int v29s0), .val (.int v47s0), .val (.ref v69s0), .val (.ref bp), .val (.ref bq), .val (.int v118s0), .unset]) rfl k) ?_
          refine own_via (B := T12.setTop (mkF m 143 #[.val (.int i0), .val (.int i1), .val (.int i2), .val (.int i3), .val (.int i4), .val (.int i5), .val (.int s4), .val (.int s14), .val (.ref (own_pick ((((i4.toUInt32 >>> ((3 : Int32) &&& 31).toUInt32).toInt32) &&& (2147483647 : Int32)) % (3 : Int32)) w0 w1 w2)), .val (.int v29s0), .val (.int v47s0), .val (.ref v69s0), .val (.ref bp), .val (.ref bq), .val (.int v118s0), .unset] [.null])) (fun t k => XS.aconstNull X12.here hx rfl (hb hby at_142) k) ?_
          refine own_via (B := T12.setTop (mkF m 145 #[.val (.int i0), .val (.int i1), .val (.int i2), .val (.int i3), .val (.int i4), .val (.int i5), .val (.int s4), .val (.int s14), .val (.ref (own_pick ((((i4.toUInt32 >>> ((3 : Int32) &&& 31).toUInt32).toInt32) &&& (2147483647 : Int32)) % (3 : Int32)) w0 w1 w2)), .val (.int v29s0), .val (.int v47s0), .val (.ref v69s0), .val (.ref bp), .val (.ref bq), .val (.int v118s0), .val .null] [])) (fun t k => XS.astore X12.here hx rfl (hb hby at_143) rfl rfl (l' := #[.val (.int i0), .val (.int i1), .val (.int i2), .val (.int i3), .val (.int i4), .val (.int i5), .val (.int s4), .val (.int s14), .val (.ref (own_pick ((((i4.toUInt32 >>> ((3 : Int32) &&& 31).toUInt32).toInt32) &&& (2147483647 : Int32)) % (3 : Int32)) w0 w1 w2)), .val (.int v29s0), .val (.int v47s0), .val (.ref v69s0), .val (.ref bp), .val (.ref bq), .val (.int v118s0), .val .null]) rfl k) ?_
          refine own_via (B := T12.setTop (mkF m 147 #[.val (.int i0), .val (.int i1), .val (.int i2), .val (.int i3), .val (.int i4), .val (.int i5), .val (.int s4), .val (.int s14), .val (.ref (own_pick ((((i4.toUInt32 >>> ((3 : Int32) &&& 31).toUInt32).toInt32) &&& (2147483647 : Int32)) % (3 : Int32)) w0 w1 w2)), .val (.int v29s0), .val (.int v47s0), .val (.ref v69s0), .val (.ref bp), .val (.ref bq), .val (.int v118s0), .val .null] [(.ref bp)])) (fun t k => XS.aload X12.here hx rfl (hb hby at_145) rfl rfl k) ?_
          refine own_via (B := T12.setTop (mkF m 149 #[.val (.int i0), .val (.int i1), .val (.int i2), .val (.int i3), .val (.int i4), .val (.int i5), .val (.int s4), .val (.int s14), .val (.ref (own_pick ((((i4.toUInt32 >>> ((3 : Int32) &&& 31).toUInt32).toInt32) &&& (2147483647 : Int32)) % (3 : Int32)) w0 w1 w2)), .val (.int v29s0), .val (.int v47s0), .val (.ref v69s0), .val (.ref bp), .val (.ref bq), .val (.int v118s0), .val .null] [(.ref bq), (.ref bp)])) (fun t k => XS.aload X12.here hx rfl (hb hby at_147) rfl rfl k) ?_
          obtain ⟨cq13, kq13, q13a, q13b, q13c⟩ := isOf hZ e12 (((A8.keep Kq9).ext E10).keep Kq11)
          obtain ⟨_, _, ⟨T13, L13, k13, n13⟩, -, X13, ⟨Lc13, hQ13, l13, y13, z13⟩, st13⟩ := X12.virtualBack hx (y := (⟨"com/example/fenceline/fenceline/litmus/PlacedFence", "equals", "(Ljava/lang/Object;)Z"⟩ : MethodName)) (z := (⟨"com/example/fenceline/fenceline/litmus/PlacedFence", "equals", "(Ljava/lang/Object;)Z"⟩ : MethodName)) hown (mvT hZ (hw _ (List.mem_of_getElem? (i := 44) rfl))) (mvT hZ (hw _ (List.mem_of_getElem? (i := 45) rfl))) (notFace_of_selects (args := #[]) (mvT hZ (hw _ (List.mem_of_getElem? (i := 47) rfl)))) (mvT hZ (hw _ (List.mem_of_getElem? (i := 47) rfl))) (mvT hZ (hw _ (List.mem_of_getElem? (i := 46) rfl))) (by decide) (backOf (W := 0) (rm6 l Z a0 hw [] bp bq s4 s14 (own_pick ((((i4.toUInt32 >>> ((3 : Int32) &&& 31).toUInt32).toInt32) &&& (2147483647 : Int32)) % (3 : Int32)) w0 w1 w2) v29s0 v47s0 v69s0 T11.heap n0 (Nat.le_trans (Nat.le_trans (Nat.le_trans (Nat.le_trans Z0 E8.1) Kq9.1) E10.1) Kq11.1) (A10.keep Kq11) ((f9_0.ext E10).keep Kq11 (ninS (Nat.ne_of_lt (Nat.lt_of_lt_of_le (A8.keep Kq9).lt (Nat.le_of_eq g10.symm))) nin0)) ((f9_1.ext E10).keep Kq11 (ninS (Nat.ne_of_lt (Nat.lt_of_lt_of_le (A8.keep Kq9).lt (Nat.le_of_eq g10.symm))) nin0)) ((f9_2.ext E10).keep Kq11 (ninS (Nat.ne_of_lt (Nat.lt_of_lt_of_le (A8.keep Kq9).lt (Nat.le_of_eq g10.symm))) nin0)) f11_0 f11_1 f11_2) hZ (hw _ (List.mem_of_getElem? (i := 48) rfl)) (hw _ (List.mem_of_getElem? (i := 14) rfl)) (by decide) (by decide)) q13a q13c (g := (mkF m 149 #[.val (.int i0), .val (.int i1), .val (.int i2), .val (.int i3), .val (.int i4), .val (.int i5), .val (.int s4), .val (.int s14), .val (.ref (own_pick ((((i4.toUInt32 >>> ((3 : Int32) &&& 31).toUInt32).toInt32) &&& (2147483647 : Int32)) % (3 : Int32)) w0 w1 w2)), .val (.int v29s0), .val (.int v47s0), .val (.ref v69s0), .val (.ref bp), .val (.ref bq), .val (.int v118s0), .val .null] [(.ref bq), (.ref bp)])) rfl (by rw [hml]; rfl) (Steps.refl _) (argsL := [(.ref bq)]) (rest := []) (lenOf own_pd6 rfl) rfl (by show 2 * 0 + _ ≤ _; exact Nat.le_of_eq rfl) (hb hby at_149) (fun _ _ => ⟨rfl, e12, (by decide : ((((0 + 1) + 2) + 1) + 2) + 0 ≤ _), (by decide : ((((0 + 3) + 92) + 3) + 92) + 0 ≤ _)⟩)
          dsimp only [Pt.U, Pt.locs, Pt.cells, Pt.slots] at X13 l13 y13 z13 st13 hQ13
          subst l13 y13 z13
          obtain ⟨rfl, Nq13, eq13⟩ := hQ13
          have N13 := Fr.app N12 Nq13
          refine own_via (B := T13.setTop (mkF m 152 #[.val (.int i0), .val (.int i1), .val (.int i2), .val (.int i3), .val (.int i4), .val (.int i5), .val (.int s4), .val (.int s14), .val (.ref (own_pick ((((i4.toUInt32 >>> ((3 : Int32) &&& 31).toUInt32).toInt32) &&& (2147483647 : Int32)) % (3 : Int32)) w0 w1 w2)), .val (.int v29s0), .val (.int v47s0), .val (.ref v69s0), .val (.ref bp), .val (.ref bq), .val (.int v118s0), .val .null] [(.int (own_bit (s4 = v29s0 ∧ s14 = v47s0 ∧ (own_pick ((((i4.toUInt32 >>> ((3 : Int32) &&& 31).toUInt32).toInt32) &&& (2147483647 : Int32)) % (3 : Int32)) w0 w1 w2) = v69s0)))])) (fun t k => st13.trans k) ?_
          refine own_via (B := T13.setTop (mkF m 154 #[.val (.int i0), .val (.int i1), .val (.int i2), .val (.int i3), .val (.int i4), .val (.int i5), .val (.int s4), .val (.int s14), .val (.ref (own_pick ((((i4.toUInt32 >>> ((3 : Int32) &&& 31).toUInt32).toInt32) &&& (2147483647 : Int32)) % (3 : Int32)) w0 w1 w2)), .val (.int v29s0), .val (.int v47s0), .val (.ref v69s0), .val (.ref bp), .val (.ref bq), .val (.int v118s0), .val .null] [(.int v118s0), (.int (own_bit (s4 = v29s0 ∧ s14 = v47s0 ∧ (own_pick ((((i4.toUInt32 >>> ((3 : Int32) &&& 31).toUInt32).toInt32) &&& (2147483647 : Int32)) % (3 : Int32)) w0 w1 w2) = v69s0)))])) (fun t k => XS.iload X13.here hx rfl (hb hby at_152) rfl k) ?_
          refine own_bind (G := fun B => ∃ (T' : State) (L' : List Loc) (h' : Heap) (v154s0 : Int32), Fr n0 L' ∧ ((((own_bit (s4 = v29s0 ∧ s14 = v47s0 ∧ (own_pick ((((i4.toUInt32 >>> ((3 : Int32) &&& 31).toUInt32).toInt32) &&& (2147483647 : Int32)) % (3 : Int32)) w0 w1 w2) = v69s0)) = v118s0) ∧ ((own_bit (v29s0 = s4 ∧ v47s0 = s14 ∧ v69s0 = (own_pick ((((i4.toUInt32 >>> ((3 : Int32) &&& 31).toUInt32).toInt32) &&& (2147483647 : Int32)) % (3 : Int32)) w0 w1 w2))) = v118s0) ∧ ((own_bit (s4 = s4 ∧ s14 = s14 ∧ (own_pick ((((i4.toUInt32 >>> ((3 : Int32) &&& 31).toUInt32).toInt32) &&& (2147483647 : Int32)) % (3 : Int32)) w0 w1 w2) = (own_pick ((((i4.toUInt32 >>> ((3 : Int32) &&& 31).toUInt32).toInt32) &&& (2147483647 : Int32)) % (3 : Int32)) w0 w1 w2))) = (0 : Int32)) ∧ v154s0 = (0 : Int32)) ∨ (((own_bit (s4 = v29s0 ∧ s14 = v47s0 ∧ (own_pick ((((i4.toUInt32 >>> ((3 : Int32) &&& 31).toUInt32).toInt32) &&& (2147483647 : Int32)) % (3 : Int32)) w0 w1 w2) = v69s0)) = v118s0) ∧ ((own_bit (v29s0 = s4 ∧ v47s0 = s14 ∧ v69s0 = (own_pick ((((i4.toUInt32 >>> ((3 : Int32) &&& 31).toUInt32).toInt32) &&& (2147483647 : Int32)) % (3 : Int32)) w0 w1 w2))) = v118s0) ∧ (¬ ((own_bit (s4 = s4 ∧ s14 = s14 ∧ (own_pick ((((i4.toUInt32 >>> ((3 : Int32) &&& 31).toUInt32).toInt32) &&& (2147483647 : Int32)) % (3 : Int32)) w0 w1 w2) = (own_pick ((((i4.toUInt32 >>> ((3 : Int32) &&& 31).toUInt32).toInt32) &&& (2147483647 : Int32)) % (3 : Int32)) w0 w1 w2))) = (0 : Int32))) ∧ ∃ r_19 : Addr, v154s0 = (1 : Int32)) ∨ (((own_bit (s4 = v29s0 ∧ s14 = v47s0 ∧ (own_pick ((((i4.toUInt32 >>> ((3 : Int32) &&& 31).toUInt32).toInt32) &&& (2147483647 : Int32)) % (3 : Int32)) w0 w1 w2) = v69s0)) = v118s0) ∧ (¬ ((own_bit (v29s0 = s4 ∧ v47s0 = s14 ∧ v69s0 = (own_pick ((((i4.toUInt32 >>> ((3 : Int32) &&& 31).toUInt32).toInt32) &&& (2147483647 : Int32)) % (3 : Int32)) w0 w1 w2))) = v118s0)) ∧ v154s0 = (0 : Int32)) ∨ ((¬ ((own_bit (s4 = v29s0 ∧ s14 = v47s0 ∧ (own_pick ((((i4.toUInt32 >>> ((3 : Int32) &&& 31).toUInt32).toInt32) &&& (2147483647 : Int32)) % (3 : Int32)) w0 w1 w2) = v69s0)) = v118s0)) ∧ v154s0 = (0 : Int32))) ∧ Keep T11.heap h' [] ∧ B = T'.setTop (mkF m 217 #[.val (.int i0), .val (.int i1), .val (.int i2), .val (.int i3), .val (.int i4), .val (.int i5), .val (.int s4), .val (.int s14), .val (.ref (own_pick ((((i4.toUInt32 >>> ((3 : Int32) &&& 31).toUInt32).toInt32) &&& (2147483647 : Int32)) % (3 : Int32)) w0 w1 w2)), .val (.int v29s0), .val (.int v47s0), .val (.ref v69s0), .val (.ref bp), .val (.ref bq), .val (.int v118s0), .val .null] [(.int v154s0)]) ∧ Stand p l e room_1 (s.setVm T11.vm) m #[(.int i0), (.int i1), (.int i2), (.int i3), (.int i4), (.int i5)] below meth c T' L' 7 191 ∧ T'.heap = h') ?_ ?_
          · by_cases hc154 : (own_bit (s4 = v29s0 ∧ s14 = v47s0 ∧ (own_pick ((((i4.toUInt32 >>> ((3 : Int32) &&& 31).toUInt32).toInt32) &&& (2147483647 : Int32)) % (3 : Int32)) w0 w1 w2) = v69s0)) = v118s0
            · refine own_via (B := T13.setTop (mkF m 157 #[.val (.int i0), .val (.int i1), .val (.int i2), .val (.int i3), .val (.int i4), .val (.int i5), .val (.int s4), .val (.int s14), .val (.ref (own_pick ((((i4.toUInt32 >>> ((3 : Int32) &&& 31).toUInt32).toInt32) &&& (2147483647 : Int32)) % (3 : Int32)) w0 w1 w2)), .val (.int v29s0), .val (.int v47s0), .val (.ref v69s0), .val (.ref bp), .val (.ref bq), .val (.int v118s0), .val .null] [])) (fun t k => XS.icmpNo X13.here hx rfl (hb hby at_154) rfl (teq hc154).2 k) ?_
              refine own_via (B := T13.setTop (mkF m 159 #[.val (.int i0), .val (.int i1), .val (.int i2), .val (.int i3), .val (.int i4), .val (.int i5), .val (.int s4), .val (.int s14), .val (.ref (own_pick ((((i4.toUInt32 >>> ((3 : Int32) &&& 31).toUInt32).toInt32) &&& (2147483647 : Int32)) % (3 : Int32)) w0 w1 w2)), .val (.int v29s0), .val (.int v47s0), .val (.ref v69s0), .val (.ref bp), .val (.ref bq), .val (.int v118s0), .val .null] [(.ref bq)])) (fun t k => XS.aload X13.here hx rfl (hb hby at_157) rfl rfl k) ?_
              refine own_via (B := T13.setTop (mkF m 161 #[.val (.int i0), .val (.int i1), .val (.int i2), .val (.int i3), .val (.int i4), .val (.int i5), .val (.int s4), .val (.int s14), .val (.ref (own_pick ((((i4.toUInt32 >>> ((3 : Int32) &&& 31).toUInt32).toInt32) &&& (2147483647 : Int32)) % (3 : Int32)) w0 w1 w2)), .val (.int v29s0), .val (.int v47s0), .val (.ref v69s0), .val (.ref bp), .val (.ref bq), .val (.int v118s0), .val .null] [(.ref bp), (.ref bq)])) (fun t k => XS.aload X13.here hx rfl (hb hby at_159) rfl rfl k) ?_
              obtain ⟨cq15, kq15, q15a, q15b, q15c⟩ := isOf hZ eq13 (A10.keep Kq11)
              obtain ⟨_, _, ⟨T15, L15, k15, n15⟩, -, X15, ⟨Lc15, hQ15, l15, y15, z15⟩, st15⟩ := X13.virtualBack hx (y := (⟨"com/example/fenceline/fenceline/litmus/PlacedFence", "equals", "(Ljava/lang/Object;)Z"⟩ : MethodName)) (z := (⟨"com/example/fenceline/fenceline/litmus/PlacedFence", "equals", "(Ljava/lang/Object;)Z"⟩ : MethodName)) hown (mvT hZ (hw _ (List.mem_of_getElem? (i := 44) rfl))) (mvT hZ (hw _ (List.mem_of_getElem? (i := 45) rfl))) (notFace_of_selects (args := #[]) (mvT hZ (hw _ (List.mem_of_getElem? (i := 47) rfl)))) (mvT hZ (hw _ (List.mem_of_getElem? (i := 47) rfl))) (mvT hZ (hw _ (List.mem_of_getElem? (i := 46) rfl))) (by decide) (backOf (W := 0) (rm6 l Z a0 hw [] bq bp v29s0 v47s0 v69s0 s4 s14 (own_pick ((((i4.toUInt32 >>> ((3 : Int32) &&& 31).toUInt32).toInt32) &&& (2147483647 : Int32)) % (3 : Int32)) w0 w1 w2) T11.heap n0 (Nat.le_trans (Nat.le_trans (Nat.le_trans (Nat.le_trans Z0 E8.1) Kq9.1) E10.1) Kq11.1) (((A8.keep Kq9).ext E10).keep Kq11) f11_0 f11_1 f11_2 ((f9_0.ext E10).keep Kq11 (ninS (Nat.ne_of_lt (Nat.lt_of_lt_of_le (A8.keep Kq9).lt (Nat.le_of_eq g10.symm))) nin0)) ((f9_1.ext E10).keep Kq11 (ninS (Nat.ne_of_lt (Nat.lt_of_lt_of_le (A8.keep Kq9).lt (Nat.le_of_eq g10.symm))) nin0)) ((f9_2.ext E10).keep Kq11 (ninS (Nat.ne_of_lt (Nat.lt_of_lt_of_le (A8.keep Kq9).lt (Nat.le_of_eq g10.symm))) nin0))) hZ (hw _ (List.mem_of_getElem? (i := 48) rfl)) (hw _ (List.mem_of_getElem? (i := 14) rfl)) (by decide) (by decide)) q15a q15c (g := (mkF m 161 #[.val (.int i0), .val (.int i1), .val (.int i2), .val (.int i3), .val (.int i4), .val (.int i5), .val (.int s4), .val (.int s14), .val (.ref (own_pick ((((i4.toUInt32 >>> ((3 : Int32) &&& 31).toUInt32).toInt32) &&& (2147483647 : Int32)) % (3 : Int32)) w0 w1 w2)), .val (.int v29s0), .val (.int v47s0), .val (.ref v69s0), .val (.ref bp), .val (.ref bq), .val (.int v118s0), .val .null] [(.ref bp), (.ref bq)])) rfl (by rw [hml]; rfl) (Steps.refl _) (argsL := [(.ref bp)]) (rest := []) (lenOf own_pd6 rfl) rfl (by show 2 * 0 + _ ≤ _; exact Nat.le_of_eq rfl) (hb hby at_161) (fun _ _ => ⟨rfl, eq13, (by decide : (((((0 + 1) + 2) + 1) + 2) + 0) + 0 ≤ _), (by decide : (((((0 + 3) + 92) + 3) + 92) + 0) + 0 ≤ _)⟩)
              dsimp only [Pt.U, Pt.locs, Pt.cells, Pt.slots] at X15 l15 y15 z15 st15 hQ15
              subst l15 y15 z15
              obtain ⟨rfl, Nq15, eq15⟩ := hQ15
              have N15 := Fr.app N13 Nq15
              refine own_via (B := T15.setTop (mkF m 164 #[.val (.int i0), .val (.int i1), .val (.int i2), .val (.int i3), .val (.int i4), .val (.int i5), .val (.int s4), .val (.int s14), .val (.ref (own_pick ((((i4.toUInt32 >>> ((3 : Int32) &&& 31).toUInt32).toInt32) &&& (2147483647 : Int32)) % (3 : Int32)) w0 w1 w2)), .val (.int v29s0), .val (.int v47s0), .val (.ref v69s0), .val (.ref bp), .val (.ref bq), .val (.int v118s0), .val .null] [(.int (own_bit (v29s0 = s4 ∧ v47s0 = s14 ∧ v69s0 = (own_pick ((((i4.toUInt32 >>> ((3 : Int32) &&& 31).toUInt32).toInt32) &&& (2147483647 : Int32)) % (3 : Int32)) w0 w1 w2))))])) (fun t k => st15.trans k) ?_
              refine own_via (B := T15.setTop (mkF m 166 #[.val (.int i0), .val (.int i1), .val (.int i2), .val (.int i3), .val (.int i4), .val (.int i5), .val (.int s4), .val (.int s14), .val (.ref (own_pick ((((i4.toUInt32 >>> ((3 : Int32) &&& 31).toUInt32).toInt32) &&& (2147483647 : Int32)) % (3 : Int32)) w0 w1 w2)), .val (.int v29s0), .val (.int v47s0), .val (.ref v69s0), .val (.ref bp), .val (.ref bq), .val (.int v118s0), .val .null] [(.int v118s0), (.int (own_bit (v29s0 = s4 ∧ v47s0 = s14 ∧ v69s0 = (own_pick ((((i4.toUInt32 >>> ((3 : Int32) &&& 31).toUInt32).toInt32) &&& (2147483647 : Int32)) % (3 : Int32)) w0 w1 w2))))])) (fun t k => XS.iload X15.here hx rfl (hb hby at_164) rfl k) ?_
              by_cases hc166 : (own_bit (v29s0 = s4 ∧ v47s0 = s14 ∧ v69s0 = (own_pick ((((i4.toUInt32 >>> ((3 : Int32) &&& 31).toUInt32).toInt32) &&& (2147483647 : Int32)) % (3 : Int32)) w0 w1 w2))) = v118s0
              · refine own_via (B := T15.setTop (mkF m 169 #[.val (.int i0), .val (.int i1), .val (.int i2), .val (.int i3), .val (.int i4), .val (.int i5), .val (.int s4), .val (.int s14), .val (.ref (own_pick ((((i4.toUInt32 >>> ((3 : Int32) &&& 31).toUInt32).toInt32) &&& (2147483647 : Int32)) % (3 : Int32)) w0 w1 w2)), .val (.int v29s0), .val (.int v47s0), .val (.ref v69s0), .val (.ref bp), .val (.ref bq), .val (.int v118s0), .val .null] [])) (fun t k => XS.icmpNo X15.here hx rfl (hb hby at_166) rfl (teq hc166).2 k) ?_
                refine own_via (B := T15.setTop (mkF m 171 #[.val (.int i0), .val (.int i1), .val (.int i2), .val (.int i3), .val (.int i4), .val (.int i5), .val (.int s4), .val (.int s14), .val (.ref (own_pick ((((i4.toUInt32 >>> ((3 : Int32) &&& 31).toUInt32).toInt32) &&& (2147483647 : Int32)) % (3 : Int32)) w0 w1 w2)), .val (.int v29s0), .val (.int v47s0), .val (.ref v69s0), .val (.ref bp), .val (.ref bq), .val (.int v118s0), .val .null] [(.ref bp)])) (fun t k => XS.aload X15.here hx rfl (hb hby at_169) rfl rfl k) ?_
                refine own_via (B := T15.setTop (mkF m 173 #[.val (.int i0), .val (.int i1), .val (.int i2), .val (.int i3), .val (.int i4), .val (.int i5), .val (.int s4), .val (.int s14), .val (.ref (own_pick ((((i4.toUInt32 >>> ((3 : Int32) &&& 31).toUInt32).toInt32) &&& (2147483647 : Int32)) % (3 : Int32)) w0 w1 w2)), .val (.int v29s0), .val (.int v47s0), .val (.ref v69s0), .val (.ref bp), .val (.ref bq), .val (.int v118s0), .val .null] [(.ref bp), (.ref bp)])) (fun t k => XS.aload X15.here hx rfl (hb hby at_171) rfl rfl k) ?_
                obtain ⟨cq16, kq16, q16a, q16b, q16c⟩ := isOf hZ eq15 (((A8.keep Kq9).ext E10).keep Kq11)
                obtain ⟨_, _, ⟨T16, L16, k16, n16⟩, -, X16, ⟨Lc16, hQ16, l16, y16, z16⟩, st16⟩ := X15.virtualBack hx (y := (⟨"com/example/fenceline/fenceline/litmus/PlacedFence", "equals", "(Ljava/lang/Object;)Z"⟩ : MethodName)) (z := (⟨"com/example/fenceline/fenceline/litmus/PlacedFence", "equals", "(Ljava/lang/Object;)Z"⟩ : MethodName)) hown (mvT hZ (hw _ (List.mem_of_getElem? (i := 44) rfl))) (mvT hZ (hw _ (List.mem_of_getElem? (i := 45) rfl))) (notFace_of_selects (args := #[]) (mvT hZ (hw _ (List.mem_of_getElem? (i := 47) rfl)))) (mvT hZ (hw _ (List.mem_of_getElem? (i := 47) rfl))) (mvT hZ (hw _ (List.mem_of_getElem? (i := 46) rfl))) (by decide) (backOf (W := 0) (rm6 l Z a0 hw [] bp bp s4 s14 (own_pick ((((i4.toUInt32 >>> ((3 : Int32) &&& 31).toUInt32).toInt32) &&& (2147483647 : Int32)) % (3 : Int32)) w0 w1 w2) s4 s14 (own_pick ((((i4.toUInt32 >>> ((3 : Int32) &&& 31).toUInt32).toInt32) &&& (2147483647 : Int32)) % (3 : Int32)) w0 w1 w2) T11.heap n0 (Nat.le_trans (Nat.le_trans (Nat.le_trans (Nat.le_trans Z0 E8.1) Kq9.1) E10.1) Kq11.1) (((A8.keep Kq9).ext E10).keep Kq11) ((f9_0.ext E10).keep Kq11 (ninS (Nat.ne_of_lt (Nat.lt_of_lt_of_le (A8.keep Kq9).lt (Nat.le_of_eq g10.symm))) nin0)) ((f9_1.ext E10).keep Kq11 (ninS (Nat.ne_of_lt (Nat.lt_of_lt_of_le (A8.keep Kq9).lt (Nat.le_of_eq g10.symm))) nin0)) ((f9_2.ext E10).keep Kq11 (ninS (Nat.ne_of_lt (Nat.lt_of_lt_of_le (A8.keep Kq9).lt (Nat.le_of_eq g10.symm))) nin0)) ((f9_0.ext E10).keep Kq11 (ninS (Nat.ne_of_lt (Nat.lt_of_lt_of_le (A8.keep Kq9).lt (Nat.le_of_eq g10.symm))) nin0)) ((f9_1.ext E10).keep Kq11 (ninS (Nat.ne_of_lt (Nat.lt_of_lt_of_le (A8.keep Kq9).lt (Nat.le_of_eq g10.symm))) nin0)) ((f9_2.ext E10).keep Kq11 (ninS (Nat.ne_of_lt (Nat.lt_of_lt_of_le (A8.keep Kq9).lt (Nat.le_of_eq g10.symm))) nin0))) hZ (hw _ (List.mem_of_getElem? (i := 48) rfl)) (hw _ (List.mem_of_getElem? (i := 14) rfl)) (by decide) (by decide)) q16a q16c (g := (mkF m 173 #[.val (.int i0), .val (.int i1), .val (.int i2), .val (.int i3), .val (.int i4), .val (.int i5), .val (.int s4), .val (.int s14), .val (.ref (own_pick ((((i4.toUInt32 >>> ((3 : Int32) &&& 31).toUInt32).toInt32) &&& (2147483647 : Int32)) % (3 : Int32)) w0 w1 w2)), .val (.int v29s0), .val (.int v47s0), .val (.ref v69s0), .val (.ref bp), .val (.ref bq), .val (.int v118s0), .val .null] [(.ref bp), (.ref bp)])) rfl (by rw [hml]; rfl) (Steps.refl _) (argsL := [(.ref bp)]) (rest := []) (lenOf own_pd6 rfl) rfl (by show 2 * 0 + _ ≤ _; exact Nat.le_of_eq rfl) (hb hby at_173) (fun _ _ => ⟨rfl, eq15, (by decide : ((((((0 + 1) + 2) + 1) + 2) + 0) + 0) + 0 ≤ _), (by decide : ((((((0 + 3) + 92) + 3) + 92) + 0) + 0) + 0 ≤ _)⟩)
                dsimp only [Pt.U, Pt.locs, Pt.cells, Pt.slots] at X16 l16 y16 z16 st16 hQ16
                subst l16 y16 z16
                obtain ⟨rfl, Nq16, eq16⟩ := hQ16
                have N16 := Fr.app N15 Nq16
                refine own_via (B := T16.setTop (mkF m 176 #[.val (.int i0), .val (.int i1), .val (.int i2), .val (.int i3), .val (.int i4), .val (.int i5), .val (.int s4), .val (.int s14), .val (.ref (own_pick ((((i4.toUInt32 >>> ((3 : Int32) &&& 31).toUInt32).toInt32) &&& (2147483647 : Int32)) % (3 : Int32)) w0 w1 w2)), .val (.int v29s0), .val (.int v47s0), .val (.ref v69s0), .val (.ref bp), .val (.ref bq), .val (.int v118s0), .val .null] [(.int (own_bit (s4 = s4 ∧ s14 = s14 ∧ (own_pick ((((i4.toUInt32 >>> ((3 : Int32) &&& 31).toUInt32).toInt32) &&& (2147483647 : Int32)) % (3 : Int32)) w0 w1 w2) = (own_pick ((((i4.toUInt32 >>> ((3 : Int32) &&& 31).toUInt32).toInt32) &&& (2147483647 : Int32)) % (3 : Int32)) w0 w1 w2))))])) (fun t k => st16.trans k) ?_
                by_cases hc176 : (own_bit (s4 = s4 ∧ s14 = s14 ∧ (own_pick ((((i4.toUInt32 >>> ((3 : Int32) &&& 31).toUInt32).toInt32) &&& (2147483647 : Int32)) % (3 : Int32)) w0 w1 w2) = (own_pick ((((i4.toUInt32 >>> ((3 : Int32) &&& 31).toUInt32).toInt32) &&& (2147483647 : Int32)) % (3 : Int32)) w0 w1 w2))) = (0 : Int32)
                · refine own_via (B := T16.setTop (mkF m 216 #[.val (.int i0), .val (.int i1), .val (.int i2), .val (.int i3), .val (.int i4), .val (.int i5), .val (.int s4), .val (.int s14), .val (.ref (own_pick ((((i4.toUInt32 >>> ((3 : Int32) &&& 31).toUInt32).toInt32) &&& (2147483647 : Int32)) % (3 : Int32)) w0 w1 w2)), .val (.int v29s0), .val (.int v47s0), .val (.ref v69s0), .val (.ref bp), .val (.ref bq), .val (.int v118s0), .val .null] [])) (fun t k => XS.ifYes X16.here hx rfl (pc0 := 176) (pc' := 216) rfl (hb hby at_176) rfl ((if0 _ _).trans (teq hc176).1) (by decide) (by decide) k) ?_
                  refine own_via (B := T16.setTop (mkF m 217 #[.val (.int i0), .val (.int i1), .val (.int i2), .val (.int i3), .val (.int i4), .val (.int i5), .val (.int s4), .val (.int s14), .val (.ref (own_pick ((((i4.toUInt32 >>> ((3 : Int32) &&& 31).toUInt32).toInt32) &&& (2147483647 : Int32)) % (3 : Int32)) w0 w1 w2)), .val (.int v29s0), .val (.int v47s0), .val (.ref v69s0), .val (.ref bp), .val (.ref bq), .val (.int v118s0), .val .null] [(.int (0 : Int32))])) (fun t k => XS.iconst X16.here hx rfl (hb hby at_216) k) ?_
                  exact own_done ⟨_, _, _, _, N16, (Or.inl ⟨hc154, hc166, hc176, rfl⟩), (Keep.refl T11.heap []), rfl, (X16.more (by decide) (by decide)), eq16⟩
                · refine own_via (B := T16.setTop (mkF m 179 #[.val (.int i0), .val (.int i1), .val (.int i2), .val (.int i3), .val (.int i4), .val (.int i5), .val (.int s4), .val (.int s14), .val (.ref (own_pick ((((i4.toUInt32 >>> ((3 : Int32) &&& 31).toUInt32).toInt32) &&& (2147483647 : Int32)) % (3 : Int32)) w0 w1 w2)), .val (.int v29s0), .val (.int v47s0), .val (.ref v69s0), .val (.ref bp), .val (.ref bq), .val (.int v118s0), .val .null] [])) (fun t k => XS.ifNo X16.here hx rfl (hb hby at_176) rfl ((if0 _ _).trans (feq hc176).1) k) ?_
                  refine own_via (B := T16.setTop (mkF m 181 #[.val (.int i0), .val (.int i1), .val (.int i2), .val (.int i3), .val (.int i4), .val (.int i5), .val (.int s4), .val (.int s14), .val (.ref (own_pick ((((i4.toUInt32 >>> ((3 : Int32) &&& 31).toUInt32).toInt32) &&& (2147483647 : Int32)) % (3 : Int32)) w0 w1 w2)), .val (.int v29s0), .val (.int v47s0), .val (.ref v69s0), .val (.ref bp), .val (.ref bq), .val (.int v118s0), .val .null] [(.ref bp)])) (fun t k => XS.aload X16.here hx rfl (hb hby at_179) rfl rfl k) ?_
                  refine own_via (B := T16.setTop (mkF m 183 #[.val (.int i0), .val (.int i1), .val (.int i2), .val (.int i3), .val (.int i4), .val (.int i5), .val (.int s4), .val (.int s14), .val (.ref (own_pick ((((i4.toUInt32 >>> ((3 : Int32) &&& 31).toUInt32).toInt32) &&& (2147483647 : Int32)) % (3 : Int32)) w0 w1 w2)), .val (.int v29s0), .val (.int v47s0), .val (.ref v69s0), .val (.ref bp), .val (.ref bq), .val (.int v118s0), .val .null] [.null, (.ref bp)])) (fun t k => XS.aload X16.here hx rfl (hb hby at_181) rfl rfl k) ?_
                  obtain ⟨cq17, kq17, q17a, q17b, q17c⟩ := isOf hZ eq16 (((A8.keep Kq9).ext E10).keep Kq11)
                  obtain ⟨_, _, ⟨T17, L17, k17, n17⟩, -, X17, ⟨Lc17, hQ17, l17, y17, z17⟩, st17⟩ := X16.virtualBack hx (y := (⟨"com/example/fenceline/fenceline/litmus/PlacedFence", "equals", "(Ljava/lang/Object;)Z"⟩ : MethodName)) (z := (⟨"com/example/fenceline/fenceline/litmus/PlacedFence", "equals", "(Ljava/lang/Object;)Z"⟩ : MethodName)) hown (mvT hZ (hw _ (List.mem_of_getElem? (i := 44) rfl))) (mvT hZ (hw _ (List.mem_of_getElem? (i := 45) rfl))) (notFace_of_selects (args := #[]) (mvT hZ (hw _ (List.mem_of_getElem? (i := 47) rfl)))) (mvT hZ (hw _ (List.mem_of_getElem? (i := 47) rfl))) (mvT hZ (hw _ (List.mem_of_getElem? (i := 46) rfl))) (by decide) (backOf (W := 0) (rm7 l Z a0 hw [] bp T11.heap n0 (Nat.le_trans (Nat.le_trans (Nat.le_trans (Nat.le_trans Z0 E8.1) Kq9.1) E10.1) Kq11.1) ) hZ (hw _ (List.mem_of_getElem? (i := 48) rfl)) (hw _ (List.mem_of_getElem? (i := 14) rfl)) (by decide) (by decide)) q17a q17c (g := (mkF m 183 #[.val (.int i0), .val (.int i1), .val (.int i2), .val (.int i3), .val (.int i4), .val (.int i5), .val (.int s4), .val (.int s14), .val (.ref (own_pick ((((i4.toUInt32 >>> ((3 : Int32) &&& 31).toUInt32).toInt32) &&& (2147483647 : Int32)) % (3 : Int32)) w0 w1 w2)), .val (.int v29s0), .val (.int v47s0), .val (.ref v69s0), .val (.ref bp), .val (.ref bq), .val (.int v118s0), .val .null] [.null, (.ref bp)])) rfl (by rw [hml]; rfl) (Steps.refl _) (argsL := [.null]) (rest := []) (lenOf own_pd6 rfl) rfl (by show 2 * 0 + _ ≤ _; exact Nat.le_of_eq rfl) (hb hby at_183) (fun _ _ => ⟨rfl, eq16, (by decide : (((((((0 + 1) + 2) + 1) + 2) + 0) + 0) + 0) + 0 ≤ _), (by decide : (((((((0 + 3) + 92) + 3) + 92) + 0) + 0) + 0) + 0 ≤ _)⟩)
                  dsimp only [Pt.U, Pt.locs, Pt.cells, Pt.slots] at X17 l17 y17 z17 st17 hQ17
                  subst l17 y17 z17
                  obtain ⟨rfl, Nq17, eq17⟩ := hQ17
                  have N17 := Fr.app N16 Nq17
                  refine own_via (B := T17.setTop (mkF m 186 #[.val (.int i0), .val (.int i1), .val (.int i2), .val (.int i3), .val (.int i4), .val (.int i5), .val (.int s4), .val (.int s14), .val (.ref (own_pick ((((i4.toUInt32 >>> ((3 : Int32) &&& 31).toUInt32).toInt32) &&& (2147483647 : Int32)) % (3 : Int32)) w0 w1 w2)), .val (.int v29s0), .val (.int v47s0), .val (.ref v69s0), .val (.ref bp), .val (.ref bq), .val (.int v118s0), .val .null] [(.int (0 : Int32))])) (fun t k => st17.trans k) ?_
                  have hc186 : (0 : Int32) = (0 : Int32) := by decide
                  refine own_via (B := T17.setTop (mkF m 189 #[.val (.int i0), .val (.int i1), .val (.int i2), .val (.int i3), .val (.int i4), .val (.int i5), .val (.int s4), .val (.int s14), .val (.ref (own_pick ((((i4.toUInt32 >>> ((3 : Int32) &&& 31).toUInt32).toInt32) &&& (2147483647 : Int32)) % (3 : Int32)) w0 w1 w2)), .val (.int v29s0), .val (.int v47s0), .val (.ref v69s0), .val (.ref bp), .val (.ref bq), .val (.int v118s0), .val .null] [])) (fun t k => XS.ifNo X17.here hx rfl (hb hby at_186) rfl ((if0 _ _).trans (teq hc186).2) k) ?_
                  refine own_via (B := T17.setTop (mkF m 191 #[.val (.int i0), .val (.int i1), .val (.int i2), .val (.int i3), .val (.int i4), .val (.int i5), .val (.int s4), .val (.int s14), .val (.ref (own_pick ((((i4.toUInt32 >>> ((3 : Int32) &&& 31).toUInt32).toInt32) &&& (2147483647 : Int32)) % (3 : Int32)) w0 w1 w2)), .val (.int v29s0), .val (.int v47s0), .val (.ref v69s0), .val (.ref bp), .val (.ref bq), .val (.int v118s0), .val .null] [(.ref bp)])) (fun t k => XS.aload X17.here hx rfl (hb hby at_189) rfl rfl k) ?_
                  refine own_via (B := T17.setTop (mkF m 193 #[.val (.int i0), .val (.int i1), .val (.int i2), .val (.int i3), .val (.int i4), .val (.int i5), .val (.int s4), .val (.int s14), .val (.ref (own_pick ((((i4.toUInt32 >>> ((3 : Int32) &&& 31).toUInt32).toInt32) &&& (2147483647 : Int32)) % (3 : Int32)) w0 w1 w2)), .val (.int v29s0), .val (.int v47s0), .val (.ref v69s0), .val (.ref bp), .val (.ref bq), .val (.int v118s0), .val .null] [(.ref (own_pick ((((i4.toUInt32 >>> ((3 : Int32) &&& 31).toUInt32).toInt32) &&& (2147483647 : Int32)) % (3 : Int32)) w0 w1 w2)), (.ref bp)])) (fun t k => XS.aload X17.here hx rfl (hb hby at_191) rfl rfl k) ?_
                  obtain ⟨cq18, kq18, q18a, q18b, q18c⟩ := isOf hZ eq17 (((A8.keep Kq9).ext E10).keep Kq11)
                  obtain ⟨_, _, ⟨T18, L18, k18, n18⟩, -, X18, ⟨Lc18, hQ18, l18, y18, z18⟩, st18⟩ := X17.virtualBack hx (y := (⟨"com/example/fenceline/fenceline/litmus/PlacedFence", "equals", "(Ljava/lang/Object;)Z"⟩ : MethodName)) (z := (⟨"com/example/fenceline/fenceline/litmus/PlacedFence", "equals", "(Ljava/lang/Object;)Z"⟩ : MethodName)) hown (mvT hZ (hw _ (List.mem_of_getElem? (i := 44) rfl))) (mvT hZ (hw _ (List.mem_of_getElem? (i := 45) rfl))) (notFace_of_selects (args := #[]) (mvT hZ (hw _ (List.mem_of_getElem? (i := 47) rfl)))) (mvT hZ (hw _ (List.mem_of_getElem? (i := 47) rfl))) (mvT hZ (hw _ (List.mem_of_getElem? (i := 46) rfl))) (by decide) (backOf (W := 0) (rm8 l Z a0 hw [] bp (own_pick ((((i4.toUInt32 >>> ((3 : Int32) &&& 31).toUInt32).toInt32) &&& (2147483647 : Int32)) % (3 : Int32)) w0 w1 w2) "com/example/fenceline/fenceline/litmus/Instruction$Fence" T11.heap n0 (Nat.le_trans (Nat.le_trans (Nat.le_trans (Nat.le_trans Z0 E8.1) Kq9.1) E10.1) Kq11.1) ((((f2_0.ext E8).keep Kq9).ext E10).keep Kq11) (own_noF Z a0 hw)) hZ (hw _ (List.mem_of_getElem? (i := 48) rfl)) (hw _ (List.mem_of_getElem? (i := 14) rfl)) (by decide) (by decide)) q18a q18c (g := (mkF m 193 #[.val (.int i0), .val (.int i1), .val (.int i2), .val (.int i3), .val (.int i4), .val (.int i5), .val (.int s4), .val (.int s14), .val (.ref (own_pick ((((i4.toUInt32 >>> ((3 : Int32) &&& 31).toUInt32).toInt32) &&& (2147483647 : Int32)) % (3 : Int32)) w0 w1 w2)), .val (.int v29s0), .val (.int v47s0), .val (.ref v69s0), .val (.ref bp), .val (.ref bq), .val (.int v118s0), .val .null] [(.ref (own_pick ((((i4.toUInt32 >>> ((3 : Int32) &&& 31).toUInt32).toInt32) &&& (2147483647 : Int32)) % (3 : Int32)) w0 w1 w2)), (.ref bp)])) rfl (by rw [hml]; rfl) (Steps.refl _) (argsL := [(.ref (own_pick ((((i4.toUInt32 >>> ((3 : Int32) &&& 31).toUInt32).toInt32) &&& (2147483647 : Int32)) % (3 : Int32)) w0 w1 w2))]) (rest := []) (lenOf own_pd6 rfl) rfl (by show 2 * 0 + _ ≤ _; exact Nat.le_of_eq rfl) (hb hby at_193) (fun _ _ => ⟨rfl, eq17, (by decide : ((((((((0 + 1) + 2) + 1) + 2) + 0) + 0) + 0) + 0) + 0 ≤ _), (by decide : ((((((((0 + 3) + 92) + 3) + 92) + 0) + 0) + 0) + 0) + 0 ≤ _)⟩)
                  dsimp only [Pt.U, Pt.locs, Pt.cells, Pt.slots] at X18 l18 y18 z18 st18 hQ18
                  subst l18 y18 z18
                  obtain ⟨rfl, Nq18, eq18⟩ := hQ18
                  have N18 := Fr.app N17 Nq18
                  refine own_via (B := T18.setTop (mkF m 196 #[.val (.int i0), .val (.int i1), .val (.int i2), .val (.int i3), .val (.int i4), .val (.int i5), .val (.int s4), .val (.int s14), .val (.ref (own_pick ((((i4.toUInt32 >>> ((3 : Int32) &&& 31).toUInt32).toInt32) &&& (2147483647 : Int32)) % (3 : Int32)) w0 w1 w2)), .val (.int v29s0), .val (.int v47s0), .val (.ref v69s0), .val (.ref bp), .val (.ref bq), .val (.int v118s0), .val .null] [(.int (0 : Int32))])) (fun t k => st18.trans k) ?_
                  have hc196 : (0 : Int32) = (0 : Int32) := by decide
                  refine own_via (B := T18.setTop (mkF m 199 #[.val (.int i0), .val (.int i1), .val (.int i2), .val (.int i3), .val (.int i4), .val (.int i5), .val (.int s4), .val (.int s14), .val (.ref (own_pick ((((i4.toUInt32 >>> ((3 : Int32) &&& 31).toUInt32).toInt32) &&& (2147483647 : Int32)) % (3 : Int32)) w0 w1 w2)), .val (.int v29s0), .val (.int v47s0), .val (.ref v69s0), .val (.ref bp), .val (.ref bq), .val (.int v118s0), .val .null] [])) (fun t k => XS.ifNo X18.here hx rfl (hb hby at_196) rfl ((if0 _ _).trans (teq hc196).2) k) ?_
                  refine own_via (B := T18.setTop (mkF m 201 #[.val (.int i0), .val (.int i1), .val (.int i2), .val (.int i3), .val (.int i4), .val (.int i5), .val (.int s4), .val (.int s14), .val (.ref (own_pick ((((i4.toUInt32 >>> ((3 : Int32) &&& 31).toUInt32).toInt32) &&& (2147483647 : Int32)) % (3 : Int32)) w0 w1 w2)), .val (.int v29s0), .val (.int v47s0), .val (.ref v69s0), .val (.ref bp), .val (.ref bq), .val (.int v118s0), .val .null] [(.ref bp)])) (fun t k => XS.aload X18.here hx rfl (hb hby at_199) rfl rfl k) ?_
                  refine own_via (B := T18.setTop (mkF m 203 #[.val (.int i0), .val (.int i1), .val (.int i2), .val (.int i3), .val (.int i4), .val (.int i5), .val (.int s4), .val (.int s14), .val (.ref (own_pick ((((i4.toUInt32 >>> ((3 : Int32) &&& 31).toUInt32).toInt32) &&& (2147483647 : Int32)) % (3 : Int32)) w0 w1 w2)), .val (.int v29s0), .val (.int v47s0), .val (.ref v69s0), .val (.ref bp), .val (.ref bq), .val (.int v118s0), .val .null] [(.int s4), (.ref bp)])) (fun t k => XS.iload X18.here hx rfl (hb hby at_201) rfl k) ?_
                  obtain ⟨_, _, ⟨T19, L19, k19, n19⟩, -, X19, ⟨Lc19, hQ19, l19, y19, z19⟩, st19⟩ := Jvm.LawKit.callS X18 hx (y := (⟨"java/lang/Integer", "valueOf", "(I)Ljava/lang/Integer;"⟩ : MethodName)) hown (mvT hZ (hw _ (List.mem_of_getElem? (i := 54) rfl))) (mvT hZ (hw _ (List.mem_of_getElem? (i := 55) rfl))) (mvT hZ (hw _ (List.mem_of_getElem? (i := 56) rfl))) (mvT hZ (hw _ (List.mem_of_getElem? (i := 57) rfl))) (by decide) (backOf (W := 1) (rm11 l Z a0 hw [] s4 aC cl T11.heap n0 (Nat.le_trans (Nat.le_trans (Nat.le_trans (Nat.le_trans Z0 E8.1) Kq9.1) E10.1) Kq11.1) ((((O0.ext E8).keep Kq9 (allS g_bp all0)).ext E10).keep Kq11 (allS g_bq all0)) (by assumption) (by assumption) (by assumption) (by assumption) (by assumption)) hZ (hw _ (List.mem_of_getElem? (i := 57) rfl)) (hw _ (List.mem_of_getElem? (i := 56) rfl)) (by decide) (by decide)) (g := (mkF m 203 #[.val (.int i0), .val (.int i1), .val (.int i2), .val (.int i3), .val (.int i4), .val (.int i5), .val (.int s4), .val (.int s14), .val (.ref (own_pick ((((i4.toUInt32 >>> ((3 : Int32) &&& 31).toUInt32).toInt32) &&& (2147483647 : Int32)) % (3 : Int32)) w0 w1 w2)), .val (.int v29s0), .val (.int v47s0), .val (.ref v69s0), .val (.ref bp), .val (.ref bq), .val (.int v118s0), .val .null] [(.int s4), (.ref bp)])) rfl (by rw [hml]; rfl) (argsL := [(.int s4)]) (rest := [(.ref bp)]) (lenOf own_pd7 rfl) rfl (by show 2 * 0 + _ ≤ _; exact Nat.le_of_eq rfl) (hb hby at_203) (fun _ _ => ⟨rfl, eq18, (by decide : (((((((((0 + 1) + 2) + 1) + 2) + 0) + 0) + 0) + 0) + 0) + 1 ≤ _), (by decide : (((((((((0 + 3) + 92) + 3) + 92) + 0) + 0) + 0) + 0) + 0) + 1 ≤ _)⟩)
                  dsimp only [Pt.U, Pt.locs, Pt.cells, Pt.slots] at X19 l19 y19 z19 st19 hQ19
                  subst l19 y19 z19
                  obtain ⟨r_19, rfl, Nq19, Kq19, f19_0⟩ := hQ19
                  have N19 := Fr.app N18 Nq19
                  refine own_via (B := T19.setTop (mkF m 206 #[.val (.int i0), .val (.int i1), .val (.int i2), .val (.int i3), .val (.int i4), .val (.int i5), .val (.int s4), .val (.int s14), .val (.ref (own_pick ((((i4.toUInt32 >>> ((3 : Int32) &&& 31).toUInt32).toInt32) &&& (2147483647 : Int32)) % (3 : Int32)) w0 w1 w2)), .val (.int v29s0), .val (.int v47s0), .val (.ref v69s0), .val (.ref bp), .val (.ref bq), .val (.int v118s0), .val .null] [(.ref r_19), (.ref bp)])) (fun t k => st19 t k) ?_
                  obtain ⟨cq20, kq20, q20a, q20b, q20c⟩ := isOf hZ rfl ((((A8.keep Kq9).ext E10).keep Kq11).keep Kq19)
                  obtain ⟨_, _, ⟨T20, L20, k20, n20⟩, -, X20, ⟨Lc20, hQ20, l20, y20, z20⟩, st20⟩ := X19.virtualBack hx (y := (⟨"com/example/fenceline/fenceline/litmus/PlacedFence", "equals", "(Ljava/lang/Object;)Z"⟩ : MethodName)) (z := (⟨"com/example/fenceline/fenceline/litmus/PlacedFence", "equals", "(Ljava/lang/Object;)Z"⟩ : MethodName)) hown (mvT hZ (hw _ (List.mem_of_getElem? (i := 44) rfl))) (mvT hZ (hw _ (List.mem_of_getElem? (i := 45) rfl))) (notFace_of_selects (args := #[]) (mvT hZ (hw _ (List.mem_of_getElem? (i := 47) rfl)))) (mvT hZ (hw _ (List.mem_of_getElem? (i := 47) rfl))) (mvT hZ (hw _ (List.mem_of_getElem? (i := 46) rfl))) (by decide) (backOf (W := 0) (rm8 l Z a0 hw [] bp r_19 "java/lang/Integer" T19.heap n0 (Nat.le_trans (Nat.le_trans (Nat.le_trans (Nat.le_trans (Nat.le_trans Z0 E8.1) Kq9.1) E10.1) Kq11.1) Kq19.1) f19_0 (own_noI Z a0 hw)) hZ (hw _ (List.mem_of_getElem? (i := 48) rfl)) (hw _ (List.mem_of_getElem? (i := 14) rfl)) (by decide) (by decide)) q20a q20c (g := (mkF m 206 #[.val (.int i0), .val (.int i1), .val (.int i2), .val (.int i3), .val (.int i4), .val (.int i5), .val (.int s4), .val (.int s14), .val (.ref (own_pick ((((i4.toUInt32 >>> ((3 : Int32) &&& 31).toUInt32).toInt32) &&& (2147483647 : Int32)) % (3 : Int32)) w0 w1 w2)), .val (.int v29s0), .val (.int v47s0), .val (.ref v69s0), .val (.ref bp), .val (.ref bq), .val (.int v118s0), .val .null] [(.ref r_19), (.ref bp)])) rfl (by rw [hml]; rfl) (Steps.refl _) (argsL := [(.ref r_19)]) (rest := []) (lenOf own_pd6 rfl) rfl (by show 2 * 0 + _ ≤ _; exact Nat.le_of_eq rfl) (hb hby at_206) (fun _ _ => ⟨rfl, rfl, (by decide : ((((((((((0 + 1) + 2) + 1) + 2) + 0) + 0) + 0) + 0) + 0) + 1) + 0 ≤ _), (by decide : ((((((((((0 + 3) + 92) + 3) + 92) + 0) + 0) + 0) + 0) + 0) + 1) + 0 ≤ _)⟩)
                  dsimp only [Pt.U, Pt.locs, Pt.cells, Pt.slots] at X20 l20 y20 z20 st20 hQ20
                  subst l20 y20 z20
                  obtain ⟨rfl, Nq20, eq20⟩ := hQ20
                  have N20 := Fr.app N19 Nq20
                  refine own_via (B := T20.setTop (mkF m 209 #[.val (.int i0), .val (.int i1), .val (.int i2), .val (.int i3), .val (.int i4), .val (.int i5), .val (.int s4), .val (.int s14), .val (.ref (own_pick ((((i4.toUInt32 >>> ((3 : Int32) &&& 31).toUInt32).toInt32) &&& (2147483647 : Int32)) % (3 : Int32)) w0 w1 w2)), .val (.int v29s0), .val (.int v47s0), .val (.ref v69s0), .val (.ref bp), .val (.ref bq), .val (.int v118s0), .val .null] [(.int (0 : Int32))])) (fun t k => st20.trans k) ?_
                  have hc209 : (0 : Int32) = (0 : Int32) := by decide
                  refine own_via (B := T20.setTop (mkF m 212 #[.val (.int i0), .val (.int i1), .val (.int i2), .val (.int i3), .val (.int i4), .val (.int i5), .val (.int s4), .val (.int s14), .val (.ref (own_pick ((((i4.toUInt32 >>> ((3 : Int32) &&& 31).toUInt32).toInt32) &&& (2147483647 : Int32)) % (3 : Int32)) w0 w1 w2)), .val (.int v29s0), .val (.int v47s0), .val (.ref v69s0), .val (.ref bp), .val (.ref bq), .val (.int v118s0), .val .null] [])) (fun t k => XS.ifNo X20.here hx rfl (hb hby at_209) rfl ((if0 _ _).trans (teq hc209).2) k) ?_
                  refine own_via (B := T20.setTop (mkF m 213 #[.val (.int i0), .val (.int i1), .val (.int i2), .val (.int i3), .val (.int i4), .val (.int i5), .val (.int s4), .val (.int s14), .val (.ref (own_pick ((((i4.toUInt32 >>> ((3 : Int32) &&& 31).toUInt32).toInt32) &&& (2147483647 : Int32)) % (3 : Int32)) w0 w1 w2)), .val (.int v29s0), .val (.int v47s0), .val (.ref v69s0), .val (.ref bp), .val (.ref bq), .val (.int v118s0), .val .null] [(.int (1 : Int32))])) (fun t k => XS.iconst X20.here hx rfl (hb hby at_212) k) ?_
                  refine own_via (B := T20.setTop (mkF m 217 #[.val (.int i0), .val (.int i1), .val (.int i2), .val (.int i3), .val (.int i4), .val (.int i5), .val (.int s4), .val (.int s14), .val (.ref (own_pick ((((i4.toUInt32 >>> ((3 : Int32) &&& 31).toUInt32).toInt32) &&& (2147483647 : Int32)) % (3 : Int32)) w0 w1 w2)), .val (.int v29s0), .val (.int v47s0), .val (.ref v69s0), .val (.ref bp), .val (.ref bq), .val (.int v118s0), .val .null] [(.int (1 : Int32))])) (fun t k => XS.goto X20.here hx rfl (pc0 := 213) (pc' := 217) rfl (hb hby at_213) (by decide) (by decide) k) ?_
                  exact own_done ⟨_, _, _, _, N20, (Or.inr (Or.inl ⟨hc154, hc166, hc176, r_19, rfl⟩)), ((Keep.refl T11.heap []).trans Kq19 all0), rfl, (X20.more (by decide) (by decide)), eq20⟩
              · refine own_via (B := T15.setTop (mkF m 216 #[.val (.int i0), .val (.int i1), .val (.int i2), .val (.int i3), .val (.int i4), .val (.int i5), .val (.int s4), .val (.int s14), .val (.ref (own_pick ((((i4.toUInt32 >>> ((3 : Int32) &&& 31).toUInt32).toInt32) &&& (2147483647 : Int32)) % (3 : Int32)) w0 w1 w2)), .val (.int v29s0), .val (.int v47s0), .val (.ref v69s0), .val (.ref bp), .val (.ref bq), .val (.int v118s0), .val .null] [])) (fun t k => XS.icmpYes X15.here hx rfl (pc0 := 166) (pc' := 216) rfl (hb hby at_166) rfl (feq hc166).2 (by decide) (by decide) k) ?_
                refine own_via (B := T15.setTop (mkF m 217 #[.val (.int i0), .val (.int i1), .val (.int i2), .val (.int i3), .val (.int i4), .val (.int i5), .val (.int s4), .val (.int s14), .val (.ref (own_pick ((((i4.toUInt32 >>> ((3 : Int32) &&& 31).toUInt32).toInt32) &&& (2147483647 : Int32)) % (3 : Int32)) w0 w1 w2)), .val (.int v29s0), .val (.int v47s0), .val (.ref v69s0), .val (.ref bp), .val (.ref bq), .val (.int v118s0), .val .null] [(.int (0 : Int32))])) (fun t k => XS.iconst X15.here hx rfl (hb hby at_216) k) ?_
                exact own_done ⟨_, _, _, _, N15, (Or.inr (Or.inr (Or.inl ⟨hc154, hc166, rfl⟩))), (Keep.refl T11.heap []), rfl, (X15.more (by decide) (by decide)), eq15⟩
            · refine own_via (B := T13.setTop (mkF m 216 #[.val (.int i0), .val (.int i1), .val (.int i2), .val (.int i3), .val (.int i4), .val (.int i5), .val (.int s4), .val (.int s14), .val (.ref (own_pick ((((i4.toUInt32 >>> ((3 : Int32) &&& 31).toUInt32).toInt32) &&& (2147483647 : Int32)) % (3 : Int32)) w0 w1 w2)), .val (.int v29s0), .val (.int v47s0), .val (.ref v69s0), .val (.ref bp), .val (.ref bq), .val (.int v118s0), .val .null] [])) (fun t k => XS.icmpYes X13.here hx rfl (pc0 := 154) (pc' := 216) rfl (hb hby at_154) rfl (feq hc154).2 (by decide) (by decide) k) ?_
              refine own_via (B := T13.setTop (mkF m 217 #[.val (.int i0), .val (.int i1), .val (.int i2), .val (.int i3), .val (.int i4), .val (.int i5), .val (.int s4), .val (.int s14), .val (.ref (own_pick ((((i4.toUInt32 >>> ((3 : Int32) &&& 31).toUInt32).toInt32) &&& (2147483647 : Int32)) % (3 : Int32)) w0 w1 w2)), .val (.int v29s0), .val (.int v47s0), .val (.ref v69s0), .val (.ref bp), .val (.ref bq), .val (.int v118s0), .val .null] [(.int (0 : Int32))])) (fun t k => XS.iconst X13.here hx rfl (hb hby at_216) k) ?_
              exact own_done ⟨_, _, _, _, N13, (Or.inr (Or.inr (Or.inr ⟨hc154, rfl⟩))), (Keep.refl T11.heap []), rfl, (X13.more (by decide) (by decide)), eq13⟩
          · rintro B ⟨T14, L14, h14, v154s0, N14, hv154, K14, rfl, X14, e14⟩
            refine own_leafW X14 hx hlk hS11 (by rw [e14]; exact (Nat.le_trans (Nat.le_refl _) K14.1)) (t := .boolean) Bd.returns (own_b1 (by rcases hv154 with ⟨_, _, _, rfl⟩ | ⟨_, _, _, _, rfl⟩ | ⟨_, _, rfl⟩ | ⟨_, rfl⟩ <;> decide)) (Or.inl ⟨rfl, by simp, _, rfl⟩) (hb hby at_217) (by decide) (by decide) ?_
            show Q0 Z i0 i1 i2 i3 i4 i5 w0 w1 w2 aC cl h0 n0 _ T14.heap _
            rw [e14]
            refine ⟨?_, N14⟩
            have hE : own_bit (s4 = v29s0 ∧ s14 = v47s0 ∧ (own_pick ((((i4.toUInt32 >>> ((3 : Int32) &&& 31).toUInt32).toInt32) &&& (2147483647 : Int32)) % (3 : Int32)) w0 w1 w2) = v69s0) = v118s0 := by
              rcases hv118 with ⟨h0, h1, h2, rfl⟩ | ⟨h0, h1, h2, rfl⟩ | ⟨h0, h1, rfl⟩ | ⟨h0, rfl⟩
              · exact own_bitT ⟨h0, h1, h2⟩
              · exact own_bitF (fun q => h2 q.2.2)
              · exact own_bitF (fun q => h1 q.2.1)
              · exact own_bitF (fun q => h0 q.1)
            have hE' : own_bit (v29s0 = s4 ∧ v47s0 = s14 ∧ v69s0 = (own_pick ((((i4.toUInt32 >>> ((3 : Int32) &&& 31).toUInt32).toInt32) &&& (2147483647 : Int32)) % (3 : Int32)) w0 w1 w2)) = v118s0 := by
              rw [← hE]; exact own_bits ⟨fun q => ⟨q.1.symm, q.2.1.symm, q.2.2.symm⟩, fun q => ⟨q.1.symm, q.2.1.symm, q.2.2.symm⟩⟩
            rcases hv154 with ⟨h0, h1, h2, rfl⟩ | ⟨h0, h1, h2, r_19, rfl⟩ | ⟨h0, h1, rfl⟩ | ⟨h0, rfl⟩
            · first | rfl | exact absurd hE h0 | exact absurd hE' h1 | exact absurd (own_bit0.mp h2) (fun q => q ⟨rfl, rfl, rfl⟩)
            · first | rfl | exact absurd hE h0 | exact absurd hE' h1 | exact absurd (own_bit0.mp h2) (fun q => q ⟨rfl, rfl, rfl⟩)
            · first | rfl | exact absurd hE h0 | exact absurd hE' h1 | exact absurd (own_bit0.mp h2) (fun q => q ⟨rfl, rfl, rfl⟩)
            · first | rfl | exact absurd hE h0 | exact absurd hE' h1 | exact absurd (own_bit0.mp h2) (fun q => q ⟨rfl, rfl, rfl⟩)
set_option maxRecDepth 65536 in
set_option maxHeartbeats 40000000 in
theorem comes_1 {Post : Tables → Env → Array Value → State → Outcome → State → Prop} (hpost : ∀ tb e args s v u, (limb_1_1.after args s (.returned v) u = true ∧ limb_1_2.after args s (.returned v) u = true ∧ True) → ReturnedEndW s (.returned v) u (Jvm.fieldLocs frame_1_writes args s ++ Jvm.arrayLocs frame_1_arrays args s ++ Jvm.staticLocs frame_1_statics s) 16 1152 → Post tb e args s (.returned v) u) :
    ArmFor flags0 classFile x code maxLocals ret World_1 tables_1 room_1 Calls_1 rest_1 Pre_1 Post := by
  intro l hfl _ _ p e ha hc hk s m args below hf hA hF happ hP
  obtain ⟨hcalls, hrest, hpre⟩ := hP
  obtain ⟨-, -, -, hnamed, -, -, -, hat⟩ := (Spec.applies_iff hf).mp happ
  obtain ⟨hg, hn⟩ := and_e (Cond.before_iff.mp (show (Jvm.Cond.and given_1 narrow_1).before args s = true from hpre))
  obtain ⟨g1, g2⟩ := and_e hg
  obtain ⟨g3, g4⟩ := and_e g2
  obtain ⟨g5, g6⟩ := and_e g4
  obtain ⟨g7, g8⟩ := and_e g6
  obtain ⟨g9, g10⟩ := and_e g8
  obtain ⟨g11, g12⟩ := and_e g10
  obtain ⟨g13, g14⟩ := and_e hn
  obtain ⟨g15, g16⟩ := and_e g14
  obtain ⟨g17, g18⟩ := and_e g16
  obtain ⟨g19, g20⟩ := and_e g18
  obtain ⟨g21, g22⟩ := and_e g20
  obtain ⟨w0, w1, w2, w3, w4, w5, rfl⟩ : ∃ w0 w1 w2 w3 w4 w5 : Value, args = #[w0, w1, w2, w3, w4, w5] := by
    have hs : args.size = 6 := by simpa [Cond.value, given_1] using g1
    obtain ⟨L⟩ := args
    match L, hs with
    | [w0, w1, w2, w3, w4, w5], _ => exact ⟨w0, w1, w2, w3, w4, w5, rfl⟩
  have hw := fun d (hd : d ∈ tables_1) => atoms_spec (ws := Jvm.Cond.code x code maxLocals ret :: tables_1) hat d (List.mem_cons_of_mem _ hd)
  have hfit : Fit s := fun {y c} hc i hi => by
    obtain ⟨ha, rfl⟩ := Array.getElem?_eq_some_iff.mp hc
    have q := List.all_eq_true.mp ((Array.all_eq_true_iff_forall_mem.mp hF) _ (Array.getElem_mem ha)) i (List.mem_range.mpr hi)
    simpa [Array.getElem?_eq_getElem hi] using q
  obtain ⟨i0, ei0⟩ := is_v g3
  obtain rfl : w0 = (.int i0) := Option.some.inj ei0
  obtain ⟨i1, ei1⟩ := is_v g5
  obtain rfl : w1 = (.int i1) := Option.some.inj ei1
  obtain ⟨i2, ei2⟩ := is_v g7
  obtain rfl : w2 = (.int i2) := Option.some.inj ei2
  obtain ⟨i3, ei3⟩ := is_v g9
  obtain rfl : w3 = (.int i3) := Option.some.inj ei3
  obtain ⟨i4, ei4⟩ := is_v g11
  obtain rfl : w4 = (.int i4) := Option.some.inj ei4
  obtain ⟨i5, ei5⟩ := is_v g12
  obtain rfl : w5 = (.int i5) := Option.some.inj ei5
  obtain ⟨hsets, hown0⟩ := atoms_of _ (rest_1_c_eq ▸ (show rest_1_c.before _ s = true from hrest))
  have hr0 := Cond.before_iff.mp hown0
  obtain ⟨w_MFENCE, _, _, _, ev_MFENCE, -⟩ := Cond.exactly_spec (Cond.before_iff.mpr g13)
  have S_MFENCE : Sta s s.heap "com/example/fenceline/fenceline/litmus/Instruction$Fence" "MFENCE" "Lcom/example/fenceline/fenceline/litmus/Instruction$Fence;" (.ref w_MFENCE) := Sta.start ev_MFENCE (Or.inr ⟨(hw _ (List.mem_of_getElem? (i := 10) rfl)), (hw _ (List.mem_of_getElem? (i := 11) rfl))⟩)
  have E_MFENCE : Exa s s.heap w_MFENCE "com/example/fenceline/fenceline/litmus/Instruction$Fence" := Exa.start ev_MFENCE g13
  obtain ⟨w_SFENCE, _, _, _, ev_SFENCE, -⟩ := Cond.exactly_spec (Cond.before_iff.mpr g15)
  have S_SFENCE : Sta s s.heap "com/example/fenceline/fenceline/litmus/Instruction$Fence" "SFENCE" "Lcom/example/fenceline/fenceline/litmus/Instruction$Fence;" (.ref w_SFENCE) := Sta.start ev_SFENCE (Or.inr ⟨(hw _ (List.mem_of_getElem? (i := 10) rfl)), (hw _ (List.mem_of_getElem? (i := 64) rfl))⟩)
  have E_SFENCE : Exa s s.heap w_SFENCE "com/example/fenceline/fenceline/litmus/Instruction$Fence" := Exa.start ev_SFENCE g15
  obtain ⟨w_LFENCE, _, _, _, ev_LFENCE, -⟩ := Cond.exactly_spec (Cond.before_iff.mpr g17)
  have S_LFENCE : Sta s s.heap "com/example/fenceline/fenceline/litmus/Instruction$Fence" "LFENCE" "Lcom/example/fenceline/fenceline/litmus/Instruction$Fence;" (.ref w_LFENCE) := Sta.start ev_LFENCE (Or.inr ⟨(hw _ (List.mem_of_getElem? (i := 10) rfl)), (hw _ (List.mem_of_getElem? (i := 66) rfl))⟩)
  have E_LFENCE : Exa s s.heap w_LFENCE "com/example/fenceline/fenceline/litmus/Instruction$Fence" := Exa.start ev_LFENCE g17
  have F_SFENCE_ordinal : Fld s s.heap w_SFENCE "java/lang/Enum" "ordinal" "I" (.int 1) := Fld.start ((fld_at ev_SFENCE).symm.trans (own_eqI g19))
  have F_LFENCE_ordinal : Fld s s.heap w_LFENCE "java/lang/Enum" "ordinal" "I" (.int 2) := Fld.start ((fld_at ev_LFENCE).symm.trans (own_eqI g21))
  have F_MFENCE_ordinal : Fld s s.heap w_MFENCE "java/lang/Enum" "ordinal" "I" (.int 0) := Fld.start ((fld_at ev_MFENCE).symm.trans (own_eqI g22))
  have evH := own_eqI (Cond.before_iff.mp (hsets _ (List.mem_of_getElem? (i := 3) rfl)))
  have SH : Sta s s.heap "java/lang/Integer$IntegerCache" "high" "I" (.int (127 : Int32)) := Sta.start evH (Or.inl (hsets _ (List.mem_of_getElem? (i := 1) rfl)))
  obtain ⟨aC, evC⟩ := exa_v (Cond.before_iff.mp (hsets _ (List.mem_of_getElem? (i := 5) rfl)))
  have SC : Sta s s.heap "java/lang/Integer$IntegerCache" "cache" "[Ljava/lang/Integer;" (.ref aC) := Sta.start evC (Or.inr ⟨(hw _ (List.mem_of_getElem? (i := 59) rfl)), (hsets _ (List.mem_of_getElem? (i := 2) rfl))⟩)
  obtain ⟨cl, ArC⟩ := Arr.start evC (Cond.before_iff.mp (hsets _ (List.mem_of_getElem? (i := 4) rfl)))
  have hsz : cl.slots.size = 256 := own_len evC ArC (hsets _ (List.mem_of_getElem? (i := 6) rfl))
  have hel : ∀ i : Nat, i < 256 → ∃ r, cl.slots[i]? = some (.ref r) ∧ Exa s s.heap r "java/lang/Integer" := own_all evC ArC hsz (hsets _ (List.mem_of_getElem? (i := 7) rfl))
  obtain ⟨n, o, h1, h2, h3, _, L, rfl, ⟨rfl, N⟩, hq⟩ := rm0 l s _ hw tables_1 i0 i1 i2 i3 i4 i5 w_MFENCE w_SFENCE w_LFENCE aC cl s.heap s.heap.size (Nat.le_refl _) ⟨⟨S_MFENCE, E_MFENCE⟩, ⟨S_SFENCE, E_SFENCE⟩, ⟨S_LFENCE, E_LFENCE⟩⟩ (Old.start s) SH SC ArC hsz hel p e ha hc hk s m _ below hf ((Spec.applies_iff_loose hf).mp happ).1 ⟨rfl, State.Warmed39.refl s, rfl⟩ trivial
  refine ⟨n, _, h1, h2, h3, hpost _ _ _ _ _ _ ⟨Cond.after_iff.mpr rfl, Cond.after_iff.mpr (eq_i res_at (Term.int_eval (1)) rfl), trivial⟩ ⟨hq.1, hq.2.1, hq.2.2.1, (hq.2.2.2.sift fun y hy => Or.inr (N y hy)).mono (by decide) (by decide)⟩⟩
theorem main_1_1 : Claimed_1_1 := comes_1 fun _ _ _ _ _ _ h hF => ⟨h.1, hF⟩
theorem main_1_2 : Claimed_1_2 := comes_1 fun _ _ _ _ _ _ h hF => ⟨h.2.1, hF⟩
end Jvm.Pilot.@@N@@
namespace Jvm.Pilot.@@N@@
open Jvm Jvm.ClassFile Sem Op Lib Jvm.Free Jvm.Stand Jvm.Pilot.@@N@@.Jvm.D
/-! MADE BY PROGRAM (witnessworld.py) out of the Statement's table words and the real class files: 24 classes; the members and pool entries that the words name. The judged class is class 1, her method 2. -/
namespace start1
open Jvm.ClassFile
def u (s : String) : CpInfo := .utf8 (stringToUtf16 s)
/-- a pool by its gaps: so many unusable entries, then the entry; so many at the end -/
def gap : Nat → List CpInfo → List CpInfo
  | 0, r => r
  | n + 1, r => .unusable :: gap n r
def poolList (es : List (Nat × CpInfo)) (last : Nat) : List CpInfo := es.foldr (fun e r => gap e.1 (e.2 :: r)) (gap last [])
def pool (es : List (Nat × CpInfo)) (last : Nat) : Array CpInfo := ⟨poolList es last⟩
def fileOf (pool : Array CpInfo) (this : Nat) (attrs : Array Attribute := #[]) (ms : Array MethodInfo := #[]) (fl : Nat := 33) (sup : Nat := 0) (ifs : Array Nat := #[]) (fds : Array FieldInfo := #[]) : ClassFile where
  minorVersion := 0
  majorVersion := 65
  constantPool := pool
  accessFlags := fl
  thisClass := this
  superClass := sup
  interfaces := ifs
  fields := fds
  methods := ms
  attributes := attrs
def plain (name : String) (sup : Option ClassId) : Class where
  name := name
  kind := .ordinary
  loader := none
  accessFlags := 33
  super := sup
  interfaces := #[]
  cf := none
  fields := #[]
  methods := #[]
  instanceTypes := #[]
  staticTypes := #[]
  resolved := #[]
  callSites := []
  init := .initialized
  statics := none
  mirror := none

def pool0 : Array CpInfo := pool [(5, u "<init>"), (0, u "()V"), (1, .class_ 10), (1, u "java/lang/Object")] 113

def k0c0 : Code := { maxStack := 0, maxLocals := 1, code := object_method_1_code, exceptionTable := #[], attributes := #[] }
def k0m0 : Method := { name := "<init>", desc := "()V", sig := { parameters := [], returnType := none }, accessFlags := 1, code := some k0c0 }
/-- java/lang/Object -/
def k0 : Class := { plain "java/lang/Object" none with
  accessFlags := 33
  interfaces := #[]
  cf := some (fileOf pool0 8 #[] #[{ accessFlags := 1, nameIndex := 5, descriptorIndex := 6, attributes := #[] }] 33 0 #[] #[])
  fields := #[]
  methods := #[k0m0]
  instanceTypes := #[]
  staticTypes := #[]
  resolved := Array.replicate 124 none
  statics := none }

def pool1 : Array CpInfo := pool [(2, .class_ 4), (1, u "java/lang/Object"), (0, u "<init>"), (0, u "()V"), (0, .integer 2147483647), (0, .fieldref 9 10), (0, .class_ 11), (0, .nameAndType 12 13), (0, u "com/example/fenceline/fenceline/litmus/Instruction$Fence"), (0, u "MFENCE"), (0, u "Lcom/example/fenceline/fenceline/litmus/Instruction$Fence;"), (0, .fieldref 9 15), (0, .nameAndType 16 13), (0, u "SFENCE"), (0, .fieldref 9 18), (0, .nameAndType 19 13), (0, u "LFENCE"), (0, .methodref 21 22), (0, .class_ 23), (0, .nameAndType 24 25), (0, u "java/lang/Math"), (0, u "max"), (0, u "(II)I"), (0, .methodref 27 28), (0, .class_ 29), (0, .nameAndType 30 31), (0, u "com/example/fenceline/fenceline/litmus/PlacedFenceEqualsPinLaw"), (0, u "fenceOf"), (0, u "(I)Lcom/example/fenceline/fenceline/litmus/Instruction$Fence;"), (0, .class_ 33), (0, u "com/example/fenceline/fenceline/litmus/PlacedFence"), (0, .methodref 32 35), (0, .nameAndType 5 36), (0, u "(IILcom/example/fenceline/fenceline/litmus/Instruction$Fence;)V"), (0, .methodref 32 38), (0, .nameAndType 39 40), (0, u "equals"), (0, u "(Ljava/lang/Object;)Z"), (0, .methodref 42 43), (0, .class_ 44), (0, .nameAndType 45 46), (0, u "java/lang/Integer"), (0, u "valueOf"), (0, u "(I)Ljava/lang/Integer;"), (3, u "law"), (0, u "(IIIIII)Z")] 6

def k1m0 : Method := { name := "<init>", desc := "()V", sig := { parameters := [], returnType := none }, accessFlags := 1, code := none }
def k1c1 : Code := { maxStack := 2, maxLocals := 2, code := method_2_code, exceptionTable := #[], attributes := #[] }
def k1m1 : Method := { name := "fenceOf", desc := "(I)Lcom/example/fenceline/fenceline/litmus/Instruction$Fence;", sig := { parameters := [.int], returnType := some (.object "com/example/fenceline/fenceline/litmus/Instruction$Fence") }, accessFlags := 10, code := some k1c1 }
def k1c2 : Code := { maxStack := 5, maxLocals := 16, code := code, exceptionTable := #[], attributes := #[] }
def k1m2 : Method := { name := "law", desc := "(IIIIII)Z", sig := { parameters := [.int, .int, .int, .int, .int, .int], returnType := some .boolean }, accessFlags := 9, code := some k1c2 }
/-- com/example/fenceline/fenceline/litmus/PlacedFenceEqualsPinLaw -/
def k1 : Class := { plain "com/example/fenceline/fenceline/litmus/PlacedFenceEqualsPinLaw" (some 0) with
  accessFlags := 49
  interfaces := #[]
  cf := some (fileOf pool1 27 #[] #[{ accessFlags := 1, nameIndex := 5, descriptorIndex := 6, attributes := #[] }, { accessFlags := 10, nameIndex := 30, descriptorIndex := 31, attributes := #[] }, { accessFlags := 9, nameIndex := 50, descriptorIndex := 51, attributes := #[] }] 49 2 #[] #[])
  fields := #[]
  methods := #[k1m0, k1m1, k1m2]
  instanceTypes := #[]
  staticTypes := #[]
  resolved := Array.replicate 58 none
  statics := none }

def pool2 : Array CpInfo := pool [(1, .class_ 2), (0, u "java/lang/Math"), (1, .class_ 6), (1, u "java/lang/Object"), (0, u "<init>"), (0, u "()V"), (89, .class_ 100), (1, u "java/lang/Math$RandomNumberGeneratorHolder"), (71, u "negativeZeroFloatBits"), (0, u "J"), (2, u "negativeZeroDoubleBits"), (21, u "max"), (46, u "$assertionsDisabled"), (0, u "Z"), (88, u "(II)I"), (2, u "twoToTheDoubleScaleDown"), (0, u "D"), (4, u "twoToTheDoubleScaleUp"), (9, u "E"), (3, u "PI"), (2, u "TAU"), (2, u "DEGREES_TO_RADIANS"), (0, u "RADIANS_TO_DEGREES")] 94

def k2m0 : Method := { name := "<init>", desc := "()V", sig := { parameters := [], returnType := none }, accessFlags := 2, code := none }
def k2c1 : Code := { maxStack := 2, maxLocals := 2, code := jdk_29_method_65_code, exceptionTable := #[], attributes := #[] }
def k2m1 : Method := { name := "max", desc := "(II)I", sig := { parameters := [.int, .int], returnType := some .int }, accessFlags := 9, code := some k2c1 }
/-- java/lang/Math -/
def k2 : Class := { plain "java/lang/Math" (some 0) with
  accessFlags := 49
  interfaces := #[]
  cf := some (fileOf pool2 1 #[.nestMembers #[98]] #[{ accessFlags := 2, nameIndex := 7, descriptorIndex := 8, attributes := #[] }, { accessFlags := 9, nameIndex := 198, descriptorIndex := 335, attributes := #[] }] 49 4 #[] #[{ accessFlags := 25, nameIndex := 354, descriptorIndex := 339, attributes := #[] }, { accessFlags := 25, nameIndex := 358, descriptorIndex := 339, attributes := #[] }, { accessFlags := 25, nameIndex := 361, descriptorIndex := 339, attributes := #[] }, { accessFlags := 26, nameIndex := 364, descriptorIndex := 339, attributes := #[] }, { accessFlags := 26, nameIndex := 365, descriptorIndex := 339, attributes := #[] }, { accessFlags := 26, nameIndex := 172, descriptorIndex := 173, attributes := #[] }, { accessFlags := 26, nameIndex := 176, descriptorIndex := 173, attributes := #[] }, { accessFlags := 8, nameIndex := 344, descriptorIndex := 339, attributes := #[] }, { accessFlags := 8, nameIndex := 338, descriptorIndex := 339, attributes := #[] }, { accessFlags := 4120, nameIndex := 245, descriptorIndex := 246, attributes := #[] }])
  fields := #[{ name := "E", type := .double, accessFlags := 25, slot := 0, constantValue := 0 }, { name := "PI", type := .double, accessFlags := 25, slot := 1, constantValue := 0 }, { name := "TAU", type := .double, accessFlags := 25, slot := 2, constantValue := 0 }, { name := "DEGREES_TO_RADIANS", type := .double, accessFlags := 26, slot := 3, constantValue := 0 }, { name := "RADIANS_TO_DEGREES", type := .double, accessFlags := 26, slot := 4, constantValue := 0 }, { name := "negativeZeroFloatBits", type := .long, accessFlags := 26, slot := 5, constantValue := 0 }, { name := "negativeZeroDoubleBits", type := .long, accessFlags := 26, slot := 6, constantValue := 0 }, { name := "twoToTheDoubleScaleUp", type := .double, accessFlags := 8, slot := 7, constantValue := 0 }, { name := "twoToTheDoubleScaleDown", type := .double, accessFlags := 8, slot := 8, constantValue := 0 }, { name := "$assertionsDisabled", type := .boolean, accessFlags := 4120, slot := 9, constantValue := 0 }]
  methods := #[k2m0, k2m1]
  instanceTypes := #[]
  staticTypes := #[.double, .double, .double, .double, .double, .long, .long, .double, .double, .boolean]
  resolved := Array.replicate 460 none
  statics := none }

def pool3 : Array CpInfo := pool [(1, .class_ 2), (0, u "java/lang/constant/Constable"), (0, .class_ 4), (0, u "java/lang/Object")] 6

/-- java/lang/constant/Constable -/
def k3 : Class := { plain "java/lang/constant/Constable" (some 0) with
  accessFlags := 1537
  interfaces := #[]
  cf := some (fileOf pool3 1 #[] #[] 1537 3 #[] #[])
  fields := #[]
  methods := #[]
  instanceTypes := #[]
  staticTypes := #[]
  resolved := Array.replicate 11 none
  statics := none }

def pool4 : Array CpInfo := pool [(1, .class_ 2), (0, u "java/lang/Comparable"), (0, .class_ 4), (0, u "java/lang/Object")] 7

/-- java/lang/Comparable -/
def k4 : Class := { plain "java/lang/Comparable" (some 0) with
  accessFlags := 1537
  interfaces := #[]
  cf := some (fileOf pool4 1 #[] #[] 1537 3 #[] #[])
  fields := #[]
  methods := #[]
  instanceTypes := #[]
  staticTypes := #[]
  resolved := Array.replicate 12 none
  statics := none }

def pool5 : Array CpInfo := pool [(1, .class_ 2), (0, u "java/io/Serializable"), (0, .class_ 4), (0, u "java/lang/Object")] 2

/-- java/io/Serializable -/
def k5 : Class := { plain "java/io/Serializable" (some 0) with
  accessFlags := 1537
  interfaces := #[]
  cf := some (fileOf pool5 1 #[] #[] 1537 3 #[] #[])
  fields := #[]
  methods := #[]
  instanceTypes := #[]
  staticTypes := #[]
  resolved := Array.replicate 7 none
  statics := none }

def pool6 : Array CpInfo := pool [(2, .class_ 4), (1, u "java/lang/Enum"), (0, u "name"), (0, u "Ljava/lang/String;"), (2, u "ordinal"), (0, u "I"), (1, .class_ 14), (1, u "java/lang/Object"), (4, u "hash"), (86, .class_ 108), (1, u "java/lang/Enum$EnumDesc"), (2, .class_ 112), (0, u "java/lang/constant/Constable"), (0, .class_ 114), (0, u "java/lang/Comparable"), (0, .class_ 116), (0, u "java/io/Serializable")] 87

/-- java/lang/Enum -/
def k6 : Class := { plain "java/lang/Enum" (some 0) with
  accessFlags := 1057
  interfaces := #[3, 4, 5]
  cf := some (fileOf pool6 2 #[.nestMembers #[106]] #[] 1057 12 #[111, 113, 115] #[{ accessFlags := 18, nameIndex := 5, descriptorIndex := 6, attributes := #[] }, { accessFlags := 18, nameIndex := 9, descriptorIndex := 10, attributes := #[] }, { accessFlags := 2, nameIndex := 19, descriptorIndex := 10, attributes := #[] }])
  fields := #[{ name := "name", type := (.object "java/lang/String"), accessFlags := 18, slot := 0, constantValue := 0 }, { name := "ordinal", type := .int, accessFlags := 18, slot := 1, constantValue := 0 }, { name := "hash", type := .int, accessFlags := 2, slot := 2, constantValue := 0 }]
  methods := #[]
  instanceTypes := #[(.object "java/lang/String"), .int, .int]
  staticTypes := #[]
  resolved := Array.replicate 204 none
  statics := none }

def pool7 : Array CpInfo := pool [(1, .class_ 2), (0, u "com/example/fenceline/fenceline/litmus/Instruction"), (0, .class_ 4), (0, u "java/lang/Object"), (3, .class_ 9), (0, u "com/example/fenceline/fenceline/litmus/Instruction$Fence"), (0, .class_ 11), (0, u "com/example/fenceline/fenceline/litmus/Instruction$Load"), (0, .class_ 13), (0, u "com/example/fenceline/fenceline/litmus/Instruction$Store")] 5

/-- com/example/fenceline/fenceline/litmus/Instruction -/
def k7 : Class := { plain "com/example/fenceline/fenceline/litmus/Instruction" (some 0) with
  accessFlags := 1537
  interfaces := #[]
  cf := some (fileOf pool7 1 #[.nestMembers #[8, 10, 12]] #[] 1537 3 #[] #[])
  fields := #[]
  methods := #[]
  instanceTypes := #[]
  staticTypes := #[]
  resolved := Array.replicate 19 none
  statics := none }

def pool8 : Array CpInfo := pool [(1, .class_ 2), (0, u "com/example/fenceline/fenceline/litmus/Instruction$Fence"), (2, u "MFENCE"), (0, u "Lcom/example/fenceline/fenceline/litmus/Instruction$Fence;"), (2, u "SFENCE"), (2, u "LFENCE"), (2, u "$VALUES"), (0, u "[Lcom/example/fenceline/fenceline/litmus/Instruction$Fence;"), (6, .class_ 25), (1, u "java/lang/Enum"), (30, .class_ 57), (0, u "com/example/fenceline/fenceline/litmus/Instruction")] 15

/-- com/example/fenceline/fenceline/litmus/Instruction$Fence -/
def k8 : Class := { plain "com/example/fenceline/fenceline/litmus/Instruction$Fence" (some 6) with
  accessFlags := 16433
  interfaces := #[7]
  cf := some (fileOf pool8 1 #[.nestHost 56] #[] 16433 23 #[56] #[{ accessFlags := 16409, nameIndex := 5, descriptorIndex := 6, attributes := #[] }, { accessFlags := 16409, nameIndex := 9, descriptorIndex := 6, attributes := #[] }, { accessFlags := 16409, nameIndex := 12, descriptorIndex := 6, attributes := #[] }, { accessFlags := 4122, nameIndex := 15, descriptorIndex := 16, attributes := #[] }])
  fields := #[{ name := "MFENCE", type := (.object "com/example/fenceline/fenceline/litmus/Instruction$Fence"), accessFlags := 16409, slot := 0, constantValue := 0 }, { name := "SFENCE", type := (.object "com/example/fenceline/fenceline/litmus/Instruction$Fence"), accessFlags := 16409, slot := 1, constantValue := 0 }, { name := "LFENCE", type := (.object "com/example/fenceline/fenceline/litmus/Instruction$Fence"), accessFlags := 16409, slot := 2, constantValue := 0 }, { name := "$VALUES", type := (.array (.object "com/example/fenceline/fenceline/litmus/Instruction$Fence")), accessFlags := 4122, slot := 3, constantValue := 0 }]
  methods := #[]
  instanceTypes := #[(.object "java/lang/String"), .int, .int]
  staticTypes := #[(.object "com/example/fenceline/fenceline/litmus/Instruction$Fence"), (.object "com/example/fenceline/fenceline/litmus/Instruction$Fence"), (.object "com/example/fenceline/fenceline/litmus/Instruction$Fence"), (.array (.object "com/example/fenceline/fenceline/litmus/Instruction$Fence"))]
  resolved := Array.replicate 73 none
  statics := some 0 }

def pool9 : Array CpInfo := pool [(1, .methodref 2 3), (0, .class_ 4), (0, .nameAndType 5 6), (0, u "java/lang/Object"), (0, u "<init>"), (0, u "()V"), (0, .class_ 8), (0, u "java/lang/Record")] 13

def k9c0 : Code := { maxStack := 1, maxLocals := 1, code := jdk_30_method_1_code, exceptionTable := #[], attributes := #[] }
def k9m0 : Method := { name := "<init>", desc := "()V", sig := { parameters := [], returnType := none }, accessFlags := 4, code := some k9c0 }
/-- java/lang/Record -/
def k9 : Class := { plain "java/lang/Record" (some 0) with
  accessFlags := 1057
  interfaces := #[]
  cf := some (fileOf pool9 7 #[] #[{ accessFlags := 4, nameIndex := 5, descriptorIndex := 6, attributes := #[] }] 1057 2 #[] #[])
  fields := #[]
  methods := #[k9m0]
  instanceTypes := #[]
  staticTypes := #[]
  resolved := Array.replicate 22 none
  statics := none }

def pool10 : Array CpInfo := pool [(1, .methodref 2 3), (0, .class_ 4), (0, .nameAndType 5 6), (0, u "java/lang/Record"), (0, u "<init>"), (0, u "()V"), (0, .string 8), (0, u "Fence must not be null"), (0, .methodref 10 11), (0, .class_ 12), (0, .nameAndType 13 14), (0, u "java/util/Objects"), (0, u "requireNonNull"), (0, u "(Ljava/lang/Object;Ljava/lang/String;)Ljava/lang/Object;"), (21, .fieldref 37 38), (0, .class_ 39), (0, .nameAndType 40 41), (0, u "com/example/fenceline/fenceline/litmus/PlacedFence"), (0, u "thread"), (0, u "I"), (0, .fieldref 37 43), (0, .nameAndType 44 41), (0, u "after"), (0, .fieldref 37 46), (0, .nameAndType 47 48), (0, u "fence"), (0, u "Lcom/example/fenceline/fenceline/litmus/Instruction$Fence;"), (25, .class_ 75), (0, u "java/lang/Comparable"), (0, u "(IILcom/example/fenceline/fenceline/litmus/Instruction$Fence;)V"), (4, u "equals"), (0, u "(Ljava/lang/Object;)Z")] 27

def k10c0 : Code := { maxStack := 7, maxLocals := 4, code := prog_19_method_1_code, exceptionTable := #[], attributes := #[] }
def k10m0 : Method := { name := "<init>", desc := "(IILcom/example/fenceline/fenceline/litmus/Instruction$Fence;)V", sig := { parameters := [.int, .int, (.object "com/example/fenceline/fenceline/litmus/Instruction$Fence")], returnType := none }, accessFlags := 1, code := some k10c0 }
def k10c1 : Code := { maxStack := 2, maxLocals := 3, code := prog_19_method_2_code, exceptionTable := #[], attributes := #[] }
def k10m1 : Method := { name := "equals", desc := "(Ljava/lang/Object;)Z", sig := { parameters := [(.object "java/lang/Object")], returnType := some .boolean }, accessFlags := 1, code := some k10c1 }
/-- com/example/fenceline/fenceline/litmus/PlacedFence -/
def k10 : Class := { plain "com/example/fenceline/fenceline/litmus/PlacedFence" (some 9) with
  accessFlags := 49
  interfaces := #[4]
  cf := some (fileOf pool10 37 #[] #[{ accessFlags := 1, nameIndex := 5, descriptorIndex := 76, attributes := #[] }, { accessFlags := 1, nameIndex := 81, descriptorIndex := 82, attributes := #[] }] 49 2 #[74] #[{ accessFlags := 18, nameIndex := 40, descriptorIndex := 41, attributes := #[] }, { accessFlags := 18, nameIndex := 44, descriptorIndex := 41, attributes := #[] }, { accessFlags := 18, nameIndex := 47, descriptorIndex := 48, attributes := #[] }])
  fields := #[{ name := "thread", type := .int, accessFlags := 18, slot := 0, constantValue := 0 }, { name := "after", type := .int, accessFlags := 18, slot := 1, constantValue := 0 }, { name := "fence", type := (.object "com/example/fenceline/fenceline/litmus/Instruction$Fence"), accessFlags := 18, slot := 2, constantValue := 0 }]
  methods := #[k10m0, k10m1]
  instanceTypes := #[.int, .int, (.object "com/example/fenceline/fenceline/litmus/Instruction$Fence")]
  staticTypes := #[]
  resolved := Array.replicate 110 none
  statics := none }

def pool11 : Array CpInfo := pool [(2, .class_ 4), (1, u "java/lang/CharSequence"), (42, .class_ 48), (0, u "java/lang/CharSequence$1CodePointIterator"), (10, .class_ 60), (0, u "java/lang/CharSequence$1CharIterator"), (5, .class_ 67), (0, u "java/lang/Object")] 63

/-- java/lang/CharSequence -/
def k11 : Class := { plain "java/lang/CharSequence" (some 0) with
  accessFlags := 1537
  interfaces := #[]
  cf := some (fileOf pool11 2 #[.nestMembers #[47, 59]] #[] 1537 66 #[] #[])
  fields := #[]
  methods := #[]
  instanceTypes := #[]
  staticTypes := #[]
  resolved := Array.replicate 131 none
  statics := none }

def pool12 : Array CpInfo := pool [(1, .class_ 2), (0, u "java/lang/constant/ConstantDesc"), (0, .class_ 4), (0, u "java/lang/Object")] 32

/-- java/lang/constant/ConstantDesc -/
def k12 : Class := { plain "java/lang/constant/ConstantDesc" (some 0) with
  accessFlags := 1537
  interfaces := #[]
  cf := some (fileOf pool12 1 #[] #[] 1537 3 #[] #[])
  fields := #[]
  methods := #[]
  instanceTypes := #[]
  staticTypes := #[]
  resolved := Array.replicate 37 none
  statics := none }

def pool13 : Array CpInfo := pool [(2, .class_ 4), (1, u "java/lang/Object"), (0, u "<init>"), (0, u "()V"), (3, .class_ 12), (1, u "java/lang/String"), (0, u "value"), (0, u "[B"), (2, u "coder"), (0, u "B"), (2, u "hash"), (0, u "I"), (2, u "hashIsZero"), (0, u "Z"), (13, u "COMPACT_STRINGS"), (534, .class_ 576), (0, u "java/lang/CharSequence"), (22, u "CASE_INSENSITIVE_ORDER"), (0, u "Ljava/util/Comparator;"), (500, u "serialPersistentFields"), (0, u "[Ljava/io/ObjectStreamField;"), (0, .class_ 1104), (0, u "java/lang/String$CaseInsensitiveComparator"), (1, .class_ 1107), (0, u "java/io/Serializable"), (0, .class_ 1109), (0, u "java/lang/Comparable"), (0, .class_ 1111), (0, u "java/lang/constant/Constable"), (0, .class_ 1113), (0, u "java/lang/constant/ConstantDesc"), (2, u "serialVersionUID"), (0, u "J"), (3, u "REPL"), (0, u "C"), (2, u "LATIN1"), (1, u "UTF16")] 323

def k13m0 : Method := { name := "<init>", desc := "()V", sig := { parameters := [], returnType := none }, accessFlags := 1, code := none }
/-- java/lang/String -/
def k13 : Class := { plain "java/lang/String" (some 0) with
  accessFlags := 49
  interfaces := #[5, 4, 11, 3, 12]
  cf := some (fileOf pool13 10 #[.nestMembers #[1103]] #[{ accessFlags := 1, nameIndex := 5, descriptorIndex := 6, attributes := #[] }] 49 2 #[1106, 1108, 575, 1110, 1112] #[{ accessFlags := 18, nameIndex := 13, descriptorIndex := 14, attributes := #[] }, { accessFlags := 18, nameIndex := 17, descriptorIndex := 18, attributes := #[] }, { accessFlags := 2, nameIndex := 21, descriptorIndex := 22, attributes := #[] }, { accessFlags := 2, nameIndex := 25, descriptorIndex := 26, attributes := #[] }, { accessFlags := 26, nameIndex := 1116, descriptorIndex := 1117, attributes := #[] }, { accessFlags := 24, nameIndex := 40, descriptorIndex := 26, attributes := #[] }, { accessFlags := 26, nameIndex := 1101, descriptorIndex := 1102, attributes := #[] }, { accessFlags := 26, nameIndex := 1121, descriptorIndex := 1122, attributes := #[] }, { accessFlags := 25, nameIndex := 599, descriptorIndex := 600, attributes := #[] }, { accessFlags := 24, nameIndex := 1125, descriptorIndex := 18, attributes := #[] }, { accessFlags := 24, nameIndex := 1127, descriptorIndex := 18, attributes := #[] }])
  fields := #[{ name := "value", type := (.array .byte), accessFlags := 18, slot := 0, constantValue := 0 }, { name := "coder", type := .byte, accessFlags := 18, slot := 1, constantValue := 0 }, { name := "hash", type := .int, accessFlags := 2, slot := 2, constantValue := 0 }, { name := "hashIsZero", type := .boolean, accessFlags := 2, slot := 3, constantValue := 0 }, { name := "serialVersionUID", type := .long, accessFlags := 26, slot := 0, constantValue := 0 }, { name := "COMPACT_STRINGS", type := .boolean, accessFlags := 24, slot := 1, constantValue := 0 }, { name := "serialPersistentFields", type := (.array (.object "java/io/ObjectStreamField")), accessFlags := 26, slot := 2, constantValue := 0 }, { name := "REPL", type := .char, accessFlags := 26, slot := 3, constantValue := 0 }, { name := "CASE_INSENSITIVE_ORDER", type := (.object "java/util/Comparator"), accessFlags := 25, slot := 4, constantValue := 0 }, { name := "LATIN1", type := .byte, accessFlags := 24, slot := 5, constantValue := 0 }, { name := "UTF16", type := .byte, accessFlags := 24, slot := 6, constantValue := 0 }]
  methods := #[k13m0]
  instanceTypes := #[(.array .byte), .byte, .int, .boolean]
  staticTypes := #[.long, .boolean, (.array (.object "java/io/ObjectStreamField")), .char, (.object "java/util/Comparator"), .byte, .byte]
  resolved := Array.replicate 1451 none
  statics := none }

def pool14 : Array CpInfo := pool [(2, .class_ 4), (1, u "java/lang/Object"), (0, u "<init>"), (0, u "()V"), (35, .class_ 44), (1, u "java/util/Objects"), (0, u "requireNonNull"), (48, u "(Ljava/lang/Object;Ljava/lang/String;)Ljava/lang/Object;")] 89

def k14m0 : Method := { name := "<init>", desc := "()V", sig := { parameters := [], returnType := none }, accessFlags := 2, code := none }
def k14c1 : Code := { maxStack := 3, maxLocals := 2, code := jdk_31_method_11_code, exceptionTable := #[], attributes := #[] }
def k14m1 : Method := { name := "requireNonNull", desc := "(Ljava/lang/Object;Ljava/lang/String;)Ljava/lang/Object;", sig := { parameters := [(.object "java/lang/Object"), (.object "java/lang/String")], returnType := some (.object "java/lang/Object") }, accessFlags := 9, code := some k14c1 }
/-- java/util/Objects -/
def k14 : Class := { plain "java/util/Objects" (some 0) with
  accessFlags := 49
  interfaces := #[]
  cf := some (fileOf pool14 42 #[] #[{ accessFlags := 2, nameIndex := 5, descriptorIndex := 6, attributes := #[] }, { accessFlags := 9, nameIndex := 45, descriptorIndex := 94, attributes := #[] }] 49 2 #[] #[])
  fields := #[]
  methods := #[k14m0, k14m1]
  instanceTypes := #[]
  staticTypes := #[]
  resolved := Array.replicate 184 none
  statics := none }

def pool15 : Array CpInfo := pool [(1, .methodref 2 3), (0, .class_ 4), (0, .nameAndType 5 6), (0, u "java/lang/Object"), (0, u "<init>"), (0, u "()V"), (1, .class_ 10), (1, u "java/lang/Number"), (2, .class_ 14), (0, u "java/io/Serializable"), (0, u "serialVersionUID"), (0, u "J")] 20

def k15c0 : Code := { maxStack := 1, maxLocals := 1, code := jdk_18_method_1_code, exceptionTable := #[], attributes := #[] }
def k15m0 : Method := { name := "<init>", desc := "()V", sig := { parameters := [], returnType := none }, accessFlags := 1, code := some k15c0 }
/-- java/lang/Number -/
def k15 : Class := { plain "java/lang/Number" (some 0) with
  accessFlags := 1057
  interfaces := #[5]
  cf := some (fileOf pool15 8 #[] #[{ accessFlags := 1, nameIndex := 5, descriptorIndex := 6, attributes := #[] }] 1057 2 #[13] #[{ accessFlags := 26, nameIndex := 15, descriptorIndex := 16, attributes := #[] }])
  fields := #[{ name := "serialVersionUID", type := .long, accessFlags := 26, slot := 0, constantValue := 0 }]
  methods := #[k15m0]
  instanceTypes := #[]
  staticTypes := #[.long]
  resolved := Array.replicate 37 none
  statics := none }

def pool16 : Array CpInfo := pool [(1, .class_ 2), (0, u "java/lang/Integer"), (16, u "digits"), (0, u "[C"), (46, u "<init>"), (17, u "DigitOnes"), (0, u "[B"), (2, u "DigitTens"), (10, .nameAndType 67 101), (0, u "()V"), (85, u "valueOf"), (0, u "(I)Ljava/lang/Integer;"), (0, .class_ 190), (0, u "java/lang/Integer$IntegerCache"), (0, .fieldref 189 192), (0, .nameAndType 193 194), (0, u "high"), (0, u "I"), (0, .fieldref 189 196), (0, .nameAndType 197 198), (0, u "cache"), (0, u "[Ljava/lang/Integer;"), (0, .methodref 1 200), (0, .nameAndType 67 201), (0, u "(I)V"), (0, .methodref 203 100), (0, .class_ 204), (0, u "java/lang/Number"), (0, .fieldref 1 206), (0, .nameAndType 207 194), (0, u "value"), (94, u "TYPE"), (0, u "Ljava/lang/Class;"), (0, .class_ 305), (0, u "java/lang/Comparable"), (0, .class_ 307), (0, u "java/lang/constant/Constable"), (0, .class_ 309), (0, u "java/lang/constant/ConstantDesc"), (0, u "MIN_VALUE"), (1, u "MAX_VALUE"), (3, u "SIZE"), (1, u "BYTES"), (1, u "serialVersionUID"), (0, u "J")] 131

def k16c0 : Code := { maxStack := 3, maxLocals := 1, code := jdk_33_method_22_code, exceptionTable := #[], attributes := #[] }
def k16m0 : Method := { name := "valueOf", desc := "(I)Ljava/lang/Integer;", sig := { parameters := [.int], returnType := some (.object "java/lang/Integer") }, accessFlags := 9, code := some k16c0 }
def k16c1 : Code := { maxStack := 2, maxLocals := 2, code := jdk_33_method_23_code, exceptionTable := #[], attributes := #[] }
def k16m1 : Method := { name := "<init>", desc := "(I)V", sig := { parameters := [.int], returnType := none }, accessFlags := 1, code := some k16c1 }
/-- java/lang/Integer -/
def k16 : Class := { plain "java/lang/Integer" (some 15) with
  accessFlags := 49
  interfaces := #[4, 3, 12]
  cf := some (fileOf pool16 1 #[.nestMembers #[189]] #[{ accessFlags := 9, nameIndex := 187, descriptorIndex := 188, attributes := #[] }, { accessFlags := 1, nameIndex := 67, descriptorIndex := 201, attributes := #[] }] 49 203 #[304, 306, 308] #[{ accessFlags := 25, nameIndex := 310, descriptorIndex := 194, attributes := #[] }, { accessFlags := 25, nameIndex := 312, descriptorIndex := 194, attributes := #[] }, { accessFlags := 25, nameIndex := 302, descriptorIndex := 303, attributes := #[] }, { accessFlags := 24, nameIndex := 19, descriptorIndex := 20, attributes := #[] }, { accessFlags := 24, nameIndex := 89, descriptorIndex := 86, attributes := #[] }, { accessFlags := 24, nameIndex := 85, descriptorIndex := 86, attributes := #[] }, { accessFlags := 18, nameIndex := 207, descriptorIndex := 194, attributes := #[] }, { accessFlags := 25, nameIndex := 316, descriptorIndex := 194, attributes := #[] }, { accessFlags := 25, nameIndex := 318, descriptorIndex := 194, attributes := #[] }, { accessFlags := 26, nameIndex := 320, descriptorIndex := 321, attributes := #[] }])
  fields := #[{ name := "MIN_VALUE", type := .int, accessFlags := 25, slot := 0, constantValue := 0 }, { name := "MAX_VALUE", type := .int, accessFlags := 25, slot := 1, constantValue := 0 }, { name := "TYPE", type := (.object "java/lang/Class"), accessFlags := 25, slot := 2, constantValue := 0 }, { name := "digits", type := (.array .char), accessFlags := 24, slot := 3, constantValue := 0 }, { name := "DigitTens", type := (.array .byte), accessFlags := 24, slot := 4, constantValue := 0 }, { name := "DigitOnes", type := (.array .byte), accessFlags := 24, slot := 5, constantValue := 0 }, { name := "value", type := .int, accessFlags := 18, slot := 0, constantValue := 0 }, { name := "SIZE", type := .int, accessFlags := 25, slot := 6, constantValue := 0 }, { name := "BYTES", type := .int, accessFlags := 25, slot := 7, constantValue := 0 }, { name := "serialVersionUID", type := .long, accessFlags := 26, slot := 8, constantValue := 0 }]
  methods := #[k16m0, k16m1]
  instanceTypes := #[.int]
  staticTypes := #[.int, .int, (.object "java/lang/Class"), (.array .char), (.array .byte), (.array .byte), .int, .int, .long]
  resolved := Array.replicate 453 none
  statics := none }

def pool17 : Array CpInfo := pool [(2, .class_ 4), (1, u "java/lang/Object"), (0, u "<init>"), (0, u "()V"), (0, .class_ 8), (0, u "java/lang/Integer"), (7, .class_ 18), (1, u "java/lang/Integer$IntegerCache"), (0, u "$assertionsDisabled"), (0, u "Z"), (26, u "high"), (0, u "I"), (8, u "archivedCache"), (0, u "[Ljava/lang/Integer;"), (12, u "cache"), (0, u "low")] 27

def k17m0 : Method := { name := "<init>", desc := "()V", sig := { parameters := [], returnType := none }, accessFlags := 2, code := none }
/-- java/lang/Integer$IntegerCache -/
def k17 : Class := { plain "java/lang/Integer$IntegerCache" (some 0) with
  accessFlags := 48
  interfaces := #[]
  cf := some (fileOf pool17 16 #[.nestHost 7] #[{ accessFlags := 2, nameIndex := 5, descriptorIndex := 6, attributes := #[] }] 48 2 #[] #[{ accessFlags := 24, nameIndex := 72, descriptorIndex := 48, attributes := #[] }, { accessFlags := 24, nameIndex := 47, descriptorIndex := 48, attributes := #[] }, { accessFlags := 24, nameIndex := 71, descriptorIndex := 58, attributes := #[] }, { accessFlags := 8, nameIndex := 57, descriptorIndex := 58, attributes := #[] }, { accessFlags := 4120, nameIndex := 19, descriptorIndex := 20, attributes := #[] }])
  fields := #[{ name := "low", type := .int, accessFlags := 24, slot := 0, constantValue := 0 }, { name := "high", type := .int, accessFlags := 24, slot := 1, constantValue := 0 }, { name := "cache", type := (.array (.object "java/lang/Integer")), accessFlags := 24, slot := 2, constantValue := 0 }, { name := "archivedCache", type := (.array (.object "java/lang/Integer")), accessFlags := 8, slot := 3, constantValue := 0 }, { name := "$assertionsDisabled", type := .boolean, accessFlags := 4120, slot := 4, constantValue := 0 }]
  methods := #[k17m0]
  instanceTypes := #[]
  staticTypes := #[.int, .int, (.array (.object "java/lang/Integer")), (.array (.object "java/lang/Integer")), .boolean]
  resolved := Array.replicate 100 none
  statics := some 1 }

def pool18 : Array CpInfo := pool [(1, u "java/lang/Cloneable"), (0, .class_ 1), (0, u "java/lang/Object"), (0, .class_ 3)] 3

/-- java/lang/Cloneable -/
def k18 : Class := { plain "java/lang/Cloneable" (some 0) with
  accessFlags := 1537
  interfaces := #[]
  cf := some (fileOf pool18 2 #[] #[] 1537 4 #[] #[])
  fields := #[]
  methods := #[]
  instanceTypes := #[]
  staticTypes := #[]
  resolved := Array.replicate 8 none
  statics := none }

/-- the primitive byte -/
def k19 : Class := { plain "byte" none with kind := .primitive 'B', accessFlags := 0x411 }
/-- [B -/
def k20 : Class := { plain "[B" (some 0) with kind := .array 19 .byte, interfaces := #[18, 5], accessFlags := 1041 }

/-- the primitive int -/
def k21 : Class := { plain "int" none with kind := .primitive 'I', accessFlags := 0x411 }
/-- [I -/
def k22 : Class := { plain "[I" (some 0) with kind := .array 21 .int, interfaces := #[18, 5], accessFlags := 1041 }

/-- [Ljava/lang/Integer; -/
def k23 : Class := { plain "[Ljava/lang/Integer;" (some 0) with kind := .array 16 (.object "java/lang/Integer"), interfaces := #[18, 5], accessFlags := 1041 }

def heap : Heap := #[{ cls := 8, slots := #[.ref 259, .ref 260, .ref 261, .null], vm := .statics 8 },
  { cls := 17, slots := #[.int 0, .int 127, .ref 2, .null, .int 0], vm := .statics 17 },
  { cls := 23, slots := #[.ref 3, .ref 4, .ref 5, .ref 6, .ref 7, .ref 8, .ref 9, .ref 10, .ref 11, .ref 12, .ref 13, .ref 14, .ref 15, .ref 16, .ref 17, .ref 18, .ref 19, .ref 20, .ref 21, .ref 22, .ref 23, .ref 24, .ref 25, .ref 26, .ref 27, .ref 28, .ref 29, .ref 30, .ref 31, .ref 32, .ref 33, .ref 34, .ref 35, .ref 36, .ref 37, .ref 38, .ref 39, .ref 40, .ref 41, .ref 42, .ref 43, .ref 44, .ref 45, .ref 46, .ref 47, .ref 48, .ref 49, .ref 50, .ref 51, .ref 52, .ref 53, .ref 54, .ref 55, .ref 56, .ref 57, .ref 58, .ref 59, .ref 60, .ref 61, .ref 62, .ref 63, .ref 64, .ref 65, .ref 66, .ref 67, .ref 68, .ref 69, .ref 70, .ref 71, .ref 72, .ref 73, .ref 74, .ref 75, .ref 76, .ref 77, .ref 78, .ref 79, .ref 80, .ref 81, .ref 82, .ref 83, .ref 84, .ref 85, .ref 86, .ref 87, .ref 88, .ref 89, .ref 90, .ref 91, .ref 92, .ref 93, .ref 94, .ref 95, .ref 96, .ref 97, .ref 98, .ref 99, .ref 100, .ref 101, .ref 102, .ref 103, .ref 104, .ref 105, .ref 106, .ref 107, .ref 108, .ref 109, .ref 110, .ref 111, .ref 112, .ref 113, .ref 114, .ref 115, .ref 116, .ref 117, .ref 118, .ref 119, .ref 120, .ref 121, .ref 122, .ref 123, .ref 124, .ref 125, .ref 126, .ref 127, .ref 128, .ref 129, .ref 130, .ref 131, .ref 132, .ref 133, .ref 134, .ref 135, .ref 136, .ref 137, .ref 138, .ref 139, .ref 140, .ref 141, .ref 142, .ref 143, .ref 144, .ref 145, .ref 146, .ref 147, .ref 148, .ref 149, .ref 150, .ref 151, .ref 152, .ref 153, .ref 154, .ref 155, .ref 156, .ref 157, .ref 158, .ref 159, .ref 160, .ref 161, .ref 162, .ref 163, .ref 164, .ref 165, .ref 166, .ref 167, .ref 168, .ref 169, .ref 170, .ref 171, .ref 172, .ref 173, .ref 174, .ref 175, .ref 176, .ref 177, .ref 178, .ref 179, .ref 180, .ref 181, .ref 182, .ref 183, .ref 184, .ref 185, .ref 186, .ref 187, .ref 188, .ref 189, .ref 190, .ref 191, .ref 192, .ref 193, .ref 194, .ref 195, .ref 196, .ref 197, .ref 198, .ref 199, .ref 200, .ref 201, .ref 202, .ref 203, .ref 204, .ref 205, .ref 206, .ref 207, .ref 208, .ref 209, .ref 210, .ref 211, .ref 212, .ref 213, .ref 214, .ref 215, .ref 216, .ref 217, .ref 218, .ref 219, .ref 220, .ref 221, .ref 222, .ref 223, .ref 224, .ref 225, .ref 226, .ref 227, .ref 228, .ref 229, .ref 230, .ref 231, .ref 232, .ref 233, .ref 234, .ref 235, .ref 236, .ref 237, .ref 238, .ref 239, .ref 240, .ref 241, .ref 242, .ref 243, .ref 244, .ref 245, .ref 246, .ref 247, .ref 248, .ref 249, .ref 250, .ref 251, .ref 252, .ref 253, .ref 254, .ref 255, .ref 256, .ref 257, .ref 258], vm := .none },
  { cls := 16, slots := #[.int (-128)], vm := .none },
  { cls := 16, slots := #[.int (-127)], vm := .none },
  { cls := 16, slots := #[.int (-126)], vm := .none },
  { cls := 16, slots := #[.int (-125)], vm := .none },
  { cls := 16, slots := #[.int (-124)], vm := .none },
  { cls := 16, slots := #[.int (-123)], vm := .none },
  { cls := 16, slots := #[.int (-122)], vm := .none },
  { cls := 16, slots := #[.int (-121)], vm := .none },
  { cls := 16, slots := #[.int (-120)], vm := .none },
  { cls := 16, slots := #[.int (-119)], vm := .none },
  { cls := 16, slots := #[.int (-118)], vm := .none },
  { cls := 16, slots := #[.int (-117)], vm := .none },
  { cls := 16, slots := #[.int (-116)], vm := .none },
  { cls := 16, slots := #[.int (-115)], vm := .none },
  { cls := 16, slots := #[.int (-114)], vm := .none },
  { cls := 16, slots := #[.int (-113)], vm := .none },
  { cls := 16, slots := #[.int (-112)], vm := .none },
  { cls := 16, slots := #[.int (-111)], vm := .none },
  { cls := 16, slots := #[.int (-110)], vm := .none },
  { cls := 16, slots := #[.int (-109)], vm := .none },
  { cls := 16, slots := #[.int (-108)], vm := .none },
  { cls := 16, slots := #[.int (-107)], vm := .none },
  { cls := 16, slots := #[.int (-106)], vm := .none },
  { cls := 16, slots := #[.int (-105)], vm := .none },
  { cls := 16, slots := #[.int (-104)], vm := .none },
  { cls := 16, slots := #[.int (-103)], vm := .none },
  { cls := 16, slots := #[.int (-102)], vm := .none },
  { cls := 16, slots := #[.int (-101)], vm := .none },
  { cls := 16, slots := #[.int (-100)], vm := .none },
  { cls := 16, slots := #[.int (-99)], vm := .none },
  { cls := 16, slots := #[.int (-98)], vm := .none },
  { cls := 16, slots := #[.int (-97)], vm := .none },
  { cls := 16, slots := #[.int (-96)], vm := .none },
  { cls := 16, slots := #[.int (-95)], vm := .none },
  { cls := 16, slots := #[.int (-94)], vm := .none },
  { cls := 16, slots := #[.int (-93)], vm := .none },
  { cls := 16, slots := #[.int (-92)], vm := .none },
  { cls := 16, slots := #[.int (-91)], vm := .none },
  { cls := 16, slots := #[.int (-90)], vm := .none },
  { cls := 16, slots := #[.int (-89)], vm := .none },
  { cls := 16, slots := #[.int (-88)], vm := .none },
  { cls := 16, slots := #[.int (-87)], vm := .none },
  { cls := 16, slots := #[.int (-86)], vm := .none },
  { cls := 16, slots := #[.int (-85)], vm := .none },
  { cls := 16, slots := #[.int (-84)], vm := .none },
  { cls := 16, slots := #[.int (-83)], vm := .none },
  { cls := 16, slots := #[.int (-82)], vm := .none },
  { cls := 16, slots := #[.int (-81)], vm := .none },
  { cls := 16, slots := #[.int (-80)], vm := .none },
  { cls := 16, slots := #[.int (-79)], vm := .none },
  { cls := 16, slots := #[.int (-78)], vm := .none },
  { cls := 16, slots := #[.int (-77)], vm := .none },
  { cls := 16, slots := #[.int (-76)], vm := .none },
  { cls := 16, slots := #[.int (-75)], vm := .none },
  { cls := 16, slots := #[.int (-74)], vm := .none },
  { cls := 16, slots := #[.int (-73)], vm := .none },
  { cls := 16, slots := #[.int (-72)], vm := .none },
  { cls := 16, slots := #[.int (-71)], vm := .none },
  { cls := 16, slots := #[.int (-70)], vm := .none },
  { cls := 16, slots := #[.int (-69)], vm := .none },
  { cls := 16, slots := #[.int (-68)], vm := .none },
  { cls := 16, slots := #[.int (-67)], vm := .none },
  { cls := 16, slots := #[.int (-66)], vm := .none },
  { cls := 16, slots := #[.int (-65)], vm := .none },
  { cls := 16, slots := #[.int (-64)], vm := .none },
  { cls := 16, slots := #[.int (-63)], vm := .none },
  { cls := 16, slots := #[.int (-62)], vm := .none },
  { cls := 16, slots := #[.int (-61)], vm := .none },
  { cls := 16, slots := #[.int (-60)], vm := .none },
  { cls := 16, slots := #[.int (-59)], vm := .none },
  { cls := 16, slots := #[.int (-58)], vm := .none },
  { cls := 16, slots := #[.int (-57)], vm := .none },
  { cls := 16, slots := #[.int (-56)], vm := .none },
  { cls := 16, slots := #[.int (-55)], vm := .none },
  { cls := 16, slots := #[.int (-54)], vm := .none },
  { cls := 16, slots := #[.int (-53)], vm := .none },
  { cls := 16, slots := #[.int (-52)], vm := .none },
  { cls := 16, slots := #[.int (-51)], vm := .none },
  { cls := 16, slots := #[.int (-50)], vm := .none },
  { cls := 16, slots := #[.int (-49)], vm := .none },
  { cls := 16, slots := #[.int (-48)], vm := .none },
  { cls := 16, slots := #[.int (-47)], vm := .none },
  { cls := 16, slots := #[.int (-46)], vm := .none },
  { cls := 16, slots := #[.int (-45)], vm := .none },
  { cls := 16, slots := #[.int (-44)], vm := .none },
  { cls := 16, slots := #[.int (-43)], vm := .none },
  { cls := 16, slots := #[.int (-42)], vm := .none },
  { cls := 16, slots := #[.int (-41)], vm := .none },
  { cls := 16, slots := #[.int (-40)], vm := .none },
  { cls := 16, slots := #[.int (-39)], vm := .none },
  { cls := 16, slots := #[.int (-38)], vm := .none },
  { cls := 16, slots := #[.int (-37)], vm := .none },
  { cls := 16, slots := #[.int (-36)], vm := .none },
  { cls := 16, slots := #[.int (-35)], vm := .none },
  { cls := 16, slots := #[.int (-34)], vm := .none },
  { cls := 16, slots := #[.int (-33)], vm := .none },
  { cls := 16, slots := #[.int (-32)], vm := .none },
  { cls := 16, slots := #[.int (-31)], vm := .none },
  { cls := 16, slots := #[.int (-30)], vm := .none },
  { cls := 16, slots := #[.int (-29)], vm := .none },
  { cls := 16, slots := #[.int (-28)], vm := .none },
  { cls := 16, slots := #[.int (-27)], vm := .none },
  { cls := 16, slots := #[.int (-26)], vm := .none },
  { cls := 16, slots := #[.int (-25)], vm := .none },
  { cls := 16, slots := #[.int (-24)], vm := .none },
  { cls := 16, slots := #[.int (-23)], vm := .none },
  { cls := 16, slots := #[.int (-22)], vm := .none },
  { cls := 16, slots := #[.int (-21)], vm := .none },
  { cls := 16, slots := #[.int (-20)], vm := .none },
  { cls := 16, slots := #[.int (-19)], vm := .none },
  { cls := 16, slots := #[.int (-18)], vm := .none },
  { cls := 16, slots := #[.int (-17)], vm := .none },
  { cls := 16, slots := #[.int (-16)], vm := .none },
  { cls := 16, slots := #[.int (-15)], vm := .none },
  { cls := 16, slots := #[.int (-14)], vm := .none },
  { cls := 16, slots := #[.int (-13)], vm := .none },
  { cls := 16, slots := #[.int (-12)], vm := .none },
  { cls := 16, slots := #[.int (-11)], vm := .none },
  { cls := 16, slots := #[.int (-10)], vm := .none },
  { cls := 16, slots := #[.int (-9)], vm := .none },
  { cls := 16, slots := #[.int (-8)], vm := .none },
  { cls := 16, slots := #[.int (-7)], vm := .none },
  { cls := 16, slots := #[.int (-6)], vm := .none },
  { cls := 16, slots := #[.int (-5)], vm := .none },
  { cls := 16, slots := #[.int (-4)], vm := .none },
  { cls := 16, slots := #[.int (-3)], vm := .none },
  { cls := 16, slots := #[.int (-2)], vm := .none },
  { cls := 16, slots := #[.int (-1)], vm := .none },
  { cls := 16, slots := #[.int 0], vm := .none },
  { cls := 16, slots := #[.int 1], vm := .none },
  { cls := 16, slots := #[.int 2], vm := .none },
  { cls := 16, slots := #[.int 3], vm := .none },
  { cls := 16, slots := #[.int 4], vm := .none },
  { cls := 16, slots := #[.int 5], vm := .none },
  { cls := 16, slots := #[.int 6], vm := .none },
  { cls := 16, slots := #[.int 7], vm := .none },
  { cls := 16, slots := #[.int 8], vm := .none },
  { cls := 16, slots := #[.int 9], vm := .none },
  { cls := 16, slots := #[.int 10], vm := .none },
  { cls := 16, slots := #[.int 11], vm := .none },
  { cls := 16, slots := #[.int 12], vm := .none },
  { cls := 16, slots := #[.int 13], vm := .none },
  { cls := 16, slots := #[.int 14], vm := .none },
  { cls := 16, slots := #[.int 15], vm := .none },
  { cls := 16, slots := #[.int 16], vm := .none },
  { cls := 16, slots := #[.int 17], vm := .none },
  { cls := 16, slots := #[.int 18], vm := .none },
  { cls := 16, slots := #[.int 19], vm := .none },
  { cls := 16, slots := #[.int 20], vm := .none },
  { cls := 16, slots := #[.int 21], vm := .none },
  { cls := 16, slots := #[.int 22], vm := .none },
  { cls := 16, slots := #[.int 23], vm := .none },
  { cls := 16, slots := #[.int 24], vm := .none },
  { cls := 16, slots := #[.int 25], vm := .none },
  { cls := 16, slots := #[.int 26], vm := .none },
  { cls := 16, slots := #[.int 27], vm := .none },
  { cls := 16, slots := #[.int 28], vm := .none },
  { cls := 16, slots := #[.int 29], vm := .none },
  { cls := 16, slots := #[.int 30], vm := .none },
  { cls := 16, slots := #[.int 31], vm := .none },
  { cls := 16, slots := #[.int 32], vm := .none },
  { cls := 16, slots := #[.int 33], vm := .none },
  { cls := 16, slots := #[.int 34], vm := .none },
  { cls := 16, slots := #[.int 35], vm := .none },
  { cls := 16, slots := #[.int 36], vm := .none },
  { cls := 16, slots := #[.int 37], vm := .none },
  { cls := 16, slots := #[.int 38], vm := .none },
  { cls := 16, slots := #[.int 39], vm := .none },
  { cls := 16, slots := #[.int 40], vm := .none },
  { cls := 16, slots := #[.int 41], vm := .none },
  { cls := 16, slots := #[.int 42], vm := .none },
  { cls := 16, slots := #[.int 43], vm := .none },
  { cls := 16, slots := #[.int 44], vm := .none },
  { cls := 16, slots := #[.int 45], vm := .none },
  { cls := 16, slots := #[.int 46], vm := .none },
  { cls := 16, slots := #[.int 47], vm := .none },
  { cls := 16, slots := #[.int 48], vm := .none },
  { cls := 16, slots := #[.int 49], vm := .none },
  { cls := 16, slots := #[.int 50], vm := .none },
  { cls := 16, slots := #[.int 51], vm := .none },
  { cls := 16, slots := #[.int 52], vm := .none },
  { cls := 16, slots := #[.int 53], vm := .none },
  { cls := 16, slots := #[.int 54], vm := .none },
  { cls := 16, slots := #[.int 55], vm := .none },
  { cls := 16, slots := #[.int 56], vm := .none },
  { cls := 16, slots := #[.int 57], vm := .none },
  { cls := 16, slots := #[.int 58], vm := .none },
  { cls := 16, slots := #[.int 59], vm := .none },
  { cls := 16, slots := #[.int 60], vm := .none },
  { cls := 16, slots := #[.int 61], vm := .none },
  { cls := 16, slots := #[.int 62], vm := .none },
  { cls := 16, slots := #[.int 63], vm := .none },
  { cls := 16, slots := #[.int 64], vm := .none },
  { cls := 16, slots := #[.int 65], vm := .none },
  { cls := 16, slots := #[.int 66], vm := .none },
  { cls := 16, slots := #[.int 67], vm := .none },
  { cls := 16, slots := #[.int 68], vm := .none },
  { cls := 16, slots := #[.int 69], vm := .none },
  { cls := 16, slots := #[.int 70], vm := .none },
  { cls := 16, slots := #[.int 71], vm := .none },
  { cls := 16, slots := #[.int 72], vm := .none },
  { cls := 16, slots := #[.int 73], vm := .none },
  { cls := 16, slots := #[.int 74], vm := .none },
  { cls := 16, slots := #[.int 75], vm := .none },
  { cls := 16, slots := #[.int 76], vm := .none },
  { cls := 16, slots := #[.int 77], vm := .none },
  { cls := 16, slots := #[.int 78], vm := .none },
  { cls := 16, slots := #[.int 79], vm := .none },
  { cls := 16, slots := #[.int 80], vm := .none },
  { cls := 16, slots := #[.int 81], vm := .none },
  { cls := 16, slots := #[.int 82], vm := .none },
  { cls := 16, slots := #[.int 83], vm := .none },
  { cls := 16, slots := #[.int 84], vm := .none },
  { cls := 16, slots := #[.int 85], vm := .none },
  { cls := 16, slots := #[.int 86], vm := .none },
  { cls := 16, slots := #[.int 87], vm := .none },
  { cls := 16, slots := #[.int 88], vm := .none },
  { cls := 16, slots := #[.int 89], vm := .none },
  { cls := 16, slots := #[.int 90], vm := .none },
  { cls := 16, slots := #[.int 91], vm := .none },
  { cls := 16, slots := #[.int 92], vm := .none },
  { cls := 16, slots := #[.int 93], vm := .none },
  { cls := 16, slots := #[.int 94], vm := .none },
  { cls := 16, slots := #[.int 95], vm := .none },
  { cls := 16, slots := #[.int 96], vm := .none },
  { cls := 16, slots := #[.int 97], vm := .none },
  { cls := 16, slots := #[.int 98], vm := .none },
  { cls := 16, slots := #[.int 99], vm := .none },
  { cls := 16, slots := #[.int 100], vm := .none },
  { cls := 16, slots := #[.int 101], vm := .none },
  { cls := 16, slots := #[.int 102], vm := .none },
  { cls := 16, slots := #[.int 103], vm := .none },
  { cls := 16, slots := #[.int 104], vm := .none },
  { cls := 16, slots := #[.int 105], vm := .none },
  { cls := 16, slots := #[.int 106], vm := .none },
  { cls := 16, slots := #[.int 107], vm := .none },
  { cls := 16, slots := #[.int 108], vm := .none },
  { cls := 16, slots := #[.int 109], vm := .none },
  { cls := 16, slots := #[.int 110], vm := .none },
  { cls := 16, slots := #[.int 111], vm := .none },
  { cls := 16, slots := #[.int 112], vm := .none },
  { cls := 16, slots := #[.int 113], vm := .none },
  { cls := 16, slots := #[.int 114], vm := .none },
  { cls := 16, slots := #[.int 115], vm := .none },
  { cls := 16, slots := #[.int 116], vm := .none },
  { cls := 16, slots := #[.int 117], vm := .none },
  { cls := 16, slots := #[.int 118], vm := .none },
  { cls := 16, slots := #[.int 119], vm := .none },
  { cls := 16, slots := #[.int 120], vm := .none },
  { cls := 16, slots := #[.int 121], vm := .none },
  { cls := 16, slots := #[.int 122], vm := .none },
  { cls := 16, slots := #[.int 123], vm := .none },
  { cls := 16, slots := #[.int 124], vm := .none },
  { cls := 16, slots := #[.int 125], vm := .none },
  { cls := 16, slots := #[.int 126], vm := .none },
  { cls := 16, slots := #[.int 127], vm := .none },
  { cls := 8, slots := #[.null, .int 0, .int 0], vm := .none },
  { cls := 8, slots := #[.null, .int 1, .int 0], vm := .none },
  { cls := 8, slots := #[.null, .int 2, .int 0], vm := .none }]
def classes : Array Class := #[k0, k1, k2, k3, k4, k5, k6, k7, k8, k9, k10, k11, k12, k13, k14, k15, k16, k17, k18, k19, k20, k21, k22, k23]
def interned : List (Array UInt16 × Addr) := []
def slotsUsed : Nat := 530
def theMethod : MethodId := ⟨1, 2⟩
def args0 : Array Value := #[.int 5, .int 6, .int 7, .int 8, .int 9, .int 10]
def aboutOver (below : List Frame) : State where
  vm := { classes := classes, interned := interned.toArray }
  heap := heap
  slotsUsed := slotsUsed
  threads := #[{ frames := .invoking theMethod args0 :: below }]
def below0 : List Frame := [.native { method := ⟨0, 0⟩, args := #[] }]
def about1 : State := aboutOver below0
def p0 : Program := .bare "" "" ""
def e0 : Env := launch0.env 0 0 0
theorem w_frames : about1.frames = Frame.invoking theMethod args0 :: below0 := rfl
set_option maxRecDepth 65536 in
theorem w_args : argsFit about1.vm theMethod args0 = true := by decide +kernel
set_option maxRecDepth 65536 in
theorem w_heap : heapFits about1 = true := by decide +kernel
set_option maxRecDepth 65536 in
theorem w_runnable : about1.curStatus? = some .runnable := by decide +kernel
set_option maxRecDepth 65536 in
theorem w_alone : about1.alone = true := by decide +kernel
set_option maxRecDepth 65536 in
theorem w_named : about1.methodNamed? x = some theMethod := by decide +kernel
set_option maxRecDepth 65536 in
theorem w_hears : about1.hears theMethod below0 = true := by decide +kernel
set_option maxRecDepth 65536 in
theorem w_ripe : about1.ripe theMethod args0 below0 = true := by decide +kernel
theorem w_running : about1.status = .running := rfl
set_option maxRecDepth 65536 in
theorem w_room : about1.hasRoom e0.platform room_1 = true :=
  launch0.hasRoom_least _ room_1 (by decide +kernel) (by decide +kernel) (by decide +kernel) (by decide +kernel) (by decide +kernel) (by decide +kernel)
theorem allAtoms_all (ts : List Jvm.Cond) (a : Array Jvm.Value) (st : Jvm.State) : (allAtoms ts).before a st = ts.all (fun c => c.before a st) := by
  induction ts with
  | nil => rfl
  | cons c t ih =>
    show (Jvm.Cond.and c (allAtoms t)).before a st = _
    rw [Jvm.Cond.before_and, ih, List.all_cons]
def words1 : List Jvm.Cond := Jvm.Cond.code x code maxLocals ret :: tables_1
/-- a 'code' word, met by the world's own term for the bytes: nothing is compared byte by byte -/
theorem code_word {y : MethodName} {bytes : ByteArray} {mx : Nat} {rt : Option FieldType} {a : Array Value} {s : State} {m : MethodId} {meth : Method} {c : Code} (h1 : s.methodNamed? y = some m) (h2 : s.vm.method? m = some meth) (h3 : meth.code = some c) (h4 : c.code = bytes)
    (h5 : (c.maxLocals == mx && c.exceptionTable.isEmpty && decide (c.maxStack ≤ mostOperands) && decide (meth.sig.returnType = rt) && !meth.locks && decide (parseMethodDescriptor y.desc = some meth.sig)) = true) : (Jvm.Cond.code y bytes mx rt).before a s = true := by
  simp only [Bool.and_eq_true, beq_iff_eq, Bool.not_eq_true', decide_eq_true_eq] at h5
  obtain ⟨⟨⟨⟨⟨g1, g2⟩, g3⟩, g4⟩, g5⟩, g6⟩ := h5
  simp [Cond.before, Cond.holds, Cond.value, h1, h2, h3, h4, g1, g2, g3, g4, g5, g6]
def isCode : Jvm.Cond → Bool
  | .code _ _ _ _ => true
  | _ => false
theorem all_split {L : List Jvm.Cond} {P : Jvm.Cond → Bool} (h1 : L.all (fun c => isCode c || P c) = true) (h2 : ∀ c ∈ L.filter isCode, P c = true) : L.all P = true := by
  refine List.all_eq_true.mpr fun c hc => ?_
  have h := List.all_eq_true.mp h1 c hc
  rcases Bool.eq_false_or_eq_true (isCode c) with hi | hi
  · exact h2 c (List.mem_filter.mpr ⟨hc, hi⟩)
  · simpa [hi] using h
set_option maxRecDepth 65536 in
theorem w_c0 : (Jvm.Cond.code x code maxLocals ret).before args0 about1 = true := code_word (m := ⟨1, 2⟩) (meth := k1m2) (c := k1c2) (by decide +kernel) rfl rfl rfl (by decide +kernel)
set_option maxRecDepth 65536 in
theorem w_c1 : (Jvm.Cond.code ({ cls := "java/lang/Math", name := "max", desc := "(II)I" } : Jvm.MethodName) jdk_29_method_65_code (2 : Nat) (Option.some Jvm.ClassFile.FieldType.int)).before args0 about1 = true := code_word (m := ⟨2, 1⟩) (meth := k2m1) (c := k2c1) (by decide +kernel) rfl rfl rfl (by decide +kernel)
set_option maxRecDepth 65536 in
theorem w_c2 : (Jvm.Cond.code ({ cls := "com/example/fenceline/fenceline/litmus/PlacedFenceEqualsPinLaw", name := "fenceOf", desc := "(I)Lcom/example/fenceline/fenceline/litmus/Instruction$Fence;" } : Jvm.MethodName) method_2_code (2 : Nat) (Option.some (Jvm.ClassFile.FieldType.object "com/example/fenceline/fenceline/litmus/Instruction$Fence"))).before args0 about1 = true := code_word (m := ⟨1, 1⟩) (meth := k1m1) (c := k1c1) (by decide +kernel) rfl rfl rfl (by decide +kernel)
set_option maxRecDepth 65536 in
theorem w_c3 : (Jvm.Cond.code ({ cls := "com/example/fenceline/fenceline/litmus/PlacedFence", name := "<init>", desc := "(IILcom/example/fenceline/fenceline/litmus/Instruction$Fence;)V" } : Jvm.MethodName) prog_19_method_1_code (4 : Nat) (Option.none : Option Jvm.ClassFile.FieldType)).before args0 about1 = true := code_word (m := ⟨10, 0⟩) (meth := k10m0) (c := k10c0) (by decide +kernel) rfl rfl rfl (by decide +kernel)
set_option maxRecDepth 65536 in
theorem w_c4 : (Jvm.Cond.code ({ cls := "java/lang/Record", name := "<init>", desc := "()V" } : Jvm.MethodName) jdk_30_method_1_code (1 : Nat) (Option.none : Option Jvm.ClassFile.FieldType)).before args0 about1 = true := code_word (m := ⟨9, 0⟩) (meth := k9m0) (c := k9c0) (by decide +kernel) rfl rfl rfl (by decide +kernel)
set_option maxRecDepth 65536 in
theorem w_c5 : (Jvm.Cond.code ({ cls := "java/lang/Object", name := "<init>", desc := "()V" } : Jvm.MethodName) object_method_1_code (1 : Nat) (Option.none : Option Jvm.ClassFile.FieldType)).before args0 about1 = true := code_word (m := ⟨0, 0⟩) (meth := k0m0) (c := k0c0) (by decide +kernel) rfl rfl rfl (by decide +kernel)
set_option maxRecDepth 65536 in
theorem w_c6 : (Jvm.Cond.code ({ cls := "java/util/Objects", name := "requireNonNull", desc := "(Ljava/lang/Object;Ljava/lang/String;)Ljava/lang/Object;" } : Jvm.MethodName) jdk_31_method_11_code (2 : Nat) (Option.some (Jvm.ClassFile.FieldType.object "java/lang/Object"))).before args0 about1 = true := code_word (m := ⟨14, 1⟩) (meth := k14m1) (c := k14c1) (by decide +kernel) rfl rfl rfl (by decide +kernel)
set_option maxRecDepth 65536 in
theorem w_c7 : (Jvm.Cond.code ({ cls := "com/example/fenceline/fenceline/litmus/PlacedFence", name := "equals", desc := "(Ljava/lang/Object;)Z" } : Jvm.MethodName) prog_19_method_2_code (3 : Nat) (Option.some Jvm.ClassFile.FieldType.boolean)).before args0 about1 = true := code_word (m := ⟨10, 1⟩) (meth := k10m1) (c := k10c1) (by decide +kernel) rfl rfl rfl (by decide +kernel)
set_option maxRecDepth 65536 in
theorem w_c8 : (Jvm.Cond.code ({ cls := "java/lang/Integer", name := "valueOf", desc := "(I)Ljava/lang/Integer;" } : Jvm.MethodName) jdk_33_method_22_code (1 : Nat) (Option.some (Jvm.ClassFile.FieldType.object "java/lang/Integer"))).before args0 about1 = true := code_word (m := ⟨16, 0⟩) (meth := k16m0) (c := k16c0) (by decide +kernel) rfl rfl rfl (by decide +kernel)
set_option maxRecDepth 65536 in
theorem w_c9 : (Jvm.Cond.code ({ cls := "java/lang/Integer", name := "<init>", desc := "(I)V" } : Jvm.MethodName) jdk_33_method_23_code (2 : Nat) (Option.none : Option Jvm.ClassFile.FieldType)).before args0 about1 = true := code_word (m := ⟨16, 1⟩) (meth := k16m1) (c := k16c1) (by decide +kernel) rfl rfl rfl (by decide +kernel)
set_option maxRecDepth 65536 in
theorem w_c10 : (Jvm.Cond.code ({ cls := "java/lang/Number", name := "<init>", desc := "()V" } : Jvm.MethodName) jdk_18_method_1_code (1 : Nat) (Option.none : Option Jvm.ClassFile.FieldType)).before args0 about1 = true := code_word (m := ⟨15, 0⟩) (meth := k15m0) (c := k15c0) (by decide +kernel) rfl rfl rfl (by decide +kernel)
def codes1 : List Jvm.Cond := [Jvm.Cond.code x code maxLocals ret, Jvm.Cond.code ({ cls := "java/lang/Math", name := "max", desc := "(II)I" } : Jvm.MethodName) jdk_29_method_65_code (2 : Nat) (Option.some Jvm.ClassFile.FieldType.int), Jvm.Cond.code ({ cls := "com/example/fenceline/fenceline/litmus/PlacedFenceEqualsPinLaw", name := "fenceOf", desc := "(I)Lcom/example/fenceline/fenceline/litmus/Instruction$Fence;" } : Jvm.MethodName) method_2_code (2 : Nat) (Option.some (Jvm.ClassFile.FieldType.object "com/example/fenceline/fenceline/litmus/Instruction$Fence")), Jvm.Cond.code ({ cls := "com/example/fenceline/fenceline/litmus/PlacedFence", name := "<init>", desc := "(IILcom/example/fenceline/fenceline/litmus/Instruction$Fence;)V" } : Jvm.MethodName) prog_19_method_1_code (4 : Nat) (Option.none : Option Jvm.ClassFile.FieldType), Jvm.Cond.code ({ cls := "java/lang/Record", name := "<init>", desc := "()V" } : Jvm.MethodName) jdk_30_method_1_code (1 : Nat) (Option.none : Option Jvm.ClassFile.FieldType), Jvm.Cond.code ({ cls := "java/lang/Object", name := "<init>", desc := "()V" } : Jvm.MethodName) object_method_1_code (1 : Nat) (Option.none : Option Jvm.ClassFile.FieldType), Jvm.Cond.code ({ cls := "java/util/Objects", name := "requireNonNull", desc := "(Ljava/lang/Object;Ljava/lang/String;)Ljava/lang/Object;" } : Jvm.MethodName) jdk_31_method_11_code (2 : Nat) (Option.some (Jvm.ClassFile.FieldType.object "java/lang/Object")), Jvm.Cond.code ({ cls := "com/example/fenceline/fenceline/litmus/PlacedFence", name := "equals", desc := "(Ljava/lang/Object;)Z" } : Jvm.MethodName) prog_19_method_2_code (3 : Nat) (Option.some Jvm.ClassFile.FieldType.boolean), Jvm.Cond.code ({ cls := "java/lang/Integer", name := "valueOf", desc := "(I)Ljava/lang/Integer;" } : Jvm.MethodName) jdk_33_method_22_code (1 : Nat) (Option.some (Jvm.ClassFile.FieldType.object "java/lang/Integer")), Jvm.Cond.code ({ cls := "java/lang/Integer", name := "<init>", desc := "(I)V" } : Jvm.MethodName) jdk_33_method_23_code (2 : Nat) (Option.none : Option Jvm.ClassFile.FieldType), Jvm.Cond.code ({ cls := "java/lang/Number", name := "<init>", desc := "()V" } : Jvm.MethodName) jdk_18_method_1_code (1 : Nat) (Option.none : Option Jvm.ClassFile.FieldType)]
set_option maxRecDepth 65536 in
theorem codes_eq : words1.filter isCode = codes1 := rfl
theorem w_codes : ∀ c ∈ words1.filter isCode, c.before args0 about1 = true := by
  rw [codes_eq]
  intro c hc
  simp only [codes1, List.mem_cons, List.not_mem_nil, or_false] at hc
  rcases hc with rfl | rfl | rfl | rfl | rfl | rfl | rfl | rfl | rfl | rfl | rfl
  · exact w_c0
  · exact w_c1
  · exact w_c2
  · exact w_c3
  · exact w_c4
  · exact w_c5
  · exact w_c6
  · exact w_c7
  · exact w_c8
  · exact w_c9
  · exact w_c10
set_option maxRecDepth 65536 in
theorem w_t1 : (words1.take 24).all (fun c => isCode c || c.before args0 about1) = true := by decide +kernel
set_option maxRecDepth 65536 in
theorem w_t2 : ((words1.drop 24).take 24).all (fun c => isCode c || c.before args0 about1) = true := by decide +kernel
set_option maxRecDepth 65536 in
theorem w_t3 : (((words1.drop 24).drop 24).take 24).all (fun c => isCode c || c.before args0 about1) = true := by decide +kernel
set_option maxRecDepth 65536 in
theorem w_t4 : (((words1.drop 24).drop 24).drop 24).all (fun c => isCode c || c.before args0 about1) = true := by decide +kernel
theorem w_tables : (allAtoms (Jvm.Cond.code x code maxLocals ret :: tables_1)).before args0 about1 = true := by
  rw [allAtoms_all]
  show words1.all (fun c => c.before args0 about1) = true
  refine all_split ?_ w_codes
  rw [← List.take_append_drop 24 words1, List.all_append, w_t1, ← List.take_append_drop 24 (words1.drop 24), List.all_append, w_t2, ← List.take_append_drop 24 ((words1.drop 24).drop 24), List.all_append, w_t3, w_t4]
  rfl
set_option maxRecDepth 65536 in
theorem w_rest : rest_1_c.before args0 about1 = true := by decide +kernel
set_option maxRecDepth 65536 in
theorem w_case : (Jvm.Cond.and given_1 narrow_1).before args0 about1 = true := by decide +kernel
theorem w_applies : (headSpec (Jvm.Cond.code x code maxLocals ret :: tables_1) room_1).applies x e0.platform about1 = true :=
  (Spec.applies_iff w_frames).mpr ⟨w_running, w_runnable, w_alone, w_named, w_hears, w_ripe, w_room, w_tables⟩
theorem atStart : AtStart classFile x code maxLocals ret World_1 tables_1 room_1 Calls_1 rest_1 Pre_1 launch0 p0 e0 about1 theMethod args0 below0 :=
  ⟨lists_1, trivial, launch0.admits_env _ _ _, launch0.least_env, fairChoices_fair.cas, fairChoices_fair.clock, w_frames, w_args, w_heap, w_applies, trivial, w_rest, w_case⟩
end start1
theorem witness_1 : WitnessClaimed_1 := ⟨start1.p0, start1.e0, start1.about1, start1.theMethod, start1.args0, start1.below0, start1.atStart⟩
end Jvm.Pilot.@@N@@
