import JvmDerived
import JvmDerived.Pilot.@@N@@Statement
import JvmDerived.Pilot.@@N@@Code
set_option linter.unusedVariables false
set_option linter.unusedSimpArgs false
namespace Jvm.Pilot.@@N@@
open Jvm Jvm.ClassFile Sem Op Lib Jvm.Free Jvm.Stand Jvm.LawKit Jvm.RoadKit Bundle Jvm.Pilot.@@N@@.Jvm.D
/-- what a walk owes from a state on: the run comes to a state of which G speaks -/
def own_Go (p : Program) (e : Env) (below : List Frame) (A : State) (G : State → Prop) : Prop := ∃ B, (∀ t, Steps p.tables e below B t → Steps p.tables e below A t) ∧ G B
theorem own_via {p : Program} {e : Env} {below : List Frame} {A B : State} {G : State → Prop} (h : ∀ t, Steps p.tables e below B t → Steps p.tables e below A t) (k : own_Go p e below B G) : own_Go p e below A G := by
  obtain ⟨C, h1, h2⟩ := k
  exact ⟨C, fun t q => h t (h1 t q), h2⟩
theorem own_done {p : Program} {e : Env} {below : List Frame} {A : State} {G : State → Prop} (g : G A) : own_Go p e below A G := ⟨A, fun _ q => q, g⟩
theorem own_bind {p : Program} {e : Env} {below : List Frame} {A : State} {G G' : State → Prop} (h : own_Go p e below A G) (k : ∀ B, G B → own_Go p e below B G') : own_Go p e below A G' := by
  obtain ⟨B, h1, h2⟩ := h
  exact own_via h1 (k B h2)
/-- the method ends here -/
def own_End (p : Program) (e : Env) (below : List Frame) (s : State) (Q : Option Value → Heap → List Loc → Prop) (C S : Nat) (B : State) : Prop :=
  ∃ s₂ o, Steps p.tables e below B s₂ ∧ s₂.status = .running ∧ Ended s₂ below o ∧ ∃ v L, o = .returned v ∧ Q v s₂.heap L ∧ FrameEnd s o s₂ L C S
theorem own_body {p : Program} {e : Env} {below : List Frame} {s A A' : State} {Q : Option Value → Heap → List Loc → Prop} {C S : Nat} (q : ∀ t, Steps p.tables e below A t → Steps p.tables e below A' t) (h : own_Go p e below A (own_End p e below s Q C S)) :
    ∃ s₂ o, Steps p.tables e below A' s₂ ∧ s₂.status = .running ∧ Ended s₂ below o ∧ ∃ v L, o = .returned v ∧ Q v s₂.heap L ∧ FrameEnd s o s₂ L C S := by
  obtain ⟨B, h1, s₂, o, h2, h3⟩ := h
  exact ⟨s₂, o, q _ (h1 _ h2), h3⟩
section Leaf
variable {p : Program} {l : Launch} {e : Env} {R : Room} {s : State} {m : MethodId} {args : Array Value} {below : List Frame} {meth : Method} {c : Code} {T : State} {locs : List Loc} {cells slots : Nat}
theorem own_leaf (X : Stand p l e R s m args below meth c T locs cells slots) (hx : p.tables.exec = Jvm.exec) (hlk : meth.locks = false) {pc : Nat} {Ls : Array Slot} {w : Value} {t : FieldType} {i : Instr} {rest : List Value} (hret : meth.sig.returnType = some t) (hn : narrow t w = w)
    (hi : (i = .ireturn ∧ (t = .int ∨ t = .boolean ∨ t = .byte ∨ t = .char ∨ t = .short) ∧ ∃ z, w = .int z) ∨ (i = .lreturn ∧ t = .long ∧ ∃ z, w = .long z) ∨ (i = .dreturn ∧ t = .double ∧ ∃ z, w = .double z) ∨ (i = .freturn ∧ t = .float ∧ ∃ z, w = .float z) ∨ (i = .areturn ∧ t.isReference = true ∧ w.isRef = true))
    (hd : decode c.code pc = .ok (i, 1)) {Q : Option Value → Heap → List Loc → Prop} {C S : Nat} (hC : cells ≤ C) (hS : slots ≤ S) (hq : Q (some w) T.heap locs) : own_Go p e below (T.setTop (mkF m pc Ls (w :: rest))) (own_End p e below s Q C S) := by
  obtain ⟨fs, hr, hrun, hended, hW, hsame⟩ := X.leave (v := some w) (fun h => by rw [hret] at h; cases h) hlk
  exact own_done ⟨_, _, retOut X hx hret hn hi hd hr, hrun, hended, _, _, rfl, hq, ⟨_, rfl⟩, hW, hsame.mono hC hS⟩
theorem own_leafV (X : Stand p l e R s m args below meth c T locs cells slots) (hx : p.tables.exec = Jvm.exec) (hlk : meth.locks = false) {pc : Nat} {Ls : Array Slot} (hret : meth.sig.returnType = none)
    (hd : decode c.code pc = .ok (.return_, 1)) {Q : Option Value → Heap → List Loc → Prop} {C S : Nat} (hC : cells ≤ C) (hS : slots ≤ S) (hq : Q none T.heap locs) : own_Go p e below (T.setTop (mkF m pc Ls [])) (own_End p e below s Q C S) := by
  obtain ⟨fs, hr, hrun, hended, hW, hsame⟩ := X.leave (v := none) (fun _ => rfl) hlk
  exact own_done ⟨_, _, X.returnOut hx hret hd hr, hrun, hended, _, _, rfl, hq, ⟨_, rfl⟩, hW, hsame.mono hC hS⟩
theorem own_getFR {Z : State} {a0 : Array Value} {h : Heap} (X : Stand p l e R s m args below meth c T locs cells slots) (hx : p.tables.exec = Jvm.exec) (hZ : Z.Warmed39 s.vm) {own R0 O n d : String} {index : Nat} (hown : s.vm.findClass own = some m.cls) (w : (Cond.fieldRef own index R0 n d).before a0 Z = true) (via : Via Z R0 O n d)
    (eT : T.heap = h) {a : Addr} {v : Value} (F : Fld Z h a O n d v) {g : JFrame} (hg : g.method = m) {rest : List Value} (hs : g.stack = .ref a :: rest) (hd : decode c.code g.pc = .ok (.getfield index, 3)) : ∃ T', Stand p l e R s m args below meth c T' locs cells slots ∧ T'.heap = h ∧ ∀ target, Steps p.tables e below (T'.setTop { g with pc := g.pc + 3, stack := v :: rest }) target → Steps p.tables e below (T.setTop g) target := by
  obtain ⟨cell, cf, k, i, f, h1, h2, h3, h4, -, -, h7⟩ := F
  have hW : Z.Warmed39 T.vm := wtrans hZ X.warmed
  have w1 := Cond.fieldRef_warmed39 hW w
  obtain ⟨c', k', i', f', hi, hr⟩ := Cond.fieldRef_spec (cur := m.cls) (show (Z.setVm T.vm).vm.findClass own = some m.cls by show T.vm.findClass own = _; rw [X.warmed.alike.findClass]; exact hown) w1
  obtain ⟨k'', hi', -⟩ := State.fieldFound?_setVm (s := Z) hW.alike (via _ h2)
  cases hi.symm.trans hi'
  refine ⟨T, X, eT, fun target hrest => ?_⟩
  subst hg
  jvm_step X.here [hx, hd, getfield.wp_ready (e := e) (s := T) (f := g) X.here.top hr h3 hs (by rw [eT]; exact h1) h4 h7]
  exact hrest
def own_EndW (p : Program) (e : Env) (below : List Frame) (s : State) (Q : Option Value → Heap → List Loc → Prop) (C S : Nat) (B : State) : Prop :=
  ∃ s₂ o, Steps p.tables e below B s₂ ∧ s₂.status = .running ∧ Ended s₂ below o ∧ ∃ v L, o = .returned v ∧ Q v s₂.heap L ∧ ReturnedEndW s o s₂ L C S
theorem own_bodyW {A A' : State} {Q : Option Value → Heap → List Loc → Prop} {C S : Nat} (q : ∀ t, Steps p.tables e below A t → Steps p.tables e below A' t) (h : own_Go p e below A (own_EndW p e below s Q C S)) :
    ∃ s₂ o, Steps p.tables e below A' s₂ ∧ s₂.status = .running ∧ Ended s₂ below o ∧ ∃ v L, o = .returned v ∧ Q v s₂.heap L ∧ ReturnedEndW s o s₂ L C S := by
  obtain ⟨B, h1, s₂, o, h2, h3⟩ := h
  exact ⟨s₂, o, q _ (h1 _ h2), h3⟩
theorem own_leafW {vm₁ : Vm} (X : Stand p l e R (s.setVm vm₁) m args below meth c T locs cells slots) (hx : p.tables.exec = Jvm.exec) (hlk : meth.locks = false) {n : Nat} (hS : s.Since vm₁ n) (hk : n ≤ T.heap.size) {pc : Nat} {Ls : Array Slot} {w : Value} {t : FieldType} {i : Instr} {rest : List Value} (hret : meth.sig.returnType = some t) (hn : narrow t w = w)
    (hi : (i = .ireturn ∧ (t = .int ∨ t = .boolean ∨ t = .byte ∨ t = .char ∨ t = .short) ∧ ∃ z, w = .int z) ∨ (i = .lreturn ∧ t = .long ∧ ∃ z, w = .long z) ∨ (i = .dreturn ∧ t = .double ∧ ∃ z, w = .double z) ∨ (i = .freturn ∧ t = .float ∧ ∃ z, w = .float z) ∨ (i = .areturn ∧ t.isReference = true ∧ w.isRef = true))
    (hd : decode c.code pc = .ok (i, 1)) {Q : Option Value → Heap → List Loc → Prop} {C S : Nat} (hC : cells ≤ C) (hS' : slots ≤ S) (hq : Q (some w) T.heap locs) : own_Go p e below (T.setTop (mkF m pc Ls (w :: rest))) (own_EndW p e below s Q C S) := by
  obtain ⟨fs, hr, hrun, hended, h1, h2, h3, hsame⟩ := X.leaveW hS hk (v := some w) (fun h => by rw [hret] at h; cases h) hlk
  exact own_done ⟨_, _, retOut X hx hret hn hi hd hr, hrun, hended, _, _, rfl, hq, h1, h2, h3, hsame.mono hC hS'⟩
theorem own_leafVW {vm₁ : Vm} (X : Stand p l e R (s.setVm vm₁) m args below meth c T locs cells slots) (hx : p.tables.exec = Jvm.exec) (hlk : meth.locks = false) {n : Nat} (hS : s.Since vm₁ n) (hk : n ≤ T.heap.size) {pc : Nat} {Ls : Array Slot} (hret : meth.sig.returnType = none)
    (hd : decode c.code pc = .ok (.return_, 1)) {Q : Option Value → Heap → List Loc → Prop} {C S : Nat} (hC : cells ≤ C) (hS' : slots ≤ S) (hq : Q none T.heap locs) : own_Go p e below (T.setTop (mkF m pc Ls [])) (own_EndW p e below s Q C S) := by
  obtain ⟨fs, hr, hrun, hended, h1, h2, h3, hsame⟩ := X.leaveW hS hk (v := none) (fun _ => rfl) hlk
  exact own_done ⟨_, _, X.returnOut hx hret hd hr, hrun, hended, _, _, rfl, hq, h1, h2, h3, hsame.mono hC hS'⟩
def own_bit (P : Prop) [Decidable P] : Int32 := if P then 1 else 0
theorem own_bit01 (P : Prop) [Decidable P] : own_bit P = 0 ∨ own_bit P = 1 := by unfold own_bit; split <;> simp
theorem own_bitT {P : Prop} [Decidable P] (h : P) : own_bit P = 1 := if_pos h
theorem own_bitF {P : Prop} [Decidable P] (h : ¬ P) : own_bit P = 0 := if_neg h
theorem own_bit0 {P : Prop} [Decidable P] : own_bit P = 0 ↔ ¬ P := by unfold own_bit; split <;> simp_all
theorem own_bit1 {P : Prop} [Decidable P] : own_bit P = 1 ↔ P := by unfold own_bit; split <;> simp_all
theorem own_bits {P P' : Prop} [Decidable P] [Decidable P'] (h : P ↔ P') : own_bit P = own_bit P' := by unfold own_bit; simp [h]
theorem own_lt (x y : Int32) : x < y ↔ x.toInt < y.toInt := Int32.lt_iff_toInt_lt
theorem own_eq (x y : Int32) : x = y ↔ x.toInt = y.toInt := Int32.toInt_inj.symm
theorem own_ltL (x y : Int64) : x < y ↔ x.toInt < y.toInt := Int64.lt_iff_toInt_lt
theorem own_eqL (x y : Int64) : x = y ↔ x.toInt = y.toInt := Int64.toInt_inj.symm
theorem own_mask (x : Int32) : 0 ≤ (x &&& (2147483647 : Int32)).toInt := by
  have h : (x &&& (2147483647 : Int32)).toBitVec.msb = false := by
    show (x.toBitVec &&& 2147483647#32).msb = false
    have e : (2147483647#32).msb = false := by decide
    rw [BitVec.msb_and, e]; simp
  have := BitVec.toInt_eq_msb_cond (x &&& (2147483647 : Int32)).toBitVec
  rw [h] at this
  show 0 ≤ (x &&& (2147483647 : Int32)).toBitVec.toInt
  rw [this]
  simp only [Bool.false_eq_true, if_false]
  exact Int.natCast_nonneg _
theorem own_modm (x m : Int32) (hm : 0 < m.toInt) : 0 ≤ ((x &&& (2147483647 : Int32)) % m).toInt ∧ ((x &&& (2147483647 : Int32)) % m).toInt < m.toInt := by
  have h := own_mask x
  rw [Int32.toInt_mod, Int.tmod_eq_emod_of_nonneg h]
  exact ⟨Int.emod_nonneg _ (by omega), Int.emod_lt_of_pos _ hm⟩
theorem own_fb {x : Int32} (h : x = 0 ∨ x = 1) : fits .boolean (.int x) = true := by rcases h with rfl | rfl <;> decide
theorem own_eqI {t : Term} {k : Int32} {args : Array Value} {s : State} (h : (Cond.eq t (Term.int k)).value args s none s [] = some true) : t.eval args s none [] s = some (.int k) := by
  simp only [Cond.value] at h
  have hn : (Term.int k).eval args s none [] s = some (.int k) := rfl
  rw [hn] at h
  cases ht : t.eval args s none [] s with
  | none => simp [ht] at h
  | some v => cases v <;> simp [ht] at h ⊢ <;> first | exact h | (exact h.elim) | simp_all
theorem own_eqJ {t : Term} {k : Int64} {args : Array Value} {s : State} (h : (Cond.eq t (Term.long k)).value args s none s [] = some true) : t.eval args s none [] s = some (.long k) := by
  simp only [Cond.value] at h
  have hn : (Term.long k).eval args s none [] s = some (.long k) := rfl
  rw [hn] at h
  cases ht : t.eval args s none [] s with
  | none => simp [ht] at h
  | some v => cases v <;> simp [ht] at h ⊢ <;> first | exact h | (exact h.elim) | simp_all
theorem own_b1 {x : Int32} (h : x = 0 ∨ x = 1) : narrow .boolean (.int x) = .int x := by rcases h with rfl | rfl <;> rfl
end Leaf

def own_pick (p : Int32) (w0 w1 w2 w3 w4 w5 w6 w7 w8 : Addr) : Addr := if p = 0 then w0 else if p = 1 then w1 else if p = 2 then w2 else if p = 3 then w3 else if p = 4 then w4 else if p = 5 then w5 else if p = 6 then w6 else if p = 7 then w7 else w8
def own_units (p : Int32) : Int64 := if p = 0 then 90 else if p = 1 then 1000 else if p = 2 then 600 else if p = 3 then 3 else if p = 4 then 4 else if p = 5 then 300 else if p = 6 then 100 else if p = 7 then 3 else 128
def own_E (Z : State) (h : Heap) (w : Addr) (n : String) (k : Int64) : Prop := Sta Z h "com/example/corrib/corrib/answer/Work$Kind" n "Lcom/example/corrib/corrib/answer/Work$Kind;" (.ref w) ∧ Fld Z h w "com/example/corrib/corrib/answer/Work$Kind" "units" "J" (.long k)
def own_All (Z : State) (h : Heap) (w0 w1 w2 w3 w4 w5 w6 w7 w8 : Addr) : Prop := own_E Z h w0 "TRIPLE" 90 ∧ own_E Z h w1 "RELATED" 1000 ∧ own_E Z h w2 "CANDIDATE" 600 ∧ own_E Z h w3 "WORD" 3 ∧ own_E Z h w4 "TRIED" 4 ∧ own_E Z h w5 "GATHERED" 300 ∧ own_E Z h w6 "SETUP" 100 ∧ own_E Z h w7 "CELL" 3 ∧ own_E Z h w8 "WAY" 128
theorem own_at {Z : State} {h : Heap} {w0 w1 w2 w3 w4 w5 w6 w7 w8 : Addr} (A : own_All Z h w0 w1 w2 w3 w4 w5 w6 w7 w8) (p : Int32) : Fld Z h (own_pick p w0 w1 w2 w3 w4 w5 w6 w7 w8) "com/example/corrib/corrib/answer/Work$Kind" "units" "J" (.long (own_units p)) := by
  obtain ⟨A0, A1, A2, A3, A4, A5, A6, A7, A8⟩ := A
  unfold own_pick own_units
  (repeat' split) <;> first | exact A0.2 | exact A1.2 | exact A2.2 | exact A3.2 | exact A4.2 | exact A5.2 | exact A6.2 | exact A7.2 | exact A8.2
theorem own_max (a x : Int64) (h1 : ¬ a < x) (h2 : x = 9223372036854775807) : a = x := by
  rw [own_ltL] at h1; rw [own_eqL] at *
  have e : (9223372036854775807 : Int64).toInt = 9223372036854775807 := by decide
  have := a.toInt_lt; rw [e] at h2; omega
theorem own_up (a x : Int64) (h1 : ¬ a < x) (h2 : ¬ x = 9223372036854775807) : ¬ a < x + 1 ↔ ¬ a = x := by
  rw [own_ltL] at *; rw [own_eqL] at h2 ⊢
  have e : (9223372036854775807 : Int64).toInt = 9223372036854775807 := by decide
  have e1 : (1 : Int64).toInt = 1 := by decide
  have b1 := x.toInt_lt; have b2 := x.le_toInt
  rw [e] at h2
  have e2 : (x + 1).toInt = x.toInt + 1 := by
    rw [Int64.toInt_add, e1]
    apply Int.bmod_eq_of_le <;> omega
  rw [e2]; omega
theorem own_pn0 : plainName "com/example/corrib/corrib/answer/Work" = true := by first | (simp [plainName, overriddenIn]; done) | decide +kernel
theorem own_d1_0 : decode prog_2_method_1_code 0 = .ok (.aload_n 0, 1) := by decide +kernel
theorem own_d1_1 : decode prog_2_method_1_code 1 = .ok (.invokespecial 1, 3) := by decide +kernel
theorem own_d1_4 : decode prog_2_method_1_code 4 = .ok (.aload_n 0, 1) := by decide +kernel
theorem own_d1_5 : decode prog_2_method_1_code 5 = .ok (.lload_n 1, 1) := by decide +kernel
theorem own_d1_6 : decode prog_2_method_1_code 6 = .ok (.putfield 7, 3) := by decide +kernel
theorem own_d1_9 : decode prog_2_method_1_code 9 = .ok (.return_, 1) := by decide +kernel
theorem own_ef1 (m : MethodId) (x0 : Addr) (x1 : Int64) : entryFrame m #[(.ref x0), (.long x1)] 3 = mkF m 0 #[.val (.ref x0), .val (.long x1), .second] [] := by first | (simp [entryFrame, mkF, argsToLocals, Value.category]; done) | rfl
def Q1 (Z : State) (a1 : Addr) (q1 : Int64) (u1 : Int64) (h0 : Heap) (n0 : Nat) (v : Option Value) (h : Heap) (L : List Loc) : Prop := v = none ∧ Fr n0 L ∧ Keep h0 h [a1] ∧ (Fld Z h a1 "com/example/corrib/corrib/answer/Work" "left" "J" (.long q1))
set_option maxRecDepth 65536 in
set_option maxHeartbeats 40000000 in
theorem rm1 (l : Launch) (Z : State) (a0 : Array Value) (hw : ∀ d ∈ tables_1, d.before a0 Z = true) (ws : List Jvm.Cond) (a1 : Addr) (q1 : Int64) (u1 : Int64) (h0 : Heap) (n0 : Nat) (Z0 : n0 ≤ h0.size) (E1 : Exa Z h0 a1 "com/example/corrib/corrib/answer/Work") (F1 : Fld Z h0 a1 "com/example/corrib/corrib/answer/Work" "left" "J" (.long u1)) (g_a1 : n0 ≤ a1) :
    MetFree l (⟨"com/example/corrib/corrib/answer/Work", "<init>", "(J)V"⟩ : MethodName) (head1 (Jvm.Cond.code (⟨"com/example/corrib/corrib/answer/Work", "<init>", "(J)V"⟩ : MethodName) prog_2_method_1_code 3 none :: ws) ({ frames := 1, cells := 0, slots := 0, locals := 12 } : Room)) (fun a U => a = #[(.ref a1), (.long q1)] ∧ Z.Warmed39 U.vm ∧ U.heap = h0) (fun _ _ _ _ _ => True) (fun _ U o U' => ∃ v L, o = .returned v ∧ Q1 Z a1 q1 u1 h0 n0 v U'.heap L ∧ FrameEnd U o U' L ({ frames := 1, cells := 0, slots := 0, locals := 12 } : Room).cells ({ frames := 1, cells := 0, slots := 0, locals := 12 } : Room).slots) := by
  refine MetFree.of_bodySF (plainFor_of_name own_pn0) hisR ?_
  intro p e s m args below meth c s₁ Bd hml0 hP hK
  obtain ⟨rfl, hZ, hh⟩ := hP
  have hx := Bd.exec
  have hby := Bd.bytes
  have hlk : meth.locks = false := Bd.notSynchronized
  have hml : c.maxLocals = 3 := hml0
  have hown : s.vm.findClass "com/example/corrib/corrib/answer/Work" = some m.cls := findClass_of_methodNamed Bd.named
  have hnm := (name_of_methodNamed Bd.named Bd.method).1
  have X0 : Stand p l e ({ frames := 1, cells := 0, slots := 0, locals := 12 } : Room) s m #[(.ref a1), (.long q1)] below meth c s₁ [] 0 0 := Stand.of_body Bd
  have e0 : s₁.heap = h0 := by rw [← hh, Bd.state]; rfl
  have N0 := Fr.nil n0
  refine own_body (A := s₁.setTop (mkF m 0 #[.val (.ref a1), .val (.long q1), .second] [])) (Q := Q1 Z a1 q1 u1 h0 n0) (fun t k => castTop (own_ef1 m a1 q1) k) ?_
  refine own_via (B := s₁.setTop (mkF m 1 #[.val (.ref a1), .val (.long q1), .second] [(.ref a1)])) (fun t k => XS.aloadN X0.here hx rfl (hb hby own_d1_0) rfl rfl k) ?_
  obtain ⟨T1, X1, e1, st1⟩ := initO X0 hx hZ hown (hw _ (List.mem_of_getElem? (i := 7) rfl)) (hw _ (List.mem_of_getElem? (i := 8) rfl)) (hw _ (List.mem_of_getElem? (i := 9) rfl)) e0 (g := (mkF m 1 #[.val (.ref a1), .val (.long q1), .second] [(.ref a1)])) rfl (by rw [hml]; rfl) rfl (hb hby own_d1_1) (by decide) (W := 0) (by show 2 * 0 + _ ≤ _; exact Nat.le_of_eq rfl) (by decide)
  refine own_via (B := T1.setTop (mkF m 4 #[.val (.ref a1), .val (.long q1), .second] [])) (fun t k => st1 t k) ?_
  refine own_via (B := T1.setTop (mkF m 5 #[.val (.ref a1), .val (.long q1), .second] [(.ref a1)])) (fun t k => XS.aloadN X1.here hx rfl (hb hby own_d1_4) rfl rfl k) ?_
  refine own_via (B := T1.setTop (mkF m 6 #[.val (.ref a1), .val (.long q1), .second] [(.long q1), (.ref a1)])) (fun t k => XS.lloadN X1.here hx rfl (hb hby own_d1_5) rfl k) ?_
  obtain ⟨T2, h2, X2, e2, W2, st2⟩ := putF X1 hx hZ hown (host := "") (Or.inl (hw _ (List.mem_of_getElem? (i := 10) rfl))) Via.refl e1 F1 E1 (Or.inl (hw _ (List.mem_of_getElem? (i := 11) rfl))) (hw _ (List.mem_of_getElem? (i := 2) rfl)) (ty := .long) (by decide) rfl rfl (g := (mkF m 6 #[.val (.ref a1), .val (.long q1), .second] [(.long q1), (.ref a1)])) rfl rfl (hb hby own_d1_6)
  have Fw2 := F1.same W2
  have N2 := Fr.snoc X2 N0 g_a1
  refine own_via (B := T2.setTop (mkF m 9 #[.val (.ref a1), .val (.long q1), .second] [])) (fun t k => st2 t k) ?_
  refine own_leafV X2 hx hlk Bd.returns (hb hby own_d1_9) (by decide) (by decide) ?_
  show Q1 Z a1 q1 u1 h0 n0 _ T2.heap _
  rw [e2]
  refine ⟨?_, N2, ((Keep.refl h0 [a1]).wr W2 (Or.inl (List.mem_of_getElem? (i := 0) rfl))), Fw2⟩
  rfl
theorem own_pn1 : plainName "com/example/corrib/corrib/answer/WorkTakePinLaw" = true := by first | (simp [plainName, overriddenIn]; done) | decide +kernel
theorem own_d2_0 : decode method_2_code 0 = .ok (.iload_n 0, 1) := by decide +kernel
theorem own_d2_1 : decode method_2_code 1 = .ok (.ifCond .ne 7, 3) := by decide +kernel
theorem own_d2_4 : decode method_2_code 4 = .ok (.getstatic 7, 3) := by decide +kernel
theorem own_d2_7 : decode method_2_code 7 = .ok (.areturn, 1) := by decide +kernel
theorem own_d2_8 : decode method_2_code 8 = .ok (.iload_n 0, 1) := by decide +kernel
theorem own_d2_9 : decode method_2_code 9 = .ok (.iconst 1, 1) := by decide +kernel
theorem own_d2_10 : decode method_2_code 10 = .ok (.if_icmp .ne 7, 3) := by decide +kernel
theorem own_d2_13 : decode method_2_code 13 = .ok (.getstatic 13, 3) := by decide +kernel
theorem own_d2_16 : decode method_2_code 16 = .ok (.areturn, 1) := by decide +kernel
theorem own_d2_17 : decode method_2_code 17 = .ok (.iload_n 0, 1) := by decide +kernel
theorem own_d2_18 : decode method_2_code 18 = .ok (.iconst 2, 1) := by decide +kernel
theorem own_d2_19 : decode method_2_code 19 = .ok (.if_icmp .ne 7, 3) := by decide +kernel
theorem own_d2_22 : decode method_2_code 22 = .ok (.getstatic 16, 3) := by decide +kernel
theorem own_d2_25 : decode method_2_code 25 = .ok (.areturn, 1) := by decide +kernel
theorem own_d2_26 : decode method_2_code 26 = .ok (.iload_n 0, 1) := by decide +kernel
theorem own_d2_27 : decode method_2_code 27 = .ok (.iconst 3, 1) := by decide +kernel
theorem own_d2_28 : decode method_2_code 28 = .ok (.if_icmp .ne 7, 3) := by decide +kernel
theorem own_d2_31 : decode method_2_code 31 = .ok (.getstatic 19, 3) := by decide +kernel
theorem own_d2_34 : decode method_2_code 34 = .ok (.areturn, 1) := by decide +kernel
theorem own_d2_35 : decode method_2_code 35 = .ok (.iload_n 0, 1) := by decide +kernel
theorem own_d2_36 : decode method_2_code 36 = .ok (.iconst 4, 1) := by decide +kernel
theorem own_d2_37 : decode method_2_code 37 = .ok (.if_icmp .ne 7, 3) := by decide +kernel
theorem own_d2_40 : decode method_2_code 40 = .ok (.getstatic 22, 3) := by decide +kernel
theorem own_d2_43 : decode method_2_code 43 = .ok (.areturn, 1) := by decide +kernel
theorem own_d2_44 : decode method_2_code 44 = .ok (.iload_n 0, 1) := by decide +kernel
theorem own_d2_45 : decode method_2_code 45 = .ok (.iconst 5, 1) := by decide +kernel
theorem own_d2_46 : decode method_2_code 46 = .ok (.if_icmp .ne 7, 3) := by decide +kernel
theorem own_d2_49 : decode method_2_code 49 = .ok (.getstatic 25, 3) := by decide +kernel
theorem own_d2_52 : decode method_2_code 52 = .ok (.areturn, 1) := by decide +kernel
theorem own_d2_53 : decode method_2_code 53 = .ok (.iload_n 0, 1) := by decide +kernel
theorem own_d2_54 : decode method_2_code 54 = .ok (.bipush 6, 2) := by decide +kernel
theorem own_d2_56 : decode method_2_code 56 = .ok (.if_icmp .ne 7, 3) := by decide +kernel
theorem own_d2_59 : decode method_2_code 59 = .ok (.getstatic 28, 3) := by decide +kernel
theorem own_d2_62 : decode method_2_code 62 = .ok (.areturn, 1) := by decide +kernel
theorem own_d2_63 : decode method_2_code 63 = .ok (.iload_n 0, 1) := by decide +kernel
theorem own_d2_64 : decode method_2_code 64 = .ok (.bipush 7, 2) := by decide +kernel
theorem own_d2_66 : decode method_2_code 66 = .ok (.if_icmp .ne 7, 3) := by decide +kernel
theorem own_d2_69 : decode method_2_code 69 = .ok (.getstatic 31, 3) := by decide +kernel
theorem own_d2_72 : decode method_2_code 72 = .ok (.areturn, 1) := by decide +kernel
theorem own_d2_73 : decode method_2_code 73 = .ok (.getstatic 34, 3) := by decide +kernel
theorem own_d2_76 : decode method_2_code 76 = .ok (.areturn, 1) := by decide +kernel
theorem own_ef2 (m : MethodId) (x0 : Int32) : entryFrame m #[(.int x0)] 1 = mkF m 0 #[.val (.int x0)] [] := by first | (simp [entryFrame, mkF, argsToLocals, Value.category]; done) | rfl
def Q2 (Z : State) (p2 : Int32) (w0 : Addr) (w1 : Addr) (w2 : Addr) (w3 : Addr) (w4 : Addr) (w5 : Addr) (w6 : Addr) (w7 : Addr) (w8 : Addr) (h0 : Heap) (n0 : Nat) (v : Option Value) (h : Heap) (L : List Loc) : Prop := v = some (.ref (own_pick p2 w0 w1 w2 w3 w4 w5 w6 w7 w8)) ∧ Fr n0 L ∧ h = h0 ∧ (Fld Z h0 (own_pick p2 w0 w1 w2 w3 w4 w5 w6 w7 w8) "com/example/corrib/corrib/answer/Work$Kind" "units" "J" (.long (own_units p2)))
set_option maxRecDepth 65536 in
set_option maxHeartbeats 40000000 in
theorem rm2 (l : Launch) (Z : State) (a0 : Array Value) (hw : ∀ d ∈ tables_1, d.before a0 Z = true) (ws : List Jvm.Cond) (p2 : Int32) (w0 : Addr) (w1 : Addr) (w2 : Addr) (w3 : Addr) (w4 : Addr) (w5 : Addr) (w6 : Addr) (w7 : Addr) (w8 : Addr) (h0 : Heap) (n0 : Nat) (Z0 : n0 ≤ h0.size) (hall : own_All Z Z.heap w0 w1 w2 w3 w4 w5 w6 w7 w8) (O0 : Old Z n0 h0) :
    MetFree l (⟨"com/example/corrib/corrib/answer/WorkTakePinLaw", "kind", "(I)Lcom/example/corrib/corrib/answer/Work$Kind;"⟩ : MethodName) (head1 (Jvm.Cond.code (⟨"com/example/corrib/corrib/answer/WorkTakePinLaw", "kind", "(I)Lcom/example/corrib/corrib/answer/Work$Kind;"⟩ : MethodName) method_2_code 1 (some (.object "com/example/corrib/corrib/answer/Work$Kind")) :: ws) ({ frames := 0, cells := 0, slots := 0, locals := 0 } : Room)) (fun a U => a = #[(.int p2)] ∧ Z.Warmed39 U.vm ∧ U.heap = h0) (fun _ _ _ _ _ => True) (fun _ U o U' => ∃ v L, o = .returned v ∧ Q2 Z p2 w0 w1 w2 w3 w4 w5 w6 w7 w8 h0 n0 v U'.heap L ∧ FrameEnd U o U' L ({ frames := 0, cells := 0, slots := 0, locals := 0 } : Room).cells ({ frames := 0, cells := 0, slots := 0, locals := 0 } : Room).slots) := by
  refine MetFree.of_bodySF (plainFor_of_name own_pn1) hisR ?_
  intro p e s m args below meth c s₁ Bd hml0 hP hK
  obtain ⟨rfl, hZ, hh⟩ := hP
  have hx := Bd.exec
  have hby := Bd.bytes
  have hlk : meth.locks = false := Bd.notSynchronized
  have hml : c.maxLocals = 1 := hml0
  have hown : s.vm.findClass "com/example/corrib/corrib/answer/WorkTakePinLaw" = some m.cls := findClass_of_methodNamed Bd.named
  have hnm := (name_of_methodNamed Bd.named Bd.method).1
  have X0 : Stand p l e ({ frames := 0, cells := 0, slots := 0, locals := 0 } : Room) s m #[(.int p2)] below meth c s₁ [] 0 0 := Stand.of_body Bd
  have e0 : s₁.heap = h0 := by rw [← hh, Bd.state]; rfl
  have N0 := Fr.nil n0
  refine own_body (A := s₁.setTop (mkF m 0 #[.val (.int p2)] [])) (Q := Q2 Z p2 w0 w1 w2 w3 w4 w5 w6 w7 w8 h0 n0) (fun t k => castTop (own_ef2 m p2) k) ?_
  have hall' := hall
  obtain ⟨A0, A1, A2, A3, A4, A5, A6, A7, A8⟩ := hall'
  refine own_via (B := s₁.setTop (mkF m 1 #[.val (.int p2)] [(.int p2)])) (fun t k => XS.iloadN X0.here hx rfl (hb hby own_d2_0) rfl k) ?_
  by_cases hc1 : p2 = (0 : Int32)
  · refine own_via (B := s₁.setTop (mkF m 4 #[.val (.int p2)] [])) (fun t k => XS.ifNo X0.here hx rfl (hb hby own_d2_1) rfl ((if0 _ _).trans (teq hc1).2) k) ?_
    obtain ⟨T1, X1, e1, st1⟩ := getS2 X0 hx hZ hown (host := "") (Or.inl (hw _ (List.mem_of_getElem? (i := 39) rfl))) Via.refl e0 (A0.1.ext O0.2) (g := (mkF m 4 #[.val (.int p2)] [])) rfl (hb hby own_d2_4)
    refine own_via (B := T1.setTop (mkF m 7 #[.val (.int p2)] [(.ref w0)])) (fun t k => st1 t k) ?_
    refine own_leaf X1 hx hlk (t := (.object "com/example/corrib/corrib/answer/Work$Kind")) Bd.returns rfl (Or.inr (Or.inr (Or.inr (Or.inr ⟨rfl, rfl, rfl⟩)))) (hb hby own_d2_7) (by decide) (by decide) ?_
    show Q2 Z p2 w0 w1 w2 w3 w4 w5 w6 w7 w8 h0 n0 _ T1.heap _
    rw [e1]
    refine ⟨?_, N0, rfl, (own_at hall p2).ext O0.2⟩
    simp [own_pick, hc1]
  · refine own_via (B := s₁.setTop (mkF m 8 #[.val (.int p2)] [])) (fun t k => XS.ifYes X0.here hx rfl (pc0 := 1) (pc' := 8) rfl (hb hby own_d2_1) rfl ((if0 _ _).trans (feq hc1).2) (by decide) (by decide) k) ?_
    refine own_via (B := s₁.setTop (mkF m 9 #[.val (.int p2)] [(.int p2)])) (fun t k => XS.iloadN X0.here hx rfl (hb hby own_d2_8) rfl k) ?_
    refine own_via (B := s₁.setTop (mkF m 10 #[.val (.int p2)] [(.int (1 : Int32)), (.int p2)])) (fun t k => XS.iconst X0.here hx rfl (hb hby own_d2_9) k) ?_
    by_cases hc10 : p2 = (1 : Int32)
    · refine own_via (B := s₁.setTop (mkF m 13 #[.val (.int p2)] [])) (fun t k => XS.icmpNo X0.here hx rfl (hb hby own_d2_10) rfl (teq hc10).2 k) ?_
      obtain ⟨T2, X2, e2, st2⟩ := getS2 X0 hx hZ hown (host := "") (Or.inl (hw _ (List.mem_of_getElem? (i := 45) rfl))) Via.refl e0 (A1.1.ext O0.2) (g := (mkF m 13 #[.val (.int p2)] [])) rfl (hb hby own_d2_13)
      refine own_via (B := T2.setTop (mkF m 16 #[.val (.int p2)] [(.ref w1)])) (fun t k => st2 t k) ?_
      refine own_leaf X2 hx hlk (t := (.object "com/example/corrib/corrib/answer/Work$Kind")) Bd.returns rfl (Or.inr (Or.inr (Or.inr (Or.inr ⟨rfl, rfl, rfl⟩)))) (hb hby own_d2_16) (by decide) (by decide) ?_
      show Q2 Z p2 w0 w1 w2 w3 w4 w5 w6 w7 w8 h0 n0 _ T2.heap _
      rw [e2]
      refine ⟨?_, N0, rfl, (own_at hall p2).ext O0.2⟩
      simp [own_pick, hc1, hc10]
    · refine own_via (B := s₁.setTop (mkF m 17 #[.val (.int p2)] [])) (fun t k => XS.icmpYes X0.here hx rfl (pc0 := 10) (pc' := 17) rfl (hb hby own_d2_10) rfl (feq hc10).2 (by decide) (by decide) k) ?_
      refine own_via (B := s₁.setTop (mkF m 18 #[.val (.int p2)] [(.int p2)])) (fun t k => XS.iloadN X0.here hx rfl (hb hby own_d2_17) rfl k) ?_
      refine own_via (B := s₁.setTop (mkF m 19 #[.val (.int p2)] [(.int (2 : Int32)), (.int p2)])) (fun t k => XS.iconst X0.here hx rfl (hb hby own_d2_18) k) ?_
      by_cases hc19 : p2 = (2 : Int32)
      · refine own_via (B := s₁.setTop (mkF m 22 #[.val (.int p2)] [])) (fun t k => XS.icmpNo X0.here hx rfl (hb hby own_d2_19) rfl (teq hc19).2 k) ?_
        obtain ⟨T3, X3, e3, st3⟩ := getS2 X0 hx hZ hown (host := "") (Or.inl (hw _ (List.mem_of_getElem? (i := 16) rfl))) Via.refl e0 (A2.1.ext O0.2) (g := (mkF m 22 #[.val (.int p2)] [])) rfl (hb hby own_d2_22)
        refine own_via (B := T3.setTop (mkF m 25 #[.val (.int p2)] [(.ref w2)])) (fun t k => st3 t k) ?_
        refine own_leaf X3 hx hlk (t := (.object "com/example/corrib/corrib/answer/Work$Kind")) Bd.returns rfl (Or.inr (Or.inr (Or.inr (Or.inr ⟨rfl, rfl, rfl⟩)))) (hb hby own_d2_25) (by decide) (by decide) ?_
        show Q2 Z p2 w0 w1 w2 w3 w4 w5 w6 w7 w8 h0 n0 _ T3.heap _
        rw [e3]
        refine ⟨?_, N0, rfl, (own_at hall p2).ext O0.2⟩
        simp [own_pick, hc1, hc10, hc19]
      · refine own_via (B := s₁.setTop (mkF m 26 #[.val (.int p2)] [])) (fun t k => XS.icmpYes X0.here hx rfl (pc0 := 19) (pc' := 26) rfl (hb hby own_d2_19) rfl (feq hc19).2 (by decide) (by decide) k) ?_
        refine own_via (B := s₁.setTop (mkF m 27 #[.val (.int p2)] [(.int p2)])) (fun t k => XS.iloadN X0.here hx rfl (hb hby own_d2_26) rfl k) ?_
        refine own_via (B := s₁.setTop (mkF m 28 #[.val (.int p2)] [(.int (3 : Int32)), (.int p2)])) (fun t k => XS.iconst X0.here hx rfl (hb hby own_d2_27) k) ?_
        by_cases hc28 : p2 = (3 : Int32)
        · refine own_via (B := s₁.setTop (mkF m 31 #[.val (.int p2)] [])) (fun t k => XS.icmpNo X0.here hx rfl (hb hby own_d2_28) rfl (teq hc28).2 k) ?_
          obtain ⟨T4, X4, e4, st4⟩ := getS2 X0 hx hZ hown (host := "") (Or.inl (hw _ (List.mem_of_getElem? (i := 54) rfl))) Via.refl e0 (A3.1.ext O0.2) (g := (mkF m 31 #[.val (.int p2)] [])) rfl (hb hby own_d2_31)
          refine own_via (B := T4.setTop (mkF m 34 #[.val (.int p2)] [(.ref w3)])) (fun t k => st4 t k) ?_
          refine own_leaf X4 hx hlk (t := (.object "com/example/corrib/corrib/answer/Work$Kind")) Bd.returns rfl (Or.inr (Or.inr (Or.inr (Or.inr ⟨rfl, rfl, rfl⟩)))) (hb hby own_d2_34) (by decide) (by decide) ?_
          show Q2 Z p2 w0 w1 w2 w3 w4 w5 w6 w7 w8 h0 n0 _ T4.heap _
          rw [e4]
          refine ⟨?_, N0, rfl, (own_at hall p2).ext O0.2⟩
          simp [own_pick, hc1, hc10, hc19, hc28]
        · refine own_via (B := s₁.setTop (mkF m 35 #[.val (.int p2)] [])) (fun t k => XS.icmpYes X0.here hx rfl (pc0 := 28) (pc' := 35) rfl (hb hby own_d2_28) rfl (feq hc28).2 (by decide) (by decide) k) ?_
          refine own_via (B := s₁.setTop (mkF m 36 #[.val (.int p2)] [(.int p2)])) (fun t k => XS.iloadN X0.here hx rfl (hb hby own_d2_35) rfl k) ?_
          refine own_via (B := s₁.setTop (mkF m 37 #[.val (.int p2)] [(.int (4 : Int32)), (.int p2)])) (fun t k => XS.iconst X0.here hx rfl (hb hby own_d2_36) k) ?_
          by_cases hc37 : p2 = (4 : Int32)
          · refine own_via (B := s₁.setTop (mkF m 40 #[.val (.int p2)] [])) (fun t k => XS.icmpNo X0.here hx rfl (hb hby own_d2_37) rfl (teq hc37).2 k) ?_
            obtain ⟨T5, X5, e5, st5⟩ := getS2 X0 hx hZ hown (host := "") (Or.inl (hw _ (List.mem_of_getElem? (i := 48) rfl))) Via.refl e0 (A4.1.ext O0.2) (g := (mkF m 40 #[.val (.int p2)] [])) rfl (hb hby own_d2_40)
            refine own_via (B := T5.setTop (mkF m 43 #[.val (.int p2)] [(.ref w4)])) (fun t k => st5 t k) ?_
            refine own_leaf X5 hx hlk (t := (.object "com/example/corrib/corrib/answer/Work$Kind")) Bd.returns rfl (Or.inr (Or.inr (Or.inr (Or.inr ⟨rfl, rfl, rfl⟩)))) (hb hby own_d2_43) (by decide) (by decide) ?_
            show Q2 Z p2 w0 w1 w2 w3 w4 w5 w6 w7 w8 h0 n0 _ T5.heap _
            rw [e5]
            refine ⟨?_, N0, rfl, (own_at hall p2).ext O0.2⟩
            simp [own_pick, hc1, hc10, hc19, hc28, hc37]
          · refine own_via (B := s₁.setTop (mkF m 44 #[.val (.int p2)] [])) (fun t k => XS.icmpYes X0.here hx rfl (pc0 := 37) (pc' := 44) rfl (hb hby own_d2_37) rfl (feq hc37).2 (by decide) (by decide) k) ?_
            refine own_via (B := s₁.setTop (mkF m 45 #[.val (.int p2)] [(.int p2)])) (fun t k => XS.iloadN X0.here hx rfl (hb hby own_d2_44) rfl k) ?_
            refine own_via (B := s₁.setTop (mkF m 46 #[.val (.int p2)] [(.int (5 : Int32)), (.int p2)])) (fun t k => XS.iconst X0.here hx rfl (hb hby own_d2_45) k) ?_
            by_cases hc46 : p2 = (5 : Int32)
            · refine own_via (B := s₁.setTop (mkF m 49 #[.val (.int p2)] [])) (fun t k => XS.icmpNo X0.here hx rfl (hb hby own_d2_46) rfl (teq hc46).2 k) ?_
              obtain ⟨T6, X6, e6, st6⟩ := getS2 X0 hx hZ hown (host := "") (Or.inl (hw _ (List.mem_of_getElem? (i := 56) rfl))) Via.refl e0 (A5.1.ext O0.2) (g := (mkF m 49 #[.val (.int p2)] [])) rfl (hb hby own_d2_49)
              refine own_via (B := T6.setTop (mkF m 52 #[.val (.int p2)] [(.ref w5)])) (fun t k => st6 t k) ?_
              refine own_leaf X6 hx hlk (t := (.object "com/example/corrib/corrib/answer/Work$Kind")) Bd.returns rfl (Or.inr (Or.inr (Or.inr (Or.inr ⟨rfl, rfl, rfl⟩)))) (hb hby own_d2_52) (by decide) (by decide) ?_
              show Q2 Z p2 w0 w1 w2 w3 w4 w5 w6 w7 w8 h0 n0 _ T6.heap _
              rw [e6]
              refine ⟨?_, N0, rfl, (own_at hall p2).ext O0.2⟩
              simp [own_pick, hc1, hc10, hc19, hc28, hc37, hc46]
            · refine own_via (B := s₁.setTop (mkF m 53 #[.val (.int p2)] [])) (fun t k => XS.icmpYes X0.here hx rfl (pc0 := 46) (pc' := 53) rfl (hb hby own_d2_46) rfl (feq hc46).2 (by decide) (by decide) k) ?_
              refine own_via (B := s₁.setTop (mkF m 54 #[.val (.int p2)] [(.int p2)])) (fun t k => XS.iloadN X0.here hx rfl (hb hby own_d2_53) rfl k) ?_
              refine own_via (B := s₁.setTop (mkF m 56 #[.val (.int p2)] [(.int (6 : Int32)), (.int p2)])) (fun t k => XS.bipush X0.here hx rfl (hb hby own_d2_54) k) ?_
              by_cases hc56 : p2 = (6 : Int32)
              · refine own_via (B := s₁.setTop (mkF m 59 #[.val (.int p2)] [])) (fun t k => XS.icmpNo X0.here hx rfl (hb hby own_d2_56) rfl (teq hc56).2 k) ?_
                obtain ⟨T7, X7, e7, st7⟩ := getS2 X0 hx hZ hown (host := "") (Or.inl (hw _ (List.mem_of_getElem? (i := 51) rfl))) Via.refl e0 (A6.1.ext O0.2) (g := (mkF m 59 #[.val (.int p2)] [])) rfl (hb hby own_d2_59)
                refine own_via (B := T7.setTop (mkF m 62 #[.val (.int p2)] [(.ref w6)])) (fun t k => st7 t k) ?_
                refine own_leaf X7 hx hlk (t := (.object "com/example/corrib/corrib/answer/Work$Kind")) Bd.returns rfl (Or.inr (Or.inr (Or.inr (Or.inr ⟨rfl, rfl, rfl⟩)))) (hb hby own_d2_62) (by decide) (by decide) ?_
                show Q2 Z p2 w0 w1 w2 w3 w4 w5 w6 w7 w8 h0 n0 _ T7.heap _
                rw [e7]
                refine ⟨?_, N0, rfl, (own_at hall p2).ext O0.2⟩
                simp [own_pick, hc1, hc10, hc19, hc28, hc37, hc46, hc56]
              · refine own_via (B := s₁.setTop (mkF m 63 #[.val (.int p2)] [])) (fun t k => XS.icmpYes X0.here hx rfl (pc0 := 56) (pc' := 63) rfl (hb hby own_d2_56) rfl (feq hc56).2 (by decide) (by decide) k) ?_
                refine own_via (B := s₁.setTop (mkF m 64 #[.val (.int p2)] [(.int p2)])) (fun t k => XS.iloadN X0.here hx rfl (hb hby own_d2_63) rfl k) ?_
                refine own_via (B := s₁.setTop (mkF m 66 #[.val (.int p2)] [(.int (7 : Int32)), (.int p2)])) (fun t k => XS.bipush X0.here hx rfl (hb hby own_d2_64) k) ?_
                by_cases hc66 : p2 = (7 : Int32)
                · refine own_via (B := s₁.setTop (mkF m 69 #[.val (.int p2)] [])) (fun t k => XS.icmpNo X0.here hx rfl (hb hby own_d2_66) rfl (teq hc66).2 k) ?_
                  obtain ⟨T8, X8, e8, st8⟩ := getS2 X0 hx hZ hown (host := "") (Or.inl (hw _ (List.mem_of_getElem? (i := 42) rfl))) Via.refl e0 (A7.1.ext O0.2) (g := (mkF m 69 #[.val (.int p2)] [])) rfl (hb hby own_d2_69)
                  refine own_via (B := T8.setTop (mkF m 72 #[.val (.int p2)] [(.ref w7)])) (fun t k => st8 t k) ?_
                  refine own_leaf X8 hx hlk (t := (.object "com/example/corrib/corrib/answer/Work$Kind")) Bd.returns rfl (Or.inr (Or.inr (Or.inr (Or.inr ⟨rfl, rfl, rfl⟩)))) (hb hby own_d2_72) (by decide) (by decide) ?_
                  show Q2 Z p2 w0 w1 w2 w3 w4 w5 w6 w7 w8 h0 n0 _ T8.heap _
                  rw [e8]
                  refine ⟨?_, N0, rfl, (own_at hall p2).ext O0.2⟩
                  simp [own_pick, hc1, hc10, hc19, hc28, hc37, hc46, hc56, hc66]
                · refine own_via (B := s₁.setTop (mkF m 73 #[.val (.int p2)] [])) (fun t k => XS.icmpYes X0.here hx rfl (pc0 := 66) (pc' := 73) rfl (hb hby own_d2_66) rfl (feq hc66).2 (by decide) (by decide) k) ?_
                  obtain ⟨T9, X9, e9, st9⟩ := getS2 X0 hx hZ hown (host := "") (Or.inl (hw _ (List.mem_of_getElem? (i := 59) rfl))) Via.refl e0 (A8.1.ext O0.2) (g := (mkF m 73 #[.val (.int p2)] [])) rfl (hb hby own_d2_73)
                  refine own_via (B := T9.setTop (mkF m 76 #[.val (.int p2)] [(.ref w8)])) (fun t k => st9 t k) ?_
                  refine own_leaf X9 hx hlk (t := (.object "com/example/corrib/corrib/answer/Work$Kind")) Bd.returns rfl (Or.inr (Or.inr (Or.inr (Or.inr ⟨rfl, rfl, rfl⟩)))) (hb hby own_d2_76) (by decide) (by decide) ?_
                  show Q2 Z p2 w0 w1 w2 w3 w4 w5 w6 w7 w8 h0 n0 _ T9.heap _
                  rw [e9]
                  refine ⟨?_, N0, rfl, (own_at hall p2).ext O0.2⟩
                  simp [own_pick, hc1, hc10, hc19, hc28, hc37, hc46, hc56, hc66]
theorem own_d3_0 : decode prog_2_method_2_code 0 = .ok (.aload_n 0, 1) := by decide +kernel
theorem own_d3_1 : decode prog_2_method_2_code 1 = .ok (.dup, 1) := by decide +kernel
theorem own_d3_2 : decode prog_2_method_2_code 2 = .ok (.getfield 7, 3) := by decide +kernel
theorem own_d3_5 : decode prog_2_method_2_code 5 = .ok (.aload_n 1, 1) := by decide +kernel
theorem own_d3_6 : decode prog_2_method_2_code 6 = .ok (.getfield 13, 3) := by decide +kernel
theorem own_d3_9 : decode prog_2_method_2_code 9 = .ok (.lload_n 2, 1) := by decide +kernel
theorem own_d3_10 : decode prog_2_method_2_code 10 = .ok (.lmul, 1) := by decide +kernel
theorem own_d3_11 : decode prog_2_method_2_code 11 = .ok (.lsub, 1) := by decide +kernel
theorem own_d3_12 : decode prog_2_method_2_code 12 = .ok (.putfield 7, 3) := by decide +kernel
theorem own_d3_15 : decode prog_2_method_2_code 15 = .ok (.return_, 1) := by decide +kernel
theorem own_ef3 (m : MethodId) (x0 : Addr) (x1 : Addr) (x2 : Int64) : entryFrame m #[(.ref x0), (.ref x1), (.long x2)] 4 = mkF m 0 #[.val (.ref x0), .val (.ref x1), .val (.long x2), .second] [] := by first | (simp [entryFrame, mkF, argsToLocals, Value.category]; done) | rfl
def Q3 (Z : State) (a3 : Addr) (k3 : Addr) (c3 : Int64) (l3 : Int64) (u3 : Int64) (h0 : Heap) (n0 : Nat) (v : Option Value) (h : Heap) (L : List Loc) : Prop := v = none ∧ Fr n0 L ∧ Keep h0 h [a3] ∧ (Fld Z h a3 "com/example/corrib/corrib/answer/Work" "left" "J" (.long (l3 - (u3 * c3))))
set_option maxRecDepth 65536 in
set_option maxHeartbeats 40000000 in
theorem rm3 (l : Launch) (Z : State) (a0 : Array Value) (hw : ∀ d ∈ tables_1, d.before a0 Z = true) (ws : List Jvm.Cond) (a3 : Addr) (k3 : Addr) (c3 : Int64) (l3 : Int64) (u3 : Int64) (h0 : Heap) (n0 : Nat) (Z0 : n0 ≤ h0.size) (E3 : Exa Z h0 a3 "com/example/corrib/corrib/answer/Work") (F3 : Fld Z h0 a3 "com/example/corrib/corrib/answer/Work" "left" "J" (.long l3)) (G3 : Fld Z h0 k3 "com/example/corrib/corrib/answer/Work$Kind" "units" "J" (.long u3)) (g_a3 : n0 ≤ a3) :
    MetFree l (⟨"com/example/corrib/corrib/answer/Work", "take", "(Lcom/example/corrib/corrib/answer/Work$Kind;J)V"⟩ : MethodName) (head1 (Jvm.Cond.code (⟨"com/example/corrib/corrib/answer/Work", "take", "(Lcom/example/corrib/corrib/answer/Work$Kind;J)V"⟩ : MethodName) prog_2_method_2_code 4 none :: ws) ({ frames := 0, cells := 0, slots := 0, locals := 0 } : Room)) (fun a U => a = #[(.ref a3), (.ref k3), (.long c3)] ∧ Z.Warmed39 U.vm ∧ U.heap = h0) (fun _ _ _ _ _ => True) (fun _ U o U' => ∃ v L, o = .returned v ∧ Q3 Z a3 k3 c3 l3 u3 h0 n0 v U'.heap L ∧ FrameEnd U o U' L ({ frames := 0, cells := 0, slots := 0, locals := 0 } : Room).cells ({ frames := 0, cells := 0, slots := 0, locals := 0 } : Room).slots) := by
  refine MetFree.of_bodySF (plainFor_of_name own_pn0) hisR ?_
  intro p e s m args below meth c s₁ Bd hml0 hP hK
  obtain ⟨rfl, hZ, hh⟩ := hP
  have hx := Bd.exec
  have hby := Bd.bytes
  have hlk : meth.locks = false := Bd.notSynchronized
  have hml : c.maxLocals = 4 := hml0
  have hown : s.vm.findClass "com/example/corrib/corrib/answer/Work" = some m.cls := findClass_of_methodNamed Bd.named
  have hnm := (name_of_methodNamed Bd.named Bd.method).1
  have X0 : Stand p l e ({ frames := 0, cells := 0, slots := 0, locals := 0 } : Room) s m #[(.ref a3), (.ref k3), (.long c3)] below meth c s₁ [] 0 0 := Stand.of_body Bd
  have e0 : s₁.heap = h0 := by rw [← hh, Bd.state]; rfl
  have N0 := Fr.nil n0
  refine own_body (A := s₁.setTop (mkF m 0 #[.val (.ref a3), .val (.ref k3), .val (.long c3), .second] [])) (Q := Q3 Z a3 k3 c3 l3 u3 h0 n0) (fun t k => castTop (own_ef3 m a3 k3 c3) k) ?_
  refine own_via (B := s₁.setTop (mkF m 1 #[.val (.ref a3), .val (.ref k3), .val (.long c3), .second] [(.ref a3)])) (fun t k => XS.aloadN X0.here hx rfl (hb hby own_d3_0) rfl rfl k) ?_
  refine own_via (B := s₁.setTop (mkF m 2 #[.val (.ref a3), .val (.ref k3), .val (.long c3), .second] [(.ref a3), (.ref a3)])) (fun t k => XS.dup X0.here hx rfl (hb hby own_d3_1) rfl rfl k) ?_
  obtain ⟨T1, X1, e1, st1⟩ := getF X0 hx hZ hown (host := "") (Or.inl (hw _ (List.mem_of_getElem? (i := 10) rfl))) Via.refl e0 F3 (g := (mkF m 2 #[.val (.ref a3), .val (.ref k3), .val (.long c3), .second] [(.ref a3), (.ref a3)])) rfl rfl (hb hby own_d3_2)
  refine own_via (B := T1.setTop (mkF m 5 #[.val (.ref a3), .val (.ref k3), .val (.long c3), .second] [(.long l3), (.ref a3)])) (fun t k => st1 t k) ?_
  refine own_via (B := T1.setTop (mkF m 6 #[.val (.ref a3), .val (.ref k3), .val (.long c3), .second] [(.ref k3), (.long l3), (.ref a3)])) (fun t k => XS.aloadN X1.here hx rfl (hb hby own_d3_5) rfl rfl k) ?_
  obtain ⟨T2, X2, e2, st2⟩ := own_getFR X1 hx hZ hown (hw _ (List.mem_of_getElem? (i := 24) rfl)) Via.refl e1 G3 (g := (mkF m 6 #[.val (.ref a3), .val (.ref k3), .val (.long c3), .second] [(.ref k3), (.long l3), (.ref a3)])) rfl rfl (hb hby own_d3_6)
  refine own_via (B := T2.setTop (mkF m 9 #[.val (.ref a3), .val (.ref k3), .val (.long c3), .second] [(.long u3), (.long l3), (.ref a3)])) (fun t k => st2 t k) ?_
  refine own_via (B := T2.setTop (mkF m 10 #[.val (.ref a3), .val (.ref k3), .val (.long c3), .second] [(.long c3), (.long u3), (.long l3), (.ref a3)])) (fun t k => XS.lloadN X2.here hx rfl (hb hby own_d3_9) rfl k) ?_
  refine own_via (B := T2.setTop (mkF m 11 #[.val (.ref a3), .val (.ref k3), .val (.long c3), .second] [(.long (u3 * c3)), (.long l3), (.ref a3)])) (fun t k => XS.lmul X2.here hx rfl (hb hby own_d3_10) rfl k) ?_
  refine own_via (B := T2.setTop (mkF m 12 #[.val (.ref a3), .val (.ref k3), .val (.long c3), .second] [(.long (l3 - (u3 * c3))), (.ref a3)])) (fun t k => XS.lsub X2.here hx rfl (hb hby own_d3_11) rfl k) ?_
  obtain ⟨T3, h3, X3, e3, W3, st3⟩ := putF X2 hx hZ hown (host := "") (Or.inl (hw _ (List.mem_of_getElem? (i := 10) rfl))) Via.refl e2 F3 E3 (Or.inl (hw _ (List.mem_of_getElem? (i := 11) rfl))) (hw _ (List.mem_of_getElem? (i := 2) rfl)) (ty := .long) (by decide) rfl rfl (g := (mkF m 12 #[.val (.ref a3), .val (.ref k3), .val (.long c3), .second] [(.long (l3 - (u3 * c3))), (.ref a3)])) rfl rfl (hb hby own_d3_12)
  have Fw3 := F3.same W3
  have N3 := Fr.snoc X3 N0 g_a3
  refine own_via (B := T3.setTop (mkF m 15 #[.val (.ref a3), .val (.ref k3), .val (.long c3), .second] [])) (fun t k => st3 t k) ?_
  refine own_leafV X3 hx hlk Bd.returns (hb hby own_d3_15) (by decide) (by decide) ?_
  show Q3 Z a3 k3 c3 l3 u3 h0 n0 _ T3.heap _
  rw [e3]
  refine ⟨?_, N3, ((Keep.refl h0 [a3]).wr W3 (Or.inl (List.mem_of_getElem? (i := 0) rfl))), Fw3⟩
  rfl
theorem own_d4_0 : decode method_3_code 0 = .ok (.iload_n 0, 1) := by decide +kernel
theorem own_d4_1 : decode method_3_code 1 = .ok (.ifCond .ne 7, 3) := by decide +kernel
theorem own_d4_4 : decode method_3_code 4 = .ok (.ldc2_w 37, 3) := by decide +kernel
theorem own_d4_7 : decode method_3_code 7 = .ok (.lreturn, 1) := by decide +kernel
theorem own_d4_8 : decode method_3_code 8 = .ok (.iload_n 0, 1) := by decide +kernel
theorem own_d4_9 : decode method_3_code 9 = .ok (.iconst 1, 1) := by decide +kernel
theorem own_d4_10 : decode method_3_code 10 = .ok (.if_icmp .ne 7, 3) := by decide +kernel
theorem own_d4_13 : decode method_3_code 13 = .ok (.ldc2_w 39, 3) := by decide +kernel
theorem own_d4_16 : decode method_3_code 16 = .ok (.lreturn, 1) := by decide +kernel
theorem own_d4_17 : decode method_3_code 17 = .ok (.iload_n 0, 1) := by decide +kernel
theorem own_d4_18 : decode method_3_code 18 = .ok (.iconst 2, 1) := by decide +kernel
theorem own_d4_19 : decode method_3_code 19 = .ok (.if_icmp .ne 7, 3) := by decide +kernel
theorem own_d4_22 : decode method_3_code 22 = .ok (.ldc2_w 41, 3) := by decide +kernel
theorem own_d4_25 : decode method_3_code 25 = .ok (.lreturn, 1) := by decide +kernel
theorem own_d4_26 : decode method_3_code 26 = .ok (.iload_n 0, 1) := by decide +kernel
theorem own_d4_27 : decode method_3_code 27 = .ok (.iconst 3, 1) := by decide +kernel
theorem own_d4_28 : decode method_3_code 28 = .ok (.if_icmp .ne 7, 3) := by decide +kernel
theorem own_d4_31 : decode method_3_code 31 = .ok (.ldc2_w 43, 3) := by decide +kernel
theorem own_d4_34 : decode method_3_code 34 = .ok (.lreturn, 1) := by decide +kernel
theorem own_d4_35 : decode method_3_code 35 = .ok (.iload_n 0, 1) := by decide +kernel
theorem own_d4_36 : decode method_3_code 36 = .ok (.iconst 4, 1) := by decide +kernel
theorem own_d4_37 : decode method_3_code 37 = .ok (.if_icmp .ne 7, 3) := by decide +kernel
theorem own_d4_40 : decode method_3_code 40 = .ok (.ldc2_w 45, 3) := by decide +kernel
theorem own_d4_43 : decode method_3_code 43 = .ok (.lreturn, 1) := by decide +kernel
theorem own_d4_44 : decode method_3_code 44 = .ok (.iload_n 0, 1) := by decide +kernel
theorem own_d4_45 : decode method_3_code 45 = .ok (.iconst 5, 1) := by decide +kernel
theorem own_d4_46 : decode method_3_code 46 = .ok (.if_icmp .ne 7, 3) := by decide +kernel
theorem own_d4_49 : decode method_3_code 49 = .ok (.ldc2_w 47, 3) := by decide +kernel
theorem own_d4_52 : decode method_3_code 52 = .ok (.lreturn, 1) := by decide +kernel
theorem own_d4_53 : decode method_3_code 53 = .ok (.iload_n 0, 1) := by decide +kernel
theorem own_d4_54 : decode method_3_code 54 = .ok (.bipush 6, 2) := by decide +kernel
theorem own_d4_56 : decode method_3_code 56 = .ok (.if_icmp .ne 7, 3) := by decide +kernel
theorem own_d4_59 : decode method_3_code 59 = .ok (.ldc2_w 49, 3) := by decide +kernel
theorem own_d4_62 : decode method_3_code 62 = .ok (.lreturn, 1) := by decide +kernel
theorem own_d4_63 : decode method_3_code 63 = .ok (.iload_n 0, 1) := by decide +kernel
theorem own_d4_64 : decode method_3_code 64 = .ok (.bipush 7, 2) := by decide +kernel
theorem own_d4_66 : decode method_3_code 66 = .ok (.if_icmp .ne 7, 3) := by decide +kernel
theorem own_d4_69 : decode method_3_code 69 = .ok (.ldc2_w 43, 3) := by decide +kernel
theorem own_d4_72 : decode method_3_code 72 = .ok (.lreturn, 1) := by decide +kernel
theorem own_d4_73 : decode method_3_code 73 = .ok (.ldc2_w 51, 3) := by decide +kernel
theorem own_d4_76 : decode method_3_code 76 = .ok (.lreturn, 1) := by decide +kernel
theorem own_ef4 (m : MethodId) (x0 : Int32) : entryFrame m #[(.int x0)] 1 = mkF m 0 #[.val (.int x0)] [] := by first | (simp [entryFrame, mkF, argsToLocals, Value.category]; done) | rfl
def Q4 (Z : State) (p4 : Int32) (h0 : Heap) (n0 : Nat) (v : Option Value) (h : Heap) (L : List Loc) : Prop := v = some (.long (own_units p4)) ∧ Fr n0 L ∧ h = h0
set_option maxRecDepth 65536 in
set_option maxHeartbeats 40000000 in
theorem rm4 (l : Launch) (Z : State) (a0 : Array Value) (hw : ∀ d ∈ tables_1, d.before a0 Z = true) (ws : List Jvm.Cond) (p4 : Int32) (h0 : Heap) (n0 : Nat) (Z0 : n0 ≤ h0.size) :
    MetFree l (⟨"com/example/corrib/corrib/answer/WorkTakePinLaw", "units", "(I)J"⟩ : MethodName) (head1 (Jvm.Cond.code (⟨"com/example/corrib/corrib/answer/WorkTakePinLaw", "units", "(I)J"⟩ : MethodName) method_3_code 1 (some .long) :: ws) ({ frames := 0, cells := 0, slots := 0, locals := 0 } : Room)) (fun a U => a = #[(.int p4)] ∧ Z.Warmed39 U.vm ∧ U.heap = h0) (fun _ _ _ _ _ => True) (fun _ U o U' => ∃ v L, o = .returned v ∧ Q4 Z p4 h0 n0 v U'.heap L ∧ FrameEnd U o U' L ({ frames := 0, cells := 0, slots := 0, locals := 0 } : Room).cells ({ frames := 0, cells := 0, slots := 0, locals := 0 } : Room).slots) := by
  refine MetFree.of_bodySF (plainFor_of_name own_pn1) hisR ?_
  intro p e s m args below meth c s₁ Bd hml0 hP hK
  obtain ⟨rfl, hZ, hh⟩ := hP
  have hx := Bd.exec
  have hby := Bd.bytes
  have hlk : meth.locks = false := Bd.notSynchronized
  have hml : c.maxLocals = 1 := hml0
  have hown : s.vm.findClass "com/example/corrib/corrib/answer/WorkTakePinLaw" = some m.cls := findClass_of_methodNamed Bd.named
  have hnm := (name_of_methodNamed Bd.named Bd.method).1
  have X0 : Stand p l e ({ frames := 0, cells := 0, slots := 0, locals := 0 } : Room) s m #[(.int p4)] below meth c s₁ [] 0 0 := Stand.of_body Bd
  have e0 : s₁.heap = h0 := by rw [← hh, Bd.state]; rfl
  have N0 := Fr.nil n0
  refine own_body (A := s₁.setTop (mkF m 0 #[.val (.int p4)] [])) (Q := Q4 Z p4 h0 n0) (fun t k => castTop (own_ef4 m p4) k) ?_
  refine own_via (B := s₁.setTop (mkF m 1 #[.val (.int p4)] [(.int p4)])) (fun t k => XS.iloadN X0.here hx rfl (hb hby own_d4_0) rfl k) ?_
  by_cases hc1 : p4 = (0 : Int32)
  · refine own_via (B := s₁.setTop (mkF m 4 #[.val (.int p4)] [])) (fun t k => XS.ifNo X0.here hx rfl (hb hby own_d4_1) rfl ((if0 _ _).trans (teq hc1).2) k) ?_
    refine own_via (B := s₁.setTop (mkF m 7 #[.val (.int p4)] [(.long (90 : Int64))])) (fun t k => X0.ldc2Long hx hown (mvT hZ (hw _ (List.mem_of_getElem? (i := 41) rfl))) (g := (mkF m 4 #[.val (.int p4)] [])) rfl (hb hby own_d4_4) _ k) ?_
    refine own_leaf X0 hx hlk (t := .long) Bd.returns rfl (Or.inr (Or.inl ⟨rfl, rfl, _, rfl⟩)) (hb hby own_d4_7) (by decide) (by decide) ?_
    show Q4 Z p4 h0 n0 _ s₁.heap _
    rw [e0]
    refine ⟨?_, N0, rfl⟩
    simp [own_units, hc1]
  · refine own_via (B := s₁.setTop (mkF m 8 #[.val (.int p4)] [])) (fun t k => XS.ifYes X0.here hx rfl (pc0 := 1) (pc' := 8) rfl (hb hby own_d4_1) rfl ((if0 _ _).trans (feq hc1).2) (by decide) (by decide) k) ?_
    refine own_via (B := s₁.setTop (mkF m 9 #[.val (.int p4)] [(.int p4)])) (fun t k => XS.iloadN X0.here hx rfl (hb hby own_d4_8) rfl k) ?_
    refine own_via (B := s₁.setTop (mkF m 10 #[.val (.int p4)] [(.int (1 : Int32)), (.int p4)])) (fun t k => XS.iconst X0.here hx rfl (hb hby own_d4_9) k) ?_
    by_cases hc10 : p4 = (1 : Int32)
    · refine own_via (B := s₁.setTop (mkF m 13 #[.val (.int p4)] [])) (fun t k => XS.icmpNo X0.here hx rfl (hb hby own_d4_10) rfl (teq hc10).2 k) ?_
      refine own_via (B := s₁.setTop (mkF m 16 #[.val (.int p4)] [(.long (1000 : Int64))])) (fun t k => X0.ldc2Long hx hown (mvT hZ (hw _ (List.mem_of_getElem? (i := 47) rfl))) (g := (mkF m 13 #[.val (.int p4)] [])) rfl (hb hby own_d4_13) _ k) ?_
      refine own_leaf X0 hx hlk (t := .long) Bd.returns rfl (Or.inr (Or.inl ⟨rfl, rfl, _, rfl⟩)) (hb hby own_d4_16) (by decide) (by decide) ?_
      show Q4 Z p4 h0 n0 _ s₁.heap _
      rw [e0]
      refine ⟨?_, N0, rfl⟩
      simp [own_units, hc1, hc10]
    · refine own_via (B := s₁.setTop (mkF m 17 #[.val (.int p4)] [])) (fun t k => XS.icmpYes X0.here hx rfl (pc0 := 10) (pc' := 17) rfl (hb hby own_d4_10) rfl (feq hc10).2 (by decide) (by decide) k) ?_
      refine own_via (B := s₁.setTop (mkF m 18 #[.val (.int p4)] [(.int p4)])) (fun t k => XS.iloadN X0.here hx rfl (hb hby own_d4_17) rfl k) ?_
      refine own_via (B := s₁.setTop (mkF m 19 #[.val (.int p4)] [(.int (2 : Int32)), (.int p4)])) (fun t k => XS.iconst X0.here hx rfl (hb hby own_d4_18) k) ?_
      by_cases hc19 : p4 = (2 : Int32)
      · refine own_via (B := s₁.setTop (mkF m 22 #[.val (.int p4)] [])) (fun t k => XS.icmpNo X0.here hx rfl (hb hby own_d4_19) rfl (teq hc19).2 k) ?_
        refine own_via (B := s₁.setTop (mkF m 25 #[.val (.int p4)] [(.long (600 : Int64))])) (fun t k => X0.ldc2Long hx hown (mvT hZ (hw _ (List.mem_of_getElem? (i := 29) rfl))) (g := (mkF m 22 #[.val (.int p4)] [])) rfl (hb hby own_d4_22) _ k) ?_
        refine own_leaf X0 hx hlk (t := .long) Bd.returns rfl (Or.inr (Or.inl ⟨rfl, rfl, _, rfl⟩)) (hb hby own_d4_25) (by decide) (by decide) ?_
        show Q4 Z p4 h0 n0 _ s₁.heap _
        rw [e0]
        refine ⟨?_, N0, rfl⟩
        simp [own_units, hc1, hc10, hc19]
      · refine own_via (B := s₁.setTop (mkF m 26 #[.val (.int p4)] [])) (fun t k => XS.icmpYes X0.here hx rfl (pc0 := 19) (pc' := 26) rfl (hb hby own_d4_19) rfl (feq hc19).2 (by decide) (by decide) k) ?_
        refine own_via (B := s₁.setTop (mkF m 27 #[.val (.int p4)] [(.int p4)])) (fun t k => XS.iloadN X0.here hx rfl (hb hby own_d4_26) rfl k) ?_
        refine own_via (B := s₁.setTop (mkF m 28 #[.val (.int p4)] [(.int (3 : Int32)), (.int p4)])) (fun t k => XS.iconst X0.here hx rfl (hb hby own_d4_27) k) ?_
        by_cases hc28 : p4 = (3 : Int32)
        · refine own_via (B := s₁.setTop (mkF m 31 #[.val (.int p4)] [])) (fun t k => XS.icmpNo X0.here hx rfl (hb hby own_d4_28) rfl (teq hc28).2 k) ?_
          refine own_via (B := s₁.setTop (mkF m 34 #[.val (.int p4)] [(.long (3 : Int64))])) (fun t k => X0.ldc2Long hx hown (mvT hZ (hw _ (List.mem_of_getElem? (i := 44) rfl))) (g := (mkF m 31 #[.val (.int p4)] [])) rfl (hb hby own_d4_31) _ k) ?_
          refine own_leaf X0 hx hlk (t := .long) Bd.returns rfl (Or.inr (Or.inl ⟨rfl, rfl, _, rfl⟩)) (hb hby own_d4_34) (by decide) (by decide) ?_
          show Q4 Z p4 h0 n0 _ s₁.heap _
          rw [e0]
          refine ⟨?_, N0, rfl⟩
          simp [own_units, hc1, hc10, hc19, hc28]
        · refine own_via (B := s₁.setTop (mkF m 35 #[.val (.int p4)] [])) (fun t k => XS.icmpYes X0.here hx rfl (pc0 := 28) (pc' := 35) rfl (hb hby own_d4_28) rfl (feq hc28).2 (by decide) (by decide) k) ?_
          refine own_via (B := s₁.setTop (mkF m 36 #[.val (.int p4)] [(.int p4)])) (fun t k => XS.iloadN X0.here hx rfl (hb hby own_d4_35) rfl k) ?_
          refine own_via (B := s₁.setTop (mkF m 37 #[.val (.int p4)] [(.int (4 : Int32)), (.int p4)])) (fun t k => XS.iconst X0.here hx rfl (hb hby own_d4_36) k) ?_
          by_cases hc37 : p4 = (4 : Int32)
          · refine own_via (B := s₁.setTop (mkF m 40 #[.val (.int p4)] [])) (fun t k => XS.icmpNo X0.here hx rfl (hb hby own_d4_37) rfl (teq hc37).2 k) ?_
            refine own_via (B := s₁.setTop (mkF m 43 #[.val (.int p4)] [(.long (4 : Int64))])) (fun t k => X0.ldc2Long hx hown (mvT hZ (hw _ (List.mem_of_getElem? (i := 50) rfl))) (g := (mkF m 40 #[.val (.int p4)] [])) rfl (hb hby own_d4_40) _ k) ?_
            refine own_leaf X0 hx hlk (t := .long) Bd.returns rfl (Or.inr (Or.inl ⟨rfl, rfl, _, rfl⟩)) (hb hby own_d4_43) (by decide) (by decide) ?_
            show Q4 Z p4 h0 n0 _ s₁.heap _
            rw [e0]
            refine ⟨?_, N0, rfl⟩
            simp [own_units, hc1, hc10, hc19, hc28, hc37]
          · refine own_via (B := s₁.setTop (mkF m 44 #[.val (.int p4)] [])) (fun t k => XS.icmpYes X0.here hx rfl (pc0 := 37) (pc' := 44) rfl (hb hby own_d4_37) rfl (feq hc37).2 (by decide) (by decide) k) ?_
            refine own_via (B := s₁.setTop (mkF m 45 #[.val (.int p4)] [(.int p4)])) (fun t k => XS.iloadN X0.here hx rfl (hb hby own_d4_44) rfl k) ?_
            refine own_via (B := s₁.setTop (mkF m 46 #[.val (.int p4)] [(.int (5 : Int32)), (.int p4)])) (fun t k => XS.iconst X0.here hx rfl (hb hby own_d4_45) k) ?_
            by_cases hc46 : p4 = (5 : Int32)
            · refine own_via (B := s₁.setTop (mkF m 49 #[.val (.int p4)] [])) (fun t k => XS.icmpNo X0.here hx rfl (hb hby own_d4_46) rfl (teq hc46).2 k) ?_
              refine own_via (B := s₁.setTop (mkF m 52 #[.val (.int p4)] [(.long (300 : Int64))])) (fun t k => X0.ldc2Long hx hown (mvT hZ (hw _ (List.mem_of_getElem? (i := 58) rfl))) (g := (mkF m 49 #[.val (.int p4)] [])) rfl (hb hby own_d4_49) _ k) ?_
              refine own_leaf X0 hx hlk (t := .long) Bd.returns rfl (Or.inr (Or.inl ⟨rfl, rfl, _, rfl⟩)) (hb hby own_d4_52) (by decide) (by decide) ?_
              show Q4 Z p4 h0 n0 _ s₁.heap _
              rw [e0]
              refine ⟨?_, N0, rfl⟩
              simp [own_units, hc1, hc10, hc19, hc28, hc37, hc46]
            · refine own_via (B := s₁.setTop (mkF m 53 #[.val (.int p4)] [])) (fun t k => XS.icmpYes X0.here hx rfl (pc0 := 46) (pc' := 53) rfl (hb hby own_d4_46) rfl (feq hc46).2 (by decide) (by decide) k) ?_
              refine own_via (B := s₁.setTop (mkF m 54 #[.val (.int p4)] [(.int p4)])) (fun t k => XS.iloadN X0.here hx rfl (hb hby own_d4_53) rfl k) ?_
              refine own_via (B := s₁.setTop (mkF m 56 #[.val (.int p4)] [(.int (6 : Int32)), (.int p4)])) (fun t k => XS.bipush X0.here hx rfl (hb hby own_d4_54) k) ?_
              by_cases hc56 : p4 = (6 : Int32)
              · refine own_via (B := s₁.setTop (mkF m 59 #[.val (.int p4)] [])) (fun t k => XS.icmpNo X0.here hx rfl (hb hby own_d4_56) rfl (teq hc56).2 k) ?_
                refine own_via (B := s₁.setTop (mkF m 62 #[.val (.int p4)] [(.long (100 : Int64))])) (fun t k => X0.ldc2Long hx hown (mvT hZ (hw _ (List.mem_of_getElem? (i := 53) rfl))) (g := (mkF m 59 #[.val (.int p4)] [])) rfl (hb hby own_d4_59) _ k) ?_
                refine own_leaf X0 hx hlk (t := .long) Bd.returns rfl (Or.inr (Or.inl ⟨rfl, rfl, _, rfl⟩)) (hb hby own_d4_62) (by decide) (by decide) ?_
                show Q4 Z p4 h0 n0 _ s₁.heap _
                rw [e0]
                refine ⟨?_, N0, rfl⟩
                simp [own_units, hc1, hc10, hc19, hc28, hc37, hc46, hc56]
              · refine own_via (B := s₁.setTop (mkF m 63 #[.val (.int p4)] [])) (fun t k => XS.icmpYes X0.here hx rfl (pc0 := 56) (pc' := 63) rfl (hb hby own_d4_56) rfl (feq hc56).2 (by decide) (by decide) k) ?_
                refine own_via (B := s₁.setTop (mkF m 64 #[.val (.int p4)] [(.int p4)])) (fun t k => XS.iloadN X0.here hx rfl (hb hby own_d4_63) rfl k) ?_
                refine own_via (B := s₁.setTop (mkF m 66 #[.val (.int p4)] [(.int (7 : Int32)), (.int p4)])) (fun t k => XS.bipush X0.here hx rfl (hb hby own_d4_64) k) ?_
                by_cases hc66 : p4 = (7 : Int32)
                · refine own_via (B := s₁.setTop (mkF m 69 #[.val (.int p4)] [])) (fun t k => XS.icmpNo X0.here hx rfl (hb hby own_d4_66) rfl (teq hc66).2 k) ?_
                  refine own_via (B := s₁.setTop (mkF m 72 #[.val (.int p4)] [(.long (3 : Int64))])) (fun t k => X0.ldc2Long hx hown (mvT hZ (hw _ (List.mem_of_getElem? (i := 44) rfl))) (g := (mkF m 69 #[.val (.int p4)] [])) rfl (hb hby own_d4_69) _ k) ?_
                  refine own_leaf X0 hx hlk (t := .long) Bd.returns rfl (Or.inr (Or.inl ⟨rfl, rfl, _, rfl⟩)) (hb hby own_d4_72) (by decide) (by decide) ?_
                  show Q4 Z p4 h0 n0 _ s₁.heap _
                  rw [e0]
                  refine ⟨?_, N0, rfl⟩
                  simp [own_units, hc1, hc10, hc19, hc28, hc37, hc46, hc56, hc66]
                · refine own_via (B := s₁.setTop (mkF m 73 #[.val (.int p4)] [])) (fun t k => XS.icmpYes X0.here hx rfl (pc0 := 66) (pc' := 73) rfl (hb hby own_d4_66) rfl (feq hc66).2 (by decide) (by decide) k) ?_
                  refine own_via (B := s₁.setTop (mkF m 76 #[.val (.int p4)] [(.long (128 : Int64))])) (fun t k => X0.ldc2Long hx hown (mvT hZ (hw _ (List.mem_of_getElem? (i := 61) rfl))) (g := (mkF m 73 #[.val (.int p4)] [])) rfl (hb hby own_d4_73) _ k) ?_
                  refine own_leaf X0 hx hlk (t := .long) Bd.returns rfl (Or.inr (Or.inl ⟨rfl, rfl, _, rfl⟩)) (hb hby own_d4_76) (by decide) (by decide) ?_
                  show Q4 Z p4 h0 n0 _ s₁.heap _
                  rw [e0]
                  refine ⟨?_, N0, rfl⟩
                  simp [own_units, hc1, hc10, hc19, hc28, hc37, hc46, hc56, hc66]
theorem own_d5_0 : decode prog_2_method_3_code 0 = .ok (.aload_n 0, 1) := by decide +kernel
theorem own_d5_1 : decode prog_2_method_3_code 1 = .ok (.getfield 7, 3) := by decide +kernel
theorem own_d5_4 : decode prog_2_method_3_code 4 = .ok (.lload_n 1, 1) := by decide +kernel
theorem own_d5_5 : decode prog_2_method_3_code 5 = .ok (.lcmp, 1) := by decide +kernel
theorem own_d5_6 : decode prog_2_method_3_code 6 = .ok (.ifCond .lt 7, 3) := by decide +kernel
theorem own_d5_9 : decode prog_2_method_3_code 9 = .ok (.iconst 1, 1) := by decide +kernel
theorem own_d5_10 : decode prog_2_method_3_code 10 = .ok (.goto 4, 3) := by decide +kernel
theorem own_d5_13 : decode prog_2_method_3_code 13 = .ok (.iconst 0, 1) := by decide +kernel
theorem own_d5_14 : decode prog_2_method_3_code 14 = .ok (.ireturn, 1) := by decide +kernel
theorem own_ef5 (m : MethodId) (x0 : Addr) (x1 : Int64) : entryFrame m #[(.ref x0), (.long x1)] 3 = mkF m 0 #[.val (.ref x0), .val (.long x1), .second] [] := by first | (simp [entryFrame, mkF, argsToLocals, Value.category]; done) | rfl
def Q5 (Z : State) (a5 : Addr) (x5 : Int64) (l5 : Int64) (h0 : Heap) (n0 : Nat) (v : Option Value) (h : Heap) (L : List Loc) : Prop := v = some (.int (own_bit (¬ (l5 < x5)))) ∧ Fr n0 L ∧ h = h0
set_option maxRecDepth 65536 in
set_option maxHeartbeats 40000000 in
theorem rm5 (l : Launch) (Z : State) (a0 : Array Value) (hw : ∀ d ∈ tables_1, d.before a0 Z = true) (ws : List Jvm.Cond) (a5 : Addr) (x5 : Int64) (l5 : Int64) (h0 : Heap) (n0 : Nat) (Z0 : n0 ≤ h0.size) (F5 : Fld Z h0 a5 "com/example/corrib/corrib/answer/Work" "left" "J" (.long l5)) :
    MetFree l (⟨"com/example/corrib/corrib/answer/Work", "hasLeft", "(J)Z"⟩ : MethodName) (head1 (Jvm.Cond.code (⟨"com/example/corrib/corrib/answer/Work", "hasLeft", "(J)Z"⟩ : MethodName) prog_2_method_3_code 3 (some .boolean) :: ws) ({ frames := 0, cells := 0, slots := 0, locals := 0 } : Room)) (fun a U => a = #[(.ref a5), (.long x5)] ∧ Z.Warmed39 U.vm ∧ U.heap = h0) (fun _ _ _ _ _ => True) (fun _ U o U' => ∃ v L, o = .returned v ∧ Q5 Z a5 x5 l5 h0 n0 v U'.heap L ∧ FrameEnd U o U' L ({ frames := 0, cells := 0, slots := 0, locals := 0 } : Room).cells ({ frames := 0, cells := 0, slots := 0, locals := 0 } : Room).slots) := by
  refine MetFree.of_bodySF (plainFor_of_name own_pn0) hisR ?_
  intro p e s m args below meth c s₁ Bd hml0 hP hK
  obtain ⟨rfl, hZ, hh⟩ := hP
  have hx := Bd.exec
  have hby := Bd.bytes
  have hlk : meth.locks = false := Bd.notSynchronized
  have hml : c.maxLocals = 3 := hml0
  have hown : s.vm.findClass "com/example/corrib/corrib/answer/Work" = some m.cls := findClass_of_methodNamed Bd.named
  have hnm := (name_of_methodNamed Bd.named Bd.method).1
  have X0 : Stand p l e ({ frames := 0, cells := 0, slots := 0, locals := 0 } : Room) s m #[(.ref a5), (.long x5)] below meth c s₁ [] 0 0 := Stand.of_body Bd
  have e0 : s₁.heap = h0 := by rw [← hh, Bd.state]; rfl
  have N0 := Fr.nil n0
  refine own_body (A := s₁.setTop (mkF m 0 #[.val (.ref a5), .val (.long x5), .second] [])) (Q := Q5 Z a5 x5 l5 h0 n0) (fun t k => castTop (own_ef5 m a5 x5) k) ?_
  refine own_via (B := s₁.setTop (mkF m 1 #[.val (.ref a5), .val (.long x5), .second] [(.ref a5)])) (fun t k => XS.aloadN X0.here hx rfl (hb hby own_d5_0) rfl rfl k) ?_
  obtain ⟨T1, X1, e1, st1⟩ := getF X0 hx hZ hown (host := "") (Or.inl (hw _ (List.mem_of_getElem? (i := 10) rfl))) Via.refl e0 F5 (g := (mkF m 1 #[.val (.ref a5), .val (.long x5), .second] [(.ref a5)])) rfl rfl (hb hby own_d5_1)
  refine own_via (B := T1.setTop (mkF m 4 #[.val (.ref a5), .val (.long x5), .second] [(.long l5)])) (fun t k => st1 t k) ?_
  refine own_via (B := T1.setTop (mkF m 5 #[.val (.ref a5), .val (.long x5), .second] [(.long x5), (.long l5)])) (fun t k => XS.lloadN X1.here hx rfl (hb hby own_d5_4) rfl k) ?_
  refine own_via (B := T1.setTop (mkF m 6 #[.val (.ref a5), .val (.long x5), .second] [(.int (lcmpW l5 x5))])) (fun t k => XS.lcmp X1.here hx rfl (hb hby own_d5_5) rfl k) ?_
  refine own_bind (G := fun B => ∃ (T' : State) (L' : List Loc) (v6s0 : Int32), Fr n0 L' ∧ ((((lcmpW l5 x5) < (0 : Int32)) ∧ v6s0 = (0 : Int32)) ∨ ((¬ ((lcmpW l5 x5) < (0 : Int32))) ∧ v6s0 = (1 : Int32))) ∧ B = T'.setTop (mkF m 14 #[.val (.ref a5), .val (.long x5), .second] [(.int v6s0)]) ∧ Stand p l e ({ frames := 0, cells := 0, slots := 0, locals := 0 } : Room) s m #[(.ref a5), (.long x5)] below meth c T' L' 0 0 ∧ T'.heap = h0) ?_ ?_
  · by_cases hc6 : (lcmpW l5 x5) < (0 : Int32)
    · refine own_via (B := T1.setTop (mkF m 13 #[.val (.ref a5), .val (.long x5), .second] [])) (fun t k => XS.ifYes X1.here hx rfl (pc0 := 6) (pc' := 13) rfl (hb hby own_d5_6) rfl ((if0 _ _).trans (tlt hc6).1) (by decide) (by decide) k) ?_
      refine own_via (B := T1.setTop (mkF m 14 #[.val (.ref a5), .val (.long x5), .second] [(.int (0 : Int32))])) (fun t k => XS.iconst X1.here hx rfl (hb hby own_d5_13) k) ?_
      exact own_done ⟨_, _, _, N0, (Or.inl ⟨hc6, rfl⟩), rfl, X1, e1⟩
    · refine own_via (B := T1.setTop (mkF m 9 #[.val (.ref a5), .val (.long x5), .second] [])) (fun t k => XS.ifNo X1.here hx rfl (hb hby own_d5_6) rfl ((if0 _ _).trans (flt hc6).1) k) ?_
      refine own_via (B := T1.setTop (mkF m 10 #[.val (.ref a5), .val (.long x5), .second] [(.int (1 : Int32))])) (fun t k => XS.iconst X1.here hx rfl (hb hby own_d5_9) k) ?_
      refine own_via (B := T1.setTop (mkF m 14 #[.val (.ref a5), .val (.long x5), .second] [(.int (1 : Int32))])) (fun t k => XS.goto X1.here hx rfl (pc0 := 10) (pc' := 14) rfl (hb hby own_d5_10) (by decide) (by decide) k) ?_
      exact own_done ⟨_, _, _, N0, (Or.inr ⟨hc6, rfl⟩), rfl, X1, e1⟩
  · rintro B ⟨T2, L2, v6s0, N2, hv6, rfl, X2, e2⟩
    refine own_leaf X2 hx hlk (t := .boolean) Bd.returns (own_b1 (by rcases hv6 with ⟨_, rfl⟩ | ⟨_, rfl⟩ <;> decide)) (Or.inl ⟨rfl, by simp, _, rfl⟩) (hb hby own_d5_14) (by decide) (by decide) ?_
    show Q5 Z a5 x5 l5 h0 n0 _ T2.heap _
    rw [e2]
    refine ⟨?_, N2, rfl⟩
    rw [lw_lt] at hv6
    rcases hv6 with ⟨h, rfl⟩ | ⟨h, rfl⟩
    · rw [own_bitF (fun q => q h)]
    · rw [own_bitT h]
theorem own_pd0 : parseMethodDescriptor "(J)Z" = some ⟨[.long], some .boolean⟩ := by decide +kernel
theorem own_d6_0 : decode method_4_code 0 = .ok (.aload_n 0, 1) := by decide +kernel
theorem own_d6_1 : decode method_4_code 1 = .ok (.lload_n 1, 1) := by decide +kernel
theorem own_d6_2 : decode method_4_code 2 = .ok (.invokevirtual 53, 3) := by decide +kernel
theorem own_d6_5 : decode method_4_code 5 = .ok (.ifCond .ne 5, 3) := by decide +kernel
theorem own_d6_8 : decode method_4_code 8 = .ok (.iconst 0, 1) := by decide +kernel
theorem own_d6_9 : decode method_4_code 9 = .ok (.ireturn, 1) := by decide +kernel
theorem own_d6_10 : decode method_4_code 10 = .ok (.lload_n 1, 1) := by decide +kernel
theorem own_d6_11 : decode method_4_code 11 = .ok (.ldc2_w 61, 3) := by decide +kernel
theorem own_d6_14 : decode method_4_code 14 = .ok (.lcmp, 1) := by decide +kernel
theorem own_d6_15 : decode method_4_code 15 = .ok (.ifCond .ne 5, 3) := by decide +kernel
theorem own_d6_18 : decode method_4_code 18 = .ok (.iconst 1, 1) := by decide +kernel
theorem own_d6_19 : decode method_4_code 19 = .ok (.ireturn, 1) := by decide +kernel
theorem own_d6_20 : decode method_4_code 20 = .ok (.aload_n 0, 1) := by decide +kernel
theorem own_d6_21 : decode method_4_code 21 = .ok (.lload_n 1, 1) := by decide +kernel
theorem own_d6_22 : decode method_4_code 22 = .ok (.lconst 1, 1) := by decide +kernel
theorem own_d6_23 : decode method_4_code 23 = .ok (.ladd, 1) := by decide +kernel
theorem own_d6_24 : decode method_4_code 24 = .ok (.invokevirtual 53, 3) := by decide +kernel
theorem own_d6_27 : decode method_4_code 27 = .ok (.ifCond .ne 7, 3) := by decide +kernel
theorem own_d6_30 : decode method_4_code 30 = .ok (.iconst 1, 1) := by decide +kernel
theorem own_d6_31 : decode method_4_code 31 = .ok (.goto 4, 3) := by decide +kernel
theorem own_d6_34 : decode method_4_code 34 = .ok (.iconst 0, 1) := by decide +kernel
theorem own_d6_35 : decode method_4_code 35 = .ok (.ireturn, 1) := by decide +kernel
theorem own_ef6 (m : MethodId) (x0 : Addr) (x1 : Int64) : entryFrame m #[(.ref x0), (.long x1)] 3 = mkF m 0 #[.val (.ref x0), .val (.long x1), .second] [] := by first | (simp [entryFrame, mkF, argsToLocals, Value.category]; done) | rfl
def Q6 (Z : State) (a6 : Addr) (x6 : Int64) (l6 : Int64) (h0 : Heap) (n0 : Nat) (v : Option Value) (h : Heap) (L : List Loc) : Prop := v = some (.int (own_bit (l6 = x6))) ∧ Fr n0 L ∧ h = h0
set_option maxRecDepth 65536 in
set_option maxHeartbeats 40000000 in
theorem rm6 (l : Launch) (Z : State) (a0 : Array Value) (hw : ∀ d ∈ tables_1, d.before a0 Z = true) (ws : List Jvm.Cond) (a6 : Addr) (x6 : Int64) (l6 : Int64) (h0 : Heap) (n0 : Nat) (Z0 : n0 ≤ h0.size) (E6 : Exa Z h0 a6 "com/example/corrib/corrib/answer/Work") (F6 : Fld Z h0 a6 "com/example/corrib/corrib/answer/Work" "left" "J" (.long l6)) :
    MetFree l (⟨"com/example/corrib/corrib/answer/WorkTakePinLaw", "leftIs", "(Lcom/example/corrib/corrib/answer/Work;J)Z"⟩ : MethodName) (head1 (Jvm.Cond.code (⟨"com/example/corrib/corrib/answer/WorkTakePinLaw", "leftIs", "(Lcom/example/corrib/corrib/answer/Work;J)Z"⟩ : MethodName) method_4_code 3 (some .boolean) :: ws) ({ frames := 1, cells := 0, slots := 0, locals := 18 } : Room)) (fun a U => a = #[(.ref a6), (.long x6)] ∧ Z.Warmed39 U.vm ∧ U.heap = h0) (fun _ _ _ _ _ => True) (fun _ U o U' => ∃ v L, o = .returned v ∧ Q6 Z a6 x6 l6 h0 n0 v U'.heap L ∧ FrameEnd U o U' L ({ frames := 1, cells := 0, slots := 0, locals := 18 } : Room).cells ({ frames := 1, cells := 0, slots := 0, locals := 18 } : Room).slots) := by
  refine MetFree.of_bodySF (plainFor_of_name own_pn1) hisR ?_
  intro p e s m args below meth c s₁ Bd hml0 hP hK
  obtain ⟨rfl, hZ, hh⟩ := hP
  have hx := Bd.exec
  have hby := Bd.bytes
  have hlk : meth.locks = false := Bd.notSynchronized
  have hml : c.maxLocals = 3 := hml0
  have hown : s.vm.findClass "com/example/corrib/corrib/answer/WorkTakePinLaw" = some m.cls := findClass_of_methodNamed Bd.named
  have hnm := (name_of_methodNamed Bd.named Bd.method).1
  have X0 : Stand p l e ({ frames := 1, cells := 0, slots := 0, locals := 18 } : Room) s m #[(.ref a6), (.long x6)] below meth c s₁ [] 0 0 := Stand.of_body Bd
  have e0 : s₁.heap = h0 := by rw [← hh, Bd.state]; rfl
  have N0 := Fr.nil n0
  refine own_body (A := s₁.setTop (mkF m 0 #[.val (.ref a6), .val (.long x6), .second] [])) (Q := Q6 Z a6 x6 l6 h0 n0) (fun t k => castTop (own_ef6 m a6 x6) k) ?_
  refine own_via (B := s₁.setTop (mkF m 1 #[.val (.ref a6), .val (.long x6), .second] [(.ref a6)])) (fun t k => XS.aloadN X0.here hx rfl (hb hby own_d6_0) rfl rfl k) ?_
  refine own_via (B := s₁.setTop (mkF m 2 #[.val (.ref a6), .val (.long x6), .second] [(.long x6), (.ref a6)])) (fun t k => XS.lloadN X0.here hx rfl (hb hby own_d6_1) rfl k) ?_
  obtain ⟨cq1, kq1, q1a, q1b, q1c⟩ := isOf hZ e0 E6
  obtain ⟨_, _, ⟨T1, L1, k1, n1⟩, -, X1, ⟨Lc1, hQ1, l1, y1, z1⟩, st1⟩ := X0.virtualBack hx (y := (⟨"com/example/corrib/corrib/answer/Work", "hasLeft", "(J)Z"⟩ : MethodName)) (z := (⟨"com/example/corrib/corrib/answer/Work", "hasLeft", "(J)Z"⟩ : MethodName)) hown (mvT hZ (hw _ (List.mem_of_getElem? (i := 33) rfl))) (mvT hZ (hw _ (List.mem_of_getElem? (i := 34) rfl))) (notFace_of_selects (args := #[]) (mvT hZ (hw _ (List.mem_of_getElem? (i := 36) rfl)))) (mvT hZ (hw _ (List.mem_of_getElem? (i := 36) rfl))) (mvT hZ (hw _ (List.mem_of_getElem? (i := 35) rfl))) (by decide) (backOf (W := 0) (rm5 l Z a0 hw [] a6 x6 l6 h0 n0 Z0 F6) hZ (hw _ (List.mem_of_getElem? (i := 37) rfl)) (hw _ (List.mem_of_getElem? (i := 3) rfl)) (by decide) (by decide)) q1a q1c (g := (mkF m 2 #[.val (.ref a6), .val (.long x6), .second] [(.long x6), (.ref a6)])) rfl (by rw [hml]; rfl) (Steps.refl _) (argsL := [(.long x6)]) (rest := []) (lenOf own_pd0 rfl) rfl (by show 2 * 0 + _ ≤ _; exact Nat.le_of_eq rfl) (hb hby own_d6_2) (fun _ _ => ⟨rfl, e0, (by decide : 0 + 0 ≤ _), (by decide : 0 + 0 ≤ _)⟩)
  dsimp only [Pt.U, Pt.locs, Pt.cells, Pt.slots] at X1 l1 y1 z1 st1 hQ1
  subst l1 y1 z1
  obtain ⟨rfl, Nq1, eq1⟩ := hQ1
  have N1 := Fr.app N0 Nq1
  refine own_via (B := T1.setTop (mkF m 5 #[.val (.ref a6), .val (.long x6), .second] [(.int (own_bit (¬ (l6 < x6))))])) (fun t k => st1.trans k) ?_
  by_cases hc5 : (own_bit (¬ (l6 < x6))) = (0 : Int32)
  · refine own_via (B := T1.setTop (mkF m 8 #[.val (.ref a6), .val (.long x6), .second] [])) (fun t k => XS.ifNo X1.here hx rfl (hb hby own_d6_5) rfl ((if0 _ _).trans (teq hc5).2) k) ?_
    refine own_via (B := T1.setTop (mkF m 9 #[.val (.ref a6), .val (.long x6), .second] [(.int (0 : Int32))])) (fun t k => XS.iconst X1.here hx rfl (hb hby own_d6_8) k) ?_
    refine own_leaf X1 hx hlk (t := .boolean) Bd.returns (by decide) (Or.inl ⟨rfl, by simp, _, rfl⟩) (hb hby own_d6_9) (by decide) (by decide) ?_
    show Q6 Z a6 x6 l6 h0 n0 _ T1.heap _
    rw [eq1]
    refine ⟨?_, N1, rfl⟩
    rw [own_bit0] at hc5
    rw [own_bitF (fun q => hc5 (by rw [q]; exact fun z => absurd z (by rw [own_ltL]; omega)))]
  · refine own_via (B := T1.setTop (mkF m 10 #[.val (.ref a6), .val (.long x6), .second] [])) (fun t k => XS.ifYes X1.here hx rfl (pc0 := 5) (pc' := 10) rfl (hb hby own_d6_5) rfl ((if0 _ _).trans (feq hc5).2) (by decide) (by decide) k) ?_
    refine own_via (B := T1.setTop (mkF m 11 #[.val (.ref a6), .val (.long x6), .second] [(.long x6)])) (fun t k => XS.lloadN X1.here hx rfl (hb hby own_d6_10) rfl k) ?_
    refine own_via (B := T1.setTop (mkF m 14 #[.val (.ref a6), .val (.long x6), .second] [(.long (9223372036854775807 : Int64)), (.long x6)])) (fun t k => X1.ldc2Long hx hown (mvT hZ (hw _ (List.mem_of_getElem? (i := 38) rfl))) (g := (mkF m 11 #[.val (.ref a6), .val (.long x6), .second] [(.long x6)])) rfl (hb hby own_d6_11) _ k) ?_
    refine own_via (B := T1.setTop (mkF m 15 #[.val (.ref a6), .val (.long x6), .second] [(.int (lcmpW x6 (9223372036854775807 : Int64)))])) (fun t k => XS.lcmp X1.here hx rfl (hb hby own_d6_14) rfl k) ?_
    by_cases hc15 : (lcmpW x6 (9223372036854775807 : Int64)) = (0 : Int32)
    · refine own_via (B := T1.setTop (mkF m 18 #[.val (.ref a6), .val (.long x6), .second] [])) (fun t k => XS.ifNo X1.here hx rfl (hb hby own_d6_15) rfl ((if0 _ _).trans (teq hc15).2) k) ?_
      refine own_via (B := T1.setTop (mkF m 19 #[.val (.ref a6), .val (.long x6), .second] [(.int (1 : Int32))])) (fun t k => XS.iconst X1.here hx rfl (hb hby own_d6_18) k) ?_
      refine own_leaf X1 hx hlk (t := .boolean) Bd.returns (by decide) (Or.inl ⟨rfl, by simp, _, rfl⟩) (hb hby own_d6_19) (by decide) (by decide) ?_
      show Q6 Z a6 x6 l6 h0 n0 _ T1.heap _
      rw [eq1]
      refine ⟨?_, N1, rfl⟩
      rw [lw_eq] at hc15
      rw [own_bit0] at hc5
      rw [own_bitT (own_max _ _ (fun q => hc5 (fun z => z q)) hc15)]
    · refine own_via (B := T1.setTop (mkF m 20 #[.val (.ref a6), .val (.long x6), .second] [])) (fun t k => XS.ifYes X1.here hx rfl (pc0 := 15) (pc' := 20) rfl (hb hby own_d6_15) rfl ((if0 _ _).trans (feq hc15).2) (by decide) (by decide) k) ?_
      refine own_via (B := T1.setTop (mkF m 21 #[.val (.ref a6), .val (.long x6), .second] [(.ref a6)])) (fun t k => XS.aloadN X1.here hx rfl (hb hby own_d6_20) rfl rfl k) ?_
      refine own_via (B := T1.setTop (mkF m 22 #[.val (.ref a6), .val (.long x6), .second] [(.long x6), (.ref a6)])) (fun t k => XS.lloadN X1.here hx rfl (hb hby own_d6_21) rfl k) ?_
      refine own_via (B := T1.setTop (mkF m 23 #[.val (.ref a6), .val (.long x6), .second] [(.long (1 : Int64)), (.long x6), (.ref a6)])) (fun t k => XS.lconst X1.here hx rfl (hb hby own_d6_22) k) ?_
      refine own_via (B := T1.setTop (mkF m 24 #[.val (.ref a6), .val (.long x6), .second] [(.long (x6 + (1 : Int64))), (.ref a6)])) (fun t k => XS.ladd X1.here hx rfl (hb hby own_d6_23) rfl k) ?_
      obtain ⟨cq2, kq2, q2a, q2b, q2c⟩ := isOf hZ eq1 E6
      obtain ⟨_, _, ⟨T2, L2, k2, n2⟩, -, X2, ⟨Lc2, hQ2, l2, y2, z2⟩, st2⟩ := X1.virtualBack hx (y := (⟨"com/example/corrib/corrib/answer/Work", "hasLeft", "(J)Z"⟩ : MethodName)) (z := (⟨"com/example/corrib/corrib/answer/Work", "hasLeft", "(J)Z"⟩ : MethodName)) hown (mvT hZ (hw _ (List.mem_of_getElem? (i := 33) rfl))) (mvT hZ (hw _ (List.mem_of_getElem? (i := 34) rfl))) (notFace_of_selects (args := #[]) (mvT hZ (hw _ (List.mem_of_getElem? (i := 36) rfl)))) (mvT hZ (hw _ (List.mem_of_getElem? (i := 36) rfl))) (mvT hZ (hw _ (List.mem_of_getElem? (i := 35) rfl))) (by decide) (backOf (W := 0) (rm5 l Z a0 hw [] a6 (x6 + (1 : Int64)) l6 h0 n0 Z0 F6) hZ (hw _ (List.mem_of_getElem? (i := 37) rfl)) (hw _ (List.mem_of_getElem? (i := 3) rfl)) (by decide) (by decide)) q2a q2c (g := (mkF m 24 #[.val (.ref a6), .val (.long x6), .second] [(.long (x6 + (1 : Int64))), (.ref a6)])) rfl (by rw [hml]; rfl) (Steps.refl _) (argsL := [(.long (x6 + (1 : Int64)))]) (rest := []) (lenOf own_pd0 rfl) rfl (by show 2 * 0 + _ ≤ _; exact Nat.le_of_eq rfl) (hb hby own_d6_24) (fun _ _ => ⟨rfl, eq1, (by decide : (0 + 0) + 0 ≤ _), (by decide : (0 + 0) + 0 ≤ _)⟩)
      dsimp only [Pt.U, Pt.locs, Pt.cells, Pt.slots] at X2 l2 y2 z2 st2 hQ2
      subst l2 y2 z2
      obtain ⟨rfl, Nq2, eq2⟩ := hQ2
      have N2 := Fr.app N1 Nq2
      refine own_via (B := T2.setTop (mkF m 27 #[.val (.ref a6), .val (.long x6), .second] [(.int (own_bit (¬ (l6 < (x6 + (1 : Int64))))))])) (fun t k => st2.trans k) ?_
      refine own_bind (G := fun B => ∃ (T' : State) (L' : List Loc) (v27s0 : Int32), Fr n0 L' ∧ ((((own_bit (¬ (l6 < (x6 + (1 : Int64))))) = (0 : Int32)) ∧ v27s0 = (1 : Int32)) ∨ ((¬ ((own_bit (¬ (l6 < (x6 + (1 : Int64))))) = (0 : Int32))) ∧ v27s0 = (0 : Int32))) ∧ B = T'.setTop (mkF m 35 #[.val (.ref a6), .val (.long x6), .second] [(.int v27s0)]) ∧ Stand p l e ({ frames := 1, cells := 0, slots := 0, locals := 18 } : Room) s m #[(.ref a6), (.long x6)] below meth c T' L' ((0 + 0) + 0) ((0 + 0) + 0) ∧ T'.heap = h0) ?_ ?_
      · by_cases hc27 : (own_bit (¬ (l6 < (x6 + (1 : Int64))))) = (0 : Int32)
        · refine own_via (B := T2.setTop (mkF m 30 #[.val (.ref a6), .val (.long x6), .second] [])) (fun t k => XS.ifNo X2.here hx rfl (hb hby own_d6_27) rfl ((if0 _ _).trans (teq hc27).2) k) ?_
          refine own_via (B := T2.setTop (mkF m 31 #[.val (.ref a6), .val (.long x6), .second] [(.int (1 : Int32))])) (fun t k => XS.iconst X2.here hx rfl (hb hby own_d6_30) k) ?_
          refine own_via (B := T2.setTop (mkF m 35 #[.val (.ref a6), .val (.long x6), .second] [(.int (1 : Int32))])) (fun t k => XS.goto X2.here hx rfl (pc0 := 31) (pc' := 35) rfl (hb hby own_d6_31) (by decide) (by decide) k) ?_
          exact own_done ⟨_, _, _, N2, (Or.inl ⟨hc27, rfl⟩), rfl, X2, eq2⟩
        · refine own_via (B := T2.setTop (mkF m 34 #[.val (.ref a6), .val (.long x6), .second] [])) (fun t k => XS.ifYes X2.here hx rfl (pc0 := 27) (pc' := 34) rfl (hb hby own_d6_27) rfl ((if0 _ _).trans (feq hc27).2) (by decide) (by decide) k) ?_
          refine own_via (B := T2.setTop (mkF m 35 #[.val (.ref a6), .val (.long x6), .second] [(.int (0 : Int32))])) (fun t k => XS.iconst X2.here hx rfl (hb hby own_d6_34) k) ?_
          exact own_done ⟨_, _, _, N2, (Or.inr ⟨hc27, rfl⟩), rfl, X2, eq2⟩
      · rintro B ⟨T3, L3, v27s0, N3, hv27, rfl, X3, e3⟩
        refine own_leaf X3 hx hlk (t := .boolean) Bd.returns (own_b1 (by rcases hv27 with ⟨_, rfl⟩ | ⟨_, rfl⟩ <;> decide)) (Or.inl ⟨rfl, by simp, _, rfl⟩) (hb hby own_d6_35) (by decide) (by decide) ?_
        show Q6 Z a6 x6 l6 h0 n0 _ T3.heap _
        rw [e3]
        refine ⟨?_, N3, rfl⟩
        rw [lw_eq] at hc15
        have k5 : ¬ (l6 < x6) := fun q => hc5 (own_bit0.mpr (fun z => z q))
        have k6 := own_up _ _ k5 hc15
        rw [own_bit0] at hv27
        rcases hv27 with ⟨h, rfl⟩ | ⟨h, rfl⟩
        · rw [own_bitT (Classical.byContradiction fun q => h (k6.mpr q))]
        · rw [own_bitF (k6.mp (Classical.byContradiction fun q => h q))]
theorem own_pd1 : parseMethodDescriptor "(J)V" = some ⟨[.long], none⟩ := by decide +kernel
theorem own_pd2 : parseMethodDescriptor "(I)Lcom/example/corrib/corrib/answer/Work$Kind;" = some ⟨[.int], some (.object "com/example/corrib/corrib/answer/Work$Kind")⟩ := by decide +kernel
theorem own_pd3 : parseMethodDescriptor "(Lcom/example/corrib/corrib/answer/Work$Kind;J)V" = some ⟨[(.object "com/example/corrib/corrib/answer/Work$Kind"), .long], none⟩ := by decide +kernel
theorem own_pd4 : parseMethodDescriptor "(I)J" = some ⟨[.int], some .long⟩ := by decide +kernel
theorem own_pd5 : parseMethodDescriptor "(Lcom/example/corrib/corrib/answer/Work;J)Z" = some ⟨[(.object "com/example/corrib/corrib/answer/Work"), .long], some .boolean⟩ := by decide +kernel
theorem own_ef0 (m : MethodId) (x0 : Int64) (x1 : Int32) (x2 : Int64) (x3 : Int32) (x4 : Int64) : entryFrame m #[(.long x0), (.int x1), (.long x2), (.int x3), (.long x4)] maxLocals = mkF m 0 #[.val (.long x0), .second, .val (.int x1), .val (.long x2), .second, .val (.int x3), .val (.long x4), .second, .unset, .unset, .unset, .unset, .unset, .unset, .unset, .unset, .unset] [] := by first | (simp [entryFrame, mkF, argsToLocals, Value.category, maxLocals]; done) | rfl
def Q0 (Z : State) (j0 : Int64) (i1 : Int32) (j2 : Int64) (i3 : Int32) (j4 : Int64) (w0 : Addr) (w1 : Addr) (w2 : Addr) (w3 : Addr) (w4 : Addr) (w5 : Addr) (w6 : Addr) (w7 : Addr) (w8 : Addr) (h0 : Heap) (n0 : Nat) (v : Option Value) (h : Heap) (L : List Loc) : Prop := v = some (.int 1) ∧ Fr n0 L
set_option maxRecDepth 65536 in
set_option maxHeartbeats 40000000 in
theorem rm0 (l : Launch) (Z : State) (a0 : Array Value) (hw : ∀ d ∈ tables_1, d.before a0 Z = true) (ws : List Jvm.Cond) (j0 : Int64) (i1 : Int32) (j2 : Int64) (i3 : Int32) (j4 : Int64) (w0 : Addr) (w1 : Addr) (w2 : Addr) (w3 : Addr) (w4 : Addr) (w5 : Addr) (w6 : Addr) (w7 : Addr) (w8 : Addr) (h0 : Heap) (n0 : Nat) (Z0 : n0 ≤ h0.size) (hall : own_All Z Z.heap w0 w1 w2 w3 w4 w5 w6 w7 w8) (O0 : Old Z n0 h0) :
    MetFree l x (head1 (Jvm.Cond.code x code maxLocals ret :: ws) room_1) (fun a U => a = #[(.long j0), (.int i1), (.long j2), (.int i3), (.long j4)] ∧ Z.Warmed39 U.vm ∧ U.heap = h0) (fun _ _ _ _ _ => True) (fun _ U o U' => ∃ v L, o = .returned v ∧ Q0 Z j0 i1 j2 i3 j4 w0 w1 w2 w3 w4 w5 w6 w7 w8 h0 n0 v U'.heap L ∧ FrameEnd U o U' L room_1.cells room_1.slots) := by
  refine MetFree.of_bodySF (plainFor_of_name own_pn1) hisR ?_
  intro p e s m args below meth c s₁ Bd hml0 hP hK
  obtain ⟨rfl, hZ, hh⟩ := hP
  have hx := Bd.exec
  have hby := Bd.bytes
  have hlk : meth.locks = false := Bd.notSynchronized
  have hml : c.maxLocals = 17 := hml0
  have hown : s.vm.findClass "com/example/corrib/corrib/answer/WorkTakePinLaw" = some m.cls := findClass_of_methodNamed Bd.named
  have hnm := (name_of_methodNamed Bd.named Bd.method).1
  have X0 : Stand p l e room_1 s m #[(.long j0), (.int i1), (.long j2), (.int i3), (.long j4)] below meth c s₁ [] 0 0 := Stand.of_body Bd
  have e0 : s₁.heap = h0 := by rw [← hh, Bd.state]; rfl
  have N0 := Fr.nil n0
  refine own_body (A := s₁.setTop (mkF m 0 #[.val (.long j0), .second, .val (.int i1), .val (.long j2), .second, .val (.int i3), .val (.long j4), .second, .unset, .unset, .unset, .unset, .unset, .unset, .unset, .unset, .unset] [])) (Q := Q0 Z j0 i1 j2 i3 j4 w0 w1 w2 w3 w4 w5 w6 w7 w8 h0 n0) (fun t k => castTop (own_ef0 m j0 i1 j2 i3 j4) k) ?_
  refine own_via (B := s₁.setTop (mkF m 1 #[.val (.long j0), .second, .val (.int i1), .val (.long j2), .second, .val (.int i3), .val (.long j4), .second, .unset, .unset, .unset, .unset, .unset, .unset, .unset, .unset, .unset] [(.int i1)])) (fun t k => XS.iloadN X0.here hx rfl (hb hby at_0) rfl k) ?_
  refine own_via (B := s₁.setTop (mkF m 3 #[.val (.long j0), .second, .val (.int i1), .val (.long j2), .second, .val (.int i3), .val (.long j4), .second, .unset, .unset, .unset, .unset, .unset, .unset, .unset, .unset, .unset] [(.int (2147483647 : Int32)), (.int i1)])) (fun t k => X0.ldcInt hx hown (mvT hZ (hw _ (List.mem_of_getElem? (i := 0) rfl))) (g := (mkF m 1 #[.val (.long j0), .second, .val (.int i1), .val (.long j2), .second, .val (.int i3), .val (.long j4), .second, .unset, .unset, .unset, .unset, .unset, .unset, .unset, .unset, .unset] [(.int i1)])) rfl (hb hby at_1) _ k) ?_
  refine own_via (B := s₁.setTop (mkF m 4 #[.val (.long j0), .second, .val (.int i1), .val (.long j2), .second, .val (.int i3), .val (.long j4), .second, .unset, .unset, .unset, .unset, .unset, .unset, .unset, .unset, .unset] [(.int (i1 &&& (2147483647 : Int32)))])) (fun t k => XS.iand X0.here hx rfl (hb hby at_3) rfl k) ?_
  refine own_via (B := s₁.setTop (mkF m 6 #[.val (.long j0), .second, .val (.int i1), .val (.long j2), .second, .val (.int i3), .val (.long j4), .second, .unset, .unset, .unset, .unset, .unset, .unset, .unset, .unset, .unset] [(.int (9 : Int32)), (.int (i1 &&& (2147483647 : Int32)))])) (fun t k => XS.bipush X0.here hx rfl (hb hby at_4) k) ?_
  refine own_via (B := s₁.setTop (mkF m 7 #[.val (.long j0), .second, .val (.int i1), .val (.long j2), .second, .val (.int i3), .val (.long j4), .second, .unset, .unset, .unset, .unset, .unset, .unset, .unset, .unset, .unset] [(.int ((i1 &&& (2147483647 : Int32)) % (9 : Int32)))])) (fun t k => iremM X0 hx rfl (hb hby at_6) rfl (by decide) k) ?_
  refine own_via (B := s₁.setTop (mkF m 9 #[.val (.long j0), .second, .val (.int i1), .val (.long j2), .second, .val (.int i3), .val (.long j4), .second, .val (.int ((i1 &&& (2147483647 : Int32)) % (9 : Int32))), .unset, .unset, .unset, .unset, .unset, .unset, .unset, .unset] [])) (fun t k => XS.istore X0.here hx rfl (hb hby at_7) rfl (l' := #[.val (.long j0), .second, .val (.int i1), .val (.long j2), .second, .val (.int i3), .val (.long j4), .second, .val (.int ((i1 &&& (2147483647 : Int32)) % (9 : Int32))), .unset, .unset, .unset, .unset, .unset, .unset, .unset, .unset]) rfl k) ?_
  generalize hs7 : ((i1 &&& (2147483647 : Int32)) % (9 : Int32)) = s7
  refine own_via (B := s₁.setTop (mkF m 11 #[.val (.long j0), .second, .val (.int i1), .val (.long j2), .second, .val (.int i3), .val (.long j4), .second, .val (.int s7), .unset, .unset, .unset, .unset, .unset, .unset, .unset, .unset] [(.int i3)])) (fun t k => XS.iload X0.here hx rfl (hb hby at_9) rfl k) ?_
  refine own_via (B := s₁.setTop (mkF m 13 #[.val (.long j0), .second, .val (.int i1), .val (.long j2), .second, .val (.int i3), .val (.long j4), .second, .val (.int s7), .unset, .unset, .unset, .unset, .unset, .unset, .unset, .unset] [(.int (2147483647 : Int32)), (.int i3)])) (fun t k => X0.ldcInt hx hown (mvT hZ (hw _ (List.mem_of_getElem? (i := 0) rfl))) (g := (mkF m 11 #[.val (.long j0), .second, .val (.int i1), .val (.long j2), .second, .val (.int i3), .val (.long j4), .second, .val (.int s7), .unset, .unset, .unset, .unset, .unset, .unset, .unset, .unset] [(.int i3)])) rfl (hb hby at_11) _ k) ?_
  refine own_via (B := s₁.setTop (mkF m 14 #[.val (.long j0), .second, .val (.int i1), .val (.long j2), .second, .val (.int i3), .val (.long j4), .second, .val (.int s7), .unset, .unset, .unset, .unset, .unset, .unset, .unset, .unset] [(.int (i3 &&& (2147483647 : Int32)))])) (fun t k => XS.iand X0.here hx rfl (hb hby at_13) rfl k) ?_
  refine own_via (B := s₁.setTop (mkF m 16 #[.val (.long j0), .second, .val (.int i1), .val (.long j2), .second, .val (.int i3), .val (.long j4), .second, .val (.int s7), .unset, .unset, .unset, .unset, .unset, .unset, .unset, .unset] [(.int (9 : Int32)), (.int (i3 &&& (2147483647 : Int32)))])) (fun t k => XS.bipush X0.here hx rfl (hb hby at_14) k) ?_
  refine own_via (B := s₁.setTop (mkF m 17 #[.val (.long j0), .second, .val (.int i1), .val (.long j2), .second, .val (.int i3), .val (.long j4), .second, .val (.int s7), .unset, .unset, .unset, .unset, .unset, .unset, .unset, .unset] [(.int ((i3 &&& (2147483647 : Int32)) % (9 : Int32)))])) (fun t k => iremM X0 hx rfl (hb hby at_16) rfl (by decide) k) ?_
  refine own_via (B := s₁.setTop (mkF m 19 #[.val (.long j0), .second, .val (.int i1), .val (.long j2), .second, .val (.int i3), .val (.long j4), .second, .val (.int s7), .val (.int ((i3 &&& (2147483647 : Int32)) % (9 : Int32))), .unset, .unset, .unset, .unset, .unset, .unset, .unset] [])) (fun t k => XS.istore X0.here hx rfl (hb hby at_17) rfl (l' := #[.val (.long j0), .second, .val (.int i1), .val (.long j2), .second, .val (.int i3), .val (.long j4), .second, .val (.int s7), .val (.int ((i3 &&& (2147483647 : Int32)) % (9 : Int32))), .unset, .unset, .unset, .unset, .unset, .unset, .unset]) rfl k) ?_
  generalize hs17 : ((i3 &&& (2147483647 : Int32)) % (9 : Int32)) = s17
  obtain ⟨T1, h1, X1, e1, E1, A1, D1, -, st1⟩ := newO X0 hx hZ hown (hw _ (List.mem_of_getElem? (i := 1) rfl)) (hw _ (List.mem_of_getElem? (i := 2) rfl)) (hw _ (List.mem_of_getElem? (i := 3) rfl)) e0 (g := (mkF m 19 #[.val (.long j0), .second, .val (.int i1), .val (.long j2), .second, .val (.int i3), .val (.long j4), .second, .val (.int s7), .val (.int s17), .unset, .unset, .unset, .unset, .unset, .unset, .unset] [])) rfl (hb hby at_19) (by decide) (by decide)
  obtain ⟨b1, g1⟩ : ∃ z, z = h0.size := ⟨_, rfl⟩
  rw [← g1] at A1 D1 st1
  have g_b1 : n0 ≤ b1 := Nat.le_trans Z0 (Nat.le_of_eq g1.symm)
  have F1_left : Fld Z h1 b1 "com/example/corrib/corrib/answer/Work" "left" "J" (.long (0 : Int64)) := D1 (Or.inl (hw _ (List.mem_of_getElem? (i := 11) rfl))) (ty := .long) (by decide)
  refine own_via (B := T1.setTop (mkF m 22 #[.val (.long j0), .second, .val (.int i1), .val (.long j2), .second, .val (.int i3), .val (.long j4), .second, .val (.int s7), .val (.int s17), .unset, .unset, .unset, .unset, .unset, .unset, .unset] [(.ref b1)])) (fun t k => st1 t k) ?_
  refine own_via (B := T1.setTop (mkF m 23 #[.val (.long j0), .second, .val (.int i1), .val (.long j2), .second, .val (.int i3), .val (.long j4), .second, .val (.int s7), .val (.int s17), .unset, .unset, .unset, .unset, .unset, .unset, .unset] [(.ref b1), (.ref b1)])) (fun t k => XS.dup X1.here hx rfl (hb hby at_22) rfl rfl k) ?_
  refine own_via (B := T1.setTop (mkF m 24 #[.val (.long j0), .second, .val (.int i1), .val (.long j2), .second, .val (.int i3), .val (.long j4), .second, .val (.int s7), .val (.int s17), .unset, .unset, .unset, .unset, .unset, .unset, .unset] [(.long j0), (.ref b1), (.ref b1)])) (fun t k => XS.lloadN X1.here hx rfl (hb hby at_23) rfl k) ?_
  obtain ⟨_, _, ⟨T2, L2, k2, n2⟩, -, X2, ⟨Lc2, hQ2, l2, y2, z2⟩, st2⟩ := X1.specialBack hx (y := (⟨"com/example/corrib/corrib/answer/Work", "<init>", "(J)V"⟩ : MethodName)) rfl hown (mvT hZ (hw _ (List.mem_of_getElem? (i := 4) rfl))) (mvT hZ (hw _ (List.mem_of_getElem? (i := 5) rfl))) (mvT hZ (hw _ (List.mem_of_getElem? (i := 6) rfl))) (by decide) (backOf (W := 1) (rm1 l Z a0 hw [] b1 j0 (0 : Int64) h1 n0 (Nat.le_trans Z0 E1.1) A1 F1_left g_b1) hZ (hw _ (List.mem_of_getElem? (i := 6) rfl)) (hw _ (List.mem_of_getElem? (i := 3) rfl)) (by decide) (by decide)) (g := (mkF m 24 #[.val (.long j0), .second, .val (.int i1), .val (.long j2), .second, .val (.int i3), .val (.long j4), .second, .val (.int s7), .val (.int s17), .unset, .unset, .unset, .unset, .unset, .unset, .unset] [(.long j0), (.ref b1), (.ref b1)])) rfl (by rw [hml]; rfl) (Steps.refl _) (a := b1) (argsL := [(.long j0)]) (rest := [(.ref b1)]) (lenOf own_pd1 rfl) rfl (by show 2 * 0 + _ ≤ _; exact Nat.le_of_eq rfl) (hb hby at_24) (fun _ _ => ⟨rfl, e1, (by decide : (0 + 1) + 0 ≤ _), (by decide : (0 + 1) + 0 ≤ _)⟩)
  dsimp only [Pt.U, Pt.locs, Pt.cells, Pt.slots] at X2 l2 y2 z2 st2 hQ2
  subst l2 y2 z2
  obtain ⟨rfl, Nq2, Kq2, f2_0⟩ := hQ2
  have N2 := Fr.app N0 Nq2
  refine own_via (B := T2.setTop (mkF m 27 #[.val (.long j0), .second, .val (.int i1), .val (.long j2), .second, .val (.int i3), .val (.long j4), .second, .val (.int s7), .val (.int s17), .unset, .unset, .unset, .unset, .unset, .unset, .unset] [(.ref b1)])) (fun t k => st2.trans k) ?_
  refine own_via (B := T2.setTop (mkF m 29 #[.val (.long j0), .second, .val (.int i1), .val (.long j2), .second, .val (.int i3), .val (.long j4), .second, .val (.int s7), .val (.int s17), .val (.ref b1), .unset, .unset, .unset, .unset, .unset, .unset] [])) (fun t k => XS.astore X2.here hx rfl (hb hby at_27) rfl rfl (l' := #[.val (.long j0), .second, .val (.int i1), .val (.long j2), .second, .val (.int i3), .val (.long j4), .second, .val (.int s7), .val (.int s17), .val (.ref b1), .unset, .unset, .unset, .unset, .unset, .unset]) rfl k) ?_
  refine own_via (B := T2.setTop (mkF m 31 #[.val (.long j0), .second, .val (.int i1), .val (.long j2), .second, .val (.int i3), .val (.long j4), .second, .val (.int s7), .val (.int s17), .val (.ref b1), .unset, .unset, .unset, .unset, .unset, .unset] [(.ref b1)])) (fun t k => XS.aload X2.here hx rfl (hb hby at_29) rfl rfl k) ?_
  refine own_via (B := T2.setTop (mkF m 33 #[.val (.long j0), .second, .val (.int i1), .val (.long j2), .second, .val (.int i3), .val (.long j4), .second, .val (.int s7), .val (.int s17), .val (.ref b1), .unset, .unset, .unset, .unset, .unset, .unset] [(.int s7), (.ref b1)])) (fun t k => XS.iload X2.here hx rfl (hb hby at_31) rfl k) ?_
  obtain ⟨_, _, ⟨T3, L3, k3, n3⟩, -, X3, ⟨Lc3, hQ3, l3, y3, z3⟩, st3⟩ := Jvm.LawKit.callS X2 hx (y := (⟨"com/example/corrib/corrib/answer/WorkTakePinLaw", "kind", "(I)Lcom/example/corrib/corrib/answer/Work$Kind;"⟩ : MethodName)) hown (mvT hZ (hw _ (List.mem_of_getElem? (i := 12) rfl))) (mvT hZ (hw _ (List.mem_of_getElem? (i := 13) rfl))) (mvT hZ (hw _ (List.mem_of_getElem? (i := 14) rfl))) (mvT hZ (hw _ (List.mem_of_getElem? (i := 15) rfl))) (by decide) (backOf (W := 1) (rm2 l Z a0 hw [] s7 w0 w1 w2 w3 w4 w5 w6 w7 w8 T2.heap n0 (Nat.le_trans (Nat.le_trans Z0 E1.1) Kq2.1) (by assumption) ((O0.ext E1).keep Kq2 (allS g_b1 all0))) hZ (hw _ (List.mem_of_getElem? (i := 15) rfl)) (hw _ (List.mem_of_getElem? (i := 14) rfl)) (by decide) (by decide)) (g := (mkF m 33 #[.val (.long j0), .second, .val (.int i1), .val (.long j2), .second, .val (.int i3), .val (.long j4), .second, .val (.int s7), .val (.int s17), .val (.ref b1), .unset, .unset, .unset, .unset, .unset, .unset] [(.int s7), (.ref b1)])) rfl (by rw [hml]; rfl) (argsL := [(.int s7)]) (rest := [(.ref b1)]) (lenOf own_pd2 rfl) rfl (by show 2 * 0 + _ ≤ _; exact Nat.le_of_eq rfl) (hb hby at_33) (fun _ _ => ⟨rfl, rfl, (by decide : ((0 + 1) + 0) + 0 ≤ _), (by decide : ((0 + 1) + 0) + 0 ≤ _)⟩)
  dsimp only [Pt.U, Pt.locs, Pt.cells, Pt.slots] at X3 l3 y3 z3 st3 hQ3
  subst l3 y3 z3
  obtain ⟨rfl, Nq3, eq3, f3_0⟩ := hQ3
  have N3 := Fr.app N2 Nq3
  refine own_via (B := T3.setTop (mkF m 36 #[.val (.long j0), .second, .val (.int i1), .val (.long j2), .second, .val (.int i3), .val (.long j4), .second, .val (.int s7), .val (.int s17), .val (.ref b1), .unset, .unset, .unset, .unset, .unset, .unset] [(.ref (own_pick s7 w0 w1 w2 w3 w4 w5 w6 w7 w8)), (.ref b1)])) (fun t k => st3 t k) ?_
  refine own_via (B := T3.setTop (mkF m 37 #[.val (.long j0), .second, .val (.int i1), .val (.long j2), .second, .val (.int i3), .val (.long j4), .second, .val (.int s7), .val (.int s17), .val (.ref b1), .unset, .unset, .unset, .unset, .unset, .unset] [(.long j2), (.ref (own_pick s7 w0 w1 w2 w3 w4 w5 w6 w7 w8)), (.ref b1)])) (fun t k => XS.lloadN X3.here hx rfl (hb hby at_36) rfl k) ?_
  obtain ⟨cq4, kq4, q4a, q4b, q4c⟩ := isOf hZ eq3 (A1.keep Kq2)
  obtain ⟨_, _, ⟨T4, L4, k4, n4⟩, -, X4, ⟨Lc4, hQ4, l4, y4, z4⟩, st4⟩ := X3.virtualBack hx (y := (⟨"com/example/corrib/corrib/answer/Work", "take", "(Lcom/example/corrib/corrib/answer/Work$Kind;J)V"⟩ : MethodName)) (z := (⟨"com/example/corrib/corrib/answer/Work", "take", "(Lcom/example/corrib/corrib/answer/Work$Kind;J)V"⟩ : MethodName)) hown (mvT hZ (hw _ (List.mem_of_getElem? (i := 19) rfl))) (mvT hZ (hw _ (List.mem_of_getElem? (i := 20) rfl))) (notFace_of_selects (args := #[]) (mvT hZ (hw _ (List.mem_of_getElem? (i := 22) rfl)))) (mvT hZ (hw _ (List.mem_of_getElem? (i := 22) rfl))) (mvT hZ (hw _ (List.mem_of_getElem? (i := 21) rfl))) (by decide) (backOf (W := 0) (rm3 l Z a0 hw [] b1 (own_pick s7 w0 w1 w2 w3 w4 w5 w6 w7 w8) j2 j0 (own_units s7) T2.heap n0 (Nat.le_trans (Nat.le_trans Z0 E1.1) Kq2.1) (A1.keep Kq2) f2_0 f3_0 g_b1) hZ (hw _ (List.mem_of_getElem? (i := 23) rfl)) (hw _ (List.mem_of_getElem? (i := 3) rfl)) (by decide) (by decide)) q4a q4c (g := (mkF m 37 #[.val (.long j0), .second, .val (.int i1), .val (.long j2), .second, .val (.int i3), .val (.long j4), .second, .val (.int s7), .val (.int s17), .val (.ref b1), .unset, .unset, .unset, .unset, .unset, .unset] [(.long j2), (.ref (own_pick s7 w0 w1 w2 w3 w4 w5 w6 w7 w8)), (.ref b1)])) rfl (by rw [hml]; rfl) (Steps.refl _) (argsL := [(.ref (own_pick s7 w0 w1 w2 w3 w4 w5 w6 w7 w8)), (.long j2)]) (rest := []) (lenOf own_pd3 rfl) rfl (by show 2 * 0 + _ ≤ _; exact Nat.le_of_eq rfl) (hb hby at_37) (fun _ _ => ⟨rfl, eq3, (by decide : (((0 + 1) + 0) + 0) + 0 ≤ _), (by decide : (((0 + 1) + 0) + 0) + 0 ≤ _)⟩)
  dsimp only [Pt.U, Pt.locs, Pt.cells, Pt.slots] at X4 l4 y4 z4 st4 hQ4
  subst l4 y4 z4
  obtain ⟨rfl, Nq4, Kq4, f4_0⟩ := hQ4
  have N4 := Fr.app N3 Nq4
  refine own_via (B := T4.setTop (mkF m 40 #[.val (.long j0), .second, .val (.int i1), .val (.long j2), .second, .val (.int i3), .val (.long j4), .second, .val (.int s7), .val (.int s17), .val (.ref b1), .unset, .unset, .unset, .unset, .unset, .unset] [])) (fun t k => st4.trans k) ?_
  refine own_via (B := T4.setTop (mkF m 41 #[.val (.long j0), .second, .val (.int i1), .val (.long j2), .second, .val (.int i3), .val (.long j4), .second, .val (.int s7), .val (.int s17), .val (.ref b1), .unset, .unset, .unset, .unset, .unset, .unset] [(.long j0)])) (fun t k => XS.lloadN X4.here hx rfl (hb hby at_40) rfl k) ?_
  refine own_via (B := T4.setTop (mkF m 43 #[.val (.long j0), .second, .val (.int i1), .val (.long j2), .second, .val (.int i3), .val (.long j4), .second, .val (.int s7), .val (.int s17), .val (.ref b1), .unset, .unset, .unset, .unset, .unset, .unset] [(.int s7), (.long j0)])) (fun t k => XS.iload X4.here hx rfl (hb hby at_41) rfl k) ?_
  obtain ⟨_, _, ⟨T5, L5, k5, n5⟩, -, X5, ⟨Lc5, hQ5, l5, y5, z5⟩, st5⟩ := Jvm.LawKit.callS X4 hx (y := (⟨"com/example/corrib/corrib/answer/WorkTakePinLaw", "units", "(I)J"⟩ : MethodName)) hown (mvT hZ (hw _ (List.mem_of_getElem? (i := 26) rfl))) (mvT hZ (hw _ (List.mem_of_getElem? (i := 27) rfl))) (mvT hZ (hw _ (List.mem_of_getElem? (i := 14) rfl))) (mvT hZ (hw _ (List.mem_of_getElem? (i := 28) rfl))) (by decide) (backOf (W := 2) (rm4 l Z a0 hw [] s7 T4.heap n0 (Nat.le_trans (Nat.le_trans (Nat.le_trans Z0 E1.1) Kq2.1) Kq4.1) ) hZ (hw _ (List.mem_of_getElem? (i := 28) rfl)) (hw _ (List.mem_of_getElem? (i := 14) rfl)) (by decide) (by decide)) (g := (mkF m 43 #[.val (.long j0), .second, .val (.int i1), .val (.long j2), .second, .val (.int i3), .val (.long j4), .second, .val (.int s7), .val (.int s17), .val (.ref b1), .unset, .unset, .unset, .unset, .unset, .unset] [(.int s7), (.long j0)])) rfl (by rw [hml]; rfl) (argsL := [(.int s7)]) (rest := [(.long j0)]) (lenOf own_pd4 rfl) rfl (by show 2 * 0 + _ ≤ _; exact Nat.le_of_eq rfl) (hb hby at_43) (fun _ _ => ⟨rfl, rfl, (by decide : ((((0 + 1) + 0) + 0) + 0) + 0 ≤ _), (by decide : ((((0 + 1) + 0) + 0) + 0) + 0 ≤ _)⟩)
  dsimp only [Pt.U, Pt.locs, Pt.cells, Pt.slots] at X5 l5 y5 z5 st5 hQ5
  subst l5 y5 z5
  obtain ⟨rfl, Nq5, eq5⟩ := hQ5
  have N5 := Fr.app N4 Nq5
  refine own_via (B := T5.setTop (mkF m 46 #[.val (.long j0), .second, .val (.int i1), .val (.long j2), .second, .val (.int i3), .val (.long j4), .second, .val (.int s7), .val (.int s17), .val (.ref b1), .unset, .unset, .unset, .unset, .unset, .unset] [(.long (own_units s7)), (.long j0)])) (fun t k => st5 t k) ?_
  refine own_via (B := T5.setTop (mkF m 47 #[.val (.long j0), .second, .val (.int i1), .val (.long j2), .second, .val (.int i3), .val (.long j4), .second, .val (.int s7), .val (.int s17), .val (.ref b1), .unset, .unset, .unset, .unset, .unset, .unset] [(.long j2), (.long (own_units s7)), (.long j0)])) (fun t k => XS.lloadN X5.here hx rfl (hb hby at_46) rfl k) ?_
  refine own_via (B := T5.setTop (mkF m 48 #[.val (.long j0), .second, .val (.int i1), .val (.long j2), .second, .val (.int i3), .val (.long j4), .second, .val (.int s7), .val (.int s17), .val (.ref b1), .unset, .unset, .unset, .unset, .unset, .unset] [(.long ((own_units s7) * j2)), (.long j0)])) (fun t k => XS.lmul X5.here hx rfl (hb hby at_47) rfl k) ?_
  refine own_via (B := T5.setTop (mkF m 49 #[.val (.long j0), .second, .val (.int i1), .val (.long j2), .second, .val (.int i3), .val (.long j4), .second, .val (.int s7), .val (.int s17), .val (.ref b1), .unset, .unset, .unset, .unset, .unset, .unset] [(.long (j0 - ((own_units s7) * j2)))])) (fun t k => XS.lsub X5.here hx rfl (hb hby at_48) rfl k) ?_
  refine own_via (B := T5.setTop (mkF m 51 #[.val (.long j0), .second, .val (.int i1), .val (.long j2), .second, .val (.int i3), .val (.long j4), .second, .val (.int s7), .val (.int s17), .val (.ref b1), .val (.long (j0 - ((own_units s7) * j2))), .second, .unset, .unset, .unset, .unset] [])) (fun t k => XS.lstore X5.here hx rfl (hb hby at_49) rfl (l' := #[.val (.long j0), .second, .val (.int i1), .val (.long j2), .second, .val (.int i3), .val (.long j4), .second, .val (.int s7), .val (.int s17), .val (.ref b1), .val (.long (j0 - ((own_units s7) * j2))), .second, .unset, .unset, .unset, .unset]) rfl k) ?_
  generalize hs49 : (j0 - ((own_units s7) * j2)) = s49
  refine own_via (B := T5.setTop (mkF m 53 #[.val (.long j0), .second, .val (.int i1), .val (.long j2), .second, .val (.int i3), .val (.long j4), .second, .val (.int s7), .val (.int s17), .val (.ref b1), .val (.long s49), .second, .unset, .unset, .unset, .unset] [(.ref b1)])) (fun t k => XS.aload X5.here hx rfl (hb hby at_51) rfl rfl k) ?_
  refine own_via (B := T5.setTop (mkF m 55 #[.val (.long j0), .second, .val (.int i1), .val (.long j2), .second, .val (.int i3), .val (.long j4), .second, .val (.int s7), .val (.int s17), .val (.ref b1), .val (.long s49), .second, .unset, .unset, .unset, .unset] [(.long s49), (.ref b1)])) (fun t k => XS.lload X5.here hx rfl (hb hby at_53) rfl k) ?_
  obtain ⟨_, _, ⟨T6, L6, k6, n6⟩, -, X6, ⟨Lc6, hQ6, l6, y6, z6⟩, st6⟩ := Jvm.LawKit.callS X5 hx (y := (⟨"com/example/corrib/corrib/answer/WorkTakePinLaw", "leftIs", "(Lcom/example/corrib/corrib/answer/Work;J)Z"⟩ : MethodName)) hown (mvT hZ (hw _ (List.mem_of_getElem? (i := 30) rfl))) (mvT hZ (hw _ (List.mem_of_getElem? (i := 31) rfl))) (mvT hZ (hw _ (List.mem_of_getElem? (i := 14) rfl))) (mvT hZ (hw _ (List.mem_of_getElem? (i := 32) rfl))) (by decide) (backOf (W := 0) (rm6 l Z a0 hw [] b1 s49 (j0 - ((own_units s7) * j2)) T4.heap n0 (Nat.le_trans (Nat.le_trans (Nat.le_trans Z0 E1.1) Kq2.1) Kq4.1) ((A1.keep Kq2).keep Kq4) f4_0) hZ (hw _ (List.mem_of_getElem? (i := 32) rfl)) (hw _ (List.mem_of_getElem? (i := 14) rfl)) (by decide) (by decide)) (g := (mkF m 55 #[.val (.long j0), .second, .val (.int i1), .val (.long j2), .second, .val (.int i3), .val (.long j4), .second, .val (.int s7), .val (.int s17), .val (.ref b1), .val (.long s49), .second, .unset, .unset, .unset, .unset] [(.long s49), (.ref b1)])) rfl (by rw [hml]; rfl) (argsL := [(.ref b1), (.long s49)]) (rest := []) (lenOf own_pd5 rfl) rfl (by show 2 * 0 + _ ≤ _; exact Nat.le_of_eq rfl) (hb hby at_55) (fun _ _ => ⟨rfl, eq5, (by decide : (((((0 + 1) + 0) + 0) + 0) + 0) + 0 ≤ _), (by decide : (((((0 + 1) + 0) + 0) + 0) + 0) + 0 ≤ _)⟩)
  dsimp only [Pt.U, Pt.locs, Pt.cells, Pt.slots] at X6 l6 y6 z6 st6 hQ6
  subst l6 y6 z6
  obtain ⟨rfl, Nq6, eq6⟩ := hQ6
  have N6 := Fr.app N5 Nq6
  refine own_via (B := T6.setTop (mkF m 58 #[.val (.long j0), .second, .val (.int i1), .val (.long j2), .second, .val (.int i3), .val (.long j4), .second, .val (.int s7), .val (.int s17), .val (.ref b1), .val (.long s49), .second, .unset, .unset, .unset, .unset] [(.int (own_bit ((j0 - ((own_units s7) * j2)) = s49)))])) (fun t k => st6 t k) ?_
  refine own_via (B := T6.setTop (mkF m 60 #[.val (.long j0), .second, .val (.int i1), .val (.long j2), .second, .val (.int i3), .val (.long j4), .second, .val (.int s7), .val (.int s17), .val (.ref b1), .val (.long s49), .second, .val (.int (own_bit ((j0 - ((own_units s7) * j2)) = s49))), .unset, .unset, .unset] [])) (fun t k => XS.istore X6.here hx rfl (hb hby at_58) rfl (l' := #[.val (.long j0), .second, .val (.int i1), .val (.long j2), .second, .val (.int i3), .val (.long j4), .second, .val (.int s7), .val (.int s17), .val (.ref b1), .val (.long s49), .second, .val (.int (own_bit ((j0 - ((own_units s7) * j2)) = s49))), .unset, .unset, .unset]) rfl k) ?_
  generalize hs58 : (own_bit ((j0 - ((own_units s7) * j2)) = s49)) = s58
  refine own_via (B := T6.setTop (mkF m 62 #[.val (.long j0), .second, .val (.int i1), .val (.long j2), .second, .val (.int i3), .val (.long j4), .second, .val (.int s7), .val (.int s17), .val (.ref b1), .val (.long s49), .second, .val (.int s58), .unset, .unset, .unset] [(.ref b1)])) (fun t k => XS.aload X6.here hx rfl (hb hby at_60) rfl rfl k) ?_
  refine own_via (B := T6.setTop (mkF m 64 #[.val (.long j0), .second, .val (.int i1), .val (.long j2), .second, .val (.int i3), .val (.long j4), .second, .val (.int s7), .val (.int s17), .val (.ref b1), .val (.long s49), .second, .val (.int s58), .unset, .unset, .unset] [(.int s17), (.ref b1)])) (fun t k => XS.iload X6.here hx rfl (hb hby at_62) rfl k) ?_
  obtain ⟨_, _, ⟨T7, L7, k7, n7⟩, -, X7, ⟨Lc7, hQ7, l7, y7, z7⟩, st7⟩ := Jvm.LawKit.callS X6 hx (y := (⟨"com/example/corrib/corrib/answer/WorkTakePinLaw", "kind", "(I)Lcom/example/corrib/corrib/answer/Work$Kind;"⟩ : MethodName)) hown (mvT hZ (hw _ (List.mem_of_getElem? (i := 12) rfl))) (mvT hZ (hw _ (List.mem_of_getElem? (i := 13) rfl))) (mvT hZ (hw _ (List.mem_of_getElem? (i := 14) rfl))) (mvT hZ (hw _ (List.mem_of_getElem? (i := 15) rfl))) (by decide) (backOf (W := 1) (rm2 l Z a0 hw [] s17 w0 w1 w2 w3 w4 w5 w6 w7 w8 T4.heap n0 (Nat.le_trans (Nat.le_trans (Nat.le_trans Z0 E1.1) Kq2.1) Kq4.1) (by assumption) (((O0.ext E1).keep Kq2 (allS g_b1 all0)).keep Kq4 (allS g_b1 all0))) hZ (hw _ (List.mem_of_getElem? (i := 15) rfl)) (hw _ (List.mem_of_getElem? (i := 14) rfl)) (by decide) (by decide)) (g := (mkF m 64 #[.val (.long j0), .second, .val (.int i1), .val (.long j2), .second, .val (.int i3), .val (.long j4), .second, .val (.int s7), .val (.int s17), .val (.ref b1), .val (.long s49), .second, .val (.int s58), .unset, .unset, .unset] [(.int s17), (.ref b1)])) rfl (by rw [hml]; rfl) (argsL := [(.int s17)]) (rest := [(.ref b1)]) (lenOf own_pd2 rfl) rfl (by show 2 * 0 + _ ≤ _; exact Nat.le_of_eq rfl) (hb hby at_64) (fun _ _ => ⟨rfl, eq6, (by decide : ((((((0 + 1) + 0) + 0) + 0) + 0) + 0) + 0 ≤ _), (by decide : ((((((0 + 1) + 0) + 0) + 0) + 0) + 0) + 0 ≤ _)⟩)
  dsimp only [Pt.U, Pt.locs, Pt.cells, Pt.slots] at X7 l7 y7 z7 st7 hQ7
  subst l7 y7 z7
  obtain ⟨rfl, Nq7, eq7, f7_0⟩ := hQ7
  have N7 := Fr.app N6 Nq7
  refine own_via (B := T7.setTop (mkF m 67 #[.val (.long j0), .second, .val (.int i1), .val (.long j2), .second, .val (.int i3), .val (.long j4), .second, .val (.int s7), .val (.int s17), .val (.ref b1), .val (.long s49), .second, .val (.int s58), .unset, .unset, .unset] [(.ref (own_pick s17 w0 w1 w2 w3 w4 w5 w6 w7 w8)), (.ref b1)])) (fun t k => st7 t k) ?_
  refine own_via (B := T7.setTop (mkF m 69 #[.val (.long j0), .second, .val (.int i1), .val (.long j2), .second, .val (.int i3), .val (.long j4), .second, .val (.int s7), .val (.int s17), .val (.ref b1), .val (.long s49), .second, .val (.int s58), .unset, .unset, .unset] [(.long j4), (.ref (own_pick s17 w0 w1 w2 w3 w4 w5 w6 w7 w8)), (.ref b1)])) (fun t k => XS.lload X7.here hx rfl (hb hby at_67) rfl k) ?_
  obtain ⟨cq8, kq8, q8a, q8b, q8c⟩ := isOf hZ eq7 ((A1.keep Kq2).keep Kq4)
  obtain ⟨_, _, ⟨T8, L8, k8, n8⟩, -, X8, ⟨Lc8, hQ8, l8, y8, z8⟩, st8⟩ := X7.virtualBack hx (y := (⟨"com/example/corrib/corrib/answer/Work", "take", "(Lcom/example/corrib/corrib/answer/Work$Kind;J)V"⟩ : MethodName)) (z := (⟨"com/example/corrib/corrib/answer/Work", "take", "(Lcom/example/corrib/corrib/answer/Work$Kind;J)V"⟩ : MethodName)) hown (mvT hZ (hw _ (List.mem_of_getElem? (i := 19) rfl))) (mvT hZ (hw _ (List.mem_of_getElem? (i := 20) rfl))) (notFace_of_selects (args := #[]) (mvT hZ (hw _ (List.mem_of_getElem? (i := 22) rfl)))) (mvT hZ (hw _ (List.mem_of_getElem? (i := 22) rfl))) (mvT hZ (hw _ (List.mem_of_getElem? (i := 21) rfl))) (by decide) (backOf (W := 0) (rm3 l Z a0 hw [] b1 (own_pick s17 w0 w1 w2 w3 w4 w5 w6 w7 w8) j4 (j0 - ((own_units s7) * j2)) (own_units s17) T4.heap n0 (Nat.le_trans (Nat.le_trans (Nat.le_trans Z0 E1.1) Kq2.1) Kq4.1) ((A1.keep Kq2).keep Kq4) f4_0 f7_0 g_b1) hZ (hw _ (List.mem_of_getElem? (i := 23) rfl)) (hw _ (List.mem_of_getElem? (i := 3) rfl)) (by decide) (by decide)) q8a q8c (g := (mkF m 69 #[.val (.long j0), .second, .val (.int i1), .val (.long j2), .second, .val (.int i3), .val (.long j4), .second, .val (.int s7), .val (.int s17), .val (.ref b1), .val (.long s49), .second, .val (.int s58), .unset, .unset, .unset] [(.long j4), (.ref (own_pick s17 w0 w1 w2 w3 w4 w5 w6 w7 w8)), (.ref b1)])) rfl (by rw [hml]; rfl) (Steps.refl _) (argsL := [(.ref (own_pick s17 w0 w1 w2 w3 w4 w5 w6 w7 w8)), (.long j4)]) (rest := []) (lenOf own_pd3 rfl) rfl (by show 2 * 0 + _ ≤ _; exact Nat.le_of_eq rfl) (hb hby at_69) (fun _ _ => ⟨rfl, eq7, (by decide : (((((((0 + 1) + 0) + 0) + 0) + 0) + 0) + 0) + 0 ≤ _), (by decide : (((((((0 + 1) + 0) + 0) + 0) + 0) + 0) + 0) + 0 ≤ _)⟩)
  dsimp only [Pt.U, Pt.locs, Pt.cells, Pt.slots] at X8 l8 y8 z8 st8 hQ8
  subst l8 y8 z8
  obtain ⟨rfl, Nq8, Kq8, f8_0⟩ := hQ8
  have N8 := Fr.app N7 Nq8
  refine own_via (B := T8.setTop (mkF m 72 #[.val (.long j0), .second, .val (.int i1), .val (.long j2), .second, .val (.int i3), .val (.long j4), .second, .val (.int s7), .val (.int s17), .val (.ref b1), .val (.long s49), .second, .val (.int s58), .unset, .unset, .unset] [])) (fun t k => st8.trans k) ?_
  refine own_via (B := T8.setTop (mkF m 74 #[.val (.long j0), .second, .val (.int i1), .val (.long j2), .second, .val (.int i3), .val (.long j4), .second, .val (.int s7), .val (.int s17), .val (.ref b1), .val (.long s49), .second, .val (.int s58), .unset, .unset, .unset] [(.long s49)])) (fun t k => XS.lload X8.here hx rfl (hb hby at_72) rfl k) ?_
  refine own_via (B := T8.setTop (mkF m 76 #[.val (.long j0), .second, .val (.int i1), .val (.long j2), .second, .val (.int i3), .val (.long j4), .second, .val (.int s7), .val (.int s17), .val (.ref b1), .val (.long s49), .second, .val (.int s58), .unset, .unset, .unset] [(.int s17), (.long s49)])) (fun t k => XS.iload X8.here hx rfl (hb hby at_74) rfl k) ?_
  obtain ⟨_, _, ⟨T9, L9, k9, n9⟩, -, X9, ⟨Lc9, hQ9, l9, y9, z9⟩, st9⟩ := Jvm.LawKit.callS X8 hx (y := (⟨"com/example/corrib/corrib/answer/WorkTakePinLaw", "units", "(I)J"⟩ : MethodName)) hown (mvT hZ (hw _ (List.mem_of_getElem? (i := 26) rfl))) (mvT hZ (hw _ (List.mem_of_getElem? (i := 27) rfl))) (mvT hZ (hw _ (List.mem_of_getElem? (i := 14) rfl))) (mvT hZ (hw _ (List.mem_of_getElem? (i := 28) rfl))) (by decide) (backOf (W := 2) (rm4 l Z a0 hw [] s17 T8.heap n0 (Nat.le_trans (Nat.le_trans (Nat.le_trans (Nat.le_trans Z0 E1.1) Kq2.1) Kq4.1) Kq8.1) ) hZ (hw _ (List.mem_of_getElem? (i := 28) rfl)) (hw _ (List.mem_of_getElem? (i := 14) rfl)) (by decide) (by decide)) (g := (mkF m 76 #[.val (.long j0), .second, .val (.int i1), .val (.long j2), .second, .val (.int i3), .val (.long j4), .second, .val (.int s7), .val (.int s17), .val (.ref b1), .val (.long s49), .second, .val (.int s58), .unset, .unset, .unset] [(.int s17), (.long s49)])) rfl (by rw [hml]; rfl) (argsL := [(.int s17)]) (rest := [(.long s49)]) (lenOf own_pd4 rfl) rfl (by show 2 * 0 + _ ≤ _; exact Nat.le_of_eq rfl) (hb hby at_76) (fun _ _ => ⟨rfl, rfl, (by decide : ((((((((0 + 1) + 0) + 0) + 0) + 0) + 0) + 0) + 0) + 0 ≤ _), (by decide : ((((((((0 + 1) + 0) + 0) + 0) + 0) + 0) + 0) + 0) + 0 ≤ _)⟩)
  dsimp only [Pt.U, Pt.locs, Pt.cells, Pt.slots] at X9 l9 y9 z9 st9 hQ9
  subst l9 y9 z9
  obtain ⟨rfl, Nq9, eq9⟩ := hQ9
  have N9 := Fr.app N8 Nq9
  refine own_via (B := T9.setTop (mkF m 79 #[.val (.long j0), .second, .val (.int i1), .val (.long j2), .second, .val (.int i3), .val (.long j4), .second, .val (.int s7), .val (.int s17), .val (.ref b1), .val (.long s49), .second, .val (.int s58), .unset, .unset, .unset] [(.long (own_units s17)), (.long s49)])) (fun t k => st9 t k) ?_
  refine own_via (B := T9.setTop (mkF m 81 #[.val (.long j0), .second, .val (.int i1), .val (.long j2), .second, .val (.int i3), .val (.long j4), .second, .val (.int s7), .val (.int s17), .val (.ref b1), .val (.long s49), .second, .val (.int s58), .unset, .unset, .unset] [(.long j4), (.long (own_units s17)), (.long s49)])) (fun t k => XS.lload X9.here hx rfl (hb hby at_79) rfl k) ?_
  refine own_via (B := T9.setTop (mkF m 82 #[.val (.long j0), .second, .val (.int i1), .val (.long j2), .second, .val (.int i3), .val (.long j4), .second, .val (.int s7), .val (.int s17), .val (.ref b1), .val (.long s49), .second, .val (.int s58), .unset, .unset, .unset] [(.long ((own_units s17) * j4)), (.long s49)])) (fun t k => XS.lmul X9.here hx rfl (hb hby at_81) rfl k) ?_
  refine own_via (B := T9.setTop (mkF m 83 #[.val (.long j0), .second, .val (.int i1), .val (.long j2), .second, .val (.int i3), .val (.long j4), .second, .val (.int s7), .val (.int s17), .val (.ref b1), .val (.long s49), .second, .val (.int s58), .unset, .unset, .unset] [(.long (s49 - ((own_units s17) * j4)))])) (fun t k => XS.lsub X9.here hx rfl (hb hby at_82) rfl k) ?_
  refine own_via (B := T9.setTop (mkF m 85 #[.val (.long j0), .second, .val (.int i1), .val (.long j2), .second, .val (.int i3), .val (.long j4), .second, .val (.int s7), .val (.int s17), .val (.ref b1), .val (.long s49), .second, .val (.int s58), .val (.long (s49 - ((own_units s17) * j4))), .second, .unset] [])) (fun t k => XS.lstore X9.here hx rfl (hb hby at_83) rfl (l' := #[.val (.long j0), .second, .val (.int i1), .val (.long j2), .second, .val (.int i3), .val (.long j4), .second, .val (.int s7), .val (.int s17), .val (.ref b1), .val (.long s49), .second, .val (.int s58), .val (.long (s49 - ((own_units s17) * j4))), .second, .unset]) rfl k) ?_
  generalize hs83 : (s49 - ((own_units s17) * j4)) = s83
  refine own_via (B := T9.setTop (mkF m 87 #[.val (.long j0), .second, .val (.int i1), .val (.long j2), .second, .val (.int i3), .val (.long j4), .second, .val (.int s7), .val (.int s17), .val (.ref b1), .val (.long s49), .second, .val (.int s58), .val (.long s83), .second, .unset] [(.ref b1)])) (fun t k => XS.aload X9.here hx rfl (hb hby at_85) rfl rfl k) ?_
  refine own_via (B := T9.setTop (mkF m 89 #[.val (.long j0), .second, .val (.int i1), .val (.long j2), .second, .val (.int i3), .val (.long j4), .second, .val (.int s7), .val (.int s17), .val (.ref b1), .val (.long s49), .second, .val (.int s58), .val (.long s83), .second, .unset] [(.long s83), (.ref b1)])) (fun t k => XS.lload X9.here hx rfl (hb hby at_87) rfl k) ?_
  obtain ⟨_, _, ⟨T10, L10, k10, n10⟩, -, X10, ⟨Lc10, hQ10, l10, y10, z10⟩, st10⟩ := Jvm.LawKit.callS X9 hx (y := (⟨"com/example/corrib/corrib/answer/WorkTakePinLaw", "leftIs", "(Lcom/example/corrib/corrib/answer/Work;J)Z"⟩ : MethodName)) hown (mvT hZ (hw _ (List.mem_of_getElem? (i := 30) rfl))) (mvT hZ (hw _ (List.mem_of_getElem? (i := 31) rfl))) (mvT hZ (hw _ (List.mem_of_getElem? (i := 14) rfl))) (mvT hZ (hw _ (List.mem_of_getElem? (i := 32) rfl))) (by decide) (backOf (W := 0) (rm6 l Z a0 hw [] b1 s83 ((j0 - ((own_units s7) * j2)) - ((own_units s17) * j4)) T8.heap n0 (Nat.le_trans (Nat.le_trans (Nat.le_trans (Nat.le_trans Z0 E1.1) Kq2.1) Kq4.1) Kq8.1) (((A1.keep Kq2).keep Kq4).keep Kq8) f8_0) hZ (hw _ (List.mem_of_getElem? (i := 32) rfl)) (hw _ (List.mem_of_getElem? (i := 14) rfl)) (by decide) (by decide)) (g := (mkF m 89 #[.val (.long j0), .second, .val (.int i1), .val (.long j2), .second, .val (.int i3), .val (.long j4), .second, .val (.int s7), .val (.int s17), .val (.ref b1), .val (.long s49), .second, .val (.int s58), .val (.long s83), .second, .unset] [(.long s83), (.ref b1)])) rfl (by rw [hml]; rfl) (argsL := [(.ref b1), (.long s83)]) (rest := []) (lenOf own_pd5 rfl) rfl (by show 2 * 0 + _ ≤ _; exact Nat.le_of_eq rfl) (hb hby at_89) (fun _ _ => ⟨rfl, eq9, (by decide : (((((((((0 + 1) + 0) + 0) + 0) + 0) + 0) + 0) + 0) + 0) + 0 ≤ _), (by decide : (((((((((0 + 1) + 0) + 0) + 0) + 0) + 0) + 0) + 0) + 0) + 0 ≤ _)⟩)
  dsimp only [Pt.U, Pt.locs, Pt.cells, Pt.slots] at X10 l10 y10 z10 st10 hQ10
  subst l10 y10 z10
  obtain ⟨rfl, Nq10, eq10⟩ := hQ10
  have N10 := Fr.app N9 Nq10
  refine own_via (B := T10.setTop (mkF m 92 #[.val (.long j0), .second, .val (.int i1), .val (.long j2), .second, .val (.int i3), .val (.long j4), .second, .val (.int s7), .val (.int s17), .val (.ref b1), .val (.long s49), .second, .val (.int s58), .val (.long s83), .second, .unset] [(.int (own_bit (((j0 - ((own_units s7) * j2)) - ((own_units s17) * j4)) = s83)))])) (fun t k => st10 t k) ?_
  refine own_via (B := T10.setTop (mkF m 94 #[.val (.long j0), .second, .val (.int i1), .val (.long j2), .second, .val (.int i3), .val (.long j4), .second, .val (.int s7), .val (.int s17), .val (.ref b1), .val (.long s49), .second, .val (.int s58), .val (.long s83), .second, .val (.int (own_bit (((j0 - ((own_units s7) * j2)) - ((own_units s17) * j4)) = s83)))] [])) (fun t k => XS.istore X10.here hx rfl (hb hby at_92) rfl (l' := #[.val (.long j0), .second, .val (.int i1), .val (.long j2), .second, .val (.int i3), .val (.long j4), .second, .val (.int s7), .val (.int s17), .val (.ref b1), .val (.long s49), .second, .val (.int s58), .val (.long s83), .second, .val (.int (own_bit (((j0 - ((own_units s7) * j2)) - ((own_units s17) * j4)) = s83)))]) rfl k) ?_
  generalize hs92 : (own_bit (((j0 - ((own_units s7) * j2)) - ((own_units s17) * j4)) = s83)) = s92
  refine own_via (B := T10.setTop (mkF m 96 #[.val (.long j0), .second, .val (.int i1), .val (.long j2), .second, .val (.int i3), .val (.long j4), .second, .val (.int s7), .val (.int s17), .val (.ref b1), .val (.long s49), .second, .val (.int s58), .val (.long s83), .second, .val (.int s92)] [(.int s58)])) (fun t k => XS.iload X10.here hx rfl (hb hby at_94) rfl k) ?_
  refine own_bind (G := fun B => ∃ (T' : State) (L' : List Loc) (v96s0 : Int32), Fr n0 L' ∧ (((s58 = (0 : Int32)) ∧ v96s0 = (0 : Int32)) ∨ ((¬ (s58 = (0 : Int32))) ∧ (s92 = (0 : Int32)) ∧ v96s0 = (0 : Int32)) ∨ ((¬ (s58 = (0 : Int32))) ∧ (¬ (s92 = (0 : Int32))) ∧ v96s0 = (1 : Int32))) ∧ B = T'.setTop (mkF m 109 #[.val (.long j0), .second, .val (.int i1), .val (.long j2), .second, .val (.int i3), .val (.long j4), .second, .val (.int s7), .val (.int s17), .val (.ref b1), .val (.long s49), .second, .val (.int s58), .val (.long s83), .second, .val (.int s92)] [(.int v96s0)]) ∧ Stand p l e room_1 s m #[(.long j0), (.int i1), (.long j2), (.int i3), (.long j4)] below meth c T' L' ((((((((((0 + 1) + 0) + 0) + 0) + 0) + 0) + 0) + 0) + 0) + 0) ((((((((((0 + 1) + 0) + 0) + 0) + 0) + 0) + 0) + 0) + 0) + 0) ∧ T'.heap = T8.heap) ?_ ?_
  · by_cases hc96 : s58 = (0 : Int32)
    · refine own_via (B := T10.setTop (mkF m 108 #[.val (.long j0), .second, .val (.int i1), .val (.long j2), .second, .val (.int i3), .val (.long j4), .second, .val (.int s7), .val (.int s17), .val (.ref b1), .val (.long s49), .second, .val (.int s58), .val (.long s83), .second, .val (.int s92)] [])) (fun t k => XS.ifYes X10.here hx rfl (pc0 := 96) (pc' := 108) rfl (hb hby at_96) rfl ((if0 _ _).trans (teq hc96).1) (by decide) (by decide) k) ?_
      refine own_via (B := T10.setTop (mkF m 109 #[.val (.long j0), .second, .val (.int i1), .val (.long j2), .second, .val (.int i3), .val (.long j4), .second, .val (.int s7), .val (.int s17), .val (.ref b1), .val (.long s49), .second, .val (.int s58), .val (.long s83), .second, .val (.int s92)] [(.int (0 : Int32))])) (fun t k => XS.iconst X10.here hx rfl (hb hby at_108) k) ?_
      exact own_done ⟨_, _, _, N10, (Or.inl ⟨hc96, rfl⟩), rfl, X10, eq10⟩
    · refine own_via (B := T10.setTop (mkF m 99 #[.val (.long j0), .second, .val (.int i1), .val (.long j2), .second, .val (.int i3), .val (.long j4), .second, .val (.int s7), .val (.int s17), .val (.ref b1), .val (.long s49), .second, .val (.int s58), .val (.long s83), .second, .val (.int s92)] [])) (fun t k => XS.ifNo X10.here hx rfl (hb hby at_96) rfl ((if0 _ _).trans (feq hc96).1) k) ?_
      refine own_via (B := T10.setTop (mkF m 101 #[.val (.long j0), .second, .val (.int i1), .val (.long j2), .second, .val (.int i3), .val (.long j4), .second, .val (.int s7), .val (.int s17), .val (.ref b1), .val (.long s49), .second, .val (.int s58), .val (.long s83), .second, .val (.int s92)] [(.int s92)])) (fun t k => XS.iload X10.here hx rfl (hb hby at_99) rfl k) ?_
      by_cases hc101 : s92 = (0 : Int32)
      · refine own_via (B := T10.setTop (mkF m 108 #[.val (.long j0), .second, .val (.int i1), .val (.long j2), .second, .val (.int i3), .val (.long j4), .second, .val (.int s7), .val (.int s17), .val (.ref b1), .val (.long s49), .second, .val (.int s58), .val (.long s83), .second, .val (.int s92)] [])) (fun t k => XS.ifYes X10.here hx rfl (pc0 := 101) (pc' := 108) rfl (hb hby at_101) rfl ((if0 _ _).trans (teq hc101).1) (by decide) (by decide) k) ?_
        refine own_via (B := T10.setTop (mkF m 109 #[.val (.long j0), .second, .val (.int i1), .val (.long j2), .second, .val (.int i3), .val (.long j4), .second, .val (.int s7), .val (.int s17), .val (.ref b1), .val (.long s49), .second, .val (.int s58), .val (.long s83), .second, .val (.int s92)] [(.int (0 : Int32))])) (fun t k => XS.iconst X10.here hx rfl (hb hby at_108) k) ?_
        exact own_done ⟨_, _, _, N10, (Or.inr (Or.inl ⟨hc96, hc101, rfl⟩)), rfl, X10, eq10⟩
      · refine own_via (B := T10.setTop (mkF m 104 #[.val (.long j0), .second, .val (.int i1), .val (.long j2), .second, .val (.int i3), .val (.long j4), .second, .val (.int s7), .val (.int s17), .val (.ref b1), .val (.long s49), .second, .val (.int s58), .val (.long s83), .second, .val (.int s92)] [])) (fun t k => XS.ifNo X10.here hx rfl (hb hby at_101) rfl ((if0 _ _).trans (feq hc101).1) k) ?_
        refine own_via (B := T10.setTop (mkF m 105 #[.val (.long j0), .second, .val (.int i1), .val (.long j2), .second, .val (.int i3), .val (.long j4), .second, .val (.int s7), .val (.int s17), .val (.ref b1), .val (.long s49), .second, .val (.int s58), .val (.long s83), .second, .val (.int s92)] [(.int (1 : Int32))])) (fun t k => XS.iconst X10.here hx rfl (hb hby at_104) k) ?_
        refine own_via (B := T10.setTop (mkF m 109 #[.val (.long j0), .second, .val (.int i1), .val (.long j2), .second, .val (.int i3), .val (.long j4), .second, .val (.int s7), .val (.int s17), .val (.ref b1), .val (.long s49), .second, .val (.int s58), .val (.long s83), .second, .val (.int s92)] [(.int (1 : Int32))])) (fun t k => XS.goto X10.here hx rfl (pc0 := 105) (pc' := 109) rfl (hb hby at_105) (by decide) (by decide) k) ?_
        exact own_done ⟨_, _, _, N10, (Or.inr (Or.inr ⟨hc96, hc101, rfl⟩)), rfl, X10, eq10⟩
  · rintro B ⟨T11, L11, v96s0, N11, hv96, rfl, X11, e11⟩
    refine own_leaf X11 hx hlk (t := .boolean) Bd.returns (own_b1 (by rcases hv96 with ⟨_, rfl⟩ | ⟨_, _, rfl⟩ | ⟨_, _, rfl⟩ <;> decide)) (Or.inl ⟨rfl, by simp, _, rfl⟩) (hb hby at_109) (by decide) (by decide) ?_
    show Q0 Z j0 i1 j2 i3 j4 w0 w1 w2 w3 w4 w5 w6 w7 w8 h0 n0 _ T11.heap _
    rw [e11]
    refine ⟨?_, N11⟩
    have k1 : s58 = 1 := by rw [← hs58]; exact own_bitT hs49
    have k2 : s92 = 1 := by rw [← hs92]; exact own_bitT (by rw [hs49]; exact hs83)
    subst k1 k2
    rcases hv96 with ⟨h0, rfl⟩ | ⟨h0, h1, rfl⟩ | ⟨h0, h1, rfl⟩
    · first | rfl | exact absurd h0 (by decide) | exact absurd h1 (by decide)
    · first | rfl | exact absurd h0 (by decide) | exact absurd h1 (by decide)
    · first | rfl | exact absurd h0 (by decide) | exact absurd h1 (by decide)
set_option maxRecDepth 65536 in
set_option maxHeartbeats 40000000 in
theorem comes_1 {Post : Tables → Env → Array Value → State → Outcome → State → Prop} (hpost : ∀ tb e args s v u, (limb_1_1.after args s (.returned v) u = true ∧ limb_1_2.after args s (.returned v) u = true ∧ True) → FrameEnd s (.returned v) u (Jvm.fieldLocs frame_1_writes args s ++ Jvm.arrayLocs frame_1_arrays args s ++ Jvm.staticLocs frame_1_statics s) 16 128 → Post tb e args s (.returned v) u) :
    ArmFor flags0 classFile x code maxLocals ret World_1 tables_1 room_1 Calls_1 rest_1 Pre_1 Post := by
  intro l hfl _ _ p e ha hc hk s m args below hf hA hF happ hP
  obtain ⟨hcalls, hrest, hpre⟩ := hP
  obtain ⟨-, -, -, hnamed, -, -, -, hat⟩ := (Spec.applies_iff hf).mp happ
  obtain ⟨hg, hn⟩ := and_e (Cond.before_iff.mp (show (Jvm.Cond.and given_1 narrow_1).before args s = true from hpre))
  obtain ⟨g1, g2⟩ := and_e hg
  obtain ⟨g3, g4⟩ := and_e g2
  obtain ⟨g5, g6⟩ := and_e g4
  obtain ⟨g7, g8⟩ := and_e g6
  obtain ⟨g9, g10⟩ := and_e g8
  obtain ⟨g11, g12⟩ := and_e hn
  obtain ⟨g13, g14⟩ := and_e g12
  obtain ⟨g15, g16⟩ := and_e g14
  obtain ⟨g17, g18⟩ := and_e g16
  obtain ⟨g19, g20⟩ := and_e g18
  obtain ⟨g21, g22⟩ := and_e g20
  obtain ⟨g23, g24⟩ := and_e g22
  obtain ⟨g25, g26⟩ := and_e g24
  obtain ⟨g27, g28⟩ := and_e g26
  obtain ⟨g29, g30⟩ := and_e g28
  obtain ⟨g31, g32⟩ := and_e g30
  obtain ⟨g33, g34⟩ := and_e g32
  obtain ⟨g35, g36⟩ := and_e g34
  obtain ⟨g37, g38⟩ := and_e g36
  obtain ⟨g39, g40⟩ := and_e g38
  obtain ⟨g41, g42⟩ := and_e g40
  obtain ⟨g43, g44⟩ := and_e g42
  obtain ⟨w0, w1, w2, w3, w4, rfl⟩ : ∃ w0 w1 w2 w3 w4 : Value, args = #[w0, w1, w2, w3, w4] := by
    have hs : args.size = 5 := by simpa [Cond.value, given_1] using g1
    obtain ⟨L⟩ := args
    match L, hs with
    | [w0, w1, w2, w3, w4], _ => exact ⟨w0, w1, w2, w3, w4, rfl⟩
  have hw := fun d (hd : d ∈ tables_1) => atoms_spec (ws := Jvm.Cond.code x code maxLocals ret :: tables_1) hat d (List.mem_cons_of_mem _ hd)
  have hfit : Fit s := fun {y c} hc i hi => by
    obtain ⟨ha, rfl⟩ := Array.getElem?_eq_some_iff.mp hc
    have q := List.all_eq_true.mp ((Array.all_eq_true_iff_forall_mem.mp hF) _ (Array.getElem_mem ha)) i (List.mem_range.mpr hi)
    simpa [Array.getElem?_eq_getElem hi] using q
  obtain ⟨i0, ei0⟩ := isL_v g3
  obtain rfl : w0 = (.long i0) := Option.some.inj ei0
  obtain ⟨i1, ei1⟩ := is_v g5
  obtain rfl : w1 = (.int i1) := Option.some.inj ei1
  obtain ⟨i2, ei2⟩ := isL_v g7
  obtain rfl : w2 = (.long i2) := Option.some.inj ei2
  obtain ⟨i3, ei3⟩ := is_v g9
  obtain rfl : w3 = (.int i3) := Option.some.inj ei3
  obtain ⟨i4, ei4⟩ := isL_v g10
  obtain rfl : w4 = (.long i4) := Option.some.inj ei4
  obtain ⟨w_CANDIDATE, _, _, _, ev_CANDIDATE, -⟩ := Cond.exactly_spec (Cond.before_iff.mpr g11)
  have S_CANDIDATE : Sta s s.heap "com/example/corrib/corrib/answer/Work$Kind" "CANDIDATE" "Lcom/example/corrib/corrib/answer/Work$Kind;" (.ref w_CANDIDATE) := Sta.start ev_CANDIDATE (Or.inr ⟨(hw _ (List.mem_of_getElem? (i := 17) rfl)), (hw _ (List.mem_of_getElem? (i := 18) rfl))⟩)
  have E_CANDIDATE : Exa s s.heap w_CANDIDATE "com/example/corrib/corrib/answer/Work$Kind" := Exa.start ev_CANDIDATE g11
  obtain ⟨w_TRIPLE, _, _, _, ev_TRIPLE, -⟩ := Cond.exactly_spec (Cond.before_iff.mpr g15)
  have S_TRIPLE : Sta s s.heap "com/example/corrib/corrib/answer/Work$Kind" "TRIPLE" "Lcom/example/corrib/corrib/answer/Work$Kind;" (.ref w_TRIPLE) := Sta.start ev_TRIPLE (Or.inr ⟨(hw _ (List.mem_of_getElem? (i := 17) rfl)), (hw _ (List.mem_of_getElem? (i := 40) rfl))⟩)
  have E_TRIPLE : Exa s s.heap w_TRIPLE "com/example/corrib/corrib/answer/Work$Kind" := Exa.start ev_TRIPLE g15
  obtain ⟨w_CELL, _, _, _, ev_CELL, -⟩ := Cond.exactly_spec (Cond.before_iff.mpr g19)
  have S_CELL : Sta s s.heap "com/example/corrib/corrib/answer/Work$Kind" "CELL" "Lcom/example/corrib/corrib/answer/Work$Kind;" (.ref w_CELL) := Sta.start ev_CELL (Or.inr ⟨(hw _ (List.mem_of_getElem? (i := 17) rfl)), (hw _ (List.mem_of_getElem? (i := 43) rfl))⟩)
  have E_CELL : Exa s s.heap w_CELL "com/example/corrib/corrib/answer/Work$Kind" := Exa.start ev_CELL g19
  obtain ⟨w_RELATED, _, _, _, ev_RELATED, -⟩ := Cond.exactly_spec (Cond.before_iff.mpr g23)
  have S_RELATED : Sta s s.heap "com/example/corrib/corrib/answer/Work$Kind" "RELATED" "Lcom/example/corrib/corrib/answer/Work$Kind;" (.ref w_RELATED) := Sta.start ev_RELATED (Or.inr ⟨(hw _ (List.mem_of_getElem? (i := 17) rfl)), (hw _ (List.mem_of_getElem? (i := 46) rfl))⟩)
  have E_RELATED : Exa s s.heap w_RELATED "com/example/corrib/corrib/answer/Work$Kind" := Exa.start ev_RELATED g23
  obtain ⟨w_TRIED, _, _, _, ev_TRIED, -⟩ := Cond.exactly_spec (Cond.before_iff.mpr g27)
  have S_TRIED : Sta s s.heap "com/example/corrib/corrib/answer/Work$Kind" "TRIED" "Lcom/example/corrib/corrib/answer/Work$Kind;" (.ref w_TRIED) := Sta.start ev_TRIED (Or.inr ⟨(hw _ (List.mem_of_getElem? (i := 17) rfl)), (hw _ (List.mem_of_getElem? (i := 49) rfl))⟩)
  have E_TRIED : Exa s s.heap w_TRIED "com/example/corrib/corrib/answer/Work$Kind" := Exa.start ev_TRIED g27
  obtain ⟨w_SETUP, _, _, _, ev_SETUP, -⟩ := Cond.exactly_spec (Cond.before_iff.mpr g31)
  have S_SETUP : Sta s s.heap "com/example/corrib/corrib/answer/Work$Kind" "SETUP" "Lcom/example/corrib/corrib/answer/Work$Kind;" (.ref w_SETUP) := Sta.start ev_SETUP (Or.inr ⟨(hw _ (List.mem_of_getElem? (i := 17) rfl)), (hw _ (List.mem_of_getElem? (i := 52) rfl))⟩)
  have E_SETUP : Exa s s.heap w_SETUP "com/example/corrib/corrib/answer/Work$Kind" := Exa.start ev_SETUP g31
  obtain ⟨w_WORD, _, _, _, ev_WORD, -⟩ := Cond.exactly_spec (Cond.before_iff.mpr g35)
  have S_WORD : Sta s s.heap "com/example/corrib/corrib/answer/Work$Kind" "WORD" "Lcom/example/corrib/corrib/answer/Work$Kind;" (.ref w_WORD) := Sta.start ev_WORD (Or.inr ⟨(hw _ (List.mem_of_getElem? (i := 17) rfl)), (hw _ (List.mem_of_getElem? (i := 55) rfl))⟩)
  have E_WORD : Exa s s.heap w_WORD "com/example/corrib/corrib/answer/Work$Kind" := Exa.start ev_WORD g35
  obtain ⟨w_GATHERED, _, _, _, ev_GATHERED, -⟩ := Cond.exactly_spec (Cond.before_iff.mpr g39)
  have S_GATHERED : Sta s s.heap "com/example/corrib/corrib/answer/Work$Kind" "GATHERED" "Lcom/example/corrib/corrib/answer/Work$Kind;" (.ref w_GATHERED) := Sta.start ev_GATHERED (Or.inr ⟨(hw _ (List.mem_of_getElem? (i := 17) rfl)), (hw _ (List.mem_of_getElem? (i := 57) rfl))⟩)
  have E_GATHERED : Exa s s.heap w_GATHERED "com/example/corrib/corrib/answer/Work$Kind" := Exa.start ev_GATHERED g39
  obtain ⟨w_WAY, _, _, _, ev_WAY, -⟩ := Cond.exactly_spec (Cond.before_iff.mpr g43)
  have S_WAY : Sta s s.heap "com/example/corrib/corrib/answer/Work$Kind" "WAY" "Lcom/example/corrib/corrib/answer/Work$Kind;" (.ref w_WAY) := Sta.start ev_WAY (Or.inr ⟨(hw _ (List.mem_of_getElem? (i := 17) rfl)), (hw _ (List.mem_of_getElem? (i := 60) rfl))⟩)
  have E_WAY : Exa s s.heap w_WAY "com/example/corrib/corrib/answer/Work$Kind" := Exa.start ev_WAY g43
  have F_CANDIDATE_units : Fld s s.heap w_CANDIDATE "com/example/corrib/corrib/answer/Work$Kind" "units" "J" (.long 600) := Fld.start ((fld_at ev_CANDIDATE).symm.trans (own_eqJ g13))
  have F_TRIPLE_units : Fld s s.heap w_TRIPLE "com/example/corrib/corrib/answer/Work$Kind" "units" "J" (.long 90) := Fld.start ((fld_at ev_TRIPLE).symm.trans (own_eqJ g17))
  have F_CELL_units : Fld s s.heap w_CELL "com/example/corrib/corrib/answer/Work$Kind" "units" "J" (.long 3) := Fld.start ((fld_at ev_CELL).symm.trans (own_eqJ g21))
  have F_RELATED_units : Fld s s.heap w_RELATED "com/example/corrib/corrib/answer/Work$Kind" "units" "J" (.long 1000) := Fld.start ((fld_at ev_RELATED).symm.trans (own_eqJ g25))
  have F_TRIED_units : Fld s s.heap w_TRIED "com/example/corrib/corrib/answer/Work$Kind" "units" "J" (.long 4) := Fld.start ((fld_at ev_TRIED).symm.trans (own_eqJ g29))
  have F_SETUP_units : Fld s s.heap w_SETUP "com/example/corrib/corrib/answer/Work$Kind" "units" "J" (.long 100) := Fld.start ((fld_at ev_SETUP).symm.trans (own_eqJ g33))
  have F_WORD_units : Fld s s.heap w_WORD "com/example/corrib/corrib/answer/Work$Kind" "units" "J" (.long 3) := Fld.start ((fld_at ev_WORD).symm.trans (own_eqJ g37))
  have F_GATHERED_units : Fld s s.heap w_GATHERED "com/example/corrib/corrib/answer/Work$Kind" "units" "J" (.long 300) := Fld.start ((fld_at ev_GATHERED).symm.trans (own_eqJ g41))
  have F_WAY_units : Fld s s.heap w_WAY "com/example/corrib/corrib/answer/Work$Kind" "units" "J" (.long 128) := Fld.start ((fld_at ev_WAY).symm.trans (own_eqJ g44))
  obtain ⟨n, o, h1, h2, h3, _, L, rfl, ⟨rfl, N⟩, hq⟩ := rm0 l s _ hw tables_1 i0 i1 i2 i3 i4 w_TRIPLE w_RELATED w_CANDIDATE w_WORD w_TRIED w_GATHERED w_SETUP w_CELL w_WAY s.heap s.heap.size (Nat.le_refl _) ⟨⟨S_TRIPLE, F_TRIPLE_units⟩, ⟨S_RELATED, F_RELATED_units⟩, ⟨S_CANDIDATE, F_CANDIDATE_units⟩, ⟨S_WORD, F_WORD_units⟩, ⟨S_TRIED, F_TRIED_units⟩, ⟨S_GATHERED, F_GATHERED_units⟩, ⟨S_SETUP, F_SETUP_units⟩, ⟨S_CELL, F_CELL_units⟩, ⟨S_WAY, F_WAY_units⟩⟩ (Old.start s) p e ha hc hk s m _ below hf ((Spec.applies_iff_loose hf).mp happ).1 ⟨rfl, State.Warmed39.refl s, rfl⟩ trivial
  refine ⟨n, _, h1, h2, h3, hpost _ _ _ _ _ _ ⟨Cond.after_iff.mpr rfl, Cond.after_iff.mpr (eq_i res_at (Term.int_eval (1)) rfl), trivial⟩ ⟨hq.1, hq.2.1, (hq.2.2.sift fun y hy => Or.inr (N y hy)).mono (by decide) (by decide)⟩⟩
theorem main_1_1 : Claimed_1_1 := comes_1 fun _ _ _ _ _ _ h hF => ⟨h.1, hF⟩
theorem main_1_2 : Claimed_1_2 := comes_1 fun _ _ _ _ _ _ h hF => ⟨h.2.1, hF⟩
end Jvm.Pilot.@@N@@
namespace Jvm.Pilot.@@N@@
open Jvm Jvm.ClassFile Sem Op Lib Jvm.Free Jvm.Stand Jvm.Pilot.@@N@@.Jvm.D
/-! MADE BY PROGRAM (witnessworld.py) out of the Statement's table words and the real class files: 13 classes; the members and pool entries that the words name. The judged class is class 1, her method 4. -/
namespace start1
open Jvm.ClassFile
def u (s : String) : CpInfo := .utf8 (stringToUtf16 s)
/-- a pool by its gaps: so many unusable entries, then the entry; so many at the end -/
def gap : Nat → List CpInfo → List CpInfo
  | 0, r => r
  | n + 1, r => .unusable :: gap n r
def poolList (es : List (Nat × CpInfo)) (last : Nat) : List CpInfo := es.foldr (fun e r => gap e.1 (e.2 :: r)) (gap last [])
def pool (es : List (Nat × CpInfo)) (last : Nat) : Array CpInfo := ⟨poolList es last⟩
def fileOf (pool : Array CpInfo) (this : Nat) (attrs : Array Attribute := #[]) (ms : Array MethodInfo := #[]) (fl : Nat := 33) (sup : Nat := 0) (ifs : Array Nat := #[]) (fds : Array FieldInfo := #[]) : ClassFile where
  minorVersion := 0
  majorVersion := 65
  constantPool := pool
  accessFlags := fl
  thisClass := this
  superClass := sup
  interfaces := ifs
  fields := fds
  methods := ms
  attributes := attrs
def plain (name : String) (sup : Option ClassId) : Class where
  name := name
  kind := .ordinary
  loader := none
  accessFlags := 33
  super := sup
  interfaces := #[]
  cf := none
  fields := #[]
  methods := #[]
  instanceTypes := #[]
  staticTypes := #[]
  resolved := #[]
  callSites := []
  init := .initialized
  statics := none
  mirror := none

def pool0 : Array CpInfo := pool [(5, u "<init>"), (0, u "()V"), (1, .class_ 10), (1, u "java/lang/Object")] 113

def k0c0 : Code := { maxStack := 0, maxLocals := 1, code := object_method_1_code, exceptionTable := #[], attributes := #[] }
def k0m0 : Method := { name := "<init>", desc := "()V", sig := { parameters := [], returnType := none }, accessFlags := 1, code := some k0c0 }
/-- java/lang/Object -/
def k0 : Class := { plain "java/lang/Object" none with
  accessFlags := 33
  interfaces := #[]
  cf := some (fileOf pool0 8 #[] #[{ accessFlags := 1, nameIndex := 5, descriptorIndex := 6, attributes := #[] }] 33 0 #[] #[])
  fields := #[]
  methods := #[k0m0]
  instanceTypes := #[]
  staticTypes := #[]
  resolved := Array.replicate 124 none
  statics := none }

def pool1 : Array CpInfo := pool [(2, .class_ 4), (1, u "java/lang/Object"), (0, u "<init>"), (0, u "()V"), (0, .fieldref 8 9), (0, .class_ 10), (0, .nameAndType 11 12), (0, u "com/example/corrib/corrib/answer/Work$Kind"), (0, u "TRIPLE"), (0, u "Lcom/example/corrib/corrib/answer/Work$Kind;"), (0, .fieldref 8 14), (0, .nameAndType 15 12), (0, u "RELATED"), (0, .fieldref 8 17), (0, .nameAndType 18 12), (0, u "CANDIDATE"), (0, .fieldref 8 20), (0, .nameAndType 21 12), (0, u "WORD"), (0, .fieldref 8 23), (0, .nameAndType 24 12), (0, u "TRIED"), (0, .fieldref 8 26), (0, .nameAndType 27 12), (0, u "GATHERED"), (0, .fieldref 8 29), (0, .nameAndType 30 12), (0, u "SETUP"), (0, .fieldref 8 32), (0, .nameAndType 33 12), (0, u "CELL"), (0, .fieldref 8 35), (0, .nameAndType 36 12), (0, u "WAY"), (0, .long 90), (1, .long 1000), (1, .long 600), (1, .long 3), (1, .long 4), (1, .long 300), (1, .long 100), (1, .long 128), (1, .methodref 54 55), (0, .class_ 56), (0, .nameAndType 57 58), (0, u "com/example/corrib/corrib/answer/Work"), (0, u "hasLeft"), (0, u "(J)Z"), (2, .long 9223372036854775807), (1, .integer 2147483647), (0, .methodref 54 65), (0, .nameAndType 5 66), (0, u "(J)V"), (0, .methodref 68 69), (0, .class_ 70), (0, .nameAndType 71 72), (0, u "com/example/corrib/corrib/answer/WorkTakePinLaw"), (0, u "kind"), (0, u "(I)Lcom/example/corrib/corrib/answer/Work$Kind;"), (0, .methodref 54 74), (0, .nameAndType 75 76), (0, u "take"), (0, u "(Lcom/example/corrib/corrib/answer/Work$Kind;J)V"), (0, .methodref 68 78), (0, .nameAndType 79 80), (0, u "units"), (0, u "(I)J"), (0, .methodref 68 82), (0, .nameAndType 83 84), (0, u "leftIs"), (0, u "(Lcom/example/corrib/corrib/answer/Work;J)Z"), (3, u "law"), (0, u "(JIJIJ)Z")] 4

def k1m0 : Method := { name := "<init>", desc := "()V", sig := { parameters := [], returnType := none }, accessFlags := 1, code := none }
def k1c1 : Code := { maxStack := 2, maxLocals := 1, code := method_2_code, exceptionTable := #[], attributes := #[] }
def k1m1 : Method := { name := "kind", desc := "(I)Lcom/example/corrib/corrib/answer/Work$Kind;", sig := { parameters := [.int], returnType := some (.object "com/example/corrib/corrib/answer/Work$Kind") }, accessFlags := 10, code := some k1c1 }
def k1c2 : Code := { maxStack := 2, maxLocals := 1, code := method_3_code, exceptionTable := #[], attributes := #[] }
def k1m2 : Method := { name := "units", desc := "(I)J", sig := { parameters := [.int], returnType := some .long }, accessFlags := 10, code := some k1c2 }
def k1c3 : Code := { maxStack := 5, maxLocals := 3, code := method_4_code, exceptionTable := #[], attributes := #[] }
def k1m3 : Method := { name := "leftIs", desc := "(Lcom/example/corrib/corrib/answer/Work;J)Z", sig := { parameters := [(.object "com/example/corrib/corrib/answer/Work"), .long], returnType := some .boolean }, accessFlags := 10, code := some k1c3 }
def k1c4 : Code := { maxStack := 6, maxLocals := 17, code := code, exceptionTable := #[], attributes := #[] }
def k1m4 : Method := { name := "law", desc := "(JIJIJ)Z", sig := { parameters := [.long, .int, .long, .int, .long], returnType := some .boolean }, accessFlags := 9, code := some k1c4 }
/-- com/example/corrib/corrib/answer/WorkTakePinLaw -/
def k1 : Class := { plain "com/example/corrib/corrib/answer/WorkTakePinLaw" (some 0) with
  accessFlags := 49
  interfaces := #[]
  cf := some (fileOf pool1 68 #[] #[{ accessFlags := 1, nameIndex := 5, descriptorIndex := 6, attributes := #[] }, { accessFlags := 10, nameIndex := 71, descriptorIndex := 72, attributes := #[] }, { accessFlags := 10, nameIndex := 79, descriptorIndex := 80, attributes := #[] }, { accessFlags := 10, nameIndex := 83, descriptorIndex := 84, attributes := #[] }, { accessFlags := 9, nameIndex := 88, descriptorIndex := 89, attributes := #[] }] 49 2 #[] #[])
  fields := #[]
  methods := #[k1m0, k1m1, k1m2, k1m3, k1m4]
  instanceTypes := #[]
  staticTypes := #[]
  resolved := Array.replicate 94 none
  statics := none }

def pool2 : Array CpInfo := pool [(1, .methodref 2 3), (0, .class_ 4), (0, .nameAndType 5 6), (0, u "java/lang/Object"), (0, u "<init>"), (0, u "()V"), (0, .fieldref 8 9), (0, .class_ 10), (0, .nameAndType 11 12), (0, u "com/example/corrib/corrib/answer/Work"), (0, u "left"), (0, u "J"), (0, .fieldref 14 15), (0, .class_ 16), (0, .nameAndType 17 12), (0, u "com/example/corrib/corrib/answer/Work$Kind"), (0, u "units"), (0, u "(J)V"), (2, u "take"), (0, u "(Lcom/example/corrib/corrib/answer/Work$Kind;J)V"), (0, u "hasLeft"), (0, u "(J)Z")] 6

def k2c0 : Code := { maxStack := 3, maxLocals := 3, code := prog_2_method_1_code, exceptionTable := #[], attributes := #[] }
def k2m0 : Method := { name := "<init>", desc := "(J)V", sig := { parameters := [.long], returnType := none }, accessFlags := 0, code := some k2c0 }
def k2c1 : Code := { maxStack := 7, maxLocals := 4, code := prog_2_method_2_code, exceptionTable := #[], attributes := #[] }
def k2m1 : Method := { name := "take", desc := "(Lcom/example/corrib/corrib/answer/Work$Kind;J)V", sig := { parameters := [(.object "com/example/corrib/corrib/answer/Work$Kind"), .long], returnType := none }, accessFlags := 0, code := some k2c1 }
def k2c2 : Code := { maxStack := 4, maxLocals := 3, code := prog_2_method_3_code, exceptionTable := #[], attributes := #[] }
def k2m2 : Method := { name := "hasLeft", desc := "(J)Z", sig := { parameters := [.long], returnType := some .boolean }, accessFlags := 0, code := some k2c2 }
/-- com/example/corrib/corrib/answer/Work -/
def k2 : Class := { plain "com/example/corrib/corrib/answer/Work" (some 0) with
  accessFlags := 48
  interfaces := #[]
  cf := some (fileOf pool2 8 #[.nestMembers #[14]] #[{ accessFlags := 0, nameIndex := 5, descriptorIndex := 18, attributes := #[] }, { accessFlags := 0, nameIndex := 21, descriptorIndex := 22, attributes := #[] }, { accessFlags := 0, nameIndex := 23, descriptorIndex := 24, attributes := #[] }] 48 2 #[] #[{ accessFlags := 2, nameIndex := 11, descriptorIndex := 12, attributes := #[] }])
  fields := #[{ name := "left", type := .long, accessFlags := 2, slot := 0, constantValue := 0 }]
  methods := #[k2m0, k2m1, k2m2]
  instanceTypes := #[.long]
  staticTypes := #[]
  resolved := #[none, none, none, none, none, none, none, none, none, none, none, none, none, some (.field 7 9), none, none, none, none, none, none, none, none, none, none, none, none, none, none, none, none, none]
  statics := none }

def pool3 : Array CpInfo := pool [(1, .class_ 2), (0, u "java/lang/constant/Constable"), (0, .class_ 4), (0, u "java/lang/Object")] 6

/-- java/lang/constant/Constable -/
def k3 : Class := { plain "java/lang/constant/Constable" (some 0) with
  accessFlags := 1537
  interfaces := #[]
  cf := some (fileOf pool3 1 #[] #[] 1537 3 #[] #[])
  fields := #[]
  methods := #[]
  instanceTypes := #[]
  staticTypes := #[]
  resolved := Array.replicate 11 none
  statics := none }

def pool4 : Array CpInfo := pool [(1, .class_ 2), (0, u "java/lang/Comparable"), (0, .class_ 4), (0, u "java/lang/Object")] 7

/-- java/lang/Comparable -/
def k4 : Class := { plain "java/lang/Comparable" (some 0) with
  accessFlags := 1537
  interfaces := #[]
  cf := some (fileOf pool4 1 #[] #[] 1537 3 #[] #[])
  fields := #[]
  methods := #[]
  instanceTypes := #[]
  staticTypes := #[]
  resolved := Array.replicate 12 none
  statics := none }

def pool5 : Array CpInfo := pool [(1, .class_ 2), (0, u "java/io/Serializable"), (0, .class_ 4), (0, u "java/lang/Object")] 2

/-- java/io/Serializable -/
def k5 : Class := { plain "java/io/Serializable" (some 0) with
  accessFlags := 1537
  interfaces := #[]
  cf := some (fileOf pool5 1 #[] #[] 1537 3 #[] #[])
  fields := #[]
  methods := #[]
  instanceTypes := #[]
  staticTypes := #[]
  resolved := Array.replicate 7 none
  statics := none }

def pool6 : Array CpInfo := pool [(2, .class_ 4), (1, u "java/lang/Enum"), (0, u "name"), (0, u "Ljava/lang/String;"), (2, u "ordinal"), (0, u "I"), (1, .class_ 14), (1, u "java/lang/Object"), (4, u "hash"), (86, .class_ 108), (1, u "java/lang/Enum$EnumDesc"), (2, .class_ 112), (0, u "java/lang/constant/Constable"), (0, .class_ 114), (0, u "java/lang/Comparable"), (0, .class_ 116), (0, u "java/io/Serializable")] 87

/-- java/lang/Enum -/
def k6 : Class := { plain "java/lang/Enum" (some 0) with
  accessFlags := 1057
  interfaces := #[3, 4, 5]
  cf := some (fileOf pool6 2 #[.nestMembers #[106]] #[] 1057 12 #[111, 113, 115] #[{ accessFlags := 18, nameIndex := 5, descriptorIndex := 6, attributes := #[] }, { accessFlags := 18, nameIndex := 9, descriptorIndex := 10, attributes := #[] }, { accessFlags := 2, nameIndex := 19, descriptorIndex := 10, attributes := #[] }])
  fields := #[{ name := "name", type := (.object "java/lang/String"), accessFlags := 18, slot := 0, constantValue := 0 }, { name := "ordinal", type := .int, accessFlags := 18, slot := 1, constantValue := 0 }, { name := "hash", type := .int, accessFlags := 2, slot := 2, constantValue := 0 }]
  methods := #[]
  instanceTypes := #[(.object "java/lang/String"), .int, .int]
  staticTypes := #[]
  resolved := Array.replicate 204 none
  statics := none }

def pool7 : Array CpInfo := pool [(1, .class_ 2), (0, u "com/example/corrib/corrib/answer/Work$Kind"), (2, u "TRIPLE"), (0, u "Lcom/example/corrib/corrib/answer/Work$Kind;"), (2, u "RELATED"), (2, u "CANDIDATE"), (2, u "WORD"), (2, u "TRIED"), (2, u "GATHERED"), (2, u "SETUP"), (2, u "CELL"), (2, u "WAY"), (2, u "$VALUES"), (0, u "[Lcom/example/corrib/corrib/answer/Work$Kind;"), (6, .class_ 43), (1, u "java/lang/Enum"), (8, u "units"), (0, u "J"), (45, .class_ 100), (0, u "com/example/corrib/corrib/answer/Work")] 2

/-- com/example/corrib/corrib/answer/Work$Kind -/
def k7 : Class := { plain "com/example/corrib/corrib/answer/Work$Kind" (some 6) with
  accessFlags := 16432
  interfaces := #[]
  cf := some (fileOf pool7 1 #[.nestHost 99] #[] 16432 41 #[] #[{ accessFlags := 16409, nameIndex := 5, descriptorIndex := 6, attributes := #[] }, { accessFlags := 16409, nameIndex := 9, descriptorIndex := 6, attributes := #[] }, { accessFlags := 16409, nameIndex := 12, descriptorIndex := 6, attributes := #[] }, { accessFlags := 16409, nameIndex := 15, descriptorIndex := 6, attributes := #[] }, { accessFlags := 16409, nameIndex := 18, descriptorIndex := 6, attributes := #[] }, { accessFlags := 16409, nameIndex := 21, descriptorIndex := 6, attributes := #[] }, { accessFlags := 16409, nameIndex := 24, descriptorIndex := 6, attributes := #[] }, { accessFlags := 16409, nameIndex := 27, descriptorIndex := 6, attributes := #[] }, { accessFlags := 16409, nameIndex := 30, descriptorIndex := 6, attributes := #[] }, { accessFlags := 18, nameIndex := 52, descriptorIndex := 53, attributes := #[] }, { accessFlags := 4122, nameIndex := 33, descriptorIndex := 34, attributes := #[] }])
  fields := #[{ name := "TRIPLE", type := (.object "com/example/corrib/corrib/answer/Work$Kind"), accessFlags := 16409, slot := 0, constantValue := 0 }, { name := "RELATED", type := (.object "com/example/corrib/corrib/answer/Work$Kind"), accessFlags := 16409, slot := 1, constantValue := 0 }, { name := "CANDIDATE", type := (.object "com/example/corrib/corrib/answer/Work$Kind"), accessFlags := 16409, slot := 2, constantValue := 0 }, { name := "WORD", type := (.object "com/example/corrib/corrib/answer/Work$Kind"), accessFlags := 16409, slot := 3, constantValue := 0 }, { name := "TRIED", type := (.object "com/example/corrib/corrib/answer/Work$Kind"), accessFlags := 16409, slot := 4, constantValue := 0 }, { name := "GATHERED", type := (.object "com/example/corrib/corrib/answer/Work$Kind"), accessFlags := 16409, slot := 5, constantValue := 0 }, { name := "SETUP", type := (.object "com/example/corrib/corrib/answer/Work$Kind"), accessFlags := 16409, slot := 6, constantValue := 0 }, { name := "CELL", type := (.object "com/example/corrib/corrib/answer/Work$Kind"), accessFlags := 16409, slot := 7, constantValue := 0 }, { name := "WAY", type := (.object "com/example/corrib/corrib/answer/Work$Kind"), accessFlags := 16409, slot := 8, constantValue := 0 }, { name := "units", type := .long, accessFlags := 18, slot := 3, constantValue := 0 }, { name := "$VALUES", type := (.array (.object "com/example/corrib/corrib/answer/Work$Kind")), accessFlags := 4122, slot := 9, constantValue := 0 }]
  methods := #[]
  instanceTypes := #[(.object "java/lang/String"), .int, .int, .long]
  staticTypes := #[(.object "com/example/corrib/corrib/answer/Work$Kind"), (.object "com/example/corrib/corrib/answer/Work$Kind"), (.object "com/example/corrib/corrib/answer/Work$Kind"), (.object "com/example/corrib/corrib/answer/Work$Kind"), (.object "com/example/corrib/corrib/answer/Work$Kind"), (.object "com/example/corrib/corrib/answer/Work$Kind"), (.object "com/example/corrib/corrib/answer/Work$Kind"), (.object "com/example/corrib/corrib/answer/Work$Kind"), (.object "com/example/corrib/corrib/answer/Work$Kind"), (.array (.object "com/example/corrib/corrib/answer/Work$Kind"))]
  resolved := Array.replicate 103 none
  statics := some 0 }

def pool8 : Array CpInfo := pool [(1, u "java/lang/Cloneable"), (0, .class_ 1), (0, u "java/lang/Object"), (0, .class_ 3)] 3

/-- java/lang/Cloneable -/
def k8 : Class := { plain "java/lang/Cloneable" (some 0) with
  accessFlags := 1537
  interfaces := #[]
  cf := some (fileOf pool8 2 #[] #[] 1537 4 #[] #[])
  fields := #[]
  methods := #[]
  instanceTypes := #[]
  staticTypes := #[]
  resolved := Array.replicate 8 none
  statics := none }

/-- the primitive byte -/
def k9 : Class := { plain "byte" none with kind := .primitive 'B', accessFlags := 0x411 }
/-- [B -/
def k10 : Class := { plain "[B" (some 0) with kind := .array 9 .byte, interfaces := #[8, 5], accessFlags := 1041 }

/-- the primitive int -/
def k11 : Class := { plain "int" none with kind := .primitive 'I', accessFlags := 0x411 }
/-- [I -/
def k12 : Class := { plain "[I" (some 0) with kind := .array 11 .int, interfaces := #[8, 5], accessFlags := 1041 }

def heap : Heap := #[{ cls := 7, slots := #[.ref 1, .ref 2, .ref 3, .ref 4, .ref 5, .ref 6, .ref 7, .ref 8, .ref 9, .null], vm := .statics 7 },
  { cls := 7, slots := #[.null, .int 0, .int 0, .long 90], vm := .none },
  { cls := 7, slots := #[.null, .int 0, .int 0, .long 1000], vm := .none },
  { cls := 7, slots := #[.null, .int 0, .int 0, .long 600], vm := .none },
  { cls := 7, slots := #[.null, .int 0, .int 0, .long 3], vm := .none },
  { cls := 7, slots := #[.null, .int 0, .int 0, .long 4], vm := .none },
  { cls := 7, slots := #[.null, .int 0, .int 0, .long 300], vm := .none },
  { cls := 7, slots := #[.null, .int 0, .int 0, .long 100], vm := .none },
  { cls := 7, slots := #[.null, .int 0, .int 0, .long 3], vm := .none },
  { cls := 7, slots := #[.null, .int 0, .int 0, .long 128], vm := .none }]
def classes : Array Class := #[k0, k1, k2, k3, k4, k5, k6, k7, k8, k9, k10, k11, k12]
def interned : List (Array UInt16 × Addr) := []
def slotsUsed : Nat := 46
def theMethod : MethodId := ⟨1, 4⟩
def args0 : Array Value := #[.long 5, .int 7, .long 7, .int 7, .long 7]
def aboutOver (below : List Frame) : State where
  vm := { classes := classes, interned := interned.toArray }
  heap := heap
  slotsUsed := slotsUsed
  threads := #[{ frames := .invoking theMethod args0 :: below }]
def below0 : List Frame := [.native { method := ⟨0, 0⟩, args := #[] }]
def about1 : State := aboutOver below0
def p0 : Program := .bare "" "" ""
def e0 : Env := launch0.env 0 0 0
theorem w_frames : about1.frames = Frame.invoking theMethod args0 :: below0 := rfl
set_option maxRecDepth 65536 in
theorem w_args : argsFit about1.vm theMethod args0 = true := by decide +kernel
set_option maxRecDepth 65536 in
theorem w_heap : heapFits about1 = true := by decide +kernel
set_option maxRecDepth 65536 in
theorem w_runnable : about1.curStatus? = some .runnable := by decide +kernel
set_option maxRecDepth 65536 in
theorem w_alone : about1.alone = true := by decide +kernel
set_option maxRecDepth 65536 in
theorem w_named : about1.methodNamed? x = some theMethod := by decide +kernel
set_option maxRecDepth 65536 in
theorem w_hears : about1.hears theMethod below0 = true := by decide +kernel
set_option maxRecDepth 65536 in
theorem w_ripe : about1.ripe theMethod args0 below0 = true := by decide +kernel
theorem w_running : about1.status = .running := rfl
set_option maxRecDepth 65536 in
theorem w_room : about1.hasRoom e0.platform room_1 = true :=
  launch0.hasRoom_least _ room_1 (by decide +kernel) (by decide +kernel) (by decide +kernel) (by decide +kernel) (by decide +kernel) (by decide +kernel)
theorem allAtoms_all (ts : List Jvm.Cond) (a : Array Jvm.Value) (st : Jvm.State) : (allAtoms ts).before a st = ts.all (fun c => c.before a st) := by
  induction ts with
  | nil => rfl
  | cons c t ih =>
    show (Jvm.Cond.and c (allAtoms t)).before a st = _
    rw [Jvm.Cond.before_and, ih, List.all_cons]
def words1 : List Jvm.Cond := Jvm.Cond.code x code maxLocals ret :: tables_1
/-- a 'code' word, met by the world's own term for the bytes: nothing is compared byte by byte -/
theorem code_word {y : MethodName} {bytes : ByteArray} {mx : Nat} {rt : Option FieldType} {a : Array Value} {s : State} {m : MethodId} {meth : Method} {c : Code} (h1 : s.methodNamed? y = some m) (h2 : s.vm.method? m = some meth) (h3 : meth.code = some c) (h4 : c.code = bytes)
    (h5 : (c.maxLocals == mx && c.exceptionTable.isEmpty && decide (c.maxStack ≤ mostOperands) && decide (meth.sig.returnType = rt) && !meth.locks && decide (parseMethodDescriptor y.desc = some meth.sig)) = true) : (Jvm.Cond.code y bytes mx rt).before a s = true := by
  simp only [Bool.and_eq_true, beq_iff_eq, Bool.not_eq_true', decide_eq_true_eq] at h5
  obtain ⟨⟨⟨⟨⟨g1, g2⟩, g3⟩, g4⟩, g5⟩, g6⟩ := h5
  simp [Cond.before, Cond.holds, Cond.value, h1, h2, h3, h4, g1, g2, g3, g4, g5, g6]
def isCode : Jvm.Cond → Bool
  | .code _ _ _ _ => true
  | _ => false
theorem all_split {L : List Jvm.Cond} {P : Jvm.Cond → Bool} (h1 : L.all (fun c => isCode c || P c) = true) (h2 : ∀ c ∈ L.filter isCode, P c = true) : L.all P = true := by
  refine List.all_eq_true.mpr fun c hc => ?_
  have h := List.all_eq_true.mp h1 c hc
  rcases Bool.eq_false_or_eq_true (isCode c) with hi | hi
  · exact h2 c (List.mem_filter.mpr ⟨hc, hi⟩)
  · simpa [hi] using h
set_option maxRecDepth 65536 in
theorem w_c0 : (Jvm.Cond.code x code maxLocals ret).before args0 about1 = true := code_word (m := ⟨1, 4⟩) (meth := k1m4) (c := k1c4) (by decide +kernel) rfl rfl rfl (by decide +kernel)
set_option maxRecDepth 65536 in
theorem w_c1 : (Jvm.Cond.code ({ cls := "com/example/corrib/corrib/answer/Work", name := "<init>", desc := "(J)V" } : Jvm.MethodName) prog_2_method_1_code (3 : Nat) (Option.none : Option Jvm.ClassFile.FieldType)).before args0 about1 = true := code_word (m := ⟨2, 0⟩) (meth := k2m0) (c := k2c0) (by decide +kernel) rfl rfl rfl (by decide +kernel)
set_option maxRecDepth 65536 in
theorem w_c2 : (Jvm.Cond.code ({ cls := "java/lang/Object", name := "<init>", desc := "()V" } : Jvm.MethodName) object_method_1_code (1 : Nat) (Option.none : Option Jvm.ClassFile.FieldType)).before args0 about1 = true := code_word (m := ⟨0, 0⟩) (meth := k0m0) (c := k0c0) (by decide +kernel) rfl rfl rfl (by decide +kernel)
set_option maxRecDepth 65536 in
theorem w_c3 : (Jvm.Cond.code ({ cls := "com/example/corrib/corrib/answer/WorkTakePinLaw", name := "kind", desc := "(I)Lcom/example/corrib/corrib/answer/Work$Kind;" } : Jvm.MethodName) method_2_code (1 : Nat) (Option.some (Jvm.ClassFile.FieldType.object "com/example/corrib/corrib/answer/Work$Kind"))).before args0 about1 = true := code_word (m := ⟨1, 1⟩) (meth := k1m1) (c := k1c1) (by decide +kernel) rfl rfl rfl (by decide +kernel)
set_option maxRecDepth 65536 in
theorem w_c4 : (Jvm.Cond.code ({ cls := "com/example/corrib/corrib/answer/Work", name := "take", desc := "(Lcom/example/corrib/corrib/answer/Work$Kind;J)V" } : Jvm.MethodName) prog_2_method_2_code (4 : Nat) (Option.none : Option Jvm.ClassFile.FieldType)).before args0 about1 = true := code_word (m := ⟨2, 1⟩) (meth := k2m1) (c := k2c1) (by decide +kernel) rfl rfl rfl (by decide +kernel)
set_option maxRecDepth 65536 in
theorem w_c5 : (Jvm.Cond.code ({ cls := "com/example/corrib/corrib/answer/WorkTakePinLaw", name := "units", desc := "(I)J" } : Jvm.MethodName) method_3_code (1 : Nat) (Option.some Jvm.ClassFile.FieldType.long)).before args0 about1 = true := code_word (m := ⟨1, 2⟩) (meth := k1m2) (c := k1c2) (by decide +kernel) rfl rfl rfl (by decide +kernel)
set_option maxRecDepth 65536 in
theorem w_c6 : (Jvm.Cond.code ({ cls := "com/example/corrib/corrib/answer/WorkTakePinLaw", name := "leftIs", desc := "(Lcom/example/corrib/corrib/answer/Work;J)Z" } : Jvm.MethodName) method_4_code (3 : Nat) (Option.some Jvm.ClassFile.FieldType.boolean)).before args0 about1 = true := code_word (m := ⟨1, 3⟩) (meth := k1m3) (c := k1c3) (by decide +kernel) rfl rfl rfl (by decide +kernel)
set_option maxRecDepth 65536 in
theorem w_c7 : (Jvm.Cond.code ({ cls := "com/example/corrib/corrib/answer/Work", name := "hasLeft", desc := "(J)Z" } : Jvm.MethodName) prog_2_method_3_code (3 : Nat) (Option.some Jvm.ClassFile.FieldType.boolean)).before args0 about1 = true := code_word (m := ⟨2, 2⟩) (meth := k2m2) (c := k2c2) (by decide +kernel) rfl rfl rfl (by decide +kernel)
def codes1 : List Jvm.Cond := [Jvm.Cond.code x code maxLocals ret, Jvm.Cond.code ({ cls := "com/example/corrib/corrib/answer/Work", name := "<init>", desc := "(J)V" } : Jvm.MethodName) prog_2_method_1_code (3 : Nat) (Option.none : Option Jvm.ClassFile.FieldType), Jvm.Cond.code ({ cls := "java/lang/Object", name := "<init>", desc := "()V" } : Jvm.MethodName) object_method_1_code (1 : Nat) (Option.none : Option Jvm.ClassFile.FieldType), Jvm.Cond.code ({ cls := "com/example/corrib/corrib/answer/WorkTakePinLaw", name := "kind", desc := "(I)Lcom/example/corrib/corrib/answer/Work$Kind;" } : Jvm.MethodName) method_2_code (1 : Nat) (Option.some (Jvm.ClassFile.FieldType.object "com/example/corrib/corrib/answer/Work$Kind")), Jvm.Cond.code ({ cls := "com/example/corrib/corrib/answer/Work", name := "take", desc := "(Lcom/example/corrib/corrib/answer/Work$Kind;J)V" } : Jvm.MethodName) prog_2_method_2_code (4 : Nat) (Option.none : Option Jvm.ClassFile.FieldType), Jvm.Cond.code ({ cls := "com/example/corrib/corrib/answer/WorkTakePinLaw", name := "units", desc := "(I)J" } : Jvm.MethodName) method_3_code (1 : Nat) (Option.some Jvm.ClassFile.FieldType.long), Jvm.Cond.code ({ cls := "com/example/corrib/corrib/answer/WorkTakePinLaw", name := "leftIs", desc := "(Lcom/example/corrib/corrib/answer/Work;J)Z" } : Jvm.MethodName) method_4_code (3 : Nat) (Option.some Jvm.ClassFile.FieldType.boolean), Jvm.Cond.code ({ cls := "com/example/corrib/corrib/answer/Work", name := "hasLeft", desc := "(J)Z" } : Jvm.MethodName) prog_2_method_3_code (3 : Nat) (Option.some Jvm.ClassFile.FieldType.boolean)]
set_option maxRecDepth 65536 in
theorem codes_eq : words1.filter isCode = codes1 := rfl
theorem w_codes : ∀ c ∈ words1.filter isCode, c.before args0 about1 = true := by
  rw [codes_eq]
  intro c hc
  simp only [codes1, List.mem_cons, List.not_mem_nil, or_false] at hc
  rcases hc with rfl | rfl | rfl | rfl | rfl | rfl | rfl | rfl
  · exact w_c0
  · exact w_c1
  · exact w_c2
  · exact w_c3
  · exact w_c4
  · exact w_c5
  · exact w_c6
  · exact w_c7
set_option maxRecDepth 65536 in
theorem w_t1 : (words1.take 24).all (fun c => isCode c || c.before args0 about1) = true := by decide +kernel
set_option maxRecDepth 65536 in
theorem w_t2 : ((words1.drop 24).take 24).all (fun c => isCode c || c.before args0 about1) = true := by decide +kernel
set_option maxRecDepth 65536 in
theorem w_t3 : ((words1.drop 24).drop 24).all (fun c => isCode c || c.before args0 about1) = true := by decide +kernel
theorem w_tables : (allAtoms (Jvm.Cond.code x code maxLocals ret :: tables_1)).before args0 about1 = true := by
  rw [allAtoms_all]
  show words1.all (fun c => c.before args0 about1) = true
  refine all_split ?_ w_codes
  rw [← List.take_append_drop 24 words1, List.all_append, w_t1, ← List.take_append_drop 24 (words1.drop 24), List.all_append, w_t2, w_t3]
  rfl
set_option maxRecDepth 65536 in
theorem w_case : (Jvm.Cond.and given_1 narrow_1).before args0 about1 = true := by decide +kernel
theorem w_applies : (headSpec (Jvm.Cond.code x code maxLocals ret :: tables_1) room_1).applies x e0.platform about1 = true :=
  (Spec.applies_iff w_frames).mpr ⟨w_running, w_runnable, w_alone, w_named, w_hears, w_ripe, w_room, w_tables⟩
theorem atStart : AtStart classFile x code maxLocals ret World_1 tables_1 room_1 Calls_1 rest_1 Pre_1 launch0 p0 e0 about1 theMethod args0 below0 :=
  ⟨lists_1, trivial, launch0.admits_env _ _ _, launch0.least_env, fairChoices_fair.cas, fairChoices_fair.clock, w_frames, w_args, w_heap, w_applies, trivial, trivial, w_case⟩
end start1
theorem witness_1 : WitnessClaimed_1 := ⟨start1.p0, start1.e0, start1.about1, start1.theMethod, start1.args0, start1.below0, start1.atStart⟩
end Jvm.Pilot.@@N@@
