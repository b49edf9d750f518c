import JvmDerived
import JvmDerived.Pilot.@@N@@Statement
import JvmDerived.Pilot.@@N@@Code
set_option linter.unusedVariables false
set_option linter.unusedSimpArgs false
namespace Jvm.Pilot.@@N@@
open Jvm Jvm.ClassFile Sem Op Lib Jvm.Free Jvm.Stand Jvm.LawKit Jvm.RoadKit Bundle Jvm.Pilot.@@N@@.Jvm.D
/-- what a walk owes from a state on: the run comes to a state of which G speaks -/
def own_Go (p : Program) (e : Env) (below : List Frame) (A : State) (G : State → Prop) : Prop := ∃ B, (∀ t, Steps p.tables e below B t → Steps p.tables e below A t) ∧ G B
theorem own_via {p : Program} {e : Env} {below : List Frame} {A B : State} {G : State → Prop} (h : ∀ t, Steps p.tables e below B t → Steps p.tables e below A t) (k : own_Go p e below B G) : own_Go p e below A G := by
  obtain ⟨C, h1, h2⟩ := k
  exact ⟨C, fun t q => h t (h1 t q), h2⟩
theorem own_done {p : Program} {e : Env} {below : List Frame} {A : State} {G : State → Prop} (g : G A) : own_Go p e below A G := ⟨A, fun _ q => q, g⟩
theorem own_bind {p : Program} {e : Env} {below : List Frame} {A : State} {G G' : State → Prop} (h : own_Go p e below A G) (k : ∀ B, G B → own_Go p e below B G') : own_Go p e below A G' := by
  obtain ⟨B, h1, h2⟩ := h
  exact own_via h1 (k B h2)
/-- the method ends here -/
def own_End (p : Program) (e : Env) (below : List Frame) (s : State) (Q : Option Value → Heap → List Loc → Prop) (C S : Nat) (B : State) : Prop :=
  ∃ s₂ o, Steps p.tables e below B s₂ ∧ s₂.status = .running ∧ Ended s₂ below o ∧ ∃ v L, o = .returned v ∧ Q v s₂.heap L ∧ FrameEnd s o s₂ L C S
theorem own_body {p : Program} {e : Env} {below : List Frame} {s A A' : State} {Q : Option Value → Heap → List Loc → Prop} {C S : Nat} (q : ∀ t, Steps p.tables e below A t → Steps p.tables e below A' t) (h : own_Go p e below A (own_End p e below s Q C S)) :
    ∃ s₂ o, Steps p.tables e below A' s₂ ∧ s₂.status = .running ∧ Ended s₂ below o ∧ ∃ v L, o = .returned v ∧ Q v s₂.heap L ∧ FrameEnd s o s₂ L C S := by
  obtain ⟨B, h1, s₂, o, h2, h3⟩ := h
  exact ⟨s₂, o, q _ (h1 _ h2), h3⟩
section Leaf
variable {p : Program} {l : Launch} {e : Env} {R : Room} {s : State} {m : MethodId} {args : Array Value} {below : List Frame} {meth : Method} {c : Code} {T : State} {locs : List Loc} {cells slots : Nat}
theorem own_leaf (X : Stand p l e R s m args below meth c T locs cells slots) (hx : p.tables.exec = Jvm.exec) (hlk : meth.locks = false) {pc : Nat} {Ls : Array Slot} {w : Value} {t : FieldType} {i : Instr} {rest : List Value} (hret : meth.sig.returnType = some t) (hn : narrow t w = w)
    (hi : (i = .ireturn ∧ (t = .int ∨ t = .boolean ∨ t = .byte ∨ t = .char ∨ t = .short) ∧ ∃ z, w = .int z) ∨ (i = .lreturn ∧ t = .long ∧ ∃ z, w = .long z) ∨ (i = .dreturn ∧ t = .double ∧ ∃ z, w = .double z) ∨ (i = .freturn ∧ t = .float ∧ ∃ z, w = .float z) ∨ (i = .areturn ∧ t.isReference = true ∧ w.isRef = true))
    (hd : decode c.code pc = .ok (i, 1)) {Q : Option Value → Heap → List Loc → Prop} {C S : Nat} (hC : cells ≤ C) (hS : slots ≤ S) (hq : Q (some w) T.heap locs) : own_Go p e below (T.setTop (mkF m pc Ls (w :: rest))) (own_End p e below s Q C S) := by
  obtain ⟨fs, hr, hrun, hended, hW, hsame⟩ := X.leave (v := some w) (fun h => by rw [hret] at h; cases h) hlk
  exact own_done ⟨_, _, retOut X hx hret hn hi hd hr, hrun, hended, _, _, rfl, hq, ⟨_, rfl⟩, hW, hsame.mono hC hS⟩
theorem own_leafV (X : Stand p l e R s m args below meth c T locs cells slots) (hx : p.tables.exec = Jvm.exec) (hlk : meth.locks = false) {pc : Nat} {Ls : Array Slot} (hret : meth.sig.returnType = none)
    (hd : decode c.code pc = .ok (.return_, 1)) {Q : Option Value → Heap → List Loc → Prop} {C S : Nat} (hC : cells ≤ C) (hS : slots ≤ S) (hq : Q none T.heap locs) : own_Go p e below (T.setTop (mkF m pc Ls [])) (own_End p e below s Q C S) := by
  obtain ⟨fs, hr, hrun, hended, hW, hsame⟩ := X.leave (v := none) (fun _ => rfl) hlk
  exact own_done ⟨_, _, X.returnOut hx hret hd hr, hrun, hended, _, _, rfl, hq, ⟨_, rfl⟩, hW, hsame.mono hC hS⟩
theorem own_getFR {Z : State} {a0 : Array Value} {h : Heap} (X : Stand p l e R s m args below meth c T locs cells slots) (hx : p.tables.exec = Jvm.exec) (hZ : Z.Warmed39 s.vm) {own R0 O n d : String} {index : Nat} (hown : s.vm.findClass own = some m.cls) (w : (Cond.fieldRef own index R0 n d).before a0 Z = true) (via : Via Z R0 O n d)
    (eT : T.heap = h) {a : Addr} {v : Value} (F : Fld Z h a O n d v) {g : JFrame} (hg : g.method = m) {rest : List Value} (hs : g.stack = .ref a :: rest) (hd : decode c.code g.pc = .ok (.getfield index, 3)) : ∃ T', Stand p l e R s m args below meth c T' locs cells slots ∧ T'.heap = h ∧ ∀ target, Steps p.tables e below (T'.setTop { g with pc := g.pc + 3, stack := v :: rest }) target → Steps p.tables e below (T.setTop g) target := by
  obtain ⟨cell, cf, k, i, f, h1, h2, h3, h4, -, -, h7⟩ := F
  have hW : Z.Warmed39 T.vm := wtrans hZ X.warmed
  have w1 := Cond.fieldRef_warmed39 hW w
  obtain ⟨c', k', i', f', hi, hr⟩ := Cond.fieldRef_spec (cur := m.cls) (show (Z.setVm T.vm).vm.findClass own = some m.cls by show T.vm.findClass own = _; rw [X.warmed.alike.findClass]; exact hown) w1
  obtain ⟨k'', hi', -⟩ := State.fieldFound?_setVm (s := Z) hW.alike (via _ h2)
  cases hi.symm.trans hi'
  refine ⟨T, X, eT, fun target hrest => ?_⟩
  subst hg
  jvm_step X.here [hx, hd, getfield.wp_ready (e := e) (s := T) (f := g) X.here.top hr h3 hs (by rw [eT]; exact h1) h4 h7]
  exact hrest
def own_EndW (p : Program) (e : Env) (below : List Frame) (s : State) (Q : Option Value → Heap → List Loc → Prop) (C S : Nat) (B : State) : Prop :=
  ∃ s₂ o, Steps p.tables e below B s₂ ∧ s₂.status = .running ∧ Ended s₂ below o ∧ ∃ v L, o = .returned v ∧ Q v s₂.heap L ∧ ReturnedEndW s o s₂ L C S
theorem own_bodyW {A A' : State} {Q : Option Value → Heap → List Loc → Prop} {C S : Nat} (q : ∀ t, Steps p.tables e below A t → Steps p.tables e below A' t) (h : own_Go p e below A (own_EndW p e below s Q C S)) :
    ∃ s₂ o, Steps p.tables e below A' s₂ ∧ s₂.status = .running ∧ Ended s₂ below o ∧ ∃ v L, o = .returned v ∧ Q v s₂.heap L ∧ ReturnedEndW s o s₂ L C S := by
  obtain ⟨B, h1, s₂, o, h2, h3⟩ := h
  exact ⟨s₂, o, q _ (h1 _ h2), h3⟩
theorem own_leafW {vm₁ : Vm} (X : Stand p l e R (s.setVm vm₁) m args below meth c T locs cells slots) (hx : p.tables.exec = Jvm.exec) (hlk : meth.locks = false) {n : Nat} (hS : s.Since vm₁ n) (hk : n ≤ T.heap.size) {pc : Nat} {Ls : Array Slot} {w : Value} {t : FieldType} {i : Instr} {rest : List Value} (hret : meth.sig.returnType = some t) (hn : narrow t w = w)
    (hi : (i = .ireturn ∧ (t = .int ∨ t = .boolean ∨ t = .byte ∨ t = .char ∨ t = .short) ∧ ∃ z, w = .int z) ∨ (i = .lreturn ∧ t = .long ∧ ∃ z, w = .long z) ∨ (i = .dreturn ∧ t = .double ∧ ∃ z, w = .double z) ∨ (i = .freturn ∧ t = .float ∧ ∃ z, w = .float z) ∨ (i = .areturn ∧ t.isReference = true ∧ w.isRef = true))
    (hd : decode c.code pc = .ok (i, 1)) {Q : Option Value → Heap → List Loc → Prop} {C S : Nat} (hC : cells ≤ C) (hS' : slots ≤ S) (hq : Q (some w) T.heap locs) : own_Go p e below (T.setTop (mkF m pc Ls (w :: rest))) (own_EndW p e below s Q C S) := by
  obtain ⟨fs, hr, hrun, hended, h1, h2, h3, hsame⟩ := X.leaveW hS hk (v := some w) (fun h => by rw [hret] at h; cases h) hlk
  exact own_done ⟨_, _, retOut X hx hret hn hi hd hr, hrun, hended, _, _, rfl, hq, h1, h2, h3, hsame.mono hC hS'⟩
theorem own_leafVW {vm₁ : Vm} (X : Stand p l e R (s.setVm vm₁) m args below meth c T locs cells slots) (hx : p.tables.exec = Jvm.exec) (hlk : meth.locks = false) {n : Nat} (hS : s.Since vm₁ n) (hk : n ≤ T.heap.size) {pc : Nat} {Ls : Array Slot} (hret : meth.sig.returnType = none)
    (hd : decode c.code pc = .ok (.return_, 1)) {Q : Option Value → Heap → List Loc → Prop} {C S : Nat} (hC : cells ≤ C) (hS' : slots ≤ S) (hq : Q none T.heap locs) : own_Go p e below (T.setTop (mkF m pc Ls [])) (own_EndW p e below s Q C S) := by
  obtain ⟨fs, hr, hrun, hended, h1, h2, h3, hsame⟩ := X.leaveW hS hk (v := none) (fun _ => rfl) hlk
  exact own_done ⟨_, _, X.returnOut hx hret hd hr, hrun, hended, _, _, rfl, hq, h1, h2, h3, hsame.mono hC hS'⟩
def own_bit (P : Prop) [Decidable P] : Int32 := if P then 1 else 0
theorem own_bit01 (P : Prop) [Decidable P] : own_bit P = 0 ∨ own_bit P = 1 := by unfold own_bit; split <;> simp
theorem own_bitT {P : Prop} [Decidable P] (h : P) : own_bit P = 1 := if_pos h
theorem own_bitF {P : Prop} [Decidable P] (h : ¬ P) : own_bit P = 0 := if_neg h
theorem own_bit0 {P : Prop} [Decidable P] : own_bit P = 0 ↔ ¬ P := by unfold own_bit; split <;> simp_all
theorem own_bit1 {P : Prop} [Decidable P] : own_bit P = 1 ↔ P := by unfold own_bit; split <;> simp_all
theorem own_bits {P P' : Prop} [Decidable P] [Decidable P'] (h : P ↔ P') : own_bit P = own_bit P' := by unfold own_bit; simp [h]
theorem own_lt (x y : Int32) : x < y ↔ x.toInt < y.toInt := Int32.lt_iff_toInt_lt
theorem own_eq (x y : Int32) : x = y ↔ x.toInt = y.toInt := Int32.toInt_inj.symm
theorem own_ltL (x y : Int64) : x < y ↔ x.toInt < y.toInt := Int64.lt_iff_toInt_lt
theorem own_eqL (x y : Int64) : x = y ↔ x.toInt = y.toInt := Int64.toInt_inj.symm
theorem own_mask (x : Int32) : 0 ≤ (x &&& (2147483647 : Int32)).toInt := by
  have h : (x &&& (2147483647 : Int32)).toBitVec.msb = false := by
    show (x.toBitVec &&& 2147483647#32).msb = false
    have e : (2147483647#32).msb = false := by decide
    rw [BitVec.msb_and, e]; simp
  have := BitVec.toInt_eq_msb_cond (x &&& (2147483647 : Int32)).toBitVec
  rw [h] at this
  show 0 ≤ (x &&& (2147483647 : Int32)).toBitVec.toInt
  rw [this]
  simp only [Bool.false_eq_true, if_false]
  exact Int.natCast_nonneg _
theorem own_modm (x m : Int32) (hm : 0 < m.toInt) : 0 ≤ ((x &&& (2147483647 : Int32)) % m).toInt ∧ ((x &&& (2147483647 : Int32)) % m).toInt < m.toInt := by
  have h := own_mask x
  rw [Int32.toInt_mod, Int.tmod_eq_emod_of_nonneg h]
  exact ⟨Int.emod_nonneg _ (by omega), Int.emod_lt_of_pos _ hm⟩
theorem own_fb {x : Int32} (h : x = 0 ∨ x = 1) : fits .boolean (.int x) = true := by rcases h with rfl | rfl <;> decide
theorem own_eqI {t : Term} {k : Int32} {args : Array Value} {s : State} (h : (Cond.eq t (Term.int k)).value args s none s [] = some true) : t.eval args s none [] s = some (.int k) := by
  simp only [Cond.value] at h
  have hn : (Term.int k).eval args s none [] s = some (.int k) := rfl
  rw [hn] at h
  cases ht : t.eval args s none [] s with
  | none => simp [ht] at h
  | some v => cases v <;> simp [ht] at h ⊢ <;> first | exact h | (exact h.elim) | simp_all
theorem own_eqJ {t : Term} {k : Int64} {args : Array Value} {s : State} (h : (Cond.eq t (Term.long k)).value args s none s [] = some true) : t.eval args s none [] s = some (.long k) := by
  simp only [Cond.value] at h
  have hn : (Term.long k).eval args s none [] s = some (.long k) := rfl
  rw [hn] at h
  cases ht : t.eval args s none [] s with
  | none => simp [ht] at h
  | some v => cases v <;> simp [ht] at h ⊢ <;> first | exact h | (exact h.elim) | simp_all
theorem own_b1 {x : Int32} (h : x = 0 ∨ x = 1) : narrow .boolean (.int x) = .int x := by rcases h with rfl | rfl <;> rfl
end Leaf

def own_isErr (x : Int32) : Prop := (500 ≤ x.toInt ∧ x.toInt ≤ 599) ∨ x.toInt = 429
instance (x : Int32) : Decidable (own_isErr x) := by unfold own_isErr; infer_instance
def own_pick (x : Int32) (wA wE : Addr) : Addr := if own_isErr x then wE else wA
theorem own_500 : (500 : Int32).toInt = 500 := by decide
theorem own_599 : (599 : Int32).toInt = 599 := by decide
theorem own_429 : (429 : Int32).toInt = 429 := by decide
theorem own_yes {x : Int32} {wA wE : Addr} (h : own_isErr x) : some (Value.ref wE) = some (.ref (own_pick x wA wE)) := by simp [own_pick, h]
theorem own_no {x : Int32} {wA wE : Addr} (h : ¬ own_isErr x) : some (Value.ref wA) = some (.ref (own_pick x wA wE)) := by simp [own_pick, h]
theorem own_div (x : Int32) : x / 100 = 5 ↔ 500 ≤ x.toInt ∧ x.toInt ≤ 599 := by
  have h1 := x.le_toInt; have h2 := x.toInt_lt
  rw [own_eq, Int32.toInt_div_of_ne_right x 100 (by decide)]
  have e1 : (100 : Int32).toInt = 100 := by decide
  have e2 : (5 : Int32).toInt = 5 := by decide
  rw [e1, e2]
  constructor
  · intro h
    have := Int.mul_tdiv_add_tmod x.toInt 100
    have b := Int.tmod_lt_of_pos x.toInt (b := 100) (by omega)
    have b2 := Int.lt_tmod_of_pos x.toInt (b := 100) (by omega)
    by_cases hx : 0 ≤ x.toInt
    · have := Int.tmod_nonneg 100 hx; omega
    · omega
  · intro h
    rw [Int.tdiv_eq_ediv_of_nonneg (by omega)]
    omega
theorem own_5a {x : Int32} (h : own_isErr x) (h1 : ¬ (x / 100 = 5)) : x = 429 := by
  rw [own_div] at h1; rw [own_eq, own_429]; unfold own_isErr at h; omega
theorem own_pn0 : plainName "com/example/meerkat/meerkat/policy/Tally$Outcome" = true := by first | (simp [plainName, overriddenIn]; done) | decide +kernel
theorem own_d1_0 : decode prog_23_method_4_code 0 = .ok (.iload_n 0, 1) := by decide +kernel
theorem own_d1_1 : decode prog_23_method_4_code 1 = .ok (.sipush 500, 3) := by decide +kernel
theorem own_d1_4 : decode prog_23_method_4_code 4 = .ok (.if_icmp .lt 10, 3) := by decide +kernel
theorem own_d1_7 : decode prog_23_method_4_code 7 = .ok (.iload_n 0, 1) := by decide +kernel
theorem own_d1_8 : decode prog_23_method_4_code 8 = .ok (.sipush 599, 3) := by decide +kernel
theorem own_d1_11 : decode prog_23_method_4_code 11 = .ok (.if_icmp .le 10, 3) := by decide +kernel
theorem own_d1_14 : decode prog_23_method_4_code 14 = .ok (.iload_n 0, 1) := by decide +kernel
theorem own_d1_15 : decode prog_23_method_4_code 15 = .ok (.sipush 429, 3) := by decide +kernel
theorem own_d1_18 : decode prog_23_method_4_code 18 = .ok (.if_icmp .ne 9, 3) := by decide +kernel
theorem own_d1_21 : decode prog_23_method_4_code 21 = .ok (.getstatic 7, 3) := by decide +kernel
theorem own_d1_24 : decode prog_23_method_4_code 24 = .ok (.goto 6, 3) := by decide +kernel
theorem own_d1_27 : decode prog_23_method_4_code 27 = .ok (.getstatic 3, 3) := by decide +kernel
theorem own_d1_30 : decode prog_23_method_4_code 30 = .ok (.areturn, 1) := by decide +kernel
theorem own_ef1 (m : MethodId) (x0 : Int32) : entryFrame m #[(.int x0)] 1 = mkF m 0 #[.val (.int x0)] [] := by first | (simp [entryFrame, mkF, argsToLocals, Value.category]; done) | rfl
def Q1 (Z : State) (p1 : Int32) (wA : Addr) (wE : Addr) (h0 : Heap) (n0 : Nat) (v : Option Value) (h : Heap) (L : List Loc) : Prop := v = some (.ref (own_pick p1 wA wE)) ∧ Fr n0 L ∧ h = h0
set_option maxRecDepth 65536 in
set_option maxHeartbeats 40000000 in
theorem rm1 (l : Launch) (Z : State) (a0 : Array Value) (hw : ∀ d ∈ tables_1, d.before a0 Z = true) (ws : List Jvm.Cond) (p1 : Int32) (wA : Addr) (wE : Addr) (h0 : Heap) (n0 : Nat) (Z0 : n0 ≤ h0.size) (SA : Sta Z h0 "com/example/meerkat/meerkat/policy/Tally$Outcome" "ANSWERED" "Lcom/example/meerkat/meerkat/policy/Tally$Outcome;" (.ref wA)) (SE : Sta Z h0 "com/example/meerkat/meerkat/policy/Tally$Outcome" "ERROR" "Lcom/example/meerkat/meerkat/policy/Tally$Outcome;" (.ref wE)) :
    MetFree l (⟨"com/example/meerkat/meerkat/policy/Tally$Outcome", "answeredWith", "(I)Lcom/example/meerkat/meerkat/policy/Tally$Outcome;"⟩ : MethodName) (head1 (Jvm.Cond.code (⟨"com/example/meerkat/meerkat/policy/Tally$Outcome", "answeredWith", "(I)Lcom/example/meerkat/meerkat/policy/Tally$Outcome;"⟩ : MethodName) prog_23_method_4_code 1 (some (.object "com/example/meerkat/meerkat/policy/Tally$Outcome")) :: ws) ({ frames := 0, cells := 0, slots := 0, locals := 0 } : Room)) (fun a U => a = #[(.int p1)] ∧ Z.Warmed39 U.vm ∧ U.heap = h0) (fun _ _ _ _ _ => True) (fun _ U o U' => ∃ v L, o = .returned v ∧ Q1 Z p1 wA wE h0 n0 v U'.heap L ∧ FrameEnd U o U' L ({ frames := 0, cells := 0, slots := 0, locals := 0 } : Room).cells ({ frames := 0, cells := 0, slots := 0, locals := 0 } : Room).slots) := by
  refine MetFree.of_bodySF (plainFor_of_name own_pn0) hisR ?_
  intro p e s m args below meth c s₁ Bd hml0 hP hK
  obtain ⟨rfl, hZ, hh⟩ := hP
  have hx := Bd.exec
  have hby := Bd.bytes
  have hlk : meth.locks = false := Bd.notSynchronized
  have hml : c.maxLocals = 1 := hml0
  have hown : s.vm.findClass "com/example/meerkat/meerkat/policy/Tally$Outcome" = some m.cls := findClass_of_methodNamed Bd.named
  have hnm := (name_of_methodNamed Bd.named Bd.method).1
  have X0 : Stand p l e ({ frames := 0, cells := 0, slots := 0, locals := 0 } : Room) s m #[(.int p1)] below meth c s₁ [] 0 0 := Stand.of_body Bd
  have e0 : s₁.heap = h0 := by rw [← hh, Bd.state]; rfl
  have N0 := Fr.nil n0
  refine own_body (A := s₁.setTop (mkF m 0 #[.val (.int p1)] [])) (Q := Q1 Z p1 wA wE h0 n0) (fun t k => castTop (own_ef1 m p1) k) ?_
  refine own_via (B := s₁.setTop (mkF m 1 #[.val (.int p1)] [(.int p1)])) (fun t k => XS.iloadN X0.here hx rfl (hb hby own_d1_0) rfl k) ?_
  refine own_via (B := s₁.setTop (mkF m 4 #[.val (.int p1)] [(.int (500 : Int32)), (.int p1)])) (fun t k => XS.sipush X0.here hx rfl (hb hby own_d1_1) k) ?_
  refine own_bind (G := fun B => ∃ (T' : State) (L' : List Loc) (v4s0 : Addr), Fr n0 L' ∧ (((p1 < (500 : Int32)) ∧ (p1 = (429 : Int32)) ∧ v4s0 = wE) ∨ ((p1 < (500 : Int32)) ∧ (¬ (p1 = (429 : Int32))) ∧ v4s0 = wA) ∨ ((¬ (p1 < (500 : Int32))) ∧ ((599 : Int32) < p1) ∧ (p1 = (429 : Int32)) ∧ v4s0 = wE) ∨ ((¬ (p1 < (500 : Int32))) ∧ ((599 : Int32) < p1) ∧ (¬ (p1 = (429 : Int32))) ∧ v4s0 = wA) ∨ ((¬ (p1 < (500 : Int32))) ∧ (¬ ((599 : Int32) < p1)) ∧ v4s0 = wE)) ∧ B = T'.setTop (mkF m 30 #[.val (.int p1)] [(.ref v4s0)]) ∧ Stand p l e ({ frames := 0, cells := 0, slots := 0, locals := 0 } : Room) s m #[(.int p1)] below meth c T' L' 0 0 ∧ T'.heap = h0) ?_ ?_
  · by_cases hc4 : p1 < (500 : Int32)
    · refine own_via (B := s₁.setTop (mkF m 14 #[.val (.int p1)] [])) (fun t k => XS.icmpYes X0.here hx rfl (pc0 := 4) (pc' := 14) rfl (hb hby own_d1_4) rfl (tlt hc4).1 (by decide) (by decide) k) ?_
      refine own_via (B := s₁.setTop (mkF m 15 #[.val (.int p1)] [(.int p1)])) (fun t k => XS.iloadN X0.here hx rfl (hb hby own_d1_14) rfl k) ?_
      refine own_via (B := s₁.setTop (mkF m 18 #[.val (.int p1)] [(.int (429 : Int32)), (.int p1)])) (fun t k => XS.sipush X0.here hx rfl (hb hby own_d1_15) k) ?_
      by_cases hc18 : p1 = (429 : Int32)
      · refine own_via (B := s₁.setTop (mkF m 21 #[.val (.int p1)] [])) (fun t k => XS.icmpNo X0.here hx rfl (hb hby own_d1_18) rfl (teq hc18).2 k) ?_
        obtain ⟨T2, X2, e2, st2⟩ := getS2 X0 hx hZ hown (host := "") (Or.inl (hw _ (List.mem_of_getElem? (i := 11) rfl))) Via.refl e0 SE (g := (mkF m 21 #[.val (.int p1)] [])) rfl (hb hby own_d1_21)
        refine own_via (B := T2.setTop (mkF m 24 #[.val (.int p1)] [(.ref wE)])) (fun t k => st2 t k) ?_
        refine own_via (B := T2.setTop (mkF m 30 #[.val (.int p1)] [(.ref wE)])) (fun t k => XS.goto X2.here hx rfl (pc0 := 24) (pc' := 30) rfl (hb hby own_d1_24) (by decide) (by decide) k) ?_
        exact own_done ⟨_, _, _, N0, (Or.inl ⟨hc4, hc18, rfl⟩), rfl, X2, e2⟩
      · refine own_via (B := s₁.setTop (mkF m 27 #[.val (.int p1)] [])) (fun t k => XS.icmpYes X0.here hx rfl (pc0 := 18) (pc' := 27) rfl (hb hby own_d1_18) rfl (feq hc18).2 (by decide) (by decide) k) ?_
        obtain ⟨T3, X3, e3, st3⟩ := getS2 X0 hx hZ hown (host := "") (Or.inl (hw _ (List.mem_of_getElem? (i := 4) rfl))) Via.refl e0 SA (g := (mkF m 27 #[.val (.int p1)] [])) rfl (hb hby own_d1_27)
        refine own_via (B := T3.setTop (mkF m 30 #[.val (.int p1)] [(.ref wA)])) (fun t k => st3 t k) ?_
        exact own_done ⟨_, _, _, N0, (Or.inr (Or.inl ⟨hc4, hc18, rfl⟩)), rfl, X3, e3⟩
    · refine own_via (B := s₁.setTop (mkF m 7 #[.val (.int p1)] [])) (fun t k => XS.icmpNo X0.here hx rfl (hb hby own_d1_4) rfl (flt hc4).1 k) ?_
      refine own_via (B := s₁.setTop (mkF m 8 #[.val (.int p1)] [(.int p1)])) (fun t k => XS.iloadN X0.here hx rfl (hb hby own_d1_7) rfl k) ?_
      refine own_via (B := s₁.setTop (mkF m 11 #[.val (.int p1)] [(.int (599 : Int32)), (.int p1)])) (fun t k => XS.sipush X0.here hx rfl (hb hby own_d1_8) k) ?_
      by_cases hc11 : (599 : Int32) < p1
      · refine own_via (B := s₁.setTop (mkF m 14 #[.val (.int p1)] [])) (fun t k => XS.icmpNo X0.here hx rfl (hb hby own_d1_11) rfl (tlt hc11).2.2.2 k) ?_
        refine own_via (B := s₁.setTop (mkF m 15 #[.val (.int p1)] [(.int p1)])) (fun t k => XS.iloadN X0.here hx rfl (hb hby own_d1_14) rfl k) ?_
        refine own_via (B := s₁.setTop (mkF m 18 #[.val (.int p1)] [(.int (429 : Int32)), (.int p1)])) (fun t k => XS.sipush X0.here hx rfl (hb hby own_d1_15) k) ?_
        by_cases hc18 : p1 = (429 : Int32)
        · refine own_via (B := s₁.setTop (mkF m 21 #[.val (.int p1)] [])) (fun t k => XS.icmpNo X0.here hx rfl (hb hby own_d1_18) rfl (teq hc18).2 k) ?_
          obtain ⟨T4, X4, e4, st4⟩ := getS2 X0 hx hZ hown (host := "") (Or.inl (hw _ (List.mem_of_getElem? (i := 11) rfl))) Via.refl e0 SE (g := (mkF m 21 #[.val (.int p1)] [])) rfl (hb hby own_d1_21)
          refine own_via (B := T4.setTop (mkF m 24 #[.val (.int p1)] [(.ref wE)])) (fun t k => st4 t k) ?_
          refine own_via (B := T4.setTop (mkF m 30 #[.val (.int p1)] [(.ref wE)])) (fun t k => XS.goto X4.here hx rfl (pc0 := 24) (pc' := 30) rfl (hb hby own_d1_24) (by decide) (by decide) k) ?_
          exact own_done ⟨_, _, _, N0, (Or.inr (Or.inr (Or.inl ⟨hc4, hc11, hc18, rfl⟩))), rfl, X4, e4⟩
        · refine own_via (B := s₁.setTop (mkF m 27 #[.val (.int p1)] [])) (fun t k => XS.icmpYes X0.here hx rfl (pc0 := 18) (pc' := 27) rfl (hb hby own_d1_18) rfl (feq hc18).2 (by decide) (by decide) k) ?_
          obtain ⟨T5, X5, e5, st5⟩ := getS2 X0 hx hZ hown (host := "") (Or.inl (hw _ (List.mem_of_getElem? (i := 4) rfl))) Via.refl e0 SA (g := (mkF m 27 #[.val (.int p1)] [])) rfl (hb hby own_d1_27)
          refine own_via (B := T5.setTop (mkF m 30 #[.val (.int p1)] [(.ref wA)])) (fun t k => st5 t k) ?_
          exact own_done ⟨_, _, _, N0, (Or.inr (Or.inr (Or.inr (Or.inl ⟨hc4, hc11, hc18, rfl⟩)))), rfl, X5, e5⟩
      · refine own_via (B := s₁.setTop (mkF m 21 #[.val (.int p1)] [])) (fun t k => XS.icmpYes X0.here hx rfl (pc0 := 11) (pc' := 21) rfl (hb hby own_d1_11) rfl (flt hc11).2.2.2 (by decide) (by decide) k) ?_
        obtain ⟨T6, X6, e6, st6⟩ := getS2 X0 hx hZ hown (host := "") (Or.inl (hw _ (List.mem_of_getElem? (i := 11) rfl))) Via.refl e0 SE (g := (mkF m 21 #[.val (.int p1)] [])) rfl (hb hby own_d1_21)
        refine own_via (B := T6.setTop (mkF m 24 #[.val (.int p1)] [(.ref wE)])) (fun t k => st6 t k) ?_
        refine own_via (B := T6.setTop (mkF m 30 #[.val (.int p1)] [(.ref wE)])) (fun t k => XS.goto X6.here hx rfl (pc0 := 24) (pc' := 30) rfl (hb hby own_d1_24) (by decide) (by decide) k) ?_
        exact own_done ⟨_, _, _, N0, (Or.inr (Or.inr (Or.inr (Or.inr ⟨hc4, hc11, rfl⟩)))), rfl, X6, e6⟩
  · rintro B ⟨T1, L1, v4s0, N1, hv4, rfl, X1, e1⟩
    refine own_leaf X1 hx hlk (t := (.object "com/example/meerkat/meerkat/policy/Tally$Outcome")) Bd.returns rfl (Or.inr (Or.inr (Or.inr (Or.inr ⟨rfl, rfl, rfl⟩)))) (hb hby own_d1_30) (by decide) (by decide) ?_
    show Q1 Z p1 wA wE h0 n0 _ T1.heap _
    rw [e1]
    refine ⟨?_, N1, rfl⟩
    simp only [own_lt, own_eq p1, own_500, own_599, own_429] at hv4
    rcases hv4 with ⟨_, _, rfl⟩ | ⟨_, _, rfl⟩ | ⟨_, _, _, rfl⟩ | ⟨_, _, _, rfl⟩ | ⟨_, _, rfl⟩ <;> first | exact own_yes (by unfold own_isErr; omega) | exact own_no (by unfold own_isErr; omega)
theorem own_pn1 : plainName "com/example/meerkat/meerkat/policy/OutcomeAnsweredWithPinLaw" = true := by first | (simp [plainName, overriddenIn]; done) | decide +kernel
theorem own_d2_0 : decode method_2_code 0 = .ok (.iload_n 0, 1) := by decide +kernel
theorem own_d2_1 : decode method_2_code 1 = .ok (.bipush 100, 2) := by decide +kernel
theorem own_d2_3 : decode method_2_code 3 = .ok (.idiv, 1) := by decide +kernel
theorem own_d2_4 : decode method_2_code 4 = .ok (.iconst 5, 1) := by decide +kernel
theorem own_d2_5 : decode method_2_code 5 = .ok (.if_icmp .ne 7, 3) := by decide +kernel
theorem own_d2_8 : decode method_2_code 8 = .ok (.iconst 1, 1) := by decide +kernel
theorem own_d2_9 : decode method_2_code 9 = .ok (.goto 4, 3) := by decide +kernel
theorem own_d2_12 : decode method_2_code 12 = .ok (.iconst 0, 1) := by decide +kernel
theorem own_d2_13 : decode method_2_code 13 = .ok (.istore_n 1, 1) := by decide +kernel
theorem own_d2_14 : decode method_2_code 14 = .ok (.iload_n 0, 1) := by decide +kernel
theorem own_d2_15 : decode method_2_code 15 = .ok (.sipush 429, 3) := by decide +kernel
theorem own_d2_18 : decode method_2_code 18 = .ok (.if_icmp .ne 7, 3) := by decide +kernel
theorem own_d2_21 : decode method_2_code 21 = .ok (.iconst 1, 1) := by decide +kernel
theorem own_d2_22 : decode method_2_code 22 = .ok (.goto 4, 3) := by decide +kernel
theorem own_d2_25 : decode method_2_code 25 = .ok (.iconst 0, 1) := by decide +kernel
theorem own_d2_26 : decode method_2_code 26 = .ok (.istore_n 2, 1) := by decide +kernel
theorem own_d2_27 : decode method_2_code 27 = .ok (.iload_n 1, 1) := by decide +kernel
theorem own_d2_28 : decode method_2_code 28 = .ok (.ifCond .eq 7, 3) := by decide +kernel
theorem own_d2_31 : decode method_2_code 31 = .ok (.getstatic 7, 3) := by decide +kernel
theorem own_d2_34 : decode method_2_code 34 = .ok (.areturn, 1) := by decide +kernel
theorem own_d2_35 : decode method_2_code 35 = .ok (.iload_n 2, 1) := by decide +kernel
theorem own_d2_36 : decode method_2_code 36 = .ok (.ifCond .eq 7, 3) := by decide +kernel
theorem own_d2_39 : decode method_2_code 39 = .ok (.getstatic 7, 3) := by decide +kernel
theorem own_d2_42 : decode method_2_code 42 = .ok (.areturn, 1) := by decide +kernel
theorem own_d2_43 : decode method_2_code 43 = .ok (.getstatic 13, 3) := by decide +kernel
theorem own_d2_46 : decode method_2_code 46 = .ok (.areturn, 1) := by decide +kernel
theorem own_ef2 (m : MethodId) (x0 : Int32) : entryFrame m #[(.int x0)] 3 = mkF m 0 #[.val (.int x0), .unset, .unset] [] := by first | (simp [entryFrame, mkF, argsToLocals, Value.category]; done) | rfl
def Q2 (Z : State) (p2 : Int32) (wA : Addr) (wE : Addr) (h0 : Heap) (n0 : Nat) (v : Option Value) (h : Heap) (L : List Loc) : Prop := v = some (.ref (own_pick p2 wA wE)) ∧ Fr n0 L ∧ h = h0
set_option maxRecDepth 65536 in
set_option maxHeartbeats 40000000 in
theorem rm2 (l : Launch) (Z : State) (a0 : Array Value) (hw : ∀ d ∈ tables_1, d.before a0 Z = true) (ws : List Jvm.Cond) (p2 : Int32) (wA : Addr) (wE : Addr) (h0 : Heap) (n0 : Nat) (Z0 : n0 ≤ h0.size) (SA : Sta Z h0 "com/example/meerkat/meerkat/policy/Tally$Outcome" "ANSWERED" "Lcom/example/meerkat/meerkat/policy/Tally$Outcome;" (.ref wA)) (SE : Sta Z h0 "com/example/meerkat/meerkat/policy/Tally$Outcome" "ERROR" "Lcom/example/meerkat/meerkat/policy/Tally$Outcome;" (.ref wE)) :
    MetFree l (⟨"com/example/meerkat/meerkat/policy/OutcomeAnsweredWithPinLaw", "expected", "(I)Lcom/example/meerkat/meerkat/policy/Tally$Outcome;"⟩ : MethodName) (head1 (Jvm.Cond.code (⟨"com/example/meerkat/meerkat/policy/OutcomeAnsweredWithPinLaw", "expected", "(I)Lcom/example/meerkat/meerkat/policy/Tally$Outcome;"⟩ : MethodName) method_2_code 3 (some (.object "com/example/meerkat/meerkat/policy/Tally$Outcome")) :: ws) ({ frames := 0, cells := 0, slots := 0, locals := 0 } : Room)) (fun a U => a = #[(.int p2)] ∧ Z.Warmed39 U.vm ∧ U.heap = h0) (fun _ _ _ _ _ => True) (fun _ U o U' => ∃ v L, o = .returned v ∧ Q2 Z p2 wA wE h0 n0 v U'.heap L ∧ FrameEnd U o U' L ({ frames := 0, cells := 0, slots := 0, locals := 0 } : Room).cells ({ frames := 0, cells := 0, slots := 0, locals := 0 } : Room).slots) := by
  refine MetFree.of_bodySF (plainFor_of_name own_pn1) hisR ?_
  intro p e s m args below meth c s₁ Bd hml0 hP hK
  obtain ⟨rfl, hZ, hh⟩ := hP
  have hx := Bd.exec
  have hby := Bd.bytes
  have hlk : meth.locks = false := Bd.notSynchronized
  have hml : c.maxLocals = 3 := hml0
  have hown : s.vm.findClass "com/example/meerkat/meerkat/policy/OutcomeAnsweredWithPinLaw" = some m.cls := findClass_of_methodNamed Bd.named
  have hnm := (name_of_methodNamed Bd.named Bd.method).1
  have X0 : Stand p l e ({ frames := 0, cells := 0, slots := 0, locals := 0 } : Room) s m #[(.int p2)] below meth c s₁ [] 0 0 := Stand.of_body Bd
  have e0 : s₁.heap = h0 := by rw [← hh, Bd.state]; rfl
  have N0 := Fr.nil n0
  refine own_body (A := s₁.setTop (mkF m 0 #[.val (.int p2), .unset, .unset] [])) (Q := Q2 Z p2 wA wE h0 n0) (fun t k => castTop (own_ef2 m p2) k) ?_
  refine own_via (B := s₁.setTop (mkF m 1 #[.val (.int p2), .unset, .unset] [(.int p2)])) (fun t k => XS.iloadN X0.here hx rfl (hb hby own_d2_0) rfl k) ?_
  refine own_via (B := s₁.setTop (mkF m 3 #[.val (.int p2), .unset, .unset] [(.int (100 : Int32)), (.int p2)])) (fun t k => XS.bipush X0.here hx rfl (hb hby own_d2_1) k) ?_
  refine own_via (B := s₁.setTop (mkF m 4 #[.val (.int p2), .unset, .unset] [(.int (p2 / (100 : Int32)))])) (fun t k => XS.idiv X0.here hx rfl (hb hby own_d2_3) rfl (by decide) k) ?_
  refine own_via (B := s₁.setTop (mkF m 5 #[.val (.int p2), .unset, .unset] [(.int (5 : Int32)), (.int (p2 / (100 : Int32)))])) (fun t k => XS.iconst X0.here hx rfl (hb hby own_d2_4) k) ?_
  refine own_bind (G := fun B => ∃ (T' : State) (L' : List Loc) (v5s0 : Int32), Fr n0 L' ∧ ((((p2 / (100 : Int32)) = (5 : Int32)) ∧ v5s0 = (1 : Int32)) ∨ ((¬ ((p2 / (100 : Int32)) = (5 : Int32))) ∧ v5s0 = (0 : Int32))) ∧ B = T'.setTop (mkF m 13 #[.val (.int p2), .unset, .unset] [(.int v5s0)]) ∧ Stand p l e ({ frames := 0, cells := 0, slots := 0, locals := 0 } : Room) s m #[(.int p2)] below meth c T' L' 0 0 ∧ T'.heap = h0) ?_ ?_
  · by_cases hc5 : (p2 / (100 : Int32)) = (5 : Int32)
    · refine own_via (B := s₁.setTop (mkF m 8 #[.val (.int p2), .unset, .unset] [])) (fun t k => XS.icmpNo X0.here hx rfl (hb hby own_d2_5) rfl (teq hc5).2 k) ?_
      refine own_via (B := s₁.setTop (mkF m 9 #[.val (.int p2), .unset, .unset] [(.int (1 : Int32))])) (fun t k => XS.iconst X0.here hx rfl (hb hby own_d2_8) k) ?_
      refine own_via (B := s₁.setTop (mkF m 13 #[.val (.int p2), .unset, .unset] [(.int (1 : Int32))])) (fun t k => XS.goto X0.here hx rfl (pc0 := 9) (pc' := 13) rfl (hb hby own_d2_9) (by decide) (by decide) k) ?_
      exact own_done ⟨_, _, _, N0, (Or.inl ⟨hc5, rfl⟩), rfl, X0, e0⟩
    · refine own_via (B := s₁.setTop (mkF m 12 #[.val (.int p2), .unset, .unset] [])) (fun t k => XS.icmpYes X0.here hx rfl (pc0 := 5) (pc' := 12) rfl (hb hby own_d2_5) rfl (feq hc5).2 (by decide) (by decide) k) ?_
      refine own_via (B := s₁.setTop (mkF m 13 #[.val (.int p2), .unset, .unset] [(.int (0 : Int32))])) (fun t k => XS.iconst X0.here hx rfl (hb hby own_d2_12) k) ?_
      exact own_done ⟨_, _, _, N0, (Or.inr ⟨hc5, rfl⟩), rfl, X0, e0⟩
  · rintro B ⟨T1, L1, v5s0, N1, hv5, rfl, X1, e1⟩
    refine own_via (B := T1.setTop (mkF m 14 #[.val (.int p2), .val (.int v5s0), .unset] [])) (fun t k => XS.istoreN X1.here hx rfl (hb hby own_d2_13) rfl (l' := #[.val (.int p2), .val (.int v5s0), .unset]) rfl k) ?_
    refine own_via (B := T1.setTop (mkF m 15 #[.val (.int p2), .val (.int v5s0), .unset] [(.int p2)])) (fun t k => XS.iloadN X1.here hx rfl (hb hby own_d2_14) rfl k) ?_
    refine own_via (B := T1.setTop (mkF m 18 #[.val (.int p2), .val (.int v5s0), .unset] [(.int (429 : Int32)), (.int p2)])) (fun t k => XS.sipush X1.here hx rfl (hb hby own_d2_15) k) ?_
    refine own_bind (G := fun B => ∃ (T' : State) (L' : List Loc) (v18s0 : Int32), Fr n0 L' ∧ (((p2 = (429 : Int32)) ∧ v18s0 = (1 : Int32)) ∨ ((¬ (p2 = (429 : Int32))) ∧ v18s0 = (0 : Int32))) ∧ B = T'.setTop (mkF m 26 #[.val (.int p2), .val (.int v5s0), .unset] [(.int v18s0)]) ∧ Stand p l e ({ frames := 0, cells := 0, slots := 0, locals := 0 } : Room) s m #[(.int p2)] below meth c T' L' 0 0 ∧ T'.heap = h0) ?_ ?_
    · by_cases hc18 : p2 = (429 : Int32)
      · refine own_via (B := T1.setTop (mkF m 21 #[.val (.int p2), .val (.int v5s0), .unset] [])) (fun t k => XS.icmpNo X1.here hx rfl (hb hby own_d2_18) rfl (teq hc18).2 k) ?_
        refine own_via (B := T1.setTop (mkF m 22 #[.val (.int p2), .val (.int v5s0), .unset] [(.int (1 : Int32))])) (fun t k => XS.iconst X1.here hx rfl (hb hby own_d2_21) k) ?_
        refine own_via (B := T1.setTop (mkF m 26 #[.val (.int p2), .val (.int v5s0), .unset] [(.int (1 : Int32))])) (fun t k => XS.goto X1.here hx rfl (pc0 := 22) (pc' := 26) rfl (hb hby own_d2_22) (by decide) (by decide) k) ?_
        exact own_done ⟨_, _, _, N1, (Or.inl ⟨hc18, rfl⟩), rfl, X1, e1⟩
      · refine own_via (B := T1.setTop (mkF m 25 #[.val (.int p2), .val (.int v5s0), .unset] [])) (fun t k => XS.icmpYes X1.here hx rfl (pc0 := 18) (pc' := 25) rfl (hb hby own_d2_18) rfl (feq hc18).2 (by decide) (by decide) k) ?_
        refine own_via (B := T1.setTop (mkF m 26 #[.val (.int p2), .val (.int v5s0), .unset] [(.int (0 : Int32))])) (fun t k => XS.iconst X1.here hx rfl (hb hby own_d2_25) k) ?_
        exact own_done ⟨_, _, _, N1, (Or.inr ⟨hc18, rfl⟩), rfl, X1, e1⟩
    · rintro B ⟨T2, L2, v18s0, N2, hv18, rfl, X2, e2⟩
      refine own_via (B := T2.setTop (mkF m 27 #[.val (.int p2), .val (.int v5s0), .val (.int v18s0)] [])) (fun t k => XS.istoreN X2.here hx rfl (hb hby own_d2_26) rfl (l' := #[.val (.int p2), .val (.int v5s0), .val (.int v18s0)]) rfl k) ?_
      refine own_via (B := T2.setTop (mkF m 28 #[.val (.int p2), .val (.int v5s0), .val (.int v18s0)] [(.int v5s0)])) (fun t k => XS.iloadN X2.here hx rfl (hb hby own_d2_27) rfl k) ?_
      by_cases hc28 : v5s0 = (0 : Int32)
      · refine own_via (B := T2.setTop (mkF m 35 #[.val (.int p2), .val (.int v5s0), .val (.int v18s0)] [])) (fun t k => XS.ifYes X2.here hx rfl (pc0 := 28) (pc' := 35) rfl (hb hby own_d2_28) rfl ((if0 _ _).trans (teq hc28).1) (by decide) (by decide) k) ?_
        refine own_via (B := T2.setTop (mkF m 36 #[.val (.int p2), .val (.int v5s0), .val (.int v18s0)] [(.int v18s0)])) (fun t k => XS.iloadN X2.here hx rfl (hb hby own_d2_35) rfl k) ?_
        by_cases hc36 : v18s0 = (0 : Int32)
        · refine own_via (B := T2.setTop (mkF m 43 #[.val (.int p2), .val (.int v5s0), .val (.int v18s0)] [])) (fun t k => XS.ifYes X2.here hx rfl (pc0 := 36) (pc' := 43) rfl (hb hby own_d2_36) rfl ((if0 _ _).trans (teq hc36).1) (by decide) (by decide) k) ?_
          obtain ⟨T3, X3, e3, st3⟩ := getS2 X2 hx hZ hown (host := "") (Or.inl (hw _ (List.mem_of_getElem? (i := 10) rfl))) Via.refl e2 SA (g := (mkF m 43 #[.val (.int p2), .val (.int v5s0), .val (.int v18s0)] [])) rfl (hb hby own_d2_43)
          refine own_via (B := T3.setTop (mkF m 46 #[.val (.int p2), .val (.int v5s0), .val (.int v18s0)] [(.ref wA)])) (fun t k => st3 t k) ?_
          refine own_leaf X3 hx hlk (t := (.object "com/example/meerkat/meerkat/policy/Tally$Outcome")) Bd.returns rfl (Or.inr (Or.inr (Or.inr (Or.inr ⟨rfl, rfl, rfl⟩)))) (hb hby own_d2_46) (by decide) (by decide) ?_
          show Q2 Z p2 wA wE h0 n0 _ T3.heap _
          rw [e3]
          refine ⟨?_, N2, rfl⟩
          have hdv := own_div p2
          rcases hv5 with ⟨a5, rfl⟩ | ⟨a5, rfl⟩ <;> rcases hv18 with ⟨a18, rfl⟩ | ⟨a18, rfl⟩ <;> first | (exfalso; revert hc28; decide) | (exfalso; revert hc36; decide) | (rw [hdv] at a5; rw [own_eq, own_429] at a18; first | exact own_yes (by unfold own_isErr; omega) | exact own_no (by unfold own_isErr; omega))
        · refine own_via (B := T2.setTop (mkF m 39 #[.val (.int p2), .val (.int v5s0), .val (.int v18s0)] [])) (fun t k => XS.ifNo X2.here hx rfl (hb hby own_d2_36) rfl ((if0 _ _).trans (feq hc36).1) k) ?_
          obtain ⟨T4, X4, e4, st4⟩ := getS2 X2 hx hZ hown (host := "") (Or.inl (hw _ (List.mem_of_getElem? (i := 13) rfl))) Via.refl e2 SE (g := (mkF m 39 #[.val (.int p2), .val (.int v5s0), .val (.int v18s0)] [])) rfl (hb hby own_d2_39)
          refine own_via (B := T4.setTop (mkF m 42 #[.val (.int p2), .val (.int v5s0), .val (.int v18s0)] [(.ref wE)])) (fun t k => st4 t k) ?_
          refine own_leaf X4 hx hlk (t := (.object "com/example/meerkat/meerkat/policy/Tally$Outcome")) Bd.returns rfl (Or.inr (Or.inr (Or.inr (Or.inr ⟨rfl, rfl, rfl⟩)))) (hb hby own_d2_42) (by decide) (by decide) ?_
          show Q2 Z p2 wA wE h0 n0 _ T4.heap _
          rw [e4]
          refine ⟨?_, N2, rfl⟩
          have hdv := own_div p2
          rcases hv5 with ⟨a5, rfl⟩ | ⟨a5, rfl⟩ <;> rcases hv18 with ⟨a18, rfl⟩ | ⟨a18, rfl⟩ <;> first | (exfalso; revert hc28; decide) | (exfalso; revert hc36; decide) | (rw [hdv] at a5; rw [own_eq, own_429] at a18; first | exact own_yes (by unfold own_isErr; omega) | exact own_no (by unfold own_isErr; omega))
      · refine own_via (B := T2.setTop (mkF m 31 #[.val (.int p2), .val (.int v5s0), .val (.int v18s0)] [])) (fun t k => XS.ifNo X2.here hx rfl (hb hby own_d2_28) rfl ((if0 _ _).trans (feq hc28).1) k) ?_
        obtain ⟨T5, X5, e5, st5⟩ := getS2 X2 hx hZ hown (host := "") (Or.inl (hw _ (List.mem_of_getElem? (i := 13) rfl))) Via.refl e2 SE (g := (mkF m 31 #[.val (.int p2), .val (.int v5s0), .val (.int v18s0)] [])) rfl (hb hby own_d2_31)
        refine own_via (B := T5.setTop (mkF m 34 #[.val (.int p2), .val (.int v5s0), .val (.int v18s0)] [(.ref wE)])) (fun t k => st5 t k) ?_
        refine own_leaf X5 hx hlk (t := (.object "com/example/meerkat/meerkat/policy/Tally$Outcome")) Bd.returns rfl (Or.inr (Or.inr (Or.inr (Or.inr ⟨rfl, rfl, rfl⟩)))) (hb hby own_d2_34) (by decide) (by decide) ?_
        show Q2 Z p2 wA wE h0 n0 _ T5.heap _
        rw [e5]
        refine ⟨?_, N2, rfl⟩
        have hdv := own_div p2
        rcases hv5 with ⟨a5, rfl⟩ | ⟨a5, rfl⟩ <;> rcases hv18 with ⟨a18, rfl⟩ | ⟨a18, rfl⟩ <;> first | (exfalso; revert hc28; decide) | (exfalso; revert hc36; decide) | (rw [hdv] at a5; rw [own_eq, own_429] at a18; first | exact own_yes (by unfold own_isErr; omega) | exact own_no (by unfold own_isErr; omega))
theorem own_pd0 : parseMethodDescriptor "(I)Lcom/example/meerkat/meerkat/policy/Tally$Outcome;" = some ⟨[.int], some (.object "com/example/meerkat/meerkat/policy/Tally$Outcome")⟩ := by decide +kernel
theorem own_ef0 (m : MethodId) (x0 : Int32) (x1 : Int32) : entryFrame m #[(.int x0), (.int x1)] maxLocals = mkF m 0 #[.val (.int x0), .val (.int x1), .unset, .unset, .unset] [] := by first | (simp [entryFrame, mkF, argsToLocals, Value.category, maxLocals]; done) | rfl
def Q0 (Z : State) (i0 : Int32) (i1 : Int32) (wA : Addr) (wE : Addr) (h0 : Heap) (n0 : Nat) (v : Option Value) (h : Heap) (L : List Loc) : Prop := v = some (.int 1) ∧ Fr n0 L
set_option maxRecDepth 65536 in
set_option maxHeartbeats 40000000 in
theorem rm0 (l : Launch) (Z : State) (a0 : Array Value) (hw : ∀ d ∈ tables_1, d.before a0 Z = true) (ws : List Jvm.Cond) (i0 : Int32) (i1 : Int32) (wA : Addr) (wE : Addr) (h0 : Heap) (n0 : Nat) (Z0 : n0 ≤ h0.size) (SA : Sta Z h0 "com/example/meerkat/meerkat/policy/Tally$Outcome" "ANSWERED" "Lcom/example/meerkat/meerkat/policy/Tally$Outcome;" (.ref wA)) (SE : Sta Z h0 "com/example/meerkat/meerkat/policy/Tally$Outcome" "ERROR" "Lcom/example/meerkat/meerkat/policy/Tally$Outcome;" (.ref wE)) :
    MetFree l x (head1 (Jvm.Cond.code x code maxLocals ret :: ws) room_1) (fun a U => a = #[(.int i0), (.int i1)] ∧ Z.Warmed39 U.vm ∧ U.heap = h0) (fun _ _ _ _ _ => True) (fun _ U o U' => ∃ v L, o = .returned v ∧ Q0 Z i0 i1 wA wE h0 n0 v U'.heap L ∧ FrameEnd U o U' L room_1.cells room_1.slots) := by
  refine MetFree.of_bodySF (plainFor_of_name own_pn1) hisR ?_
  intro p e s m args below meth c s₁ Bd hml0 hP hK
  obtain ⟨rfl, hZ, hh⟩ := hP
  have hx := Bd.exec
  have hby := Bd.bytes
  have hlk : meth.locks = false := Bd.notSynchronized
  have hml : c.maxLocals = 5 := hml0
  have hown : s.vm.findClass "com/example/meerkat/meerkat/policy/OutcomeAnsweredWithPinLaw" = some m.cls := findClass_of_methodNamed Bd.named
  have hnm := (name_of_methodNamed Bd.named Bd.method).1
  have X0 : Stand p l e room_1 s m #[(.int i0), (.int i1)] below meth c s₁ [] 0 0 := Stand.of_body Bd
  have e0 : s₁.heap = h0 := by rw [← hh, Bd.state]; rfl
  have N0 := Fr.nil n0
  refine own_body (A := s₁.setTop (mkF m 0 #[.val (.int i0), .val (.int i1), .unset, .unset, .unset] [])) (Q := Q0 Z i0 i1 wA wE h0 n0) (fun t k => castTop (own_ef0 m i0 i1) k) ?_
  refine own_via (B := s₁.setTop (mkF m 3 #[.val (.int i0), .val (.int i1), .unset, .unset, .unset] [(.int (400 : Int32))])) (fun t k => XS.sipush X0.here hx rfl (hb hby at_0) k) ?_
  refine own_via (B := s₁.setTop (mkF m 4 #[.val (.int i0), .val (.int i1), .unset, .unset, .unset] [(.int i1), (.int (400 : Int32))])) (fun t k => XS.iloadN X0.here hx rfl (hb hby at_3) rfl k) ?_
  refine own_via (B := s₁.setTop (mkF m 7 #[.val (.int i0), .val (.int i1), .unset, .unset, .unset] [(.int (255 : Int32)), (.int i1), (.int (400 : Int32))])) (fun t k => XS.sipush X0.here hx rfl (hb hby at_4) k) ?_
  refine own_via (B := s₁.setTop (mkF m 8 #[.val (.int i0), .val (.int i1), .unset, .unset, .unset] [(.int (i1 &&& (255 : Int32))), (.int (400 : Int32))])) (fun t k => XS.iand X0.here hx rfl (hb hby at_7) rfl k) ?_
  refine own_via (B := s₁.setTop (mkF m 9 #[.val (.int i0), .val (.int i1), .unset, .unset, .unset] [(.int ((400 : Int32) + (i1 &&& (255 : Int32))))])) (fun t k => XS.iadd X0.here hx rfl (hb hby at_8) rfl k) ?_
  refine own_via (B := s₁.setTop (mkF m 10 #[.val (.int i0), .val (.int i1), .val (.int ((400 : Int32) + (i1 &&& (255 : Int32)))), .unset, .unset] [])) (fun t k => XS.istoreN X0.here hx rfl (hb hby at_9) rfl (l' := #[.val (.int i0), .val (.int i1), .val (.int ((400 : Int32) + (i1 &&& (255 : Int32)))), .unset, .unset]) rfl k) ?_
  generalize hs9 : ((400 : Int32) + (i1 &&& (255 : Int32))) = s9
  refine own_via (B := s₁.setTop (mkF m 11 #[.val (.int i0), .val (.int i1), .val (.int s9), .unset, .unset] [(.int i0)])) (fun t k => XS.iloadN X0.here hx rfl (hb hby at_10) rfl k) ?_
  obtain ⟨_, _, ⟨T1, L1, k1, n1⟩, -, X1, ⟨Lc1, hQ1, l1, y1, z1⟩, st1⟩ := Jvm.LawKit.callS X0 hx (y := (⟨"com/example/meerkat/meerkat/policy/Tally$Outcome", "answeredWith", "(I)Lcom/example/meerkat/meerkat/policy/Tally$Outcome;"⟩ : MethodName)) hown (mvT hZ (hw _ (List.mem_of_getElem? (i := 0) rfl))) (mvT hZ (hw _ (List.mem_of_getElem? (i := 1) rfl))) (mvT hZ (hw _ (List.mem_of_getElem? (i := 2) rfl))) (mvT hZ (hw _ (List.mem_of_getElem? (i := 3) rfl))) (by decide) (backOf (W := 0) (rm1 l Z a0 hw [] i0 wA wE h0 n0 Z0 SA SE) hZ (hw _ (List.mem_of_getElem? (i := 3) rfl)) (hw _ (List.mem_of_getElem? (i := 2) rfl)) (by decide) (by decide)) (g := (mkF m 11 #[.val (.int i0), .val (.int i1), .val (.int s9), .unset, .unset] [(.int i0)])) rfl (by rw [hml]; rfl) (argsL := [(.int i0)]) (rest := []) (lenOf own_pd0 rfl) rfl (by show 2 * 0 + _ ≤ _; exact Nat.le_of_eq rfl) (hb hby at_11) (fun _ _ => ⟨rfl, e0, (by decide : 0 + 0 ≤ _), (by decide : 0 + 0 ≤ _)⟩)
  dsimp only [Pt.U, Pt.locs, Pt.cells, Pt.slots] at X1 l1 y1 z1 st1 hQ1
  subst l1 y1 z1
  obtain ⟨rfl, Nq1, eq1⟩ := hQ1
  have N1 := Fr.app N0 Nq1
  refine own_via (B := T1.setTop (mkF m 14 #[.val (.int i0), .val (.int i1), .val (.int s9), .unset, .unset] [(.ref (own_pick i0 wA wE))])) (fun t k => st1 t k) ?_
  refine own_via (B := T1.setTop (mkF m 15 #[.val (.int i0), .val (.int i1), .val (.int s9), .val (.ref (own_pick i0 wA wE)), .unset] [])) (fun t k => XS.astoreN X1.here hx rfl (hb hby at_14) rfl rfl (l' := #[.val (.int i0), .val (.int i1), .val (.int s9), .val (.ref (own_pick i0 wA wE)), .unset]) rfl k) ?_
  refine own_via (B := T1.setTop (mkF m 16 #[.val (.int i0), .val (.int i1), .val (.int s9), .val (.ref (own_pick i0 wA wE)), .unset] [(.int s9)])) (fun t k => XS.iloadN X1.here hx rfl (hb hby at_15) rfl k) ?_
  obtain ⟨_, _, ⟨T2, L2, k2, n2⟩, -, X2, ⟨Lc2, hQ2, l2, y2, z2⟩, st2⟩ := Jvm.LawKit.callS X1 hx (y := (⟨"com/example/meerkat/meerkat/policy/Tally$Outcome", "answeredWith", "(I)Lcom/example/meerkat/meerkat/policy/Tally$Outcome;"⟩ : MethodName)) hown (mvT hZ (hw _ (List.mem_of_getElem? (i := 0) rfl))) (mvT hZ (hw _ (List.mem_of_getElem? (i := 1) rfl))) (mvT hZ (hw _ (List.mem_of_getElem? (i := 2) rfl))) (mvT hZ (hw _ (List.mem_of_getElem? (i := 3) rfl))) (by decide) (backOf (W := 0) (rm1 l Z a0 hw [] s9 wA wE h0 n0 Z0 SA SE) hZ (hw _ (List.mem_of_getElem? (i := 3) rfl)) (hw _ (List.mem_of_getElem? (i := 2) rfl)) (by decide) (by decide)) (g := (mkF m 16 #[.val (.int i0), .val (.int i1), .val (.int s9), .val (.ref (own_pick i0 wA wE)), .unset] [(.int s9)])) rfl (by rw [hml]; rfl) (argsL := [(.int s9)]) (rest := []) (lenOf own_pd0 rfl) rfl (by show 2 * 0 + _ ≤ _; exact Nat.le_of_eq rfl) (hb hby at_16) (fun _ _ => ⟨rfl, eq1, (by decide : (0 + 0) + 0 ≤ _), (by decide : (0 + 0) + 0 ≤ _)⟩)
  dsimp only [Pt.U, Pt.locs, Pt.cells, Pt.slots] at X2 l2 y2 z2 st2 hQ2
  subst l2 y2 z2
  obtain ⟨rfl, Nq2, eq2⟩ := hQ2
  have N2 := Fr.app N1 Nq2
  refine own_via (B := T2.setTop (mkF m 19 #[.val (.int i0), .val (.int i1), .val (.int s9), .val (.ref (own_pick i0 wA wE)), .unset] [(.ref (own_pick s9 wA wE))])) (fun t k => st2 t k) ?_
  refine own_via (B := T2.setTop (mkF m 21 #[.val (.int i0), .val (.int i1), .val (.int s9), .val (.ref (own_pick i0 wA wE)), .val (.ref (own_pick s9 wA wE))] [])) (fun t k => XS.astore X2.here hx rfl (hb hby at_19) rfl rfl (l' := #[.val (.int i0), .val (.int i1), .val (.int s9), .val (.ref (own_pick i0 wA wE)), .val (.ref (own_pick s9 wA wE))]) rfl k) ?_
  refine own_via (B := T2.setTop (mkF m 22 #[.val (.int i0), .val (.int i1), .val (.int s9), .val (.ref (own_pick i0 wA wE)), .val (.ref (own_pick s9 wA wE))] [(.ref (own_pick i0 wA wE))])) (fun t k => XS.aloadN X2.here hx rfl (hb hby at_21) rfl rfl k) ?_
  refine own_via (B := T2.setTop (mkF m 23 #[.val (.int i0), .val (.int i1), .val (.int s9), .val (.ref (own_pick i0 wA wE)), .val (.ref (own_pick s9 wA wE))] [(.int i0), (.ref (own_pick i0 wA wE))])) (fun t k => XS.iloadN X2.here hx rfl (hb hby at_22) rfl k) ?_
  obtain ⟨_, _, ⟨T3, L3, k3, n3⟩, -, X3, ⟨Lc3, hQ3, l3, y3, z3⟩, st3⟩ := Jvm.LawKit.callS X2 hx (y := (⟨"com/example/meerkat/meerkat/policy/OutcomeAnsweredWithPinLaw", "expected", "(I)Lcom/example/meerkat/meerkat/policy/Tally$Outcome;"⟩ : MethodName)) hown (mvT hZ (hw _ (List.mem_of_getElem? (i := 6) rfl))) (mvT hZ (hw _ (List.mem_of_getElem? (i := 7) rfl))) (mvT hZ (hw _ (List.mem_of_getElem? (i := 8) rfl))) (mvT hZ (hw _ (List.mem_of_getElem? (i := 9) rfl))) (by decide) (backOf (W := 1) (rm2 l Z a0 hw [] i0 wA wE h0 n0 Z0 SA SE) hZ (hw _ (List.mem_of_getElem? (i := 9) rfl)) (hw _ (List.mem_of_getElem? (i := 8) rfl)) (by decide) (by decide)) (g := (mkF m 23 #[.val (.int i0), .val (.int i1), .val (.int s9), .val (.ref (own_pick i0 wA wE)), .val (.ref (own_pick s9 wA wE))] [(.int i0), (.ref (own_pick i0 wA wE))])) rfl (by rw [hml]; rfl) (argsL := [(.int i0)]) (rest := [(.ref (own_pick i0 wA wE))]) (lenOf own_pd0 rfl) rfl (by show 2 * 0 + _ ≤ _; exact Nat.le_of_eq rfl) (hb hby at_23) (fun _ _ => ⟨rfl, eq2, (by decide : ((0 + 0) + 0) + 0 ≤ _), (by decide : ((0 + 0) + 0) + 0 ≤ _)⟩)
  dsimp only [Pt.U, Pt.locs, Pt.cells, Pt.slots] at X3 l3 y3 z3 st3 hQ3
  subst l3 y3 z3
  obtain ⟨rfl, Nq3, eq3⟩ := hQ3
  have N3 := Fr.app N2 Nq3
  refine own_via (B := T3.setTop (mkF m 26 #[.val (.int i0), .val (.int i1), .val (.int s9), .val (.ref (own_pick i0 wA wE)), .val (.ref (own_pick s9 wA wE))] [(.ref (own_pick i0 wA wE)), (.ref (own_pick i0 wA wE))])) (fun t k => st3 t k) ?_
  refine own_bind (G := fun B => ∃ (T' : State) (L' : List Loc) (v26s0 : Int32), Fr n0 L' ∧ ((((own_pick i0 wA wE) = (own_pick i0 wA wE)) ∧ ((own_pick s9 wA wE) = (own_pick s9 wA wE)) ∧ v26s0 = (1 : Int32)) ∨ (((own_pick i0 wA wE) = (own_pick i0 wA wE)) ∧ (¬ ((own_pick s9 wA wE) = (own_pick s9 wA wE))) ∧ v26s0 = (0 : Int32)) ∨ ((¬ ((own_pick i0 wA wE) = (own_pick i0 wA wE))) ∧ v26s0 = (0 : Int32))) ∧ B = T'.setTop (mkF m 43 #[.val (.int i0), .val (.int i1), .val (.int s9), .val (.ref (own_pick i0 wA wE)), .val (.ref (own_pick s9 wA wE))] [(.int v26s0)]) ∧ Stand p l e room_1 s m #[(.int i0), (.int i1)] below meth c T' L' 0 0 ∧ T'.heap = h0) ?_ ?_
  · by_cases hc26 : (own_pick i0 wA wE) = (own_pick i0 wA wE)
    · refine own_via (B := T3.setTop (mkF m 29 #[.val (.int i0), .val (.int i1), .val (.int s9), .val (.ref (own_pick i0 wA wE)), .val (.ref (own_pick s9 wA wE))] [])) (fun t k => Jvm.RoadKit.acmp (g := (mkF m 26 #[.val (.int i0), .val (.int i1), .val (.int s9), .val (.ref (own_pick i0 wA wE)), .val (.ref (own_pick s9 wA wE))] [(.ref (own_pick i0 wA wE)), (.ref (own_pick i0 wA wE))])) X3 hx rfl rfl rfl (pc0 := 26) (pc' := 29) (same := true) rfl (hb hby at_26) rfl (decide_eq_true (congrArg Value.ref hc26)) (by decide) (by decide) k) ?_
      refine own_via (B := T3.setTop (mkF m 31 #[.val (.int i0), .val (.int i1), .val (.int s9), .val (.ref (own_pick i0 wA wE)), .val (.ref (own_pick s9 wA wE))] [(.ref (own_pick s9 wA wE))])) (fun t k => XS.aload X3.here hx rfl (hb hby at_29) rfl rfl k) ?_
      refine own_via (B := T3.setTop (mkF m 32 #[.val (.int i0), .val (.int i1), .val (.int s9), .val (.ref (own_pick i0 wA wE)), .val (.ref (own_pick s9 wA wE))] [(.int s9), (.ref (own_pick s9 wA wE))])) (fun t k => XS.iloadN X3.here hx rfl (hb hby at_31) rfl k) ?_
      obtain ⟨_, _, ⟨T5, L5, k5, n5⟩, -, X5, ⟨Lc5, hQ5, l5, y5, z5⟩, st5⟩ := Jvm.LawKit.callS X3 hx (y := (⟨"com/example/meerkat/meerkat/policy/OutcomeAnsweredWithPinLaw", "expected", "(I)Lcom/example/meerkat/meerkat/policy/Tally$Outcome;"⟩ : MethodName)) hown (mvT hZ (hw _ (List.mem_of_getElem? (i := 6) rfl))) (mvT hZ (hw _ (List.mem_of_getElem? (i := 7) rfl))) (mvT hZ (hw _ (List.mem_of_getElem? (i := 8) rfl))) (mvT hZ (hw _ (List.mem_of_getElem? (i := 9) rfl))) (by decide) (backOf (W := 1) (rm2 l Z a0 hw [] s9 wA wE h0 n0 Z0 SA SE) hZ (hw _ (List.mem_of_getElem? (i := 9) rfl)) (hw _ (List.mem_of_getElem? (i := 8) rfl)) (by decide) (by decide)) (g := (mkF m 32 #[.val (.int i0), .val (.int i1), .val (.int s9), .val (.ref (own_pick i0 wA wE)), .val (.ref (own_pick s9 wA wE))] [(.int s9), (.ref (own_pick s9 wA wE))])) rfl (by rw [hml]; rfl) (argsL := [(.int s9)]) (rest := [(.ref (own_pick s9 wA wE))]) (lenOf own_pd0 rfl) rfl (by show 2 * 0 + _ ≤ _; exact Nat.le_of_eq rfl) (hb hby at_32) (fun _ _ => ⟨rfl, eq3, (by decide : (((0 + 0) + 0) + 0) + 0 ≤ _), (by decide : (((0 + 0) + 0) + 0) + 0 ≤ _)⟩)
      dsimp only [Pt.U, Pt.locs, Pt.cells, Pt.slots] at X5 l5 y5 z5 st5 hQ5
      subst l5 y5 z5
      obtain ⟨rfl, Nq5, eq5⟩ := hQ5
      have N5 := Fr.app N3 Nq5
      refine own_via (B := T5.setTop (mkF m 35 #[.val (.int i0), .val (.int i1), .val (.int s9), .val (.ref (own_pick i0 wA wE)), .val (.ref (own_pick s9 wA wE))] [(.ref (own_pick s9 wA wE)), (.ref (own_pick s9 wA wE))])) (fun t k => st5 t k) ?_
      by_cases hc35 : (own_pick s9 wA wE) = (own_pick s9 wA wE)
      · refine own_via (B := T5.setTop (mkF m 38 #[.val (.int i0), .val (.int i1), .val (.int s9), .val (.ref (own_pick i0 wA wE)), .val (.ref (own_pick s9 wA wE))] [])) (fun t k => Jvm.RoadKit.acmp (g := (mkF m 35 #[.val (.int i0), .val (.int i1), .val (.int s9), .val (.ref (own_pick i0 wA wE)), .val (.ref (own_pick s9 wA wE))] [(.ref (own_pick s9 wA wE)), (.ref (own_pick s9 wA wE))])) X5 hx rfl rfl rfl (pc0 := 35) (pc' := 38) (same := true) rfl (hb hby at_35) rfl (decide_eq_true (congrArg Value.ref hc35)) (by decide) (by decide) k) ?_
        refine own_via (B := T5.setTop (mkF m 39 #[.val (.int i0), .val (.int i1), .val (.int s9), .val (.ref (own_pick i0 wA wE)), .val (.ref (own_pick s9 wA wE))] [(.int (1 : Int32))])) (fun t k => XS.iconst X5.here hx rfl (hb hby at_38) k) ?_
        refine own_via (B := T5.setTop (mkF m 43 #[.val (.int i0), .val (.int i1), .val (.int s9), .val (.ref (own_pick i0 wA wE)), .val (.ref (own_pick s9 wA wE))] [(.int (1 : Int32))])) (fun t k => XS.goto X5.here hx rfl (pc0 := 39) (pc' := 43) rfl (hb hby at_39) (by decide) (by decide) k) ?_
        exact own_done ⟨_, _, _, N5, (Or.inl ⟨hc26, hc35, rfl⟩), rfl, (X5.more (by decide) (by decide)), eq5⟩
      · refine own_via (B := T5.setTop (mkF m 42 #[.val (.int i0), .val (.int i1), .val (.int s9), .val (.ref (own_pick i0 wA wE)), .val (.ref (own_pick s9 wA wE))] [])) (fun t k => Jvm.RoadKit.acmp (g := (mkF m 35 #[.val (.int i0), .val (.int i1), .val (.int s9), .val (.ref (own_pick i0 wA wE)), .val (.ref (own_pick s9 wA wE))] [(.ref (own_pick s9 wA wE)), (.ref (own_pick s9 wA wE))])) X5 hx rfl rfl rfl (pc0 := 35) (pc' := 42) (same := false) rfl (hb hby at_35) rfl (decide_eq_false fun q => hc35 (Value.ref.inj q)) (by decide) (by decide) k) ?_
        refine own_via (B := T5.setTop (mkF m 43 #[.val (.int i0), .val (.int i1), .val (.int s9), .val (.ref (own_pick i0 wA wE)), .val (.ref (own_pick s9 wA wE))] [(.int (0 : Int32))])) (fun t k => XS.iconst X5.here hx rfl (hb hby at_42) k) ?_
        exact own_done ⟨_, _, _, N5, (Or.inr (Or.inl ⟨hc26, hc35, rfl⟩)), rfl, (X5.more (by decide) (by decide)), eq5⟩
    · refine own_via (B := T3.setTop (mkF m 42 #[.val (.int i0), .val (.int i1), .val (.int s9), .val (.ref (own_pick i0 wA wE)), .val (.ref (own_pick s9 wA wE))] [])) (fun t k => Jvm.RoadKit.acmp (g := (mkF m 26 #[.val (.int i0), .val (.int i1), .val (.int s9), .val (.ref (own_pick i0 wA wE)), .val (.ref (own_pick s9 wA wE))] [(.ref (own_pick i0 wA wE)), (.ref (own_pick i0 wA wE))])) X3 hx rfl rfl rfl (pc0 := 26) (pc' := 42) (same := false) rfl (hb hby at_26) rfl (decide_eq_false fun q => hc26 (Value.ref.inj q)) (by decide) (by decide) k) ?_
      refine own_via (B := T3.setTop (mkF m 43 #[.val (.int i0), .val (.int i1), .val (.int s9), .val (.ref (own_pick i0 wA wE)), .val (.ref (own_pick s9 wA wE))] [(.int (0 : Int32))])) (fun t k => XS.iconst X3.here hx rfl (hb hby at_42) k) ?_
      exact own_done ⟨_, _, _, N3, (Or.inr (Or.inr ⟨hc26, rfl⟩)), rfl, (X3.more (by decide) (by decide)), eq3⟩
  · rintro B ⟨T4, L4, v26s0, N4, hv26, rfl, X4, e4⟩
    refine own_leaf X4 hx hlk (t := .boolean) Bd.returns (own_b1 (by rcases hv26 with ⟨_, _, rfl⟩ | ⟨_, _, rfl⟩ | ⟨_, rfl⟩ <;> decide)) (Or.inl ⟨rfl, by simp, _, rfl⟩) (hb hby at_43) (by decide) (by decide) ?_
    show Q0 Z i0 i1 wA wE h0 n0 _ T4.heap _
    rw [e4]
    refine ⟨?_, N4⟩
    rcases hv26 with ⟨h0, h1, rfl⟩ | ⟨h0, h1, rfl⟩ | ⟨h0, rfl⟩
    · first | rfl | exact absurd rfl h0 | exact absurd rfl h1
    · first | rfl | exact absurd rfl h0 | exact absurd rfl h1
    · first | rfl | exact absurd rfl h0 | exact absurd rfl h1
set_option maxRecDepth 65536 in
set_option maxHeartbeats 40000000 in
theorem comes_1 {Post : Tables → Env → Array Value → State → Outcome → State → Prop} (hpost : ∀ tb e args s v u, (limb_1_1.after args s (.returned v) u = true ∧ limb_1_2.after args s (.returned v) u = true ∧ True) → FrameEnd s (.returned v) u (Jvm.fieldLocs frame_1_writes args s ++ Jvm.arrayLocs frame_1_arrays args s ++ Jvm.staticLocs frame_1_statics s) 0 0 → Post tb e args s (.returned v) u) :
    ArmFor flags0 classFile x code maxLocals ret World_1 tables_1 room_1 Calls_1 rest_1 Pre_1 Post := by
  intro l hfl _ _ p e ha hc hk s m args below hf hA hF happ hP
  obtain ⟨hcalls, hrest, hpre⟩ := hP
  obtain ⟨-, -, -, hnamed, -, -, -, hat⟩ := (Spec.applies_iff hf).mp happ
  obtain ⟨hg, hn⟩ := and_e (Cond.before_iff.mp (show (Jvm.Cond.and given_1 narrow_1).before args s = true from hpre))
  obtain ⟨g1, g2⟩ := and_e hg
  obtain ⟨g3, g4⟩ := and_e g2
  obtain ⟨g5, g6⟩ := and_e hn
  obtain ⟨w0, w1, rfl⟩ : ∃ w0 w1 : Value, args = #[w0, w1] := by
    have hs : args.size = 2 := by simpa [Cond.value, given_1] using g1
    obtain ⟨L⟩ := args
    match L, hs with
    | [w0, w1], _ => exact ⟨w0, w1, rfl⟩
  have hw := fun d (hd : d ∈ tables_1) => atoms_spec (ws := Jvm.Cond.code x code maxLocals ret :: tables_1) hat d (List.mem_cons_of_mem _ hd)
  have hfit : Fit s := fun {y c} hc i hi => by
    obtain ⟨ha, rfl⟩ := Array.getElem?_eq_some_iff.mp hc
    have q := List.all_eq_true.mp ((Array.all_eq_true_iff_forall_mem.mp hF) _ (Array.getElem_mem ha)) i (List.mem_range.mpr hi)
    simpa [Array.getElem?_eq_getElem hi] using q
  obtain ⟨i0, ei0⟩ := is_v g3
  obtain rfl : w0 = (.int i0) := Option.some.inj ei0
  obtain ⟨i1, ei1⟩ := is_v g4
  obtain rfl : w1 = (.int i1) := Option.some.inj ei1
  obtain ⟨w_ANSWERED, _, _, _, ev_ANSWERED, -⟩ := Cond.exactly_spec (Cond.before_iff.mpr g5)
  have S_ANSWERED : Sta s s.heap "com/example/meerkat/meerkat/policy/Tally$Outcome" "ANSWERED" "Lcom/example/meerkat/meerkat/policy/Tally$Outcome;" (.ref w_ANSWERED) := Sta.start ev_ANSWERED (Or.inr ⟨(hw _ (List.mem_of_getElem? (i := 2) rfl)), (hw _ (List.mem_of_getElem? (i := 5) rfl))⟩)
  have E_ANSWERED : Exa s s.heap w_ANSWERED "com/example/meerkat/meerkat/policy/Tally$Outcome" := Exa.start ev_ANSWERED g5
  obtain ⟨w_ERROR, _, _, _, ev_ERROR, -⟩ := Cond.exactly_spec (Cond.before_iff.mpr g6)
  have S_ERROR : Sta s s.heap "com/example/meerkat/meerkat/policy/Tally$Outcome" "ERROR" "Lcom/example/meerkat/meerkat/policy/Tally$Outcome;" (.ref w_ERROR) := Sta.start ev_ERROR (Or.inr ⟨(hw _ (List.mem_of_getElem? (i := 2) rfl)), (hw _ (List.mem_of_getElem? (i := 12) rfl))⟩)
  have E_ERROR : Exa s s.heap w_ERROR "com/example/meerkat/meerkat/policy/Tally$Outcome" := Exa.start ev_ERROR g6
  obtain ⟨n, o, h1, h2, h3, _, L, rfl, ⟨rfl, N⟩, hq⟩ := rm0 l s _ hw tables_1 i0 i1 w_ANSWERED w_ERROR s.heap s.heap.size (Nat.le_refl _) S_ANSWERED S_ERROR p e ha hc hk s m _ below hf ((Spec.applies_iff_loose hf).mp happ).1 ⟨rfl, State.Warmed39.refl s, rfl⟩ trivial
  refine ⟨n, _, h1, h2, h3, hpost _ _ _ _ _ _ ⟨Cond.after_iff.mpr rfl, Cond.after_iff.mpr (eq_i res_at (Term.int_eval (1)) rfl), trivial⟩ ⟨hq.1, hq.2.1, (hq.2.2.sift fun y hy => Or.inr (N y hy)).mono (by decide) (by decide)⟩⟩
theorem main_1_1 : Claimed_1_1 := comes_1 fun _ _ _ _ _ _ h hF => ⟨h.1, hF⟩
theorem main_1_2 : Claimed_1_2 := comes_1 fun _ _ _ _ _ _ h hF => ⟨h.2.1, hF⟩
end Jvm.Pilot.@@N@@
namespace Jvm.Pilot.@@N@@
open Jvm Jvm.ClassFile Sem Op Lib Jvm.Free Jvm.Stand Jvm.Pilot.@@N@@.Jvm.D
/-! MADE BY PROGRAM (witnessworld.py) out of the Statement's table words and the real class files: 12 classes; the members and pool entries that the words name. The judged class is class 1, her method 2. -/
namespace start1
open Jvm.ClassFile
def u (s : String) : CpInfo := .utf8 (stringToUtf16 s)
/-- a pool by its gaps: so many unusable entries, then the entry; so many at the end -/
def gap : Nat → List CpInfo → List CpInfo
  | 0, r => r
  | n + 1, r => .unusable :: gap n r
def poolList (es : List (Nat × CpInfo)) (last : Nat) : List CpInfo := es.foldr (fun e r => gap e.1 (e.2 :: r)) (gap last [])
def pool (es : List (Nat × CpInfo)) (last : Nat) : Array CpInfo := ⟨poolList es last⟩
def fileOf (pool : Array CpInfo) (this : Nat) (attrs : Array Attribute := #[]) (ms : Array MethodInfo := #[]) (fl : Nat := 33) (sup : Nat := 0) (ifs : Array Nat := #[]) (fds : Array FieldInfo := #[]) : ClassFile where
  minorVersion := 0
  majorVersion := 65
  constantPool := pool
  accessFlags := fl
  thisClass := this
  superClass := sup
  interfaces := ifs
  fields := fds
  methods := ms
  attributes := attrs
def plain (name : String) (sup : Option ClassId) : Class where
  name := name
  kind := .ordinary
  loader := none
  accessFlags := 33
  super := sup
  interfaces := #[]
  cf := none
  fields := #[]
  methods := #[]
  instanceTypes := #[]
  staticTypes := #[]
  resolved := #[]
  callSites := []
  init := .initialized
  statics := none
  mirror := none

def pool0 : Array CpInfo := pool [(5, u "<init>"), (0, u "()V"), (1, .class_ 10), (1, u "java/lang/Object")] 113

def k0m0 : Method := { name := "<init>", desc := "()V", sig := { parameters := [], returnType := none }, accessFlags := 1, code := none }
/-- java/lang/Object -/
def k0 : Class := { plain "java/lang/Object" none with
  accessFlags := 33
  interfaces := #[]
  cf := some (fileOf pool0 8 #[] #[{ accessFlags := 1, nameIndex := 5, descriptorIndex := 6, attributes := #[] }] 33 0 #[] #[])
  fields := #[]
  methods := #[k0m0]
  instanceTypes := #[]
  staticTypes := #[]
  resolved := Array.replicate 124 none
  statics := none }

def pool1 : Array CpInfo := pool [(2, .class_ 4), (1, u "java/lang/Object"), (0, u "<init>"), (0, u "()V"), (0, .fieldref 8 9), (0, .class_ 10), (0, .nameAndType 11 12), (0, u "com/example/meerkat/meerkat/policy/Tally$Outcome"), (0, u "ERROR"), (0, u "Lcom/example/meerkat/meerkat/policy/Tally$Outcome;"), (0, .fieldref 8 14), (0, .nameAndType 15 12), (0, u "ANSWERED"), (0, .methodref 8 17), (0, .nameAndType 18 19), (0, u "answeredWith"), (0, u "(I)Lcom/example/meerkat/meerkat/policy/Tally$Outcome;"), (0, .methodref 21 22), (0, .class_ 23), (0, .nameAndType 24 19), (0, u "com/example/meerkat/meerkat/policy/OutcomeAnsweredWithPinLaw"), (0, u "expected"), (3, u "law"), (0, u "(II)Z")] 6

def k1m0 : Method := { name := "<init>", desc := "()V", sig := { parameters := [], returnType := none }, accessFlags := 1, code := none }
def k1c1 : Code := { maxStack := 2, maxLocals := 3, code := method_2_code, exceptionTable := #[], attributes := #[] }
def k1m1 : Method := { name := "expected", desc := "(I)Lcom/example/meerkat/meerkat/policy/Tally$Outcome;", sig := { parameters := [.int], returnType := some (.object "com/example/meerkat/meerkat/policy/Tally$Outcome") }, accessFlags := 10, code := some k1c1 }
def k1c2 : Code := { maxStack := 3, maxLocals := 5, code := code, exceptionTable := #[], attributes := #[] }
def k1m2 : Method := { name := "law", desc := "(II)Z", sig := { parameters := [.int, .int], returnType := some .boolean }, accessFlags := 9, code := some k1c2 }
/-- com/example/meerkat/meerkat/policy/OutcomeAnsweredWithPinLaw -/
def k1 : Class := { plain "com/example/meerkat/meerkat/policy/OutcomeAnsweredWithPinLaw" (some 0) with
  accessFlags := 49
  interfaces := #[]
  cf := some (fileOf pool1 21 #[] #[{ accessFlags := 1, nameIndex := 5, descriptorIndex := 6, attributes := #[] }, { accessFlags := 10, nameIndex := 24, descriptorIndex := 19, attributes := #[] }, { accessFlags := 9, nameIndex := 28, descriptorIndex := 29, attributes := #[] }] 49 2 #[] #[])
  fields := #[]
  methods := #[k1m0, k1m1, k1m2]
  instanceTypes := #[]
  staticTypes := #[]
  resolved := Array.replicate 36 none
  statics := none }

def pool2 : Array CpInfo := pool [(1, .class_ 2), (0, u "java/lang/constant/Constable"), (0, .class_ 4), (0, u "java/lang/Object")] 6

/-- java/lang/constant/Constable -/
def k2 : Class := { plain "java/lang/constant/Constable" (some 0) with
  accessFlags := 1537
  interfaces := #[]
  cf := some (fileOf pool2 1 #[] #[] 1537 3 #[] #[])
  fields := #[]
  methods := #[]
  instanceTypes := #[]
  staticTypes := #[]
  resolved := Array.replicate 11 none
  statics := none }

def pool3 : Array CpInfo := pool [(1, .class_ 2), (0, u "java/lang/Comparable"), (0, .class_ 4), (0, u "java/lang/Object")] 7

/-- java/lang/Comparable -/
def k3 : Class := { plain "java/lang/Comparable" (some 0) with
  accessFlags := 1537
  interfaces := #[]
  cf := some (fileOf pool3 1 #[] #[] 1537 3 #[] #[])
  fields := #[]
  methods := #[]
  instanceTypes := #[]
  staticTypes := #[]
  resolved := Array.replicate 12 none
  statics := none }

def pool4 : Array CpInfo := pool [(1, .class_ 2), (0, u "java/io/Serializable"), (0, .class_ 4), (0, u "java/lang/Object")] 2

/-- java/io/Serializable -/
def k4 : Class := { plain "java/io/Serializable" (some 0) with
  accessFlags := 1537
  interfaces := #[]
  cf := some (fileOf pool4 1 #[] #[] 1537 3 #[] #[])
  fields := #[]
  methods := #[]
  instanceTypes := #[]
  staticTypes := #[]
  resolved := Array.replicate 7 none
  statics := none }

def pool5 : Array CpInfo := pool [(2, .class_ 4), (1, u "java/lang/Enum"), (0, u "name"), (0, u "Ljava/lang/String;"), (2, u "ordinal"), (0, u "I"), (1, .class_ 14), (1, u "java/lang/Object"), (4, u "hash"), (86, .class_ 108), (1, u "java/lang/Enum$EnumDesc"), (2, .class_ 112), (0, u "java/lang/constant/Constable"), (0, .class_ 114), (0, u "java/lang/Comparable"), (0, .class_ 116), (0, u "java/io/Serializable")] 87

/-- java/lang/Enum -/
def k5 : Class := { plain "java/lang/Enum" (some 0) with
  accessFlags := 1057
  interfaces := #[2, 3, 4]
  cf := some (fileOf pool5 2 #[.nestMembers #[106]] #[] 1057 12 #[111, 113, 115] #[{ accessFlags := 18, nameIndex := 5, descriptorIndex := 6, attributes := #[] }, { accessFlags := 18, nameIndex := 9, descriptorIndex := 10, attributes := #[] }, { accessFlags := 2, nameIndex := 19, descriptorIndex := 10, attributes := #[] }])
  fields := #[{ name := "name", type := (.object "java/lang/String"), accessFlags := 18, slot := 0, constantValue := 0 }, { name := "ordinal", type := .int, accessFlags := 18, slot := 1, constantValue := 0 }, { name := "hash", type := .int, accessFlags := 2, slot := 2, constantValue := 0 }]
  methods := #[]
  instanceTypes := #[(.object "java/lang/String"), .int, .int]
  staticTypes := #[]
  resolved := Array.replicate 204 none
  statics := none }

def pool6 : Array CpInfo := pool [(1, .class_ 2), (0, u "com/example/meerkat/meerkat/policy/Tally$Outcome"), (0, .fieldref 1 4), (0, .nameAndType 5 6), (0, u "ANSWERED"), (0, u "Lcom/example/meerkat/meerkat/policy/Tally$Outcome;"), (0, .fieldref 1 8), (0, .nameAndType 9 6), (0, u "ERROR"), (2, u "FAILED"), (2, u "ABANDONED"), (2, u "$VALUES"), (0, u "[Lcom/example/meerkat/meerkat/policy/Tally$Outcome;"), (6, .class_ 28), (1, u "java/lang/Enum"), (15, u "REFUSAL"), (0, u "I"), (9, u "answeredWith"), (0, u "(I)Lcom/example/meerkat/meerkat/policy/Tally$Outcome;"), (6, .class_ 64), (0, u "com/example/meerkat/meerkat/policy/Tally")] 2

def k6c0 : Code := { maxStack := 2, maxLocals := 1, code := prog_23_method_4_code, exceptionTable := #[], attributes := #[] }
def k6m0 : Method := { name := "answeredWith", desc := "(I)Lcom/example/meerkat/meerkat/policy/Tally$Outcome;", sig := { parameters := [.int], returnType := some (.object "com/example/meerkat/meerkat/policy/Tally$Outcome") }, accessFlags := 9, code := some k6c0 }
/-- com/example/meerkat/meerkat/policy/Tally$Outcome -/
def k6 : Class := { plain "com/example/meerkat/meerkat/policy/Tally$Outcome" (some 5) with
  accessFlags := 16433
  interfaces := #[]
  cf := some (fileOf pool6 1 #[.nestHost 63] #[{ accessFlags := 9, nameIndex := 55, descriptorIndex := 56, attributes := #[] }] 16433 26 #[] #[{ accessFlags := 16409, nameIndex := 5, descriptorIndex := 6, attributes := #[] }, { accessFlags := 16409, nameIndex := 9, descriptorIndex := 6, attributes := #[] }, { accessFlags := 16409, nameIndex := 12, descriptorIndex := 6, attributes := #[] }, { accessFlags := 16409, nameIndex := 15, descriptorIndex := 6, attributes := #[] }, { accessFlags := 26, nameIndex := 44, descriptorIndex := 45, attributes := #[] }, { accessFlags := 4122, nameIndex := 18, descriptorIndex := 19, attributes := #[] }])
  fields := #[{ name := "ANSWERED", type := (.object "com/example/meerkat/meerkat/policy/Tally$Outcome"), accessFlags := 16409, slot := 0, constantValue := 0 }, { name := "ERROR", type := (.object "com/example/meerkat/meerkat/policy/Tally$Outcome"), accessFlags := 16409, slot := 1, constantValue := 0 }, { name := "FAILED", type := (.object "com/example/meerkat/meerkat/policy/Tally$Outcome"), accessFlags := 16409, slot := 2, constantValue := 0 }, { name := "ABANDONED", type := (.object "com/example/meerkat/meerkat/policy/Tally$Outcome"), accessFlags := 16409, slot := 3, constantValue := 0 }, { name := "REFUSAL", type := .int, accessFlags := 26, slot := 4, constantValue := 0 }, { name := "$VALUES", type := (.array (.object "com/example/meerkat/meerkat/policy/Tally$Outcome")), accessFlags := 4122, slot := 5, constantValue := 0 }]
  methods := #[k6m0]
  instanceTypes := #[(.object "java/lang/String"), .int, .int]
  staticTypes := #[(.object "com/example/meerkat/meerkat/policy/Tally$Outcome"), (.object "com/example/meerkat/meerkat/policy/Tally$Outcome"), (.object "com/example/meerkat/meerkat/policy/Tally$Outcome"), (.object "com/example/meerkat/meerkat/policy/Tally$Outcome"), .int, (.array (.object "com/example/meerkat/meerkat/policy/Tally$Outcome"))]
  resolved := Array.replicate 67 none
  statics := some 0 }

def pool7 : Array CpInfo := pool [(1, u "java/lang/Cloneable"), (0, .class_ 1), (0, u "java/lang/Object"), (0, .class_ 3)] 3

/-- java/lang/Cloneable -/
def k7 : Class := { plain "java/lang/Cloneable" (some 0) with
  accessFlags := 1537
  interfaces := #[]
  cf := some (fileOf pool7 2 #[] #[] 1537 4 #[] #[])
  fields := #[]
  methods := #[]
  instanceTypes := #[]
  staticTypes := #[]
  resolved := Array.replicate 8 none
  statics := none }

/-- the primitive byte -/
def k8 : Class := { plain "byte" none with kind := .primitive 'B', accessFlags := 0x411 }
/-- [B -/
def k9 : Class := { plain "[B" (some 0) with kind := .array 8 .byte, interfaces := #[7, 4], accessFlags := 1041 }

/-- the primitive int -/
def k10 : Class := { plain "int" none with kind := .primitive 'I', accessFlags := 0x411 }
/-- [I -/
def k11 : Class := { plain "[I" (some 0) with kind := .array 10 .int, interfaces := #[7, 4], accessFlags := 1041 }

def heap : Heap := #[{ cls := 6, slots := #[.ref 1, .ref 2, .null, .null, .int 0, .null], vm := .statics 6 },
  { cls := 6, slots := #[.null, .int 0, .int 0], vm := .none },
  { cls := 6, slots := #[.null, .int 1, .int 0], vm := .none }]
def classes : Array Class := #[k0, k1, k2, k3, k4, k5, k6, k7, k8, k9, k10, k11]
def interned : List (Array UInt16 × Addr) := []
def slotsUsed : Nat := 12
def theMethod : MethodId := ⟨1, 2⟩
def args0 : Array Value := #[.int 5, .int 7]
def aboutOver (below : List Frame) : State where
  vm := { classes := classes, interned := interned.toArray }
  heap := heap
  slotsUsed := slotsUsed
  threads := #[{ frames := .invoking theMethod args0 :: below }]
def below0 : List Frame := [.native { method := ⟨0, 0⟩, args := #[] }]
def about1 : State := aboutOver below0
def p0 : Program := .bare "" "" ""
def e0 : Env := launch0.env 0 0 0
theorem w_frames : about1.frames = Frame.invoking theMethod args0 :: below0 := rfl
set_option maxRecDepth 65536 in
theorem w_args : argsFit about1.vm theMethod args0 = true := by decide +kernel
set_option maxRecDepth 65536 in
theorem w_heap : heapFits about1 = true := by decide +kernel
set_option maxRecDepth 65536 in
theorem w_runnable : about1.curStatus? = some .runnable := by decide +kernel
set_option maxRecDepth 65536 in
theorem w_alone : about1.alone = true := by decide +kernel
set_option maxRecDepth 65536 in
theorem w_named : about1.methodNamed? x = some theMethod := by decide +kernel
set_option maxRecDepth 65536 in
theorem w_hears : about1.hears theMethod below0 = true := by decide +kernel
set_option maxRecDepth 65536 in
theorem w_ripe : about1.ripe theMethod args0 below0 = true := by decide +kernel
theorem w_running : about1.status = .running := rfl
set_option maxRecDepth 65536 in
theorem w_room : about1.hasRoom e0.platform room_1 = true :=
  launch0.hasRoom_least _ room_1 (by decide +kernel) (by decide +kernel) (by decide +kernel) (by decide +kernel) (by decide +kernel) (by decide +kernel)
theorem allAtoms_all (ts : List Jvm.Cond) (a : Array Jvm.Value) (st : Jvm.State) : (allAtoms ts).before a st = ts.all (fun c => c.before a st) := by
  induction ts with
  | nil => rfl
  | cons c t ih =>
    show (Jvm.Cond.and c (allAtoms t)).before a st = _
    rw [Jvm.Cond.before_and, ih, List.all_cons]
def words1 : List Jvm.Cond := Jvm.Cond.code x code maxLocals ret :: tables_1
/-- a 'code' word, met by the world's own term for the bytes: nothing is compared byte by byte -/
theorem code_word {y : MethodName} {bytes : ByteArray} {mx : Nat} {rt : Option FieldType} {a : Array Value} {s : State} {m : MethodId} {meth : Method} {c : Code} (h1 : s.methodNamed? y = some m) (h2 : s.vm.method? m = some meth) (h3 : meth.code = some c) (h4 : c.code = bytes)
    (h5 : (c.maxLocals == mx && c.exceptionTable.isEmpty && decide (c.maxStack ≤ mostOperands) && decide (meth.sig.returnType = rt) && !meth.locks && decide (parseMethodDescriptor y.desc = some meth.sig)) = true) : (Jvm.Cond.code y bytes mx rt).before a s = true := by
  simp only [Bool.and_eq_true, beq_iff_eq, Bool.not_eq_true', decide_eq_true_eq] at h5
  obtain ⟨⟨⟨⟨⟨g1, g2⟩, g3⟩, g4⟩, g5⟩, g6⟩ := h5
  simp [Cond.before, Cond.holds, Cond.value, h1, h2, h3, h4, g1, g2, g3, g4, g5, g6]
def isCode : Jvm.Cond → Bool
  | .code _ _ _ _ => true
  | _ => false
theorem all_split {L : List Jvm.Cond} {P : Jvm.Cond → Bool} (h1 : L.all (fun c => isCode c || P c) = true) (h2 : ∀ c ∈ L.filter isCode, P c = true) : L.all P = true := by
  refine List.all_eq_true.mpr fun c hc => ?_
  have h := List.all_eq_true.mp h1 c hc
  rcases Bool.eq_false_or_eq_true (isCode c) with hi | hi
  · exact h2 c (List.mem_filter.mpr ⟨hc, hi⟩)
  · simpa [hi] using h
set_option maxRecDepth 65536 in
theorem w_c0 : (Jvm.Cond.code x code maxLocals ret).before args0 about1 = true := code_word (m := ⟨1, 2⟩) (meth := k1m2) (c := k1c2) (by decide +kernel) rfl rfl rfl (by decide +kernel)
set_option maxRecDepth 65536 in
theorem w_c1 : (Jvm.Cond.code ({ cls := "com/example/meerkat/meerkat/policy/Tally$Outcome", name := "answeredWith", desc := "(I)Lcom/example/meerkat/meerkat/policy/Tally$Outcome;" } : Jvm.MethodName) prog_23_method_4_code (1 : Nat) (Option.some (Jvm.ClassFile.FieldType.object "com/example/meerkat/meerkat/policy/Tally$Outcome"))).before args0 about1 = true := code_word (m := ⟨6, 0⟩) (meth := k6m0) (c := k6c0) (by decide +kernel) rfl rfl rfl (by decide +kernel)
set_option maxRecDepth 65536 in
theorem w_c2 : (Jvm.Cond.code ({ cls := "com/example/meerkat/meerkat/policy/OutcomeAnsweredWithPinLaw", name := "expected", desc := "(I)Lcom/example/meerkat/meerkat/policy/Tally$Outcome;" } : Jvm.MethodName) method_2_code (3 : Nat) (Option.some (Jvm.ClassFile.FieldType.object "com/example/meerkat/meerkat/policy/Tally$Outcome"))).before args0 about1 = true := code_word (m := ⟨1, 1⟩) (meth := k1m1) (c := k1c1) (by decide +kernel) rfl rfl rfl (by decide +kernel)
def codes1 : List Jvm.Cond := [Jvm.Cond.code x code maxLocals ret, Jvm.Cond.code ({ cls := "com/example/meerkat/meerkat/policy/Tally$Outcome", name := "answeredWith", desc := "(I)Lcom/example/meerkat/meerkat/policy/Tally$Outcome;" } : Jvm.MethodName) prog_23_method_4_code (1 : Nat) (Option.some (Jvm.ClassFile.FieldType.object "com/example/meerkat/meerkat/policy/Tally$Outcome")), Jvm.Cond.code ({ cls := "com/example/meerkat/meerkat/policy/OutcomeAnsweredWithPinLaw", name := "expected", desc := "(I)Lcom/example/meerkat/meerkat/policy/Tally$Outcome;" } : Jvm.MethodName) method_2_code (3 : Nat) (Option.some (Jvm.ClassFile.FieldType.object "com/example/meerkat/meerkat/policy/Tally$Outcome"))]
set_option maxRecDepth 65536 in
theorem codes_eq : words1.filter isCode = codes1 := rfl
theorem w_codes : ∀ c ∈ words1.filter isCode, c.before args0 about1 = true := by
  rw [codes_eq]
  intro c hc
  simp only [codes1, List.mem_cons, List.not_mem_nil, or_false] at hc
  rcases hc with rfl | rfl | rfl
  · exact w_c0
  · exact w_c1
  · exact w_c2
set_option maxRecDepth 65536 in
theorem w_t1 : words1.all (fun c => isCode c || c.before args0 about1) = true := by decide +kernel
theorem w_tables : (allAtoms (Jvm.Cond.code x code maxLocals ret :: tables_1)).before args0 about1 = true := by
  rw [allAtoms_all]
  show words1.all (fun c => c.before args0 about1) = true
  refine all_split ?_ w_codes
  rw [w_t1]
set_option maxRecDepth 65536 in
theorem w_case : (Jvm.Cond.and given_1 narrow_1).before args0 about1 = true := by decide +kernel
theorem w_applies : (headSpec (Jvm.Cond.code x code maxLocals ret :: tables_1) room_1).applies x e0.platform about1 = true :=
  (Spec.applies_iff w_frames).mpr ⟨w_running, w_runnable, w_alone, w_named, w_hears, w_ripe, w_room, w_tables⟩
theorem atStart : AtStart classFile x code maxLocals ret World_1 tables_1 room_1 Calls_1 rest_1 Pre_1 launch0 p0 e0 about1 theMethod args0 below0 :=
  ⟨lists_1, trivial, launch0.admits_env _ _ _, launch0.least_env, fairChoices_fair.cas, fairChoices_fair.clock, w_frames, w_args, w_heap, w_applies, trivial, trivial, w_case⟩
end start1
theorem witness_1 : WitnessClaimed_1 := ⟨start1.p0, start1.e0, start1.about1, start1.theMethod, start1.args0, start1.below0, start1.atStart⟩
end Jvm.Pilot.@@N@@
