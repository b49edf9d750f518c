import JvmDerived
import JvmDerived.Pilot.@@N@@Statement
import JvmDerived.Pilot.@@N@@Code
set_option linter.unusedVariables false
set_option linter.unusedSimpArgs false
/- laws to paste: pair_says, narrow_ch, shr0 (cut by pick.py; bodies as the Statement names them) -/
namespace Jvm.Pilot.@@N@@
namespace StrChars
open Jvm Sem ClassFile Op Lib Jvm.Stand Jvm.Free.XT Jvm.Free.ALB Jvm.Free.JM Jvm.Free
open Jvm.Lib.Cold (StaticIs)
/-- the byte that i2b leaves of a char -/
def lo8 (x : Int32) : Int32 := x.toInt8.toInt32
end StrChars
namespace StrChars
open Jvm Sem ClassFile Op Lib Jvm.Stand Jvm.Free.XT Jvm.Free.ALB Jvm.Free.JM Jvm.Free
open Jvm.Lib.Cold (StaticIs)
def hi8 (x : Int32) : Int32 := lo8 (x >>> ((8 : Int32) &&& 31))
/-- what StringUTF16.getChar makes of two bytes -/
def pairCh (u v : Int32) : Int32 := (((u &&& 255) <<< ((0 : Int32) &&& 31)) ||| ((v &&& 255) <<< ((8 : Int32) &&& 31))).toUInt32.toUInt16.toUInt32.toInt32
theorem shr0 (c : Int32) : c >>> ((0 : Int32) &&& 31) = c := by
  have e : ((0 : Int32) &&& 31) = 0 := by decide
  rw [e]
  apply Int32.toBitVec_inj.mp
  rw [Int32.toBitVec_shiftRight]
  have e1 : ((0 : Int32).toBitVec.smod 32) = 0#32 := by decide
  rw [e1, BitVec.sshiftRight_eq']
  exact BitVec.sshiftRight_zero
theorem lo8_and (x : Int32) : (lo8 x &&& 255).toBitVec.toNat = x.toBitVec.toNat % 256 := by
  have h : (lo8 x).toBitVec = (x.toBitVec.signExtend 8).signExtend 32 := by rw [lo8, Int8.toBitVec_toInt32, Int32.toBitVec_toInt8]
  rw [Int32.toBitVec_and, BitVec.toNat_and, h]
  have e : ((x.toBitVec.signExtend 8).signExtend 32).toNat % 256 = x.toBitVec.toNat % 256 := by
    rw [BitVec.toNat_signExtend]
    have hlt := x.toBitVec.isLt
    simp only [BitVec.toNat_setWidth, BitVec.toNat_signExtend]
    split <;> split <;> omega
  rw [← e]
  exact Nat.and_two_pow_sub_one_eq_mod _ 8
theorem pair_says {c : Int32} (h0 : ¬ c < 0) (h1 : ¬ 65535 < c) : pairCh (lo8 c) (hi8 c) = c := by
  rw [Int32.lt_iff_toInt_lt] at h0 h1
  have e0 : (0 : Int32).toInt = 0 := rfl
  have e1 : (65535 : Int32).toInt = 65535 := rfl
  have hc : c.toInt = c.toBitVec.toNat := by
    have := c.toBitVec.isLt
    have e : c.toInt = c.toBitVec.toInt := rfl
    rw [e] at h0 h1
    rw [e]
    rw [BitVec.toInt_eq_toNat_cond] at h0 h1 ⊢
    split at h0 <;> split <;> omega
  have hn : c.toBitVec.toNat < 65536 := by omega
  have a1 := lo8_and c
  have a2 : (hi8 c &&& 255).toBitVec.toNat = c.toBitVec.toNat / 256 := by
    rw [hi8, lo8_and]
    have e : ((8 : Int32) &&& 31) = 8 := by decide
    rw [e, Int32.toBitVec_shiftRight]
    have e2 : ((8 : Int32).toBitVec.smod 32) = 8#32 := by decide
    rw [e2, BitVec.sshiftRight_eq', BitVec.toNat_sshiftRight_of_msb_false (by rw [BitVec.msb_eq_false_iff_two_mul_lt]; omega)]
    show c.toBitVec.toNat >>> 8 % 256 = _
    rw [Nat.shiftRight_eq_div_pow]
    omega
  unfold pairCh
  apply Int32.toBitVec_inj.mp
  apply BitVec.eq_of_toNat_eq
  have f0 : ((0 : Int32) &&& 31) = 0 := by decide
  have f8 : ((8 : Int32) &&& 31) = 8 := by decide
  rw [f0, f8]
  have g : (((lo8 c &&& 255) <<< (0 : Int32)) ||| ((hi8 c &&& 255) <<< (8 : Int32))).toBitVec.toNat = c.toBitVec.toNat := by
    rw [Int32.toBitVec_or, Int32.toBitVec_shiftLeft, Int32.toBitVec_shiftLeft]
    have s0 : ((0 : Int32).toBitVec.smod 32) = 0#32 := by decide
    have s8 : ((8 : Int32).toBitVec.smod 32) = 8#32 := by decide
    rw [s0, s8, BitVec.toNat_or]
    simp only [BitVec.shiftLeft_eq', BitVec.toNat_shiftLeft, a1, a2]
    show (c.toBitVec.toNat % 256) <<< 0 % 2 ^ 32 ||| (c.toBitVec.toNat / 256) <<< 8 % 2 ^ 32 = _
    rw [Nat.shiftLeft_zero, Nat.mod_eq_of_lt (show c.toBitVec.toNat % 256 < 2 ^ 32 by omega), Nat.mod_eq_of_lt (show (c.toBitVec.toNat / 256) <<< 8 < 2 ^ 32 by rw [Nat.shiftLeft_eq]; omega), Nat.or_comm, ← Nat.shiftLeft_add_eq_or_of_lt (by omega), Nat.shiftLeft_eq]
    omega
  show BitVec.toNat (((((lo8 c &&& 255) <<< (0 : Int32)) ||| ((hi8 c &&& 255) <<< (8 : Int32))).toBitVec.setWidth 16).setWidth 32) = _
  rw [BitVec.toNat_setWidth, BitVec.toNat_setWidth, g]
  omega
end StrChars
namespace StrChars
open Jvm Sem ClassFile Op Lib Jvm.Stand Jvm.Free.XT Jvm.Free.ALB Jvm.Free.JM Jvm.Free
open Jvm.Lib.Cold (StaticIs)
theorem narrow_ch {c : Int32} (h0 : ¬ c < 0) (h1 : ¬ 65535 < c) : narrow .char (.int c) = .int c := by
  have q : narrow .char (.int (pairCh (lo8 c) (hi8 c))) = .int (pairCh (lo8 c) (hi8 c)) := narrow_c _
  rwa [pair_says h0 h1] at q
end StrChars
end Jvm.Pilot.@@N@@
namespace Jvm.Pilot.@@N@@
open Jvm Jvm.ClassFile Sem Op Lib Jvm.Free Jvm.Stand Jvm.LawKit Jvm.RoadKit Bundle Jvm.Pilot.@@N@@.Jvm.D
theorem own_selP {s : State} {args : Array Value} {y y' : MethodName} {C : String} (he : y'.cls = y.cls) (h' : (Cond.selects C y' y').before args s = true) (hpriv : s.PrivateAt y) (hinst : (Cond.instanceMethod y).before args s = true) (hy : y.cls ≠ "java/lang/invoke/MethodHandle" ∧ y.cls ≠ "java/lang/invoke/VarHandle") : (Cond.selects y.cls y y).before args s = true := by
  obtain ⟨c2, r2, m2, -, -, q3, -, kP, hkP, hkPi⟩ := Cond.selects_spec h'
  exact Jvm.Stand.selects_self_of_private (he ▸ findClass_of_methodNamed q3) hkP hkPi hpriv hinst hy
abbrev oR (f c s l : Nat) : Room := { frames := f, cells := c, slots := s, locals := l }
/-- what a walk owes from a state on: the run comes to a state of which G speaks -/
def own_Go (p : Program) (e : Env) (below : List Frame) (A : State) (G : State → Prop) : Prop := ∃ B, (∀ t, Steps p.tables e below B t → Steps p.tables e below A t) ∧ G B
theorem own_via {p : Program} {e : Env} {below : List Frame} {A B : State} {G : State → Prop} (h : ∀ t, Steps p.tables e below B t → Steps p.tables e below A t) (k : own_Go p e below B G) : own_Go p e below A G := by
  obtain ⟨C, h1, h2⟩ := k
  exact ⟨C, fun t q => h t (h1 t q), h2⟩
abbrev uu : Slot := .unset
theorem ov {p : Program} {e : Env} {below : List Frame} {A B : State} {G : State → Prop} (h : ∀ t, Steps p.tables e below B t → Steps p.tables e below A t) (k : own_Go p e below B G) : own_Go p e below A G := own_via h k
theorem own_done {p : Program} {e : Env} {below : List Frame} {A : State} {G : State → Prop} (g : G A) : own_Go p e below A G := ⟨A, fun _ q => q, g⟩
theorem own_bind {p : Program} {e : Env} {below : List Frame} {A : State} {G G' : State → Prop} (h : own_Go p e below A G) (k : ∀ B, G B → own_Go p e below B G') : own_Go p e below A G' := by
  obtain ⟨B, h1, h2⟩ := h
  exact own_via h1 (k B h2)
/-- the method ends here -/
def own_End (p : Program) (e : Env) (below : List Frame) (s : State) (Q : Option Value → Heap → List Loc → Prop) (C S : Nat) (B : State) : Prop :=
  ∃ s₂ o, Steps p.tables e below B s₂ ∧ s₂.status = .running ∧ Ended s₂ below o ∧ ∃ v L, o = .returned v ∧ Q v s₂.heap L ∧ FrameEnd s o s₂ L C S
theorem own_body {p : Program} {e : Env} {below : List Frame} {s A A' : State} {Q : Option Value → Heap → List Loc → Prop} {C S : Nat} (q : ∀ t, Steps p.tables e below A t → Steps p.tables e below A' t) (h : own_Go p e below A (own_End p e below s Q C S)) :
    ∃ s₂ o, Steps p.tables e below A' s₂ ∧ s₂.status = .running ∧ Ended s₂ below o ∧ ∃ v L, o = .returned v ∧ Q v s₂.heap L ∧ FrameEnd s o s₂ L C S := by
  obtain ⟨B, h1, s₂, o, h2, h3⟩ := h
  exact ⟨s₂, o, q _ (h1 _ h2), h3⟩
theorem oW {Z : State} {a0 : Array Value} (hw : ∀ d ∈ tables_1, d.before a0 Z = true) (i : Nat) {d : Jvm.Cond} (h : tables_1[i]? = some d) : d.before a0 Z = true := hw _ (List.mem_of_getElem? h)
section Short
variable {p : Program} {l : Launch} {e : Env} {R : Room} {s : State} {m : MethodId} {args : Array Value} {below : List Frame} {meth : Method} {c : Code} {T : State} {locs : List Loc} {cells slots : Nat} {G : State → Prop} {pc n : Nat} {Ls : Array Slot} {st : List Value}
theorem oAL (X : Stand p l e R s m args below meth c T locs cells slots) (hx : p.tables.exec = Jvm.exec) {k : Nat} {v : Value} (hd : decode c.code pc = .ok (.aload k, 2)) (hl : Ls[k]? = some (.val v)) (hv : v.isRef = true) (hn : n = pc + 2) (K : own_Go p e below (T.setTop (mkF m n Ls (v :: st))) G) : own_Go p e below (T.setTop (mkF m pc Ls st)) G := by
  subst hn; exact own_via (fun t k => XS.aload X.here hx rfl hd hl hv k) K
theorem oALN (X : Stand p l e R s m args below meth c T locs cells slots) (hx : p.tables.exec = Jvm.exec) {k : Fin 4} {v : Value} (hd : decode c.code pc = .ok (.aload_n k, 1)) (hl : Ls[k.val]? = some (.val v)) (hv : v.isRef = true) (hn : n = pc + 1) (K : own_Go p e below (T.setTop (mkF m n Ls (v :: st))) G) : own_Go p e below (T.setTop (mkF m pc Ls st)) G := by
  subst hn; exact own_via (fun t k => XS.aloadN X.here hx rfl hd hl hv k) K
theorem oIL (X : Stand p l e R s m args below meth c T locs cells slots) (hx : p.tables.exec = Jvm.exec) {k : Nat} {v : Int32} (hd : decode c.code pc = .ok (.iload k, 2)) (hl : Ls[k]? = some (.val (.int v))) (hn : n = pc + 2) (K : own_Go p e below (T.setTop (mkF m n Ls (.int v :: st))) G) : own_Go p e below (T.setTop (mkF m pc Ls st)) G := by
  subst hn; exact own_via (fun t k => XS.iload X.here hx rfl hd hl k) K
theorem oILN (X : Stand p l e R s m args below meth c T locs cells slots) (hx : p.tables.exec = Jvm.exec) {k : Fin 4} {v : Int32} (hd : decode c.code pc = .ok (.iload_n k, 1)) (hl : Ls[k.val]? = some (.val (.int v))) (hn : n = pc + 1) (K : own_Go p e below (T.setTop (mkF m n Ls (.int v :: st))) G) : own_Go p e below (T.setTop (mkF m pc Ls st)) G := by
  subst hn; exact own_via (fun t k => XS.iloadN X.here hx rfl hd hl k) K
theorem oIC (X : Stand p l e R s m args below meth c T locs cells slots) (hx : p.tables.exec = Jvm.exec) {i : Int} (z : Int32) (hd : decode c.code pc = .ok (.iconst i, 1)) (hz : Int32.ofInt i = z) (hn : n = pc + 1) (K : own_Go p e below (T.setTop (mkF m n Ls (.int z :: st))) G) : own_Go p e below (T.setTop (mkF m pc Ls st)) G := by
  subst hn hz; exact own_via (fun t k => XS.iconst X.here hx rfl hd k) K
theorem oBP (X : Stand p l e R s m args below meth c T locs cells slots) (hx : p.tables.exec = Jvm.exec) {i : Int} (z : Int32) (hd : decode c.code pc = .ok (.bipush i, 2)) (hz : (Int8.ofInt i).toInt32 = z) (hn : n = pc + 2) (K : own_Go p e below (T.setTop (mkF m n Ls (.int z :: st))) G) : own_Go p e below (T.setTop (mkF m pc Ls st)) G := by
  subst hn hz; exact own_via (fun t k => XS.bipush X.here hx rfl hd k) K
theorem oSP (X : Stand p l e R s m args below meth c T locs cells slots) (hx : p.tables.exec = Jvm.exec) {i : Int} (z : Int32) (hd : decode c.code pc = .ok (.sipush i, 3)) (hz : (Int16.ofInt i).toInt32 = z) (hn : n = pc + 3) (K : own_Go p e below (T.setTop (mkF m n Ls (.int z :: st))) G) : own_Go p e below (T.setTop (mkF m pc Ls st)) G := by
  subst hn hz; exact own_via (fun t k => XS.sipush X.here hx rfl hd k) K
theorem oNU (X : Stand p l e R s m args below meth c T locs cells slots) (hx : p.tables.exec = Jvm.exec) (hd : decode c.code pc = .ok (.aconst_null, 1)) (hn : n = pc + 1) (K : own_Go p e below (T.setTop (mkF m n Ls (.null :: st))) G) : own_Go p e below (T.setTop (mkF m pc Ls st)) G := by
  subst hn; exact own_via (fun t k => XS.aconstNull X.here hx rfl hd k) K
theorem oDU (X : Stand p l e R s m args below meth c T locs cells slots) (hx : p.tables.exec = Jvm.exec) {x : Value} (hd : decode c.code pc = .ok (.dup, 1)) (hc : x.category = 1) (hn : n = pc + 1) (K : own_Go p e below (T.setTop (mkF m n Ls (x :: x :: st))) G) : own_Go p e below (T.setTop (mkF m pc Ls (x :: st))) G := by
  subst hn; exact own_via (fun t k => XS.dup X.here hx rfl hd rfl hc k) K
theorem oPO (X : Stand p l e R s m args below meth c T locs cells slots) (hx : p.tables.exec = Jvm.exec) {x : Value} (hd : decode c.code pc = .ok (.pop, 1)) (hc : x.category = 1) (hn : n = pc + 1) (K : own_Go p e below (T.setTop (mkF m n Ls st)) G) : own_Go p e below (T.setTop (mkF m pc Ls (x :: st))) G := by
  subst hn; exact own_via (fun t k => XS.pop X.here hx rfl hd rfl hc k) K
theorem oGO (X : Stand p l e R s m args below meth c T locs cells slots) (hx : p.tables.exec = Jvm.exec) {o : Int} (hd : decode c.code pc = .ok (.goto o, 3)) (ho : 0 ≤ (pc : Int) + o) (hn : ((pc : Int) + o).toNat = n) (K : own_Go p e below (T.setTop (mkF m n Ls st)) G) : own_Go p e below (T.setTop (mkF m pc Ls st)) G :=
  own_via (fun t k => XS.goto X.here hx rfl (pc0 := pc) (pc' := n) rfl hd ho hn k) K
end Short
section Leaf
variable {p : Program} {l : Launch} {e : Env} {R : Room} {s : State} {m : MethodId} {args : Array Value} {below : List Frame} {meth : Method} {c : Code} {T : State} {locs : List Loc} {cells slots : Nat}
theorem own_leaf (X : Stand p l e R s m args below meth c T locs cells slots) (hx : p.tables.exec = Jvm.exec) (hlk : meth.locks = false) {pc : Nat} {Ls : Array Slot} {w : Value} {t : FieldType} {i : Instr} {rest : List Value} (hret : meth.sig.returnType = some t) (hn : narrow t w = w)
    (hi : (i = .ireturn ∧ (t = .int ∨ t = .boolean ∨ t = .byte ∨ t = .char ∨ t = .short) ∧ ∃ z, w = .int z) ∨ (i = .lreturn ∧ t = .long ∧ ∃ z, w = .long z) ∨ (i = .dreturn ∧ t = .double ∧ ∃ z, w = .double z) ∨ (i = .freturn ∧ t = .float ∧ ∃ z, w = .float z) ∨ (i = .areturn ∧ t.isReference = true ∧ w.isRef = true))
    (hd : decode c.code pc = .ok (i, 1)) {Q : Option Value → Heap → List Loc → Prop} {C S : Nat} (hC : cells ≤ C) (hS : slots ≤ S) (hq : Q (some w) T.heap locs) : own_Go p e below (T.setTop (mkF m pc Ls (w :: rest))) (own_End p e below s Q C S) := by
  obtain ⟨fs, hr, hrun, hended, hW, hsame⟩ := X.leave (v := some w) (fun h => by rw [hret] at h; cases h) hlk
  exact own_done ⟨_, _, retOut X hx hret hn hi hd hr, hrun, hended, _, _, rfl, hq, ⟨_, rfl⟩, hW, hsame.mono hC hS⟩
theorem own_leafV (X : Stand p l e R s m args below meth c T locs cells slots) (hx : p.tables.exec = Jvm.exec) (hlk : meth.locks = false) {pc : Nat} {Ls : Array Slot} (hret : meth.sig.returnType = none)
    (hd : decode c.code pc = .ok (.return_, 1)) {Q : Option Value → Heap → List Loc → Prop} {C S : Nat} (hC : cells ≤ C) (hS : slots ≤ S) (hq : Q none T.heap locs) : own_Go p e below (T.setTop (mkF m pc Ls [])) (own_End p e below s Q C S) := by
  obtain ⟨fs, hr, hrun, hended, hW, hsame⟩ := X.leave (v := none) (fun _ => rfl) hlk
  exact own_done ⟨_, _, X.returnOut hx hret hd hr, hrun, hended, _, _, rfl, hq, ⟨_, rfl⟩, hW, hsame.mono hC hS⟩
theorem own_getFR {Z : State} {a0 : Array Value} {h : Heap} (X : Stand p l e R s m args below meth c T locs cells slots) (hx : p.tables.exec = Jvm.exec) (hZ : Z.Warmed39 s.vm) {own R0 O n d : String} {index : Nat} (hown : s.vm.findClass own = some m.cls) (w : (Cond.fieldRef own index R0 n d).before a0 Z = true) (via : Via Z R0 O n d)
    (eT : T.heap = h) {a : Addr} {v : Value} (F : Fld Z h a O n d v) {g : JFrame} (hg : g.method = m) {rest : List Value} (hs : g.stack = .ref a :: rest) (hd : decode c.code g.pc = .ok (.getfield index, 3)) : ∃ T', Stand p l e R s m args below meth c T' locs cells slots ∧ T'.heap = h ∧ ∀ target, Steps p.tables e below (T'.setTop { g with pc := g.pc + 3, stack := v :: rest }) target → Steps p.tables e below (T.setTop g) target := by
  obtain ⟨cell, cf, k, i, f, h1, h2, h3, h4, -, -, h7⟩ := F
  have hW : Z.Warmed39 T.vm := wtrans hZ X.warmed
  have w1 := Cond.fieldRef_warmed39 hW w
  obtain ⟨c', k', i', f', hi, hr⟩ := Cond.fieldRef_spec (cur := m.cls) (show (Z.setVm T.vm).vm.findClass own = some m.cls by show T.vm.findClass own = _; rw [X.warmed.alike.findClass]; exact hown) w1
  obtain ⟨k'', hi', -⟩ := State.fieldFound?_setVm (s := Z) hW.alike (via _ h2)
  cases hi.symm.trans hi'
  refine ⟨T, X, eT, fun target hrest => ?_⟩
  subst hg
  jvm_step X.here [hx, hd, getfield.wp_ready (e := e) (s := T) (f := g) X.here.top hr h3 hs (by rw [eT]; exact h1) h4 h7]
  exact hrest
def own_EndW (p : Program) (e : Env) (below : List Frame) (s : State) (Q : Option Value → Heap → List Loc → Prop) (C S : Nat) (B : State) : Prop :=
  ∃ s₂ o, Steps p.tables e below B s₂ ∧ s₂.status = .running ∧ Ended s₂ below o ∧ ∃ v L, o = .returned v ∧ Q v s₂.heap L ∧ ReturnedEndW s o s₂ L C S
theorem own_bodyW {A A' : State} {Q : Option Value → Heap → List Loc → Prop} {C S : Nat} (q : ∀ t, Steps p.tables e below A t → Steps p.tables e below A' t) (h : own_Go p e below A (own_EndW p e below s Q C S)) :
    ∃ s₂ o, Steps p.tables e below A' s₂ ∧ s₂.status = .running ∧ Ended s₂ below o ∧ ∃ v L, o = .returned v ∧ Q v s₂.heap L ∧ ReturnedEndW s o s₂ L C S := by
  obtain ⟨B, h1, s₂, o, h2, h3⟩ := h
  exact ⟨s₂, o, q _ (h1 _ h2), h3⟩
theorem own_leafW {vm₁ : Vm} (X : Stand p l e R (s.setVm vm₁) m args below meth c T locs cells slots) (hx : p.tables.exec = Jvm.exec) (hlk : meth.locks = false) {n : Nat} (hS : s.Since vm₁ n) (hk : n ≤ T.heap.size) {pc : Nat} {Ls : Array Slot} {w : Value} {t : FieldType} {i : Instr} {rest : List Value} (hret : meth.sig.returnType = some t) (hn : narrow t w = w)
    (hi : (i = .ireturn ∧ (t = .int ∨ t = .boolean ∨ t = .byte ∨ t = .char ∨ t = .short) ∧ ∃ z, w = .int z) ∨ (i = .lreturn ∧ t = .long ∧ ∃ z, w = .long z) ∨ (i = .dreturn ∧ t = .double ∧ ∃ z, w = .double z) ∨ (i = .freturn ∧ t = .float ∧ ∃ z, w = .float z) ∨ (i = .areturn ∧ t.isReference = true ∧ w.isRef = true))
    (hd : decode c.code pc = .ok (i, 1)) {Q : Option Value → Heap → List Loc → Prop} {C S : Nat} (hC : cells ≤ C) (hS' : slots ≤ S) (hq : Q (some w) T.heap locs) : own_Go p e below (T.setTop (mkF m pc Ls (w :: rest))) (own_EndW p e below s Q C S) := by
  obtain ⟨fs, hr, hrun, hended, h1, h2, h3, hsame⟩ := X.leaveW hS hk (v := some w) (fun h => by rw [hret] at h; cases h) hlk
  exact own_done ⟨_, _, retOut X hx hret hn hi hd hr, hrun, hended, _, _, rfl, hq, h1, h2, h3, hsame.mono hC hS'⟩
theorem own_leafVW {vm₁ : Vm} (X : Stand p l e R (s.setVm vm₁) m args below meth c T locs cells slots) (hx : p.tables.exec = Jvm.exec) (hlk : meth.locks = false) {n : Nat} (hS : s.Since vm₁ n) (hk : n ≤ T.heap.size) {pc : Nat} {Ls : Array Slot} (hret : meth.sig.returnType = none)
    (hd : decode c.code pc = .ok (.return_, 1)) {Q : Option Value → Heap → List Loc → Prop} {C S : Nat} (hC : cells ≤ C) (hS' : slots ≤ S) (hq : Q none T.heap locs) : own_Go p e below (T.setTop (mkF m pc Ls [])) (own_EndW p e below s Q C S) := by
  obtain ⟨fs, hr, hrun, hended, h1, h2, h3, hsame⟩ := X.leaveW hS hk (v := none) (fun _ => rfl) hlk
  exact own_done ⟨_, _, X.returnOut hx hret hd hr, hrun, hended, _, _, rfl, hq, h1, h2, h3, hsame.mono hC hS'⟩
def own_bit (P : Prop) [Decidable P] : Int32 := if P then 1 else 0
theorem own_bit01 (P : Prop) [Decidable P] : own_bit P = 0 ∨ own_bit P = 1 := by unfold own_bit; split <;> simp
theorem own_bitT {P : Prop} [Decidable P] (h : P) : own_bit P = 1 := if_pos h
theorem own_bitF {P : Prop} [Decidable P] (h : ¬ P) : own_bit P = 0 := if_neg h
theorem own_bit0 {P : Prop} [Decidable P] : own_bit P = 0 ↔ ¬ P := by unfold own_bit; split <;> simp_all
theorem own_bit1 {P : Prop} [Decidable P] : own_bit P = 1 ↔ P := by unfold own_bit; split <;> simp_all
theorem own_bitne {P : Prop} [Decidable P] (h : P) : ¬ own_bit P = 0 := fun q => own_bit0.mp q h
theorem own_bits {P P' : Prop} [Decidable P] [Decidable P'] (h : P ↔ P') : own_bit P = own_bit P' := by unfold own_bit; simp [h]
theorem own_lt (x y : Int32) : x < y ↔ x.toInt < y.toInt := Int32.lt_iff_toInt_lt
theorem own_eq (x y : Int32) : x = y ↔ x.toInt = y.toInt := Int32.toInt_inj.symm
theorem own_ltL (x y : Int64) : x < y ↔ x.toInt < y.toInt := Int64.lt_iff_toInt_lt
theorem own_eqL (x y : Int64) : x = y ↔ x.toInt = y.toInt := Int64.toInt_inj.symm
theorem own_mask (x : Int32) : 0 ≤ (x &&& (2147483647 : Int32)).toInt := by
  have h : (x &&& (2147483647 : Int32)).toBitVec.msb = false := by
    show (x.toBitVec &&& 2147483647#32).msb = false
    have e : (2147483647#32).msb = false := by decide
    rw [BitVec.msb_and, e]; simp
  have := BitVec.toInt_eq_msb_cond (x &&& (2147483647 : Int32)).toBitVec
  rw [h] at this
  show 0 ≤ (x &&& (2147483647 : Int32)).toBitVec.toInt
  rw [this]
  simp only [Bool.false_eq_true, if_false]
  exact Int.natCast_nonneg _
theorem own_modm (x m : Int32) (hm : 0 < m.toInt) : 0 ≤ ((x &&& (2147483647 : Int32)) % m).toInt ∧ ((x &&& (2147483647 : Int32)) % m).toInt < m.toInt := by
  have h := own_mask x
  rw [Int32.toInt_mod, Int.tmod_eq_emod_of_nonneg h]
  exact ⟨Int.emod_nonneg _ (by omega), Int.emod_lt_of_pos _ hm⟩
theorem own_fb {x : Int32} (h : x = 0 ∨ x = 1) : fits .boolean (.int x) = true := by rcases h with rfl | rfl <;> decide
theorem own_eqI {t : Term} {k : Int32} {args : Array Value} {s : State} (h : (Cond.eq t (Term.int k)).value args s none s [] = some true) : t.eval args s none [] s = some (.int k) := by
  simp only [Cond.value] at h
  have hn : (Term.int k).eval args s none [] s = some (.int k) := rfl
  rw [hn] at h
  cases ht : t.eval args s none [] s with
  | none => simp [ht] at h
  | some v => cases v <;> simp [ht] at h ⊢ <;> first | exact h | (exact h.elim) | simp_all
theorem own_eqR {t u : Term} {a : Addr} {args : Array Value} {s : State} (h : (Cond.eq t u).value args s none s [] = some true) (hu : u.eval args s none [] s = some (.ref a)) : t.eval args s none [] s = some (.ref a) := by
  simp only [Cond.value] at h
  rw [hu] at h
  cases ht : t.eval args s none [] s with
  | none => simp [ht] at h
  | some v => cases v <;> simp [ht] at h ⊢ <;> first | exact h | (exact h.elim) | simp_all
theorem own_eqJ {t : Term} {k : Int64} {args : Array Value} {s : State} (h : (Cond.eq t (Term.long k)).value args s none s [] = some true) : t.eval args s none [] s = some (.long k) := by
  simp only [Cond.value] at h
  have hn : (Term.long k).eval args s none [] s = some (.long k) := rfl
  rw [hn] at h
  cases ht : t.eval args s none [] s with
  | none => simp [ht] at h
  | some v => cases v <;> simp [ht] at h ⊢ <;> first | exact h | (exact h.elim) | simp_all
theorem own_b1 {x : Int32} (h : x = 0 ∨ x = 1) : narrow .boolean (.int x) = .int x := by rcases h with rfl | rfl <;> rfl
end Leaf

theorem own_ibW {Z s : State} {vm' : Vm} {Ts : List String} (I : IB Z s.vm Ts) (h : s.WarmedH vm') : IB Z vm' Ts := by
  obtain ⟨more, e, hm⟩ := I
  exact ⟨more, h.interned_eq.trans e, hm⟩
section Ib
variable {p : Program} {l : Launch} {e : Env} {R : Room} {s : State} {args : Array Value} {below : List Frame} {Z : State} {a0 : Array Value} {h : Heap}
/-- a callee that may intern and wants to know that nobody has interned since the start -/
theorem own_backI {y : MethodName} {bytes : ByteArray} {maxL : Nat} {ret : Option FieldType} {rm : Room} {len W : Nat} {as' : Array Value} {Q : Option Value → Heap → List Loc → Prop}
    (hM : MetFree l y (head1 [Cond.code y bytes maxL ret] rm) (fun a U => a = as' ∧ Z.Warmed39 U.vm ∧ U.heap = h ∧ IB Z U.vm []) (fun _ _ _ _ _ => True) (fun _ U o U' => ∃ v L, o = .returned v ∧ Q v U'.heap L ∧ ReturnedEndW U o U' L rm.cells rm.slots))
    (hI : IB Z s.vm []) (hZ : Z.Warmed39 s.vm) (wc : (Cond.code y bytes maxL ret).before a0 Z = true) (wz : (Cond.initialized y.cls).before a0 Z = true) (hf : rm.frames + 1 ≤ R.frames) (hl : W + (maxL + 11) + rm.locals ≤ R.locals) :
    BackS l R p e below s args y len W (fun A a => a = as' ∧ A.U.heap = h ∧ A.cells + rm.cells ≤ R.cells ∧ A.slots + rm.slots ≤ R.slots)
      (fun A _ v B => ∃ L, Q v B.U.heap L ∧ B.locs = A.locs ++ L ∧ B.cells = A.cells + rm.cells ∧ B.slots = A.slots + rm.slots) := by
  refine BackS.of_freeW (bytes := bytes) (maxL := maxL) (ret := ret) (E := fun _ _ o t L k n => k = rm.cells ∧ n = rm.slots ∧ ∃ v, o = .returned v ∧ Q v t.heap L) hM hf hl ?_ ?_ ?_ ?_ ?_
  · intro m meth c A a Y hp
    have hU : Z.Warmed39 A.U.vm := wtrans hZ Y.warmed
    exact ⟨by show (Cond.and _ .tt).before a A.U = true; rw [Cond.before_and, mv hU wc]; rfl, mv hU wc, mv hU wz, hp.2.2.1, hp.2.2.2⟩
  · intro m meth c A a g mk Y hp
    exact ⟨hp.1, wtrans hZ Y.warmed, hp.2.1, own_ibW hI Y.warmed⟩
  · intros; trivial
  · rintro _ _ _ _ ⟨v, L, h1, h2, h3⟩
    exact ⟨L, _, _, h3, rfl, rfl, v, h1, h2⟩
  · rintro m meth c A a g mk v t L k n Y hp _ _ ⟨e1, e2, v', e3, e4⟩
    cases e3; subst e1 e2; exact ⟨L, e4, rfl, rfl, rfl⟩
/-- the same, for any word VP on the tables at the call, and a Q that looks at the tables behind it -/
theorem own_backV {VP : Vm → Prop} {y : MethodName} {bytes : ByteArray} {maxL : Nat} {ret : Option FieldType} {rm : Room} {len W : Nat} {as' : Array Value} {Q : Option Value → Heap → List Loc → Vm → Prop}
    (hM : MetFree l y (head1 [Cond.code y bytes maxL ret] rm) (fun a U => a = as' ∧ Z.Warmed39 U.vm ∧ U.heap = h ∧ VP U.vm) (fun _ _ _ _ _ => True) (fun _ U o U' => ∃ v L, o = .returned v ∧ Q v U'.heap L U'.vm ∧ ReturnedEndW U o U' L rm.cells rm.slots))
    (hV : ∀ vm', s.WarmedH vm' → VP vm') (hZ : Z.Warmed39 s.vm) (wc : (Cond.code y bytes maxL ret).before a0 Z = true) (wz : (Cond.initialized y.cls).before a0 Z = true) (hf : rm.frames + 1 ≤ R.frames) (hl : W + (maxL + 11) + rm.locals ≤ R.locals) :
    BackS l R p e below s args y len W (fun A a => a = as' ∧ A.U.heap = h ∧ A.cells + rm.cells ≤ R.cells ∧ A.slots + rm.slots ≤ R.slots)
      (fun A _ v B => ∃ L, Q v B.U.heap L B.U.vm ∧ B.locs = A.locs ++ L ∧ B.cells = A.cells + rm.cells ∧ B.slots = A.slots + rm.slots) := by
  refine BackS.of_freeW (bytes := bytes) (maxL := maxL) (ret := ret) (E := fun _ _ o t L k n => k = rm.cells ∧ n = rm.slots ∧ ∃ v, o = .returned v ∧ Q v t.heap L t.vm) hM hf hl ?_ ?_ ?_ ?_ ?_
  · intro m meth c A a Y hp
    have hU : Z.Warmed39 A.U.vm := wtrans hZ Y.warmed
    exact ⟨by show (Cond.and _ .tt).before a A.U = true; rw [Cond.before_and, mv hU wc]; rfl, mv hU wc, mv hU wz, hp.2.2.1, hp.2.2.2⟩
  · intro m meth c A a g mk Y hp
    exact ⟨hp.1, wtrans hZ Y.warmed, hp.2.1, hV _ Y.warmed⟩
  · intros; trivial
  · rintro _ _ _ _ ⟨v, L, h1, h2, h3⟩
    exact ⟨L, _, _, h3, rfl, rfl, v, h1, h2⟩
  · rintro m meth c A a g mk v t L k n Y hp _ _ ⟨e1, e2, v', e3, e4⟩
    cases e3; subst e1 e2; exact ⟨L, e4, rfl, rfl, rfl⟩
/-- the same, for any word VP on the tables at the call -/
theorem own_backP {VP : Vm → Prop} {y : MethodName} {bytes : ByteArray} {maxL : Nat} {ret : Option FieldType} {rm : Room} {len W : Nat} {as' : Array Value} {Q : Option Value → Heap → List Loc → Prop}
    (hM : MetFree l y (head1 [Cond.code y bytes maxL ret] rm) (fun a U => a = as' ∧ Z.Warmed39 U.vm ∧ U.heap = h ∧ VP U.vm) (fun _ _ _ _ _ => True) (fun _ U o U' => ∃ v L, o = .returned v ∧ Q v U'.heap L ∧ ReturnedEndW U o U' L rm.cells rm.slots))
    (hV : ∀ vm', s.WarmedH vm' → VP vm') (hZ : Z.Warmed39 s.vm) (wc : (Cond.code y bytes maxL ret).before a0 Z = true) (wz : (Cond.initialized y.cls).before a0 Z = true) (hf : rm.frames + 1 ≤ R.frames) (hl : W + (maxL + 11) + rm.locals ≤ R.locals) :
    BackS l R p e below s args y len W (fun A a => a = as' ∧ A.U.heap = h ∧ A.cells + rm.cells ≤ R.cells ∧ A.slots + rm.slots ≤ R.slots)
      (fun A _ v B => ∃ L, Q v B.U.heap L ∧ B.locs = A.locs ++ L ∧ B.cells = A.cells + rm.cells ∧ B.slots = A.slots + rm.slots) := by
  refine BackS.of_freeW (bytes := bytes) (maxL := maxL) (ret := ret) (E := fun _ _ o t L k n => k = rm.cells ∧ n = rm.slots ∧ ∃ v, o = .returned v ∧ Q v t.heap L) hM hf hl ?_ ?_ ?_ ?_ ?_
  · intro m meth c A a Y hp
    have hU : Z.Warmed39 A.U.vm := wtrans hZ Y.warmed
    exact ⟨by show (Cond.and _ .tt).before a A.U = true; rw [Cond.before_and, mv hU wc]; rfl, mv hU wc, mv hU wz, hp.2.2.1, hp.2.2.2⟩
  · intro m meth c A a g mk Y hp
    exact ⟨hp.1, wtrans hZ Y.warmed, hp.2.1, hV _ Y.warmed⟩
  · intros; trivial
  · rintro _ _ _ _ ⟨v, L, h1, h2, h3⟩
    exact ⟨L, _, _, h3, rfl, rfl, v, h1, h2⟩
  · rintro m meth c A a g mk v t L k n Y hp _ _ ⟨e1, e2, v', e3, e4⟩
    cases e3; subst e1 e2; exact ⟨L, e4, rfl, rfl, rfl⟩
end Ib
def own_EndV (p : Program) (e : Env) (below : List Frame) (s : State) (Q : Option Value → Heap → List Loc → Vm → Prop) (C S : Nat) (B : State) : Prop :=
  ∃ s₂ o, Steps p.tables e below B s₂ ∧ s₂.status = .running ∧ Ended s₂ below o ∧ ∃ v L, o = .returned v ∧ Q v s₂.heap L s₂.vm ∧ ReturnedEndW s o s₂ L C S
section LeafV
variable {p : Program} {l : Launch} {e : Env} {R : Room} {s : State} {m : MethodId} {args : Array Value} {below : List Frame} {meth : Method} {c : Code} {T : State} {locs : List Loc} {cells slots : Nat}
theorem own_bodyV {A A' : State} {Q : Option Value → Heap → List Loc → Vm → Prop} {C S : Nat} (q : ∀ t, Steps p.tables e below A t → Steps p.tables e below A' t) (h : own_Go p e below A (own_EndV p e below s Q C S)) :
    ∃ s₂ o, Steps p.tables e below A' s₂ ∧ s₂.status = .running ∧ Ended s₂ below o ∧ ∃ v L, o = .returned v ∧ Q v s₂.heap L s₂.vm ∧ ReturnedEndW s o s₂ L C S := by
  obtain ⟨B, h1, s₂, o, h2, h3⟩ := h
  exact ⟨s₂, o, q _ (h1 _ h2), h3⟩
theorem own_leafVV {vm₁ : Vm} (X : Stand p l e R (s.setVm vm₁) m args below meth c T locs cells slots) (hx : p.tables.exec = Jvm.exec) (hlk : meth.locks = false) {n : Nat} (hS : s.Since vm₁ n) (hk : n ≤ T.heap.size) {pc : Nat} {Ls : Array Slot} (hret : meth.sig.returnType = none)
    (hd : decode c.code pc = .ok (.return_, 1)) {Q : Option Value → Heap → List Loc → Vm → Prop} {C S : Nat} (hC : cells ≤ C) (hS' : slots ≤ S) (hq : Q none T.heap locs T.vm) : own_Go p e below (T.setTop (mkF m pc Ls [])) (own_EndV p e below s Q C S) := by
  obtain ⟨fs, hr, hrun, hended, h1, h2, h3, hsame⟩ := X.leaveW hS hk (v := none) (fun _ => rfl) hlk
  exact own_done ⟨_, _, X.returnOut hx hret hd hr, hrun, hended, _, _, rfl, hq, h1, h2, h3, hsame.mono hC hS'⟩
theorem own_leafXV {vm₁ : Vm} (X : Stand p l e R (s.setVm vm₁) m args below meth c T locs cells slots) (hx : p.tables.exec = Jvm.exec) (hlk : meth.locks = false) {n : Nat} (hS : s.Since vm₁ n) (hk : n ≤ T.heap.size) {pc : Nat} {Ls : Array Slot} {w : Value} {t : FieldType} {i : Instr} {rest : List Value} (hret : meth.sig.returnType = some t) (hn : narrow t w = w)
    (hi : (i = .ireturn ∧ (t = .int ∨ t = .boolean ∨ t = .byte ∨ t = .char ∨ t = .short) ∧ ∃ z, w = .int z) ∨ (i = .lreturn ∧ t = .long ∧ ∃ z, w = .long z) ∨ (i = .dreturn ∧ t = .double ∧ ∃ z, w = .double z) ∨ (i = .freturn ∧ t = .float ∧ ∃ z, w = .float z) ∨ (i = .areturn ∧ t.isReference = true ∧ w.isRef = true))
    (hd : decode c.code pc = .ok (i, 1)) {Q : Option Value → Heap → List Loc → Vm → Prop} {C S : Nat} (hC : cells ≤ C) (hS' : slots ≤ S) (hq : Q (some w) T.heap locs T.vm) : own_Go p e below (T.setTop (mkF m pc Ls (w :: rest))) (own_EndV p e below s Q C S) := by
  obtain ⟨fs, hr, hrun, hended, h1, h2, h3, hsame⟩ := X.leaveW hS hk (v := some w) (fun h => by rw [hret] at h; cases h) hlk
  exact own_done ⟨_, _, retOut X hx hret hn hi hd hr, hrun, hended, _, _, rfl, hq, h1, h2, h3, hsame.mono hC hS'⟩
theorem own_ldcS2 {vm0 : Vm} {Z : State} {a0 : Array Value} {h : Heap} (X : Stand p l e R (s.setVm vm0) m args below meth c T locs cells slots) (hx : p.tables.exec = Jvm.exec) (hZ : Z.Warmed39 vm0) {own text : String} {index : Nat} (hown : vm0.findClass own = some m.cls) (w : (Cond.stringLink own index text).before a0 Z = true) (wS : ∀ a ∈ Bundle.stringAtoms, a.before a0 Z = true)
    (eT : T.heap = h) {k0 : Nat} (hS : s.Since vm0 k0) (hk : k0 ≤ h.size) {g : JFrame} (hg : g.method = m) (hd : decode c.code g.pc = .ok (.ldc index, 2)) {n : Nat} (hn : 4 * text.toList.length ≤ n) (hbig : n ≤ 536870912) (hc : cells + 2 ≤ R.cells) (hl : slots + (n + 4) ≤ R.slots) :
    ∃ (a : Addr) (T' : State) (h' : Heap) (k1 : Nat), Stand p l e R (s.setVm T'.vm) m args below meth c T' locs (cells + 2) (slots + (n + 4)) ∧ T'.heap = h' ∧ Ext h h' ∧ s.Since T'.vm k1 ∧ k1 ≤ h'.size ∧ Z.Warmed39 (s.setVm T'.vm).vm ∧ (s.setVm T'.vm).vm.findClass own = some m.cls ∧ (s.setVm vm0).Warmed39 T'.vm ∧
      ∀ target, Steps p.tables e below (T'.setTop { g with pc := g.pc + 2, stack := .ref a :: g.stack }) target → Steps p.tables e below (T.setTop g) target := by
  obtain ⟨a, T', h', k1, X', e', E, hS', hk', hZ', hown', st⟩ := ldcS (s := s.setVm vm0) (vm0 := vm0) X hx hZ hown w wS eT ((State.WarmedH.refl (s.setVm vm0)).since h.size) (Nat.le_refl _) hg hd hn hbig hc hl
  exact ⟨a, T', h', h'.size, X', e', E, hS.trans ⟨hS'.1, hS'.2.mono hk'⟩ (Nat.le_trans hk E.1), Nat.le_refl _, hZ', hown', hS'.1, st⟩
theorem own_litL {Z s : State} {vm vm' : Vm} {own : String} {i : Nat} {a : Addr} (L : Lit (s.setVm vm) own i a) (h : (s.setVm vm).WarmedH vm') : Lit (Z.setVm vm') own i a := Lit.stays (s := s) L h.wide
end LeafV

theorem own_b8 (x : Int32) : x.toInt8.toInt32.toInt8.toInt32 = x.toInt8.toInt32 := by simp
def own_U (c : Int32) : Prop := ¬ c < 0 ∧ ¬ (65535 : Int32) < c
def own_m (x : Int32) : Int32 := (x &&& (65535 : Int32)).toUInt32.toUInt16.toUInt32.toInt32
def own_ch (x : Int32) : Int32 := nar .char (own_m x)
def own_gc (x : Int32) : Int32 := ((((x >>> ((0 : Int32) &&& 31)).toInt8.toInt32.toInt8.toInt32 &&& (255 : Int32)) <<< ((0 : Int32) &&& 31)) ||| (((x >>> ((8 : Int32) &&& 31)).toInt8.toInt32.toInt8.toInt32 &&& (255 : Int32)) <<< ((8 : Int32) &&& 31))).toUInt32.toUInt16.toUInt32.toInt32
theorem own_gcx {x : Int32} (h : own_U x) : own_gc x = x := by
  have q := StrChars.pair_says h.1 h.2
  unfold own_gc
  rw [own_b8, own_b8, StrChars.shr0]
  exact q
theorem own_16 (y : UInt16) : own_U y.toUInt32.toInt32 := by
  have e : y.toUInt32.toInt32 = Int32.ofNat y.toNat := by
    apply Int32.toBitVec_inj.mp
    apply BitVec.eq_of_toNat_eq
    have h : y.toNat < 65536 := y.toNat_lt
    show y.toUInt32.toBitVec.toNat = (BitVec.ofNat 32 y.toNat).toNat
    rw [BitVec.toNat_ofNat, Nat.mod_eq_of_lt (by omega)]
    exact UInt16.toNat_toUInt32 y
  have h : y.toNat < 65536 := y.toNat_lt
  have a : (0 : Int32).toInt = 0 := rfl
  have b : (65535 : Int32).toInt = 65535 := rfl
  unfold own_U
  rw [e, own_lt, own_lt, Int32.toInt_ofNat_of_lt (by omega), a, b]
  omega
theorem own_chU (x : Int32) : own_U (own_ch x) := own_16 _
theorem own_nn16 (z : Int32) : narrow .char (.int z.toUInt32.toUInt16.toUInt32.toInt32) = .int z.toUInt32.toUInt16.toUInt32.toInt32 := by
  obtain ⟨h0, h1⟩ := own_16 z.toUInt32.toUInt16
  exact StrChars.narrow_ch h0 h1
theorem own_in4 {i : Int32} (h1 : ¬ i < 0) (h2 : i < 4) : i = 0 ∨ i = 1 ∨ i = 2 ∨ i = 3 := by
  simp only [Int32.lt_iff_toInt_lt] at h1 h2
  have e : i = Int32.ofInt i.toInt := by simp
  have : i.toInt = 0 ∨ i.toInt = 1 ∨ i.toInt = 2 ∨ i.toInt = 3 := by
    have a : (0 : Int32).toInt = 0 := rfl
    have b : (4 : Int32).toInt = 4 := rfl
    omega
  rcases this with q | q | q | q <;> rw [q] at e
  · exact Or.inl e
  · exact Or.inr (Or.inl e)
  · exact Or.inr (Or.inr (Or.inl e))
  · exact Or.inr (Or.inr (Or.inr e))
def own_B1 (a : Int32) : Prop := (255 : Int32) < a
def own_B2 (a b : Int32) : Prop := (255 : Int32) < a ∨ (¬ (255 : Int32) < a ∧ (255 : Int32) < b)
def own_B3 (a b c : Int32) : Prop := (255 : Int32) < a ∨ (¬ (255 : Int32) < a ∧ (255 : Int32) < b) ∨ (¬ (255 : Int32) < a ∧ ¬ (255 : Int32) < b ∧ (255 : Int32) < c)
theorem own_bs1 (a : Int32) : own_B1 a ∨ ¬ (255 : Int32) < a := Classical.em _
theorem own_bs2 (a b : Int32) : own_B2 a b ∨ (¬ (255 : Int32) < a ∧ ¬ (255 : Int32) < b) := by
  by_cases h : (255 : Int32) < a
  · exact Or.inl (Or.inl h)
  · by_cases g : (255 : Int32) < b
    · exact Or.inl (Or.inr ⟨h, g⟩)
    · exact Or.inr ⟨h, g⟩
theorem own_bs3 (a b c : Int32) : own_B3 a b c ∨ (¬ (255 : Int32) < a ∧ ¬ (255 : Int32) < b ∧ ¬ (255 : Int32) < c) := by
  by_cases h : (255 : Int32) < a
  · exact Or.inl (Or.inl h)
  · by_cases g : (255 : Int32) < b
    · exact Or.inl (Or.inr (Or.inl ⟨h, g⟩))
    · by_cases i : (255 : Int32) < c
      · exact Or.inl (Or.inr (Or.inr ⟨h, g, i⟩))
      · exact Or.inr ⟨h, g, i⟩
theorem own_b3 (x : Int32) : (x &&& (3 : Int32)) = 0 ∨ (x &&& (3 : Int32)) = 1 ∨ (x &&& (3 : Int32)) = 2 ∨ (x &&& (3 : Int32)) = 3 := by
  have h : (x &&& 3).toBitVec.toNat < 4 := by
    simp only [Int32.toBitVec_and, BitVec.toNat_and]
    exact Nat.lt_succ_of_le Nat.and_le_right
  have e : (x &&& 3) = Int32.ofNat (x &&& 3).toBitVec.toNat := by
    apply Int32.toBitVec_inj.mp
    show _ = BitVec.ofNat 32 _
    rw [BitVec.ofNat_toNat]; simp
  have q : ¬ (x &&& 3) < 0 ∧ (x &&& 3) < (4 : Int32) := by
    rw [e]
    exact (by decide +kernel : ∀ k : Fin 4, ¬ (Int32.ofNat k.val) < 0 ∧ (Int32.ofNat k.val) < (4 : Int32)) ⟨_, h⟩
  exact own_in4 q.1 q.2
abbrev sAA : String := "java/lang/String"
abbrev sAB : String := "java/lang/StringUTF16"
abbrev sAC : String := "portcullis/xml/XmlElement"
abbrev sAD : String := "portcullis/xml/XmlElementRequireNamePinLaw"
abbrev sAE : String := "(Ljava/lang/String;)Lportcullis/xml/XmlElement;"
abbrev sAF : String := "(IIII)Ljava/lang/String;"
abbrev sAG : String := "([CIILjava/lang/Void;)V"
abbrev sAH : String := "$assertionsDisabled"
abbrev sAI : String := "java/lang/StringLatin1"
abbrev sAJ : String := "(Ljava/lang/Object;)Z"
abbrev sAK : String := "java/lang/StringBuilder"
abbrev sAL : String := "()Ljava/lang/String;"
abbrev sAM : String := "java/util/LinkedHashMap"
abbrev sAN : String := "coderFromArrayLen"
abbrev sAO : String := "java/lang/AbstractStringBuilder"
abbrev sAP : String := "Ljava/lang/String;"
abbrev sAQ : String := "java/util/ArrayList"
abbrev sAR : String := "(Ljava/lang/String;)V"
theorem own_pn0 : plainName "java/lang/StringUTF16" = true := by first | (simp [plainName, overriddenIn]; done) | decide +kernel
theorem own_d23_0 : decode jdk_52_method_3_code 0 = .ok (.iload_n 0, 1) := by decide +kernel
theorem own_d23_1 : decode jdk_52_method_3_code 1 = .ok (.ifCond .ge 11, 3) := by decide +kernel
theorem own_d23_12 : decode jdk_52_method_3_code 12 = .ok (.iload_n 0, 1) := by decide +kernel
theorem own_d23_13 : decode jdk_52_method_3_code 13 = .ok (.ldc 20, 2) := by decide +kernel
theorem own_d23_15 : decode jdk_52_method_3_code 15 = .ok (.if_icmp .lt 40, 3) := by decide +kernel
theorem own_d23_55 : decode jdk_52_method_3_code 55 = .ok (.iload_n 0, 1) := by decide +kernel
theorem own_d23_56 : decode jdk_52_method_3_code 56 = .ok (.iconst 1, 1) := by decide +kernel
theorem own_d23_57 : decode jdk_52_method_3_code 57 = .ok (.ishl, 1) := by decide +kernel
theorem own_d23_58 : decode jdk_52_method_3_code 58 = .ok (.ireturn, 1) := by decide +kernel
theorem own_efNL1 (m : MethodId) (x0 : Int32) : entryFrame m #[(.int x0)] 1 = mkF m 0 #[iv x0] [] := by first | (simp [entryFrame, mkF, argsToLocals, Value.category]; done) | rfl
def QNL1 (Z : State)  (h0 : Heap) (n0 : Nat) (v : Option Value) (h : Heap) (L : List Loc) : Prop := v = some (.int (2 : Int32)) ∧ Fr n0 L ∧ h = h0
set_option maxRecDepth 65536 in
set_option maxHeartbeats 40000000 in
theorem rmNL1 (l : Launch) (Z : State) (a0 : Array Value) (hw : ∀ d ∈ tables_1, d.before a0 Z = true) (ws : List Jvm.Cond)  (h0 : Heap) (n0 : Nat) (Z0 : n0 ≤ h0.size) :
    MetFree l (⟨sAB, "newBytesLength", "(I)I"⟩ : MethodName) (head1 (Jvm.Cond.code (⟨sAB, "newBytesLength", "(I)I"⟩ : MethodName) jdk_52_method_3_code 1 (some .int) :: ws) (oR 0 0 0 0)) (fun a U => a = #[(.int 1)] ∧ Z.Warmed39 U.vm ∧ U.heap = h0) (fun _ _ _ _ _ => True) (fun _ U o U' => ∃ v L, o = .returned v ∧ QNL1 Z  h0 n0 v U'.heap L ∧ FrameEnd U o U' L (oR 0 0 0 0).cells (oR 0 0 0 0).slots) := by
  refine MetFree.of_bodySF (plainFor_of_name own_pn0) hisR ?_
  intro p e s m args below meth c s₁ Bd hml0 hP hK
  obtain ⟨rfl, hZ, hh⟩ := hP
  have hx := Bd.exec
  have hby := Bd.bytes
  have hlk : meth.locks = false := Bd.notSynchronized
  have hml : c.maxLocals = 1 := hml0
  have hown : s.vm.findClass sAB = some m.cls := findClass_of_methodNamed Bd.named
  have hnm := (name_of_methodNamed Bd.named Bd.method).1
  have X0 : Stand p l e (oR 0 0 0 0) s m #[(.int 1)] below meth c s₁ [] 0 0 := Stand.of_body Bd
  have e0 : s₁.heap = h0 := by rw [← hh, Bd.state]; rfl
  have N0 := Fr.nil n0
  refine own_body (A := s₁.setTop (mkF m 0 #[iv 1] [])) (Q := QNL1 Z  h0 n0) (fun t k => castTop (own_efNL1 m (1 : Int32)) k) ?_
  refine oILN (n := 1) X0 hx (hb hby own_d23_0) rfl rfl ?_
  have hc1 : ¬ ((1 : Int32) < (0 : Int32)) := by decide
  refine ov (B := s₁.setTop (mkF m 12 #[iv 1] [])) (fun t k => XS.ifYes X0.here hx rfl (pc0 := 1) (pc' := 12) rfl (hb hby own_d23_1) rfl ((if0 _ _).trans (flt hc1).2.1) (by decide) (by decide) k) ?_
  refine oILN (n := 13) X0 hx (hb hby own_d23_12) rfl rfl ?_
  refine ov (B := s₁.setTop (mkF m 15 #[iv 1] [(.int 1073741823), (.int 1)])) (fun t k => X0.ldcInt hx hown (mvT hZ (oW hw 150 rfl)) (g := (mkF m 13 #[iv 1] [(.int 1)])) rfl (hb hby own_d23_13) _ k) ?_
  have hc15 : (1 : Int32) < (1073741823 : Int32) := by decide
  refine ov (B := s₁.setTop (mkF m 55 #[iv 1] [])) (fun t k => XS.icmpYes X0.here hx rfl (pc0 := 15) (pc' := 55) rfl (hb hby own_d23_15) rfl (tlt hc15).1 (by decide) (by decide) k) ?_
  refine oILN (n := 56) X0 hx (hb hby own_d23_55) rfl rfl ?_
  refine oIC (n := 57) X0 hx (1 : Int32) (hb hby own_d23_56) (by decide) rfl ?_
  refine ov (B := s₁.setTop (mkF m 58 #[iv 1] [(.int 2)])) (fun t k => XS.ishl X0.here hx rfl (hb hby own_d23_57) rfl (by rw [(by decide : ((1 : Int32) <<< ((1 : Int32) &&& 31)) = (2 : Int32))]; exact k)) ?_
  refine own_leaf X0 hx hlk (t := .int) Bd.returns rfl (Or.inl ⟨rfl, by simp, _, rfl⟩) (hb hby own_d23_58) (by decide) (by decide) ?_
  show QNL1 Z  h0 n0 _ s₁.heap _
  rw [e0]
  refine ⟨?_, N0, rfl⟩
  rfl
theorem own_pd0 : parseMethodDescriptor "(I)I" = some ⟨[.int], some .int⟩ := by decide +kernel
theorem own_d22_0 : decode jdk_52_method_2_code 0 = .ok (.iload_n 0, 1) := by decide +kernel
theorem own_d22_1 : decode jdk_52_method_2_code 1 = .ok (.invokestatic 11, 3) := by decide +kernel
theorem own_d22_4 : decode jdk_52_method_2_code 4 = .ok (.newarray .byte, 2) := by decide +kernel
theorem own_d22_6 : decode jdk_52_method_2_code 6 = .ok (.areturn, 1) := by decide +kernel
theorem own_efNF1 (m : MethodId) (x0 : Int32) : entryFrame m #[(.int x0)] 1 = mkF m 0 #[iv x0] [] := by first | (simp [entryFrame, mkF, argsToLocals, Value.category]; done) | rfl
def QNF1 (Z : State)  (h0 : Heap) (n0 : Nat) (v : Option Value) (h : Heap) (L : List Loc) : Prop := ∃ (r : Addr) (kr : ClassId), v = some (.ref r) ∧ Fr n0 L ∧ Keep h0 h [] ∧ (h0.size ≤ r) ∧ (Arv Z h r kr .byte (2 : Int32) [(.int (0 : Int32)), (.int (0 : Int32))] (.int (0 : Int32)))
set_option maxRecDepth 65536 in
set_option maxHeartbeats 40000000 in
theorem rmNF1 (l : Launch) (Z : State) (a0 : Array Value) (hw : ∀ d ∈ tables_1, d.before a0 Z = true) (ws : List Jvm.Cond)  (h0 : Heap) (n0 : Nat) (Z0 : n0 ≤ h0.size) :
    MetFree l (⟨sAB, "newBytesFor", "(I)[B"⟩ : MethodName) (head1 (Jvm.Cond.code (⟨sAB, "newBytesFor", "(I)[B"⟩ : MethodName) jdk_52_method_2_code 1 (some (.array .byte)) :: ws) (oR 1 1 2 16)) (fun a U => a = #[(.int 1)] ∧ Z.Warmed39 U.vm ∧ U.heap = h0) (fun _ _ _ _ _ => True) (fun _ U o U' => ∃ v L, o = .returned v ∧ QNF1 Z  h0 n0 v U'.heap L ∧ FrameEnd U o U' L (oR 1 1 2 16).cells (oR 1 1 2 16).slots) := by
  refine MetFree.of_bodySF (plainFor_of_name own_pn0) hisR ?_
  intro p e s m args below meth c s₁ Bd hml0 hP hK
  obtain ⟨rfl, hZ, hh⟩ := hP
  have hx := Bd.exec
  have hby := Bd.bytes
  have hlk : meth.locks = false := Bd.notSynchronized
  have hml : c.maxLocals = 1 := hml0
  have hown : s.vm.findClass sAB = some m.cls := findClass_of_methodNamed Bd.named
  have hnm := (name_of_methodNamed Bd.named Bd.method).1
  have X0 : Stand p l e (oR 1 1 2 16) s m #[(.int 1)] below meth c s₁ [] 0 0 := Stand.of_body Bd
  have e0 : s₁.heap = h0 := by rw [← hh, Bd.state]; rfl
  have N0 := Fr.nil n0
  refine own_body (A := s₁.setTop (mkF m 0 #[iv 1] [])) (Q := QNF1 Z  h0 n0) (fun t k => castTop (own_efNF1 m (1 : Int32)) k) ?_
  refine oILN (n := 1) X0 hx (hb hby own_d22_0) rfl rfl ?_
  obtain ⟨_, _, ⟨T1, L1, k1, n1⟩, -, X1, ⟨Lc1, hQ1, l1, y1, z1⟩, st1⟩ := Jvm.LawKit.callS X0 hx (y := (⟨sAB, "newBytesLength", "(I)I"⟩ : MethodName)) hown (mvT hZ (oW hw 147 rfl)) (mvT hZ (oW hw 148 rfl)) (mvT hZ (oW hw 133 rfl)) (mvT hZ (oW hw 149 rfl)) (by decide) (backOf (W := 0) (rmNL1 l Z a0 hw []  h0 n0 Z0 ) hZ (oW hw 149 rfl) (oW hw 133 rfl) (by decide) (by decide)) (g := (mkF m 1 #[iv 1] [(.int 1)])) rfl (by rw [hml]; rfl) (argsL := [(.int 1)]) (rest := []) (lenOf own_pd0 rfl) rfl (by show 2 * 0 + _ ≤ _; exact Nat.le_of_eq rfl) (hb hby own_d22_1) (fun _ _ => ⟨rfl, e0, (by decide : 0 + 0 ≤ _), (by decide : 0 + 0 ≤ _)⟩)
  dsimp only [Pt.U, Pt.locs, Pt.cells, Pt.slots] at X1 l1 y1 z1 st1 hQ1
  subst l1 y1 z1
  obtain ⟨rfl, Nq1, eq1⟩ := hQ1
  have N1 := Fr.app N0 Nq1
  refine ov (B := T1.setTop (mkF m 4 #[iv 1] [(.int 2)])) (fun t k => st1 t k) ?_
  obtain ⟨T2, h2, kc2, X2, e2, E2, A2, st2⟩ := newP X1 hx hZ (oW hw 20 rfl) eq1 (g := (mkF m 4 #[iv 1] [(.int 2)])) rfl (hb hby own_d22_4) rfl (by decide) (cap := 2) (by decide) (by decide) (by decide) (by decide)
  obtain ⟨b2, g2⟩ : ∃ z, z = h0.size := ⟨_, rfl⟩
  rw [← g2] at A2 st2
  have g_b2 : n0 ≤ b2 := Nat.le_trans Z0 (Nat.le_of_eq g2.symm)
  have V2 : Arv Z h2 b2 kc2 .byte (2 : Int32) [(.int 0), (.int 0)] (.int 0) := (Arv.new A2 (by decide)).pad (pad_rep [] (.int 0) 2)
  refine ov (B := T2.setTop (mkF m 6 #[iv 1] [(.ref b2)])) (fun t k => st2 t k) ?_
  refine own_leaf X2 hx hlk (t := (.array .byte)) Bd.returns rfl (Or.inr (Or.inr (Or.inr (Or.inr ⟨rfl, rfl, rfl⟩)))) (hb hby own_d22_6) (by decide) (by decide) ?_
  show QNF1 Z  h0 n0 _ T2.heap _
  rw [e2]
  refine ⟨b2, kc2, ?_, N1, ((Keep.refl h0 []).ext E2), ?_, V2⟩
  · rfl
  · exact (Nat.le_of_eq g2.symm)
theorem own_d24_0 : decode jdk_52_method_4_code 0 = .ok (.getstatic 44, 3) := by decide +kernel
theorem own_d24_3 : decode jdk_52_method_4_code 3 = .ok (.ifCond .ne 25, 3) := by decide +kernel
theorem own_d24_28 : decode jdk_52_method_4_code 28 = .ok (.iload_n 1, 1) := by decide +kernel
theorem own_d24_29 : decode jdk_52_method_4_code 29 = .ok (.iconst 1, 1) := by decide +kernel
theorem own_d24_30 : decode jdk_52_method_4_code 30 = .ok (.ishl, 1) := by decide +kernel
theorem own_d24_31 : decode jdk_52_method_4_code 31 = .ok (.istore_n 1, 1) := by decide +kernel
theorem own_d24_32 : decode jdk_52_method_4_code 32 = .ok (.aload_n 0, 1) := by decide +kernel
theorem own_d24_33 : decode jdk_52_method_4_code 33 = .ok (.iload_n 1, 1) := by decide +kernel
theorem own_d24_34 : decode jdk_52_method_4_code 34 = .ok (.iinc 1 1, 3) := by decide +kernel
theorem own_d24_37 : decode jdk_52_method_4_code 37 = .ok (.iload_n 2, 1) := by decide +kernel
theorem own_d24_38 : decode jdk_52_method_4_code 38 = .ok (.getstatic 59, 3) := by decide +kernel
theorem own_d24_41 : decode jdk_52_method_4_code 41 = .ok (.ishr, 1) := by decide +kernel
theorem own_d24_42 : decode jdk_52_method_4_code 42 = .ok (.i2b, 1) := by decide +kernel
theorem own_d24_43 : decode jdk_52_method_4_code 43 = .ok (.bastore, 1) := by decide +kernel
theorem own_d24_44 : decode jdk_52_method_4_code 44 = .ok (.aload_n 0, 1) := by decide +kernel
theorem own_d24_45 : decode jdk_52_method_4_code 45 = .ok (.iload_n 1, 1) := by decide +kernel
theorem own_d24_46 : decode jdk_52_method_4_code 46 = .ok (.iload_n 2, 1) := by decide +kernel
theorem own_d24_47 : decode jdk_52_method_4_code 47 = .ok (.getstatic 63, 3) := by decide +kernel
theorem own_d24_50 : decode jdk_52_method_4_code 50 = .ok (.ishr, 1) := by decide +kernel
theorem own_d24_51 : decode jdk_52_method_4_code 51 = .ok (.i2b, 1) := by decide +kernel
theorem own_d24_52 : decode jdk_52_method_4_code 52 = .ok (.bastore, 1) := by decide +kernel
theorem own_d24_53 : decode jdk_52_method_4_code 53 = .ok (.return_, 1) := by decide +kernel
theorem own_efPC10 (m : MethodId) (x0 : Addr) (x1 : Int32) (x2 : Int32) : entryFrame m #[(.ref x0), (.int x1), (.int x2)] 3 = mkF m 0 #[rv x0, iv x1, iv x2] [] := by first | (simp [entryFrame, mkF, argsToLocals, Value.category]; done) | rfl
def QPC10 (Z : State) (bP : Addr) (cP : Int32) (kp : ClassId) (yA : Int32) (yB : Int32) (h0 : Heap) (n0 : Nat) (v : Option Value) (h : Heap) (L : List Loc) : Prop := v = none ∧ Fr n0 L ∧ Keep h0 h [bP] ∧ (Arv Z h bP kp .byte (2 : Int32) [(.int (cP >>> ((0 : Int32) &&& 31)).toInt8.toInt32.toInt8.toInt32), (.int (cP >>> ((8 : Int32) &&& 31)).toInt8.toInt32.toInt8.toInt32)] (.int (0 : Int32)))
set_option maxRecDepth 65536 in
set_option maxHeartbeats 40000000 in
theorem rmPC10 (l : Launch) (Z : State) (a0 : Array Value) (hw : ∀ d ∈ tables_1, d.before a0 Z = true) (ws : List Jvm.Cond) (bP : Addr) (cP : Int32) (kp : ClassId) (yA : Int32) (yB : Int32) (h0 : Heap) (n0 : Nat) (Z0 : n0 ≤ h0.size) (O0 : Old Z n0 h0) (SA : Sta Z Z.heap sAB sAH "Z" (.int (1 : Int32))) (SH : Sta Z Z.heap sAB "HI_BYTE_SHIFT" "I" (.int (0 : Int32))) (SL : Sta Z Z.heap sAB "LO_BYTE_SHIFT" "I" (.int (8 : Int32))) (Vp : Arv Z h0 bP kp .byte (2 : Int32) [(.int yA), (.int yB)] (.int (0 : Int32))) (g_bP : n0 ≤ bP) :
    MetFree l (⟨sAB, "putChar", "([BII)V"⟩ : MethodName) (head1 (Jvm.Cond.code (⟨sAB, "putChar", "([BII)V"⟩ : MethodName) jdk_52_method_4_code 3 none :: ws) (oR 0 0 0 0)) (fun a U => a = #[(.ref bP), (.int 0), (.int cP)] ∧ Z.Warmed39 U.vm ∧ U.heap = h0) (fun _ _ _ _ _ => True) (fun _ U o U' => ∃ v L, o = .returned v ∧ QPC10 Z bP cP kp yA yB h0 n0 v U'.heap L ∧ FrameEnd U o U' L (oR 0 0 0 0).cells (oR 0 0 0 0).slots) := by
  refine MetFree.of_bodySF (plainFor_of_name own_pn0) hisR ?_
  intro p e s m args below meth c s₁ Bd hml0 hP hK
  obtain ⟨rfl, hZ, hh⟩ := hP
  have hx := Bd.exec
  have hby := Bd.bytes
  have hlk : meth.locks = false := Bd.notSynchronized
  have hml : c.maxLocals = 3 := hml0
  have hown : s.vm.findClass sAB = some m.cls := findClass_of_methodNamed Bd.named
  have hnm := (name_of_methodNamed Bd.named Bd.method).1
  have X0 : Stand p l e (oR 0 0 0 0) s m #[(.ref bP), (.int 0), (.int cP)] below meth c s₁ [] 0 0 := Stand.of_body Bd
  have e0 : s₁.heap = h0 := by rw [← hh, Bd.state]; rfl
  have N0 := Fr.nil n0
  refine own_body (A := s₁.setTop (mkF m 0 #[rv bP, iv 0, iv cP] [])) (Q := QPC10 Z bP cP kp yA yB h0 n0) (fun t k => castTop (own_efPC10 m bP (0 : Int32) cP) k) ?_
  obtain ⟨T1, X1, e1, st1⟩ := getS2 X0 hx hZ hown (host := "") (Or.inl (oW hw 154 rfl)) Via.refl e0 (SA.ext O0.2) (g := (mkF m 0 #[rv bP, iv 0, iv cP] [])) rfl (hb hby own_d24_0)
  refine ov (B := T1.setTop (mkF m 3 #[rv bP, iv 0, iv cP] [(.int 1)])) (fun t k => st1 t k) ?_
  have hc3 : ¬ ((1 : Int32) = (0 : Int32)) := by decide
  refine ov (B := T1.setTop (mkF m 28 #[rv bP, iv 0, iv cP] [])) (fun t k => XS.ifYes X1.here hx rfl (pc0 := 3) (pc' := 28) rfl (hb hby own_d24_3) rfl ((if0 _ _).trans (feq hc3).2) (by decide) (by decide) k) ?_
  refine oILN (n := 29) X1 hx (hb hby own_d24_28) rfl rfl ?_
  refine oIC (n := 30) X1 hx (1 : Int32) (hb hby own_d24_29) (by decide) rfl ?_
  refine ov (B := T1.setTop (mkF m 31 #[rv bP, iv 0, iv cP] [(.int 0)])) (fun t k => XS.ishl X1.here hx rfl (hb hby own_d24_30) rfl (by rw [(by decide : ((0 : Int32) <<< ((1 : Int32) &&& 31)) = (0 : Int32))]; exact k)) ?_
  refine ov (B := T1.setTop (mkF m 32 #[rv bP, iv 0, iv cP] [])) (fun t k => XS.istoreN X1.here hx rfl (hb hby own_d24_31) rfl (l' := #[rv bP, iv 0, iv cP]) rfl k) ?_
  refine oALN (n := 33) X1 hx (hb hby own_d24_32) rfl rfl rfl ?_
  refine oILN (n := 34) X1 hx (hb hby own_d24_33) rfl rfl ?_
  refine ov (B := T1.setTop (mkF m 37 #[rv bP, iv 1, iv cP] [(.int 0), (.ref bP)])) (fun t k => XS.iinc X1.here hx rfl (hb hby own_d24_34) rfl (l' := #[rv bP, iv 1, iv cP]) rfl k) ?_
  refine oILN (n := 38) X1 hx (hb hby own_d24_37) rfl rfl ?_
  obtain ⟨T2, X2, e2, st2⟩ := getS2 X1 hx hZ hown (host := "") (Or.inl (oW hw 155 rfl)) Via.refl e1 (SH.ext O0.2) (g := (mkF m 38 #[rv bP, iv 1, iv cP] [(.int cP), (.int 0), (.ref bP)])) rfl (hb hby own_d24_38)
  refine ov (B := T2.setTop (mkF m 41 #[rv bP, iv 1, iv cP] [(.int 0), (.int cP), (.int 0), (.ref bP)])) (fun t k => st2 t k) ?_
  refine ov (B := T2.setTop (mkF m 42 #[rv bP, iv 1, iv cP] [(.int (cP >>> ((0 : Int32) &&& 31))), (.int 0), (.ref bP)])) (fun t k => XS.ishr X2.here hx rfl (hb hby own_d24_41) rfl k) ?_
  refine ov (B := T2.setTop (mkF m 43 #[rv bP, iv 1, iv cP] [(.int ((cP >>> ((0 : Int32) &&& 31)).toInt8.toInt32)), (.int 0), (.ref bP)])) (fun t k => XS.i2b X2.here hx rfl (hb hby own_d24_42) rfl k) ?_
  obtain ⟨cl3, Ar3, q3, S3, M3, H3, G3⟩ := id Vp
  obtain ⟨T4, h4, X4, e4, W4, st4⟩ := stB X2 hx hZ e2 Ar3 (j := (0 : Int32)) (inb_of S3 ⟨by decide, by decide⟩) (g := (mkF m 43 #[rv bP, iv 1, iv cP] [(.int ((cP >>> ((0 : Int32) &&& 31)).toInt8.toInt32)), (.int 0), (.ref bP)])) rfl rfl (hb hby own_d24_43)
  have V4 : Arv Z h4 bP kp .byte (2 : Int32) [(.int ((cP >>> ((0 : Int32) &&& 31)).toInt8.toInt32).toInt8.toInt32), (.int yB)] (.int 0) := Arv.set Ar3 q3 S3 M3 H3 G3 (fits_nar_byte _) W4 0 rfl (Nat.le_of_ble_eq_true rfl)
  have N4 := Fr.snoc X4 N0 g_bP
  refine ov (B := T4.setTop (mkF m 44 #[rv bP, iv 1, iv cP] [])) (fun t k => st4 t k) ?_
  refine oALN (n := 45) X4 hx (hb hby own_d24_44) rfl rfl rfl ?_
  refine oILN (n := 46) X4 hx (hb hby own_d24_45) rfl rfl ?_
  refine oILN (n := 47) X4 hx (hb hby own_d24_46) rfl rfl ?_
  obtain ⟨T5, X5, e5, st5⟩ := getS2 X4 hx hZ hown (host := "") (Or.inl (oW hw 156 rfl)) Via.refl e4 (SL.ext (O0.wr W4 g_bP).2) (g := (mkF m 47 #[rv bP, iv 1, iv cP] [(.int cP), (.int 1), (.ref bP)])) rfl (hb hby own_d24_47)
  refine ov (B := T5.setTop (mkF m 50 #[rv bP, iv 1, iv cP] [(.int 8), (.int cP), (.int 1), (.ref bP)])) (fun t k => st5 t k) ?_
  refine ov (B := T5.setTop (mkF m 51 #[rv bP, iv 1, iv cP] [(.int (cP >>> ((8 : Int32) &&& 31))), (.int 1), (.ref bP)])) (fun t k => XS.ishr X5.here hx rfl (hb hby own_d24_50) rfl k) ?_
  refine ov (B := T5.setTop (mkF m 52 #[rv bP, iv 1, iv cP] [(.int ((cP >>> ((8 : Int32) &&& 31)).toInt8.toInt32)), (.int 1), (.ref bP)])) (fun t k => XS.i2b X5.here hx rfl (hb hby own_d24_51) rfl k) ?_
  obtain ⟨cl6, Ar6, q6, S6, M6, H6, G6⟩ := id V4
  obtain ⟨T7, h7, X7, e7, W7, st7⟩ := stB X5 hx hZ e5 Ar6 (j := (1 : Int32)) (inb_of S6 ⟨by decide, by decide⟩) (g := (mkF m 52 #[rv bP, iv 1, iv cP] [(.int ((cP >>> ((8 : Int32) &&& 31)).toInt8.toInt32)), (.int 1), (.ref bP)])) rfl rfl (hb hby own_d24_52)
  have V7 : Arv Z h7 bP kp .byte (2 : Int32) [(.int ((cP >>> ((0 : Int32) &&& 31)).toInt8.toInt32).toInt8.toInt32), (.int ((cP >>> ((8 : Int32) &&& 31)).toInt8.toInt32).toInt8.toInt32)] (.int 0) := Arv.set Ar6 q6 S6 M6 H6 G6 (fits_nar_byte _) W7 1 rfl (Nat.le_of_ble_eq_true rfl)
  have N7 := Fr.snoc X7 N4 g_bP
  refine ov (B := T7.setTop (mkF m 53 #[rv bP, iv 1, iv cP] [])) (fun t k => st7 t k) ?_
  refine own_leafV X7 hx hlk Bd.returns (hb hby own_d24_53) (by decide) (by decide) ?_
  show QPC10 Z bP cP kp yA yB h0 n0 _ T7.heap _
  rw [e7]
  refine ⟨?_, N7, (((Keep.refl h0 [bP]).wr W4 (Or.inl (List.mem_of_getElem? (i := 0) rfl))).wr W7 (Or.inl (List.mem_of_getElem? (i := 0) rfl))), V7⟩
  rfl
theorem own_d25_0 : decode jdk_52_method_5_code 0 = .ok (.getstatic 44, 3) := by decide +kernel
theorem own_d25_3 : decode jdk_52_method_5_code 3 = .ok (.ifCond .ne 25, 3) := by decide +kernel
theorem own_d25_28 : decode jdk_52_method_5_code 28 = .ok (.iload_n 1, 1) := by decide +kernel
theorem own_d25_29 : decode jdk_52_method_5_code 29 = .ok (.iconst 1, 1) := by decide +kernel
theorem own_d25_30 : decode jdk_52_method_5_code 30 = .ok (.ishl, 1) := by decide +kernel
theorem own_d25_31 : decode jdk_52_method_5_code 31 = .ok (.istore_n 1, 1) := by decide +kernel
theorem own_d25_32 : decode jdk_52_method_5_code 32 = .ok (.aload_n 0, 1) := by decide +kernel
theorem own_d25_33 : decode jdk_52_method_5_code 33 = .ok (.iload_n 1, 1) := by decide +kernel
theorem own_d25_34 : decode jdk_52_method_5_code 34 = .ok (.iinc 1 1, 3) := by decide +kernel
theorem own_d25_37 : decode jdk_52_method_5_code 37 = .ok (.baload, 1) := by decide +kernel
theorem own_d25_38 : decode jdk_52_method_5_code 38 = .ok (.sipush 255, 3) := by decide +kernel
theorem own_d25_41 : decode jdk_52_method_5_code 41 = .ok (.iand, 1) := by decide +kernel
theorem own_d25_42 : decode jdk_52_method_5_code 42 = .ok (.getstatic 59, 3) := by decide +kernel
theorem own_d25_45 : decode jdk_52_method_5_code 45 = .ok (.ishl, 1) := by decide +kernel
theorem own_d25_46 : decode jdk_52_method_5_code 46 = .ok (.aload_n 0, 1) := by decide +kernel
theorem own_d25_47 : decode jdk_52_method_5_code 47 = .ok (.iload_n 1, 1) := by decide +kernel
theorem own_d25_48 : decode jdk_52_method_5_code 48 = .ok (.baload, 1) := by decide +kernel
theorem own_d25_49 : decode jdk_52_method_5_code 49 = .ok (.sipush 255, 3) := by decide +kernel
theorem own_d25_52 : decode jdk_52_method_5_code 52 = .ok (.iand, 1) := by decide +kernel
theorem own_d25_53 : decode jdk_52_method_5_code 53 = .ok (.getstatic 63, 3) := by decide +kernel
theorem own_d25_56 : decode jdk_52_method_5_code 56 = .ok (.ishl, 1) := by decide +kernel
theorem own_d25_57 : decode jdk_52_method_5_code 57 = .ok (.ior, 1) := by decide +kernel
theorem own_d25_58 : decode jdk_52_method_5_code 58 = .ok (.i2c, 1) := by decide +kernel
theorem own_d25_59 : decode jdk_52_method_5_code 59 = .ok (.ireturn, 1) := by decide +kernel
theorem own_efGC10 (m : MethodId) (x0 : Addr) (x1 : Int32) : entryFrame m #[(.ref x0), (.int x1)] 2 = mkF m 0 #[rv x0, iv x1] [] := by first | (simp [entryFrame, mkF, argsToLocals, Value.category]; done) | rfl
def QGC10 (Z : State) (bG : Addr) (kg : ClassId) (cG : Int32) (yA : Int32) (yB : Int32) (h0 : Heap) (n0 : Nat) (v : Option Value) (h : Heap) (L : List Loc) : Prop := v = some (.int (own_gc cG)) ∧ Fr n0 L ∧ h = h0
set_option maxRecDepth 65536 in
set_option maxHeartbeats 40000000 in
theorem rmGC10 (l : Launch) (Z : State) (a0 : Array Value) (hw : ∀ d ∈ tables_1, d.before a0 Z = true) (ws : List Jvm.Cond) (bG : Addr) (kg : ClassId) (cG : Int32) (yA : Int32) (yB : Int32) (h0 : Heap) (n0 : Nat) (Z0 : n0 ≤ h0.size) (O0 : Old Z n0 h0) (SA : Sta Z Z.heap sAB sAH "Z" (.int (1 : Int32))) (SH : Sta Z Z.heap sAB "HI_BYTE_SHIFT" "I" (.int (0 : Int32))) (SL : Sta Z Z.heap sAB "LO_BYTE_SHIFT" "I" (.int (8 : Int32))) (Vg : Arv Z h0 bG kg .byte (2 : Int32) [(.int (cG >>> ((0 : Int32) &&& 31)).toInt8.toInt32.toInt8.toInt32), (.int (cG >>> ((8 : Int32) &&& 31)).toInt8.toInt32.toInt8.toInt32)] (.int (0 : Int32))) :
    MetFree l (⟨sAB, "getChar", "([BI)C"⟩ : MethodName) (head1 (Jvm.Cond.code (⟨sAB, "getChar", "([BI)C"⟩ : MethodName) jdk_52_method_5_code 2 (some .char) :: ws) (oR 0 0 0 0)) (fun a U => a = #[(.ref bG), (.int 0)] ∧ Z.Warmed39 U.vm ∧ U.heap = h0) (fun _ _ _ _ _ => True) (fun _ U o U' => ∃ v L, o = .returned v ∧ QGC10 Z bG kg cG yA yB h0 n0 v U'.heap L ∧ FrameEnd U o U' L (oR 0 0 0 0).cells (oR 0 0 0 0).slots) := by
  refine MetFree.of_bodySF (plainFor_of_name own_pn0) hisR ?_
  intro p e s m args below meth c s₁ Bd hml0 hP hK
  obtain ⟨rfl, hZ, hh⟩ := hP
  have hx := Bd.exec
  have hby := Bd.bytes
  have hlk : meth.locks = false := Bd.notSynchronized
  have hml : c.maxLocals = 2 := hml0
  have hown : s.vm.findClass sAB = some m.cls := findClass_of_methodNamed Bd.named
  have hnm := (name_of_methodNamed Bd.named Bd.method).1
  have X0 : Stand p l e (oR 0 0 0 0) s m #[(.ref bG), (.int 0)] below meth c s₁ [] 0 0 := Stand.of_body Bd
  have e0 : s₁.heap = h0 := by rw [← hh, Bd.state]; rfl
  have N0 := Fr.nil n0
  refine own_body (A := s₁.setTop (mkF m 0 #[rv bG, iv 0] [])) (Q := QGC10 Z bG kg cG yA yB h0 n0) (fun t k => castTop (own_efGC10 m bG (0 : Int32)) k) ?_
  obtain ⟨T1, X1, e1, st1⟩ := getS2 X0 hx hZ hown (host := "") (Or.inl (oW hw 154 rfl)) Via.refl e0 (SA.ext O0.2) (g := (mkF m 0 #[rv bG, iv 0] [])) rfl (hb hby own_d25_0)
  refine ov (B := T1.setTop (mkF m 3 #[rv bG, iv 0] [(.int 1)])) (fun t k => st1 t k) ?_
  have hc3 : ¬ ((1 : Int32) = (0 : Int32)) := by decide
  refine ov (B := T1.setTop (mkF m 28 #[rv bG, iv 0] [])) (fun t k => XS.ifYes X1.here hx rfl (pc0 := 3) (pc' := 28) rfl (hb hby own_d25_3) rfl ((if0 _ _).trans (feq hc3).2) (by decide) (by decide) k) ?_
  refine oILN (n := 29) X1 hx (hb hby own_d25_28) rfl rfl ?_
  refine oIC (n := 30) X1 hx (1 : Int32) (hb hby own_d25_29) (by decide) rfl ?_
  refine ov (B := T1.setTop (mkF m 31 #[rv bG, iv 0] [(.int 0)])) (fun t k => XS.ishl X1.here hx rfl (hb hby own_d25_30) rfl (by rw [(by decide : ((0 : Int32) <<< ((1 : Int32) &&& 31)) = (0 : Int32))]; exact k)) ?_
  refine ov (B := T1.setTop (mkF m 32 #[rv bG, iv 0] [])) (fun t k => XS.istoreN X1.here hx rfl (hb hby own_d25_31) rfl (l' := #[rv bG, iv 0]) rfl k) ?_
  refine oALN (n := 33) X1 hx (hb hby own_d25_32) rfl rfl rfl ?_
  refine oILN (n := 34) X1 hx (hb hby own_d25_33) rfl rfl ?_
  refine ov (B := T1.setTop (mkF m 37 #[rv bG, iv 1] [(.int 0), (.ref bG)])) (fun t k => XS.iinc X1.here hx rfl (hb hby own_d25_34) rfl (l' := #[rv bG, iv 1]) rfl k) ?_
  obtain ⟨cl2, Ar2, q2, S2, M2, H2, G2⟩ := id Vg
  have hin2 : ¬ ((0 : Int32) < 0 ∨ cl2.slots.size ≤ ((0 : Int32)).toNatClampNeg) := inb_of S2 ⟨by decide, by decide⟩
  refine ov (B := T1.setTop (mkF m 38 #[rv bG, iv 1] [(.int (cG >>> ((0 : Int32) &&& 31)).toInt8.toInt32.toInt8.toInt32)])) (fun t k => X1.baloadBytes hx (j := (0 : Int32)) (v := (.int (cG >>> ((0 : Int32) &&& 31)).toInt8.toInt32.toInt8.toInt32)) (by rw [e1]; exact Ar2.1) (State.isArrayOf_alike hZ.alike Ar2.2.1) Ar2.2.2 hin2 (Has.at H2 hin2 rfl) (g := (mkF m 37 #[rv bG, iv 1] [(.int 0), (.ref bG)])) rfl rfl (hb hby own_d25_37) _ k) ?_
  refine oSP (n := 41) X1 hx (255 : Int32) (hb hby own_d25_38) (by decide) rfl ?_
  refine ov (B := T1.setTop (mkF m 42 #[rv bG, iv 1] [(.int ((cG >>> ((0 : Int32) &&& 31)).toInt8.toInt32.toInt8.toInt32 &&& (255 : Int32)))])) (fun t k => XS.iand X1.here hx rfl (hb hby own_d25_41) rfl k) ?_
  obtain ⟨T3, X3, e3, st3⟩ := getS2 X1 hx hZ hown (host := "") (Or.inl (oW hw 155 rfl)) Via.refl e1 (SH.ext O0.2) (g := (mkF m 42 #[rv bG, iv 1] [(.int ((cG >>> ((0 : Int32) &&& 31)).toInt8.toInt32.toInt8.toInt32 &&& (255 : Int32)))])) rfl (hb hby own_d25_42)
  refine ov (B := T3.setTop (mkF m 45 #[rv bG, iv 1] [(.int 0), (.int ((cG >>> ((0 : Int32) &&& 31)).toInt8.toInt32.toInt8.toInt32 &&& (255 : Int32)))])) (fun t k => st3 t k) ?_
  refine ov (B := T3.setTop (mkF m 46 #[rv bG, iv 1] [(.int (((cG >>> ((0 : Int32) &&& 31)).toInt8.toInt32.toInt8.toInt32 &&& (255 : Int32)) <<< ((0 : Int32) &&& 31)))])) (fun t k => XS.ishl X3.here hx rfl (hb hby own_d25_45) rfl k) ?_
  refine oALN (n := 47) X3 hx (hb hby own_d25_46) rfl rfl rfl ?_
  refine oILN (n := 48) X3 hx (hb hby own_d25_47) rfl rfl ?_
  obtain ⟨cl4, Ar4, q4, S4, M4, H4, G4⟩ := id Vg
  have hin4 : ¬ ((1 : Int32) < 0 ∨ cl4.slots.size ≤ ((1 : Int32)).toNatClampNeg) := inb_of S4 ⟨by decide, by decide⟩
  refine ov (B := T3.setTop (mkF m 49 #[rv bG, iv 1] [(.int (cG >>> ((8 : Int32) &&& 31)).toInt8.toInt32.toInt8.toInt32), (.int (((cG >>> ((0 : Int32) &&& 31)).toInt8.toInt32.toInt8.toInt32 &&& (255 : Int32)) <<< ((0 : Int32) &&& 31)))])) (fun t k => X3.baloadBytes hx (j := (1 : Int32)) (v := (.int (cG >>> ((8 : Int32) &&& 31)).toInt8.toInt32.toInt8.toInt32)) (by rw [e3]; exact Ar4.1) (State.isArrayOf_alike hZ.alike Ar4.2.1) Ar4.2.2 hin4 (Has.at H4 hin4 rfl) (g := (mkF m 48 #[rv bG, iv 1] [(.int 1), (.ref bG), (.int (((cG >>> ((0 : Int32) &&& 31)).toInt8.toInt32.toInt8.toInt32 &&& (255 : Int32)) <<< ((0 : Int32) &&& 31)))])) rfl rfl (hb hby own_d25_48) _ k) ?_
  refine oSP (n := 52) X3 hx (255 : Int32) (hb hby own_d25_49) (by decide) rfl ?_
  refine ov (B := T3.setTop (mkF m 53 #[rv bG, iv 1] [(.int ((cG >>> ((8 : Int32) &&& 31)).toInt8.toInt32.toInt8.toInt32 &&& (255 : Int32))), (.int (((cG >>> ((0 : Int32) &&& 31)).toInt8.toInt32.toInt8.toInt32 &&& (255 : Int32)) <<< ((0 : Int32) &&& 31)))])) (fun t k => XS.iand X3.here hx rfl (hb hby own_d25_52) rfl k) ?_
  obtain ⟨T5, X5, e5, st5⟩ := getS2 X3 hx hZ hown (host := "") (Or.inl (oW hw 156 rfl)) Via.refl e3 (SL.ext O0.2) (g := (mkF m 53 #[rv bG, iv 1] [(.int ((cG >>> ((8 : Int32) &&& 31)).toInt8.toInt32.toInt8.toInt32 &&& (255 : Int32))), (.int (((cG >>> ((0 : Int32) &&& 31)).toInt8.toInt32.toInt8.toInt32 &&& (255 : Int32)) <<< ((0 : Int32) &&& 31)))])) rfl (hb hby own_d25_53)
  refine ov (B := T5.setTop (mkF m 56 #[rv bG, iv 1] [(.int 8), (.int ((cG >>> ((8 : Int32) &&& 31)).toInt8.toInt32.toInt8.toInt32 &&& (255 : Int32))), (.int (((cG >>> ((0 : Int32) &&& 31)).toInt8.toInt32.toInt8.toInt32 &&& (255 : Int32)) <<< ((0 : Int32) &&& 31)))])) (fun t k => st5 t k) ?_
  refine ov (B := T5.setTop (mkF m 57 #[rv bG, iv 1] [(.int (((cG >>> ((8 : Int32) &&& 31)).toInt8.toInt32.toInt8.toInt32 &&& (255 : Int32)) <<< ((8 : Int32) &&& 31))), (.int (((cG >>> ((0 : Int32) &&& 31)).toInt8.toInt32.toInt8.toInt32 &&& (255 : Int32)) <<< ((0 : Int32) &&& 31)))])) (fun t k => XS.ishl X5.here hx rfl (hb hby own_d25_56) rfl k) ?_
  refine ov (B := T5.setTop (mkF m 58 #[rv bG, iv 1] [(.int ((((cG >>> ((0 : Int32) &&& 31)).toInt8.toInt32.toInt8.toInt32 &&& (255 : Int32)) <<< ((0 : Int32) &&& 31)) ||| (((cG >>> ((8 : Int32) &&& 31)).toInt8.toInt32.toInt8.toInt32 &&& (255 : Int32)) <<< ((8 : Int32) &&& 31))))])) (fun t k => XS.ior X5.here hx rfl (hb hby own_d25_57) rfl k) ?_
  refine ov (B := T5.setTop (mkF m 59 #[rv bG, iv 1] [(.int (((((cG >>> ((0 : Int32) &&& 31)).toInt8.toInt32.toInt8.toInt32 &&& (255 : Int32)) <<< ((0 : Int32) &&& 31)) ||| (((cG >>> ((8 : Int32) &&& 31)).toInt8.toInt32.toInt8.toInt32 &&& (255 : Int32)) <<< ((8 : Int32) &&& 31))).toUInt32.toUInt16.toUInt32.toInt32))])) (fun t k => XS.i2c X5.here hx rfl (hb hby own_d25_58) rfl k) ?_
  refine own_leaf X5 hx hlk (t := .char) Bd.returns (own_nn16 _) (Or.inl ⟨rfl, by simp, _, rfl⟩) (hb hby own_d25_59) (by decide) (by decide) ?_
  show QGC10 Z bG kg cG yA yB h0 n0 _ T5.heap _
  rw [e5]
  refine ⟨?_, N0, rfl⟩
  rfl
theorem own_pd1 : parseMethodDescriptor "(I)[B" = some ⟨[.int], some (.array .byte)⟩ := by decide +kernel
theorem own_pd2 : parseMethodDescriptor "([BII)V" = some ⟨[(.array .byte), .int, .int], none⟩ := by decide +kernel
theorem own_d21_0 : decode jdk_52_method_14_code 0 = .ok (.iload_n 2, 1) := by decide +kernel
theorem own_d21_1 : decode jdk_52_method_14_code 1 = .ok (.invokestatic 107, 3) := by decide +kernel
theorem own_d21_4 : decode jdk_52_method_14_code 4 = .ok (.astore_n 3, 1) := by decide +kernel
theorem own_d21_5 : decode jdk_52_method_14_code 5 = .ok (.iconst 0, 1) := by decide +kernel
theorem own_d21_6 : decode jdk_52_method_14_code 6 = .ok (.istore 4, 2) := by decide +kernel
theorem own_d21_8 : decode jdk_52_method_14_code 8 = .ok (.iload 4, 2) := by decide +kernel
theorem own_d21_10 : decode jdk_52_method_14_code 10 = .ok (.iload_n 2, 1) := by decide +kernel
theorem own_d21_11 : decode jdk_52_method_14_code 11 = .ok (.if_icmp .ge 21, 3) := by decide +kernel
theorem own_d21_14 : decode jdk_52_method_14_code 14 = .ok (.aload_n 3, 1) := by decide +kernel
theorem own_d21_15 : decode jdk_52_method_14_code 15 = .ok (.iload 4, 2) := by decide +kernel
theorem own_d21_17 : decode jdk_52_method_14_code 17 = .ok (.aload_n 0, 1) := by decide +kernel
theorem own_d21_18 : decode jdk_52_method_14_code 18 = .ok (.iload_n 1, 1) := by decide +kernel
theorem own_d21_19 : decode jdk_52_method_14_code 19 = .ok (.caload, 1) := by decide +kernel
theorem own_d21_20 : decode jdk_52_method_14_code 20 = .ok (.invokestatic 111, 3) := by decide +kernel
theorem own_d21_23 : decode jdk_52_method_14_code 23 = .ok (.iinc 1 1, 3) := by decide +kernel
theorem own_d21_26 : decode jdk_52_method_14_code 26 = .ok (.iinc 4 1, 3) := by decide +kernel
theorem own_d21_29 : decode jdk_52_method_14_code 29 = .ok (.goto (-21), 3) := by decide +kernel
theorem own_d21_32 : decode jdk_52_method_14_code 32 = .ok (.aload_n 3, 1) := by decide +kernel
theorem own_d21_33 : decode jdk_52_method_14_code 33 = .ok (.areturn, 1) := by decide +kernel
theorem own_efTB1 (m : MethodId) (x0 : Addr) (x1 : Int32) (x2 : Int32) : entryFrame m #[(.ref x0), (.int x1), (.int x2)] 5 = mkF m 0 #[rv x0, iv x1, iv x2, uu, uu] [] := by first | (simp [entryFrame, mkF, argsToLocals, Value.category]; done) | rfl
def QTB1 (Z : State) (aC : Addr) (kc : ClassId) (xA : Int32) (h0 : Heap) (n0 : Nat) (v : Option Value) (h : Heap) (L : List Loc) : Prop := ∃ (r : Addr) (kr : ClassId), v = some (.ref r) ∧ Fr n0 L ∧ Keep h0 h [] ∧ (h0.size ≤ r) ∧ (Arv Z h r kr .byte (2 : Int32) [(.int (xA >>> ((0 : Int32) &&& 31)).toInt8.toInt32.toInt8.toInt32), (.int (xA >>> ((8 : Int32) &&& 31)).toInt8.toInt32.toInt8.toInt32)] (.int (0 : Int32)))
set_option maxRecDepth 65536 in
set_option maxHeartbeats 40000000 in
theorem rmTB1 (l : Launch) (Z : State) (a0 : Array Value) (hw : ∀ d ∈ tables_1, d.before a0 Z = true) (ws : List Jvm.Cond) (aC : Addr) (kc : ClassId) (xA : Int32) (h0 : Heap) (n0 : Nat) (Z0 : n0 ≤ h0.size) (O0 : Old Z n0 h0) (SA : Sta Z Z.heap sAB sAH "Z" (.int (1 : Int32))) (SH : Sta Z Z.heap sAB "HI_BYTE_SHIFT" "I" (.int (0 : Int32))) (SL : Sta Z Z.heap sAB "LO_BYTE_SHIFT" "I" (.int (8 : Int32))) (Vc : Arv Z h0 aC kc .char (1 : Int32) [(.int xA)] (.int (0 : Int32))) :
    MetFree l (⟨sAB, "toBytes", "([CII)[B"⟩ : MethodName) (head1 (Jvm.Cond.code (⟨sAB, "toBytes", "([CII)[B"⟩ : MethodName) jdk_52_method_14_code 5 (some (.array .byte)) :: ws) (oR 2 1 2 32)) (fun a U => a = #[(.ref aC), (.int 0), (.int 1)] ∧ Z.Warmed39 U.vm ∧ U.heap = h0) (fun _ _ _ _ _ => True) (fun _ U o U' => ∃ v L, o = .returned v ∧ QTB1 Z aC kc xA h0 n0 v U'.heap L ∧ FrameEnd U o U' L (oR 2 1 2 32).cells (oR 2 1 2 32).slots) := by
  refine MetFree.of_bodySF (plainFor_of_name own_pn0) hisR ?_
  intro p e s m args below meth c s₁ Bd hml0 hP hK
  obtain ⟨rfl, hZ, hh⟩ := hP
  have hx := Bd.exec
  have hby := Bd.bytes
  have hlk : meth.locks = false := Bd.notSynchronized
  have hml : c.maxLocals = 5 := hml0
  have hown : s.vm.findClass sAB = some m.cls := findClass_of_methodNamed Bd.named
  have hnm := (name_of_methodNamed Bd.named Bd.method).1
  have X0 : Stand p l e (oR 2 1 2 32) s m #[(.ref aC), (.int 0), (.int 1)] below meth c s₁ [] 0 0 := Stand.of_body Bd
  have e0 : s₁.heap = h0 := by rw [← hh, Bd.state]; rfl
  have N0 := Fr.nil n0
  refine own_body (A := s₁.setTop (mkF m 0 #[rv aC, iv 0, iv 1, uu, uu] [])) (Q := QTB1 Z aC kc xA h0 n0) (fun t k => castTop (own_efTB1 m aC (0 : Int32) (1 : Int32)) k) ?_
  refine oILN (n := 1) X0 hx (hb hby own_d21_0) rfl rfl ?_
  obtain ⟨_, _, ⟨T1, L1, k1, n1⟩, -, X1, ⟨Lc1, hQ1, l1, y1, z1⟩, st1⟩ := Jvm.LawKit.callS X0 hx (y := (⟨sAB, "newBytesFor", "(I)[B"⟩ : MethodName)) hown (mvT hZ (oW hw 144 rfl)) (mvT hZ (oW hw 145 rfl)) (mvT hZ (oW hw 133 rfl)) (mvT hZ (oW hw 146 rfl)) (by decide) (backOf (W := 0) (rmNF1 l Z a0 hw []  h0 n0 Z0 ) hZ (oW hw 146 rfl) (oW hw 133 rfl) (by decide) (by decide)) (g := (mkF m 1 #[rv aC, iv 0, iv 1, uu, uu] [(.int 1)])) rfl (by rw [hml]; rfl) (argsL := [(.int 1)]) (rest := []) (lenOf own_pd1 rfl) rfl (by show 2 * 0 + _ ≤ _; exact Nat.le_of_eq rfl) (hb hby own_d21_1) (fun _ _ => ⟨rfl, e0, (by decide : 0 + 1 ≤ _), (by decide : 0 + 2 ≤ _)⟩)
  dsimp only [Pt.U, Pt.locs, Pt.cells, Pt.slots] at X1 l1 y1 z1 st1 hQ1
  subst l1 y1 z1
  obtain ⟨r_1, kr_1, rfl, Nq1, Kq1, hr_1, f1_0⟩ := hQ1
  have N1 := Fr.app N0 Nq1
  have g_r_1 : n0 ≤ r_1 := Nat.le_trans Z0 hr_1
  refine ov (B := T1.setTop (mkF m 4 #[rv aC, iv 0, iv 1, uu, uu] [(.ref r_1)])) (fun t k => st1 t k) ?_
  refine ov (B := T1.setTop (mkF m 5 #[rv aC, iv 0, iv 1, rv r_1, uu] [])) (fun t k => XS.astoreN X1.here hx rfl (hb hby own_d21_4) rfl rfl (l' := #[rv aC, iv 0, iv 1, rv r_1, uu]) rfl k) ?_
  refine oIC (n := 6) X1 hx (0 : Int32) (hb hby own_d21_5) (by decide) rfl ?_
  refine ov (B := T1.setTop (mkF m 8 #[rv aC, iv 0, iv 1, rv r_1, iv 0] [])) (fun t k => XS.istore X1.here hx rfl (hb hby own_d21_6) rfl (l' := #[rv aC, iv 0, iv 1, rv r_1, iv 0]) rfl k) ?_
  refine oIL (n := 10) X1 hx (hb hby own_d21_8) rfl rfl ?_
  refine oILN (n := 11) X1 hx (hb hby own_d21_10) rfl rfl ?_
  have hc11 : (0 : Int32) < (1 : Int32) := by decide
  refine ov (B := T1.setTop (mkF m 14 #[rv aC, iv 0, iv 1, rv r_1, iv 0] [])) (fun t k => XS.icmpNo X1.here hx rfl (hb hby own_d21_11) rfl (tlt hc11).2.1 k) ?_
  refine oALN (n := 15) X1 hx (hb hby own_d21_14) rfl rfl rfl ?_
  refine oIL (n := 17) X1 hx (hb hby own_d21_15) rfl rfl ?_
  refine oALN (n := 18) X1 hx (hb hby own_d21_17) rfl rfl rfl ?_
  refine oILN (n := 19) X1 hx (hb hby own_d21_18) rfl rfl ?_
  obtain ⟨cl2, Ar2, q2, S2, M2, H2, G2⟩ := id (Vc.keep Kq1 nin0)
  have hin2 : ¬ ((0 : Int32) < 0 ∨ cl2.slots.size ≤ ((0 : Int32)).toNatClampNeg) := inb_of S2 ⟨by decide, by decide⟩
  refine ov (B := T1.setTop (mkF m 20 #[rv aC, iv 0, iv 1, rv r_1, iv 0] [(.int xA), (.int 0), (.ref r_1)])) (fun t k => X1.caload hx (j := (0 : Int32)) (v := (.int xA)) (Ar2.1) (State.isArrayOf_alike hZ.alike Ar2.2.1) Ar2.2.2 hin2 (Has.at H2 hin2 rfl) (g := (mkF m 19 #[rv aC, iv 0, iv 1, rv r_1, iv 0] [(.int 0), (.ref aC), (.int 0), (.ref r_1)])) rfl rfl (hb hby own_d21_19) _ k) ?_
  obtain ⟨_, _, ⟨T3, L3, k3, n3⟩, -, X3, ⟨Lc3, hQ3, l3, y3, z3⟩, st3⟩ := Jvm.LawKit.callS X1 hx (y := (⟨sAB, "putChar", "([BII)V"⟩ : MethodName)) hown (mvT hZ (oW hw 151 rfl)) (mvT hZ (oW hw 152 rfl)) (mvT hZ (oW hw 133 rfl)) (mvT hZ (oW hw 153 rfl)) (by decide) (backOf (W := 0) (rmPC10 l Z a0 hw [] r_1 xA kr_1 (0 : Int32) (0 : Int32) T1.heap n0 (Nat.le_trans Z0 Kq1.1) (O0.keep Kq1 all0) (by assumption) (by assumption) (by assumption) f1_0 g_r_1) hZ (oW hw 153 rfl) (oW hw 133 rfl) (by decide) (by decide)) (g := (mkF m 20 #[rv aC, iv 0, iv 1, rv r_1, iv 0] [(.int xA), (.int 0), (.ref r_1)])) rfl (by rw [hml]; rfl) (argsL := [(.ref r_1), (.int 0), (.int xA)]) (rest := []) (lenOf own_pd2 rfl) rfl (by show 2 * 0 + _ ≤ _; exact Nat.le_of_eq rfl) (hb hby own_d21_20) (fun _ _ => ⟨rfl, rfl, (by decide : (0 + 1) + 0 ≤ _), (by decide : (0 + 2) + 0 ≤ _)⟩)
  dsimp only [Pt.U, Pt.locs, Pt.cells, Pt.slots] at X3 l3 y3 z3 st3 hQ3
  subst l3 y3 z3
  obtain ⟨rfl, Nq3, Kq3, f3_0⟩ := hQ3
  have N3 := Fr.app N1 Nq3
  refine ov (B := T3.setTop (mkF m 23 #[rv aC, iv 0, iv 1, rv r_1, iv 0] [])) (fun t k => st3 t k) ?_
  refine ov (B := T3.setTop (mkF m 26 #[rv aC, iv 1, iv 1, rv r_1, iv 0] [])) (fun t k => XS.iinc X3.here hx rfl (hb hby own_d21_23) rfl (l' := #[rv aC, iv 1, iv 1, rv r_1, iv 0]) rfl k) ?_
  refine ov (B := T3.setTop (mkF m 29 #[rv aC, iv 1, iv 1, rv r_1, iv 1] [])) (fun t k => XS.iinc X3.here hx rfl (hb hby own_d21_26) rfl (l' := #[rv aC, iv 1, iv 1, rv r_1, iv 1]) rfl k) ?_
  refine oGO (n := 8) X3 hx (hb hby own_d21_29) (by decide) (by decide) ?_
  refine oIL (n := 10) X3 hx (hb hby own_d21_8) rfl rfl ?_
  refine oILN (n := 11) X3 hx (hb hby own_d21_10) rfl rfl ?_
  have hc11 : ¬ ((1 : Int32) < (1 : Int32)) := by decide
  refine ov (B := T3.setTop (mkF m 32 #[rv aC, iv 1, iv 1, rv r_1, iv 1] [])) (fun t k => XS.icmpYes X3.here hx rfl (pc0 := 11) (pc' := 32) rfl (hb hby own_d21_11) rfl (flt hc11).2.1 (by decide) (by decide) k) ?_
  refine oALN (n := 33) X3 hx (hb hby own_d21_32) rfl rfl rfl ?_
  refine own_leaf X3 hx hlk (t := (.array .byte)) Bd.returns rfl (Or.inr (Or.inr (Or.inr (Or.inr ⟨rfl, rfl, rfl⟩)))) (hb hby own_d21_33) (by decide) (by decide) ?_
  show QTB1 Z aC kc xA h0 n0 _ T3.heap _
  refine ⟨r_1, kr_1, ?_, N3, (((Keep.refl h0 []).trans Kq1 all0).trans Kq3 (allS (Or.inr hr_1) all0)), ?_, f3_0⟩
  · rfl
  · exact hr_1
theorem own_d20_0 : decode jdk_52_method_15_code 0 = .ok (.iload_n 1, 1) := by decide +kernel
theorem own_d20_1 : decode jdk_52_method_15_code 1 = .ok (.aload_n 0, 1) := by decide +kernel
theorem own_d20_2 : decode jdk_52_method_15_code 2 = .ok (.arraylength, 1) := by decide +kernel
theorem own_d20_3 : decode jdk_52_method_15_code 3 = .ok (.isub, 1) := by decide +kernel
theorem own_d20_4 : decode jdk_52_method_15_code 4 = .ok (.bipush 31, 2) := by decide +kernel
theorem own_d20_6 : decode jdk_52_method_15_code 6 = .ok (.iushr, 1) := by decide +kernel
theorem own_d20_7 : decode jdk_52_method_15_code 7 = .ok (.i2b, 1) := by decide +kernel
theorem own_d20_8 : decode jdk_52_method_15_code 8 = .ok (.ireturn, 1) := by decide +kernel
theorem own_efCF11 (m : MethodId) (x0 : Addr) (x1 : Int32) : entryFrame m #[(.ref x0), (.int x1)] 2 = mkF m 0 #[rv x0, iv x1] [] := by first | (simp [entryFrame, mkF, argsToLocals, Value.category]; done) | rfl
def QCF11 (Z : State) (bF : Addr) (kf : ClassId) (yA : Int32) (h0 : Heap) (n0 : Nat) (v : Option Value) (h : Heap) (L : List Loc) : Prop := v = some (.int (0 : Int32)) ∧ Fr n0 L ∧ h = h0
set_option maxRecDepth 65536 in
set_option maxHeartbeats 40000000 in
theorem rmCF11 (l : Launch) (Z : State) (a0 : Array Value) (hw : ∀ d ∈ tables_1, d.before a0 Z = true) (ws : List Jvm.Cond) (bF : Addr) (kf : ClassId) (yA : Int32) (h0 : Heap) (n0 : Nat) (Z0 : n0 ≤ h0.size) (Vf : Arv Z h0 bF kf .byte (1 : Int32) [(.int yA)] (.int (0 : Int32))) :
    MetFree l (⟨sAB, sAN, "([BI)B"⟩ : MethodName) (head1 (Jvm.Cond.code (⟨sAB, sAN, "([BI)B"⟩ : MethodName) jdk_52_method_15_code 2 (some .byte) :: ws) (oR 0 0 0 0)) (fun a U => a = #[(.ref bF), (.int 1)] ∧ Z.Warmed39 U.vm ∧ U.heap = h0) (fun _ _ _ _ _ => True) (fun _ U o U' => ∃ v L, o = .returned v ∧ QCF11 Z bF kf yA h0 n0 v U'.heap L ∧ FrameEnd U o U' L (oR 0 0 0 0).cells (oR 0 0 0 0).slots) := by
  refine MetFree.of_bodySF (plainFor_of_name own_pn0) hisR ?_
  intro p e s m args below meth c s₁ Bd hml0 hP hK
  obtain ⟨rfl, hZ, hh⟩ := hP
  have hx := Bd.exec
  have hby := Bd.bytes
  have hlk : meth.locks = false := Bd.notSynchronized
  have hml : c.maxLocals = 2 := hml0
  have hown : s.vm.findClass sAB = some m.cls := findClass_of_methodNamed Bd.named
  have hnm := (name_of_methodNamed Bd.named Bd.method).1
  have X0 : Stand p l e (oR 0 0 0 0) s m #[(.ref bF), (.int 1)] below meth c s₁ [] 0 0 := Stand.of_body Bd
  have e0 : s₁.heap = h0 := by rw [← hh, Bd.state]; rfl
  have N0 := Fr.nil n0
  refine own_body (A := s₁.setTop (mkF m 0 #[rv bF, iv 1] [])) (Q := QCF11 Z bF kf yA h0 n0) (fun t k => castTop (own_efCF11 m bF (1 : Int32)) k) ?_
  refine oILN (n := 1) X0 hx (hb hby own_d20_0) rfl rfl ?_
  refine oALN (n := 2) X0 hx (hb hby own_d20_1) rfl rfl rfl ?_
  obtain ⟨cl1, Ar1, q1, S1, M1, H1, G1⟩ := id Vf
  refine ov (B := s₁.setTop (mkF m 3 #[rv bF, iv 1] [(.int 1), (.int 1)])) (fun t k => X0.arraylength hx (by rw [e0]; exact Ar1.1) (State.isArrayOf_alike hZ.alike Ar1.2.1) (g := (mkF m 2 #[rv bF, iv 1] [(.ref bF), (.int 1)])) rfl rfl (hb hby own_d20_2) _ (by rw [len_of S1 M1]; exact k)) ?_
  refine ov (B := s₁.setTop (mkF m 4 #[rv bF, iv 1] [(.int 0)])) (fun t k => XS.isub X0.here hx rfl (hb hby own_d20_3) rfl k) ?_
  refine oBP (n := 6) X0 hx (31 : Int32) (hb hby own_d20_4) (by decide) rfl ?_
  refine ov (B := s₁.setTop (mkF m 7 #[rv bF, iv 1] [(.int (((0 : Int32).toUInt32 >>> ((31 : Int32) &&& 31).toUInt32).toInt32))])) (fun t k => XS.iushr X0.here hx rfl (hb hby own_d20_6) rfl k) ?_
  refine ov (B := s₁.setTop (mkF m 8 #[rv bF, iv 1] [(.int ((((0 : Int32).toUInt32 >>> ((31 : Int32) &&& 31).toUInt32).toInt32).toInt8.toInt32))])) (fun t k => XS.i2b X0.here hx rfl (hb hby own_d20_7) rfl k) ?_
  refine own_leaf X0 hx hlk (t := .byte) Bd.returns (by decide) (Or.inl ⟨rfl, by simp, _, rfl⟩) (hb hby own_d20_8) (by decide) (by decide) ?_
  show QCF11 Z bF kf yA h0 n0 _ s₁.heap _
  rw [e0]
  refine ⟨?_, N0, rfl⟩
  exact congrArg (fun z => some (Value.int z)) (by decide)
theorem own_efCF12 (m : MethodId) (x0 : Addr) (x1 : Int32) : entryFrame m #[(.ref x0), (.int x1)] 2 = mkF m 0 #[rv x0, iv x1] [] := by first | (simp [entryFrame, mkF, argsToLocals, Value.category]; done) | rfl
def QCF12 (Z : State) (bF : Addr) (kf : ClassId) (yA : Int32) (yB : Int32) (h0 : Heap) (n0 : Nat) (v : Option Value) (h : Heap) (L : List Loc) : Prop := v = some (.int (1 : Int32)) ∧ Fr n0 L ∧ h = h0
set_option maxRecDepth 65536 in
set_option maxHeartbeats 40000000 in
theorem rmCF12 (l : Launch) (Z : State) (a0 : Array Value) (hw : ∀ d ∈ tables_1, d.before a0 Z = true) (ws : List Jvm.Cond) (bF : Addr) (kf : ClassId) (yA : Int32) (yB : Int32) (h0 : Heap) (n0 : Nat) (Z0 : n0 ≤ h0.size) (Vf : Arv Z h0 bF kf .byte (2 : Int32) [(.int yA), (.int yB)] (.int (0 : Int32))) :
    MetFree l (⟨sAB, sAN, "([BI)B"⟩ : MethodName) (head1 (Jvm.Cond.code (⟨sAB, sAN, "([BI)B"⟩ : MethodName) jdk_52_method_15_code 2 (some .byte) :: ws) (oR 0 0 0 0)) (fun a U => a = #[(.ref bF), (.int 1)] ∧ Z.Warmed39 U.vm ∧ U.heap = h0) (fun _ _ _ _ _ => True) (fun _ U o U' => ∃ v L, o = .returned v ∧ QCF12 Z bF kf yA yB h0 n0 v U'.heap L ∧ FrameEnd U o U' L (oR 0 0 0 0).cells (oR 0 0 0 0).slots) := by
  refine MetFree.of_bodySF (plainFor_of_name own_pn0) hisR ?_
  intro p e s m args below meth c s₁ Bd hml0 hP hK
  obtain ⟨rfl, hZ, hh⟩ := hP
  have hx := Bd.exec
  have hby := Bd.bytes
  have hlk : meth.locks = false := Bd.notSynchronized
  have hml : c.maxLocals = 2 := hml0
  have hown : s.vm.findClass sAB = some m.cls := findClass_of_methodNamed Bd.named
  have hnm := (name_of_methodNamed Bd.named Bd.method).1
  have X0 : Stand p l e (oR 0 0 0 0) s m #[(.ref bF), (.int 1)] below meth c s₁ [] 0 0 := Stand.of_body Bd
  have e0 : s₁.heap = h0 := by rw [← hh, Bd.state]; rfl
  have N0 := Fr.nil n0
  refine own_body (A := s₁.setTop (mkF m 0 #[rv bF, iv 1] [])) (Q := QCF12 Z bF kf yA yB h0 n0) (fun t k => castTop (own_efCF12 m bF (1 : Int32)) k) ?_
  refine oILN (n := 1) X0 hx (hb hby own_d20_0) rfl rfl ?_
  refine oALN (n := 2) X0 hx (hb hby own_d20_1) rfl rfl rfl ?_
  obtain ⟨cl1, Ar1, q1, S1, M1, H1, G1⟩ := id Vf
  refine ov (B := s₁.setTop (mkF m 3 #[rv bF, iv 1] [(.int 2), (.int 1)])) (fun t k => X0.arraylength hx (by rw [e0]; exact Ar1.1) (State.isArrayOf_alike hZ.alike Ar1.2.1) (g := (mkF m 2 #[rv bF, iv 1] [(.ref bF), (.int 1)])) rfl rfl (hb hby own_d20_2) _ (by rw [len_of S1 M1]; exact k)) ?_
  refine ov (B := s₁.setTop (mkF m 4 #[rv bF, iv 1] [(.int (-1 : Int32))])) (fun t k => XS.isub X0.here hx rfl (hb hby own_d20_3) rfl k) ?_
  refine oBP (n := 6) X0 hx (31 : Int32) (hb hby own_d20_4) (by decide) rfl ?_
  refine ov (B := s₁.setTop (mkF m 7 #[rv bF, iv 1] [(.int (((-1 : Int32).toUInt32 >>> ((31 : Int32) &&& 31).toUInt32).toInt32))])) (fun t k => XS.iushr X0.here hx rfl (hb hby own_d20_6) rfl k) ?_
  refine ov (B := s₁.setTop (mkF m 8 #[rv bF, iv 1] [(.int ((((-1 : Int32).toUInt32 >>> ((31 : Int32) &&& 31).toUInt32).toInt32).toInt8.toInt32))])) (fun t k => XS.i2b X0.here hx rfl (hb hby own_d20_7) rfl k) ?_
  refine own_leaf X0 hx hlk (t := .byte) Bd.returns (by decide) (Or.inl ⟨rfl, by simp, _, rfl⟩) (hb hby own_d20_8) (by decide) (by decide) ?_
  show QCF12 Z bF kf yA yB h0 n0 _ s₁.heap _
  rw [e0]
  refine ⟨?_, N0, rfl⟩
  exact congrArg (fun z => some (Value.int z)) (by decide)
theorem own_efNL2 (m : MethodId) (x0 : Int32) : entryFrame m #[(.int x0)] 1 = mkF m 0 #[iv x0] [] := by first | (simp [entryFrame, mkF, argsToLocals, Value.category]; done) | rfl
def QNL2 (Z : State)  (h0 : Heap) (n0 : Nat) (v : Option Value) (h : Heap) (L : List Loc) : Prop := v = some (.int (4 : Int32)) ∧ Fr n0 L ∧ h = h0
set_option maxRecDepth 65536 in
set_option maxHeartbeats 40000000 in
theorem rmNL2 (l : Launch) (Z : State) (a0 : Array Value) (hw : ∀ d ∈ tables_1, d.before a0 Z = true) (ws : List Jvm.Cond)  (h0 : Heap) (n0 : Nat) (Z0 : n0 ≤ h0.size) :
    MetFree l (⟨sAB, "newBytesLength", "(I)I"⟩ : MethodName) (head1 (Jvm.Cond.code (⟨sAB, "newBytesLength", "(I)I"⟩ : MethodName) jdk_52_method_3_code 1 (some .int) :: ws) (oR 0 0 0 0)) (fun a U => a = #[(.int 2)] ∧ Z.Warmed39 U.vm ∧ U.heap = h0) (fun _ _ _ _ _ => True) (fun _ U o U' => ∃ v L, o = .returned v ∧ QNL2 Z  h0 n0 v U'.heap L ∧ FrameEnd U o U' L (oR 0 0 0 0).cells (oR 0 0 0 0).slots) := by
  refine MetFree.of_bodySF (plainFor_of_name own_pn0) hisR ?_
  intro p e s m args below meth c s₁ Bd hml0 hP hK
  obtain ⟨rfl, hZ, hh⟩ := hP
  have hx := Bd.exec
  have hby := Bd.bytes
  have hlk : meth.locks = false := Bd.notSynchronized
  have hml : c.maxLocals = 1 := hml0
  have hown : s.vm.findClass sAB = some m.cls := findClass_of_methodNamed Bd.named
  have hnm := (name_of_methodNamed Bd.named Bd.method).1
  have X0 : Stand p l e (oR 0 0 0 0) s m #[(.int 2)] below meth c s₁ [] 0 0 := Stand.of_body Bd
  have e0 : s₁.heap = h0 := by rw [← hh, Bd.state]; rfl
  have N0 := Fr.nil n0
  refine own_body (A := s₁.setTop (mkF m 0 #[iv 2] [])) (Q := QNL2 Z  h0 n0) (fun t k => castTop (own_efNL2 m (2 : Int32)) k) ?_
  refine oILN (n := 1) X0 hx (hb hby own_d23_0) rfl rfl ?_
  have hc1 : ¬ ((2 : Int32) < (0 : Int32)) := by decide
  refine ov (B := s₁.setTop (mkF m 12 #[iv 2] [])) (fun t k => XS.ifYes X0.here hx rfl (pc0 := 1) (pc' := 12) rfl (hb hby own_d23_1) rfl ((if0 _ _).trans (flt hc1).2.1) (by decide) (by decide) k) ?_
  refine oILN (n := 13) X0 hx (hb hby own_d23_12) rfl rfl ?_
  refine ov (B := s₁.setTop (mkF m 15 #[iv 2] [(.int 1073741823), (.int 2)])) (fun t k => X0.ldcInt hx hown (mvT hZ (oW hw 150 rfl)) (g := (mkF m 13 #[iv 2] [(.int 2)])) rfl (hb hby own_d23_13) _ k) ?_
  have hc15 : (2 : Int32) < (1073741823 : Int32) := by decide
  refine ov (B := s₁.setTop (mkF m 55 #[iv 2] [])) (fun t k => XS.icmpYes X0.here hx rfl (pc0 := 15) (pc' := 55) rfl (hb hby own_d23_15) rfl (tlt hc15).1 (by decide) (by decide) k) ?_
  refine oILN (n := 56) X0 hx (hb hby own_d23_55) rfl rfl ?_
  refine oIC (n := 57) X0 hx (1 : Int32) (hb hby own_d23_56) (by decide) rfl ?_
  refine ov (B := s₁.setTop (mkF m 58 #[iv 2] [(.int 4)])) (fun t k => XS.ishl X0.here hx rfl (hb hby own_d23_57) rfl (by rw [(by decide : ((2 : Int32) <<< ((1 : Int32) &&& 31)) = (4 : Int32))]; exact k)) ?_
  refine own_leaf X0 hx hlk (t := .int) Bd.returns rfl (Or.inl ⟨rfl, by simp, _, rfl⟩) (hb hby own_d23_58) (by decide) (by decide) ?_
  show QNL2 Z  h0 n0 _ s₁.heap _
  rw [e0]
  refine ⟨?_, N0, rfl⟩
  rfl
theorem own_efNF2 (m : MethodId) (x0 : Int32) : entryFrame m #[(.int x0)] 1 = mkF m 0 #[iv x0] [] := by first | (simp [entryFrame, mkF, argsToLocals, Value.category]; done) | rfl
def QNF2 (Z : State)  (h0 : Heap) (n0 : Nat) (v : Option Value) (h : Heap) (L : List Loc) : Prop := ∃ (r : Addr) (kr : ClassId), v = some (.ref r) ∧ Fr n0 L ∧ Keep h0 h [] ∧ (h0.size ≤ r) ∧ (Arv Z h r kr .byte (4 : Int32) [(.int (0 : Int32)), (.int (0 : Int32)), (.int (0 : Int32)), (.int (0 : Int32))] (.int (0 : Int32)))
set_option maxRecDepth 65536 in
set_option maxHeartbeats 40000000 in
theorem rmNF2 (l : Launch) (Z : State) (a0 : Array Value) (hw : ∀ d ∈ tables_1, d.before a0 Z = true) (ws : List Jvm.Cond)  (h0 : Heap) (n0 : Nat) (Z0 : n0 ≤ h0.size) :
    MetFree l (⟨sAB, "newBytesFor", "(I)[B"⟩ : MethodName) (head1 (Jvm.Cond.code (⟨sAB, "newBytesFor", "(I)[B"⟩ : MethodName) jdk_52_method_2_code 1 (some (.array .byte)) :: ws) (oR 1 1 4 16)) (fun a U => a = #[(.int 2)] ∧ Z.Warmed39 U.vm ∧ U.heap = h0) (fun _ _ _ _ _ => True) (fun _ U o U' => ∃ v L, o = .returned v ∧ QNF2 Z  h0 n0 v U'.heap L ∧ FrameEnd U o U' L (oR 1 1 4 16).cells (oR 1 1 4 16).slots) := by
  refine MetFree.of_bodySF (plainFor_of_name own_pn0) hisR ?_
  intro p e s m args below meth c s₁ Bd hml0 hP hK
  obtain ⟨rfl, hZ, hh⟩ := hP
  have hx := Bd.exec
  have hby := Bd.bytes
  have hlk : meth.locks = false := Bd.notSynchronized
  have hml : c.maxLocals = 1 := hml0
  have hown : s.vm.findClass sAB = some m.cls := findClass_of_methodNamed Bd.named
  have hnm := (name_of_methodNamed Bd.named Bd.method).1
  have X0 : Stand p l e (oR 1 1 4 16) s m #[(.int 2)] below meth c s₁ [] 0 0 := Stand.of_body Bd
  have e0 : s₁.heap = h0 := by rw [← hh, Bd.state]; rfl
  have N0 := Fr.nil n0
  refine own_body (A := s₁.setTop (mkF m 0 #[iv 2] [])) (Q := QNF2 Z  h0 n0) (fun t k => castTop (own_efNF2 m (2 : Int32)) k) ?_
  refine oILN (n := 1) X0 hx (hb hby own_d22_0) rfl rfl ?_
  obtain ⟨_, _, ⟨T1, L1, k1, n1⟩, -, X1, ⟨Lc1, hQ1, l1, y1, z1⟩, st1⟩ := Jvm.LawKit.callS X0 hx (y := (⟨sAB, "newBytesLength", "(I)I"⟩ : MethodName)) hown (mvT hZ (oW hw 147 rfl)) (mvT hZ (oW hw 148 rfl)) (mvT hZ (oW hw 133 rfl)) (mvT hZ (oW hw 149 rfl)) (by decide) (backOf (W := 0) (rmNL2 l Z a0 hw []  h0 n0 Z0 ) hZ (oW hw 149 rfl) (oW hw 133 rfl) (by decide) (by decide)) (g := (mkF m 1 #[iv 2] [(.int 2)])) rfl (by rw [hml]; rfl) (argsL := [(.int 2)]) (rest := []) (lenOf own_pd0 rfl) rfl (by show 2 * 0 + _ ≤ _; exact Nat.le_of_eq rfl) (hb hby own_d22_1) (fun _ _ => ⟨rfl, e0, (by decide : 0 + 0 ≤ _), (by decide : 0 + 0 ≤ _)⟩)
  dsimp only [Pt.U, Pt.locs, Pt.cells, Pt.slots] at X1 l1 y1 z1 st1 hQ1
  subst l1 y1 z1
  obtain ⟨rfl, Nq1, eq1⟩ := hQ1
  have N1 := Fr.app N0 Nq1
  refine ov (B := T1.setTop (mkF m 4 #[iv 2] [(.int 4)])) (fun t k => st1 t k) ?_
  obtain ⟨T2, h2, kc2, X2, e2, E2, A2, st2⟩ := newP X1 hx hZ (oW hw 20 rfl) eq1 (g := (mkF m 4 #[iv 2] [(.int 4)])) rfl (hb hby own_d22_4) rfl (by decide) (cap := 4) (by decide) (by decide) (by decide) (by decide)
  obtain ⟨b2, g2⟩ : ∃ z, z = h0.size := ⟨_, rfl⟩
  rw [← g2] at A2 st2
  have g_b2 : n0 ≤ b2 := Nat.le_trans Z0 (Nat.le_of_eq g2.symm)
  have V2 : Arv Z h2 b2 kc2 .byte (4 : Int32) [(.int 0), (.int 0), (.int 0), (.int 0)] (.int 0) := (Arv.new A2 (by decide)).pad (pad_rep [] (.int 0) 4)
  refine ov (B := T2.setTop (mkF m 6 #[iv 2] [(.ref b2)])) (fun t k => st2 t k) ?_
  refine own_leaf X2 hx hlk (t := (.array .byte)) Bd.returns rfl (Or.inr (Or.inr (Or.inr (Or.inr ⟨rfl, rfl, rfl⟩)))) (hb hby own_d22_6) (by decide) (by decide) ?_
  show QNF2 Z  h0 n0 _ T2.heap _
  rw [e2]
  refine ⟨b2, kc2, ?_, N1, ((Keep.refl h0 []).ext E2), ?_, V2⟩
  · rfl
  · exact (Nat.le_of_eq g2.symm)
theorem own_efPC20 (m : MethodId) (x0 : Addr) (x1 : Int32) (x2 : Int32) : entryFrame m #[(.ref x0), (.int x1), (.int x2)] 3 = mkF m 0 #[rv x0, iv x1, iv x2] [] := by first | (simp [entryFrame, mkF, argsToLocals, Value.category]; done) | rfl
def QPC20 (Z : State) (bP : Addr) (cP : Int32) (kp : ClassId) (yA : Int32) (yB : Int32) (yC : Int32) (yD : Int32) (h0 : Heap) (n0 : Nat) (v : Option Value) (h : Heap) (L : List Loc) : Prop := v = none ∧ Fr n0 L ∧ Keep h0 h [bP] ∧ (Arv Z h bP kp .byte (4 : Int32) [(.int (cP >>> ((0 : Int32) &&& 31)).toInt8.toInt32.toInt8.toInt32), (.int (cP >>> ((8 : Int32) &&& 31)).toInt8.toInt32.toInt8.toInt32), (.int yC), (.int yD)] (.int (0 : Int32)))
set_option maxRecDepth 65536 in
set_option maxHeartbeats 40000000 in
theorem rmPC20 (l : Launch) (Z : State) (a0 : Array Value) (hw : ∀ d ∈ tables_1, d.before a0 Z = true) (ws : List Jvm.Cond) (bP : Addr) (cP : Int32) (kp : ClassId) (yA : Int32) (yB : Int32) (yC : Int32) (yD : Int32) (h0 : Heap) (n0 : Nat) (Z0 : n0 ≤ h0.size) (O0 : Old Z n0 h0) (SA : Sta Z Z.heap sAB sAH "Z" (.int (1 : Int32))) (SH : Sta Z Z.heap sAB "HI_BYTE_SHIFT" "I" (.int (0 : Int32))) (SL : Sta Z Z.heap sAB "LO_BYTE_SHIFT" "I" (.int (8 : Int32))) (Vp : Arv Z h0 bP kp .byte (4 : Int32) [(.int yA), (.int yB), (.int yC), (.int yD)] (.int (0 : Int32))) (g_bP : n0 ≤ bP) :
    MetFree l (⟨sAB, "putChar", "([BII)V"⟩ : MethodName) (head1 (Jvm.Cond.code (⟨sAB, "putChar", "([BII)V"⟩ : MethodName) jdk_52_method_4_code 3 none :: ws) (oR 0 0 0 0)) (fun a U => a = #[(.ref bP), (.int 0), (.int cP)] ∧ Z.Warmed39 U.vm ∧ U.heap = h0) (fun _ _ _ _ _ => True) (fun _ U o U' => ∃ v L, o = .returned v ∧ QPC20 Z bP cP kp yA yB yC yD h0 n0 v U'.heap L ∧ FrameEnd U o U' L (oR 0 0 0 0).cells (oR 0 0 0 0).slots) := by
  refine MetFree.of_bodySF (plainFor_of_name own_pn0) hisR ?_
  intro p e s m args below meth c s₁ Bd hml0 hP hK
  obtain ⟨rfl, hZ, hh⟩ := hP
  have hx := Bd.exec
  have hby := Bd.bytes
  have hlk : meth.locks = false := Bd.notSynchronized
  have hml : c.maxLocals = 3 := hml0
  have hown : s.vm.findClass sAB = some m.cls := findClass_of_methodNamed Bd.named
  have hnm := (name_of_methodNamed Bd.named Bd.method).1
  have X0 : Stand p l e (oR 0 0 0 0) s m #[(.ref bP), (.int 0), (.int cP)] below meth c s₁ [] 0 0 := Stand.of_body Bd
  have e0 : s₁.heap = h0 := by rw [← hh, Bd.state]; rfl
  have N0 := Fr.nil n0
  refine own_body (A := s₁.setTop (mkF m 0 #[rv bP, iv 0, iv cP] [])) (Q := QPC20 Z bP cP kp yA yB yC yD h0 n0) (fun t k => castTop (own_efPC20 m bP (0 : Int32) cP) k) ?_
  obtain ⟨T1, X1, e1, st1⟩ := getS2 X0 hx hZ hown (host := "") (Or.inl (oW hw 154 rfl)) Via.refl e0 (SA.ext O0.2) (g := (mkF m 0 #[rv bP, iv 0, iv cP] [])) rfl (hb hby own_d24_0)
  refine ov (B := T1.setTop (mkF m 3 #[rv bP, iv 0, iv cP] [(.int 1)])) (fun t k => st1 t k) ?_
  have hc3 : ¬ ((1 : Int32) = (0 : Int32)) := by decide
  refine ov (B := T1.setTop (mkF m 28 #[rv bP, iv 0, iv cP] [])) (fun t k => XS.ifYes X1.here hx rfl (pc0 := 3) (pc' := 28) rfl (hb hby own_d24_3) rfl ((if0 _ _).trans (feq hc3).2) (by decide) (by decide) k) ?_
  refine oILN (n := 29) X1 hx (hb hby own_d24_28) rfl rfl ?_
  refine oIC (n := 30) X1 hx (1 : Int32) (hb hby own_d24_29) (by decide) rfl ?_
  refine ov (B := T1.setTop (mkF m 31 #[rv bP, iv 0, iv cP] [(.int 0)])) (fun t k => XS.ishl X1.here hx rfl (hb hby own_d24_30) rfl (by rw [(by decide : ((0 : Int32) <<< ((1 : Int32) &&& 31)) = (0 : Int32))]; exact k)) ?_
  refine ov (B := T1.setTop (mkF m 32 #[rv bP, iv 0, iv cP] [])) (fun t k => XS.istoreN X1.here hx rfl (hb hby own_d24_31) rfl (l' := #[rv bP, iv 0, iv cP]) rfl k) ?_
  refine oALN (n := 33) X1 hx (hb hby own_d24_32) rfl rfl rfl ?_
  refine oILN (n := 34) X1 hx (hb hby own_d24_33) rfl rfl ?_
  refine ov (B := T1.setTop (mkF m 37 #[rv bP, iv 1, iv cP] [(.int 0), (.ref bP)])) (fun t k => XS.iinc X1.here hx rfl (hb hby own_d24_34) rfl (l' := #[rv bP, iv 1, iv cP]) rfl k) ?_
  refine oILN (n := 38) X1 hx (hb hby own_d24_37) rfl rfl ?_
  obtain ⟨T2, X2, e2, st2⟩ := getS2 X1 hx hZ hown (host := "") (Or.inl (oW hw 155 rfl)) Via.refl e1 (SH.ext O0.2) (g := (mkF m 38 #[rv bP, iv 1, iv cP] [(.int cP), (.int 0), (.ref bP)])) rfl (hb hby own_d24_38)
  refine ov (B := T2.setTop (mkF m 41 #[rv bP, iv 1, iv cP] [(.int 0), (.int cP), (.int 0), (.ref bP)])) (fun t k => st2 t k) ?_
  refine ov (B := T2.setTop (mkF m 42 #[rv bP, iv 1, iv cP] [(.int (cP >>> ((0 : Int32) &&& 31))), (.int 0), (.ref bP)])) (fun t k => XS.ishr X2.here hx rfl (hb hby own_d24_41) rfl k) ?_
  refine ov (B := T2.setTop (mkF m 43 #[rv bP, iv 1, iv cP] [(.int ((cP >>> ((0 : Int32) &&& 31)).toInt8.toInt32)), (.int 0), (.ref bP)])) (fun t k => XS.i2b X2.here hx rfl (hb hby own_d24_42) rfl k) ?_
  obtain ⟨cl3, Ar3, q3, S3, M3, H3, G3⟩ := id Vp
  obtain ⟨T4, h4, X4, e4, W4, st4⟩ := stB X2 hx hZ e2 Ar3 (j := (0 : Int32)) (inb_of S3 ⟨by decide, by decide⟩) (g := (mkF m 43 #[rv bP, iv 1, iv cP] [(.int ((cP >>> ((0 : Int32) &&& 31)).toInt8.toInt32)), (.int 0), (.ref bP)])) rfl rfl (hb hby own_d24_43)
  have V4 : Arv Z h4 bP kp .byte (4 : Int32) [(.int ((cP >>> ((0 : Int32) &&& 31)).toInt8.toInt32).toInt8.toInt32), (.int yB), (.int yC), (.int yD)] (.int 0) := Arv.set Ar3 q3 S3 M3 H3 G3 (fits_nar_byte _) W4 0 rfl (Nat.le_of_ble_eq_true rfl)
  have N4 := Fr.snoc X4 N0 g_bP
  refine ov (B := T4.setTop (mkF m 44 #[rv bP, iv 1, iv cP] [])) (fun t k => st4 t k) ?_
  refine oALN (n := 45) X4 hx (hb hby own_d24_44) rfl rfl rfl ?_
  refine oILN (n := 46) X4 hx (hb hby own_d24_45) rfl rfl ?_
  refine oILN (n := 47) X4 hx (hb hby own_d24_46) rfl rfl ?_
  obtain ⟨T5, X5, e5, st5⟩ := getS2 X4 hx hZ hown (host := "") (Or.inl (oW hw 156 rfl)) Via.refl e4 (SL.ext (O0.wr W4 g_bP).2) (g := (mkF m 47 #[rv bP, iv 1, iv cP] [(.int cP), (.int 1), (.ref bP)])) rfl (hb hby own_d24_47)
  refine ov (B := T5.setTop (mkF m 50 #[rv bP, iv 1, iv cP] [(.int 8), (.int cP), (.int 1), (.ref bP)])) (fun t k => st5 t k) ?_
  refine ov (B := T5.setTop (mkF m 51 #[rv bP, iv 1, iv cP] [(.int (cP >>> ((8 : Int32) &&& 31))), (.int 1), (.ref bP)])) (fun t k => XS.ishr X5.here hx rfl (hb hby own_d24_50) rfl k) ?_
  refine ov (B := T5.setTop (mkF m 52 #[rv bP, iv 1, iv cP] [(.int ((cP >>> ((8 : Int32) &&& 31)).toInt8.toInt32)), (.int 1), (.ref bP)])) (fun t k => XS.i2b X5.here hx rfl (hb hby own_d24_51) rfl k) ?_
  obtain ⟨cl6, Ar6, q6, S6, M6, H6, G6⟩ := id V4
  obtain ⟨T7, h7, X7, e7, W7, st7⟩ := stB X5 hx hZ e5 Ar6 (j := (1 : Int32)) (inb_of S6 ⟨by decide, by decide⟩) (g := (mkF m 52 #[rv bP, iv 1, iv cP] [(.int ((cP >>> ((8 : Int32) &&& 31)).toInt8.toInt32)), (.int 1), (.ref bP)])) rfl rfl (hb hby own_d24_52)
  have V7 : Arv Z h7 bP kp .byte (4 : Int32) [(.int ((cP >>> ((0 : Int32) &&& 31)).toInt8.toInt32).toInt8.toInt32), (.int ((cP >>> ((8 : Int32) &&& 31)).toInt8.toInt32).toInt8.toInt32), (.int yC), (.int yD)] (.int 0) := Arv.set Ar6 q6 S6 M6 H6 G6 (fits_nar_byte _) W7 1 rfl (Nat.le_of_ble_eq_true rfl)
  have N7 := Fr.snoc X7 N4 g_bP
  refine ov (B := T7.setTop (mkF m 53 #[rv bP, iv 1, iv cP] [])) (fun t k => st7 t k) ?_
  refine own_leafV X7 hx hlk Bd.returns (hb hby own_d24_53) (by decide) (by decide) ?_
  show QPC20 Z bP cP kp yA yB yC yD h0 n0 _ T7.heap _
  rw [e7]
  refine ⟨?_, N7, (((Keep.refl h0 [bP]).wr W4 (Or.inl (List.mem_of_getElem? (i := 0) rfl))).wr W7 (Or.inl (List.mem_of_getElem? (i := 0) rfl))), V7⟩
  rfl
theorem own_efGC20 (m : MethodId) (x0 : Addr) (x1 : Int32) : entryFrame m #[(.ref x0), (.int x1)] 2 = mkF m 0 #[rv x0, iv x1] [] := by first | (simp [entryFrame, mkF, argsToLocals, Value.category]; done) | rfl
def QGC20 (Z : State) (bG : Addr) (kg : ClassId) (cG : Int32) (yA : Int32) (yB : Int32) (yC : Int32) (yD : Int32) (h0 : Heap) (n0 : Nat) (v : Option Value) (h : Heap) (L : List Loc) : Prop := v = some (.int (own_gc cG)) ∧ Fr n0 L ∧ h = h0
set_option maxRecDepth 65536 in
set_option maxHeartbeats 40000000 in
theorem rmGC20 (l : Launch) (Z : State) (a0 : Array Value) (hw : ∀ d ∈ tables_1, d.before a0 Z = true) (ws : List Jvm.Cond) (bG : Addr) (kg : ClassId) (cG : Int32) (yA : Int32) (yB : Int32) (yC : Int32) (yD : Int32) (h0 : Heap) (n0 : Nat) (Z0 : n0 ≤ h0.size) (O0 : Old Z n0 h0) (SA : Sta Z Z.heap sAB sAH "Z" (.int (1 : Int32))) (SH : Sta Z Z.heap sAB "HI_BYTE_SHIFT" "I" (.int (0 : Int32))) (SL : Sta Z Z.heap sAB "LO_BYTE_SHIFT" "I" (.int (8 : Int32))) (Vg : Arv Z h0 bG kg .byte (4 : Int32) [(.int (cG >>> ((0 : Int32) &&& 31)).toInt8.toInt32.toInt8.toInt32), (.int (cG >>> ((8 : Int32) &&& 31)).toInt8.toInt32.toInt8.toInt32), (.int yC), (.int yD)] (.int (0 : Int32))) :
    MetFree l (⟨sAB, "getChar", "([BI)C"⟩ : MethodName) (head1 (Jvm.Cond.code (⟨sAB, "getChar", "([BI)C"⟩ : MethodName) jdk_52_method_5_code 2 (some .char) :: ws) (oR 0 0 0 0)) (fun a U => a = #[(.ref bG), (.int 0)] ∧ Z.Warmed39 U.vm ∧ U.heap = h0) (fun _ _ _ _ _ => True) (fun _ U o U' => ∃ v L, o = .returned v ∧ QGC20 Z bG kg cG yA yB yC yD h0 n0 v U'.heap L ∧ FrameEnd U o U' L (oR 0 0 0 0).cells (oR 0 0 0 0).slots) := by
  refine MetFree.of_bodySF (plainFor_of_name own_pn0) hisR ?_
  intro p e s m args below meth c s₁ Bd hml0 hP hK
  obtain ⟨rfl, hZ, hh⟩ := hP
  have hx := Bd.exec
  have hby := Bd.bytes
  have hlk : meth.locks = false := Bd.notSynchronized
  have hml : c.maxLocals = 2 := hml0
  have hown : s.vm.findClass sAB = some m.cls := findClass_of_methodNamed Bd.named
  have hnm := (name_of_methodNamed Bd.named Bd.method).1
  have X0 : Stand p l e (oR 0 0 0 0) s m #[(.ref bG), (.int 0)] below meth c s₁ [] 0 0 := Stand.of_body Bd
  have e0 : s₁.heap = h0 := by rw [← hh, Bd.state]; rfl
  have N0 := Fr.nil n0
  refine own_body (A := s₁.setTop (mkF m 0 #[rv bG, iv 0] [])) (Q := QGC20 Z bG kg cG yA yB yC yD h0 n0) (fun t k => castTop (own_efGC20 m bG (0 : Int32)) k) ?_
  obtain ⟨T1, X1, e1, st1⟩ := getS2 X0 hx hZ hown (host := "") (Or.inl (oW hw 154 rfl)) Via.refl e0 (SA.ext O0.2) (g := (mkF m 0 #[rv bG, iv 0] [])) rfl (hb hby own_d25_0)
  refine ov (B := T1.setTop (mkF m 3 #[rv bG, iv 0] [(.int 1)])) (fun t k => st1 t k) ?_
  have hc3 : ¬ ((1 : Int32) = (0 : Int32)) := by decide
  refine ov (B := T1.setTop (mkF m 28 #[rv bG, iv 0] [])) (fun t k => XS.ifYes X1.here hx rfl (pc0 := 3) (pc' := 28) rfl (hb hby own_d25_3) rfl ((if0 _ _).trans (feq hc3).2) (by decide) (by decide) k) ?_
  refine oILN (n := 29) X1 hx (hb hby own_d25_28) rfl rfl ?_
  refine oIC (n := 30) X1 hx (1 : Int32) (hb hby own_d25_29) (by decide) rfl ?_
  refine ov (B := T1.setTop (mkF m 31 #[rv bG, iv 0] [(.int 0)])) (fun t k => XS.ishl X1.here hx rfl (hb hby own_d25_30) rfl (by rw [(by decide : ((0 : Int32) <<< ((1 : Int32) &&& 31)) = (0 : Int32))]; exact k)) ?_
  refine ov (B := T1.setTop (mkF m 32 #[rv bG, iv 0] [])) (fun t k => XS.istoreN X1.here hx rfl (hb hby own_d25_31) rfl (l' := #[rv bG, iv 0]) rfl k) ?_
  refine oALN (n := 33) X1 hx (hb hby own_d25_32) rfl rfl rfl ?_
  refine oILN (n := 34) X1 hx (hb hby own_d25_33) rfl rfl ?_
  refine ov (B := T1.setTop (mkF m 37 #[rv bG, iv 1] [(.int 0), (.ref bG)])) (fun t k => XS.iinc X1.here hx rfl (hb hby own_d25_34) rfl (l' := #[rv bG, iv 1]) rfl k) ?_
  obtain ⟨cl2, Ar2, q2, S2, M2, H2, G2⟩ := id Vg
  have hin2 : ¬ ((0 : Int32) < 0 ∨ cl2.slots.size ≤ ((0 : Int32)).toNatClampNeg) := inb_of S2 ⟨by decide, by decide⟩
  refine ov (B := T1.setTop (mkF m 38 #[rv bG, iv 1] [(.int (cG >>> ((0 : Int32) &&& 31)).toInt8.toInt32.toInt8.toInt32)])) (fun t k => X1.baloadBytes hx (j := (0 : Int32)) (v := (.int (cG >>> ((0 : Int32) &&& 31)).toInt8.toInt32.toInt8.toInt32)) (by rw [e1]; exact Ar2.1) (State.isArrayOf_alike hZ.alike Ar2.2.1) Ar2.2.2 hin2 (Has.at H2 hin2 rfl) (g := (mkF m 37 #[rv bG, iv 1] [(.int 0), (.ref bG)])) rfl rfl (hb hby own_d25_37) _ k) ?_
  refine oSP (n := 41) X1 hx (255 : Int32) (hb hby own_d25_38) (by decide) rfl ?_
  refine ov (B := T1.setTop (mkF m 42 #[rv bG, iv 1] [(.int ((cG >>> ((0 : Int32) &&& 31)).toInt8.toInt32.toInt8.toInt32 &&& (255 : Int32)))])) (fun t k => XS.iand X1.here hx rfl (hb hby own_d25_41) rfl k) ?_
  obtain ⟨T3, X3, e3, st3⟩ := getS2 X1 hx hZ hown (host := "") (Or.inl (oW hw 155 rfl)) Via.refl e1 (SH.ext O0.2) (g := (mkF m 42 #[rv bG, iv 1] [(.int ((cG >>> ((0 : Int32) &&& 31)).toInt8.toInt32.toInt8.toInt32 &&& (255 : Int32)))])) rfl (hb hby own_d25_42)
  refine ov (B := T3.setTop (mkF m 45 #[rv bG, iv 1] [(.int 0), (.int ((cG >>> ((0 : Int32) &&& 31)).toInt8.toInt32.toInt8.toInt32 &&& (255 : Int32)))])) (fun t k => st3 t k) ?_
  refine ov (B := T3.setTop (mkF m 46 #[rv bG, iv 1] [(.int (((cG >>> ((0 : Int32) &&& 31)).toInt8.toInt32.toInt8.toInt32 &&& (255 : Int32)) <<< ((0 : Int32) &&& 31)))])) (fun t k => XS.ishl X3.here hx rfl (hb hby own_d25_45) rfl k) ?_
  refine oALN (n := 47) X3 hx (hb hby own_d25_46) rfl rfl rfl ?_
  refine oILN (n := 48) X3 hx (hb hby own_d25_47) rfl rfl ?_
  obtain ⟨cl4, Ar4, q4, S4, M4, H4, G4⟩ := id Vg
  have hin4 : ¬ ((1 : Int32) < 0 ∨ cl4.slots.size ≤ ((1 : Int32)).toNatClampNeg) := inb_of S4 ⟨by decide, by decide⟩
  refine ov (B := T3.setTop (mkF m 49 #[rv bG, iv 1] [(.int (cG >>> ((8 : Int32) &&& 31)).toInt8.toInt32.toInt8.toInt32), (.int (((cG >>> ((0 : Int32) &&& 31)).toInt8.toInt32.toInt8.toInt32 &&& (255 : Int32)) <<< ((0 : Int32) &&& 31)))])) (fun t k => X3.baloadBytes hx (j := (1 : Int32)) (v := (.int (cG >>> ((8 : Int32) &&& 31)).toInt8.toInt32.toInt8.toInt32)) (by rw [e3]; exact Ar4.1) (State.isArrayOf_alike hZ.alike Ar4.2.1) Ar4.2.2 hin4 (Has.at H4 hin4 rfl) (g := (mkF m 48 #[rv bG, iv 1] [(.int 1), (.ref bG), (.int (((cG >>> ((0 : Int32) &&& 31)).toInt8.toInt32.toInt8.toInt32 &&& (255 : Int32)) <<< ((0 : Int32) &&& 31)))])) rfl rfl (hb hby own_d25_48) _ k) ?_
  refine oSP (n := 52) X3 hx (255 : Int32) (hb hby own_d25_49) (by decide) rfl ?_
  refine ov (B := T3.setTop (mkF m 53 #[rv bG, iv 1] [(.int ((cG >>> ((8 : Int32) &&& 31)).toInt8.toInt32.toInt8.toInt32 &&& (255 : Int32))), (.int (((cG >>> ((0 : Int32) &&& 31)).toInt8.toInt32.toInt8.toInt32 &&& (255 : Int32)) <<< ((0 : Int32) &&& 31)))])) (fun t k => XS.iand X3.here hx rfl (hb hby own_d25_52) rfl k) ?_
  obtain ⟨T5, X5, e5, st5⟩ := getS2 X3 hx hZ hown (host := "") (Or.inl (oW hw 156 rfl)) Via.refl e3 (SL.ext O0.2) (g := (mkF m 53 #[rv bG, iv 1] [(.int ((cG >>> ((8 : Int32) &&& 31)).toInt8.toInt32.toInt8.toInt32 &&& (255 : Int32))), (.int (((cG >>> ((0 : Int32) &&& 31)).toInt8.toInt32.toInt8.toInt32 &&& (255 : Int32)) <<< ((0 : Int32) &&& 31)))])) rfl (hb hby own_d25_53)
  refine ov (B := T5.setTop (mkF m 56 #[rv bG, iv 1] [(.int 8), (.int ((cG >>> ((8 : Int32) &&& 31)).toInt8.toInt32.toInt8.toInt32 &&& (255 : Int32))), (.int (((cG >>> ((0 : Int32) &&& 31)).toInt8.toInt32.toInt8.toInt32 &&& (255 : Int32)) <<< ((0 : Int32) &&& 31)))])) (fun t k => st5 t k) ?_
  refine ov (B := T5.setTop (mkF m 57 #[rv bG, iv 1] [(.int (((cG >>> ((8 : Int32) &&& 31)).toInt8.toInt32.toInt8.toInt32 &&& (255 : Int32)) <<< ((8 : Int32) &&& 31))), (.int (((cG >>> ((0 : Int32) &&& 31)).toInt8.toInt32.toInt8.toInt32 &&& (255 : Int32)) <<< ((0 : Int32) &&& 31)))])) (fun t k => XS.ishl X5.here hx rfl (hb hby own_d25_56) rfl k) ?_
  refine ov (B := T5.setTop (mkF m 58 #[rv bG, iv 1] [(.int ((((cG >>> ((0 : Int32) &&& 31)).toInt8.toInt32.toInt8.toInt32 &&& (255 : Int32)) <<< ((0 : Int32) &&& 31)) ||| (((cG >>> ((8 : Int32) &&& 31)).toInt8.toInt32.toInt8.toInt32 &&& (255 : Int32)) <<< ((8 : Int32) &&& 31))))])) (fun t k => XS.ior X5.here hx rfl (hb hby own_d25_57) rfl k) ?_
  refine ov (B := T5.setTop (mkF m 59 #[rv bG, iv 1] [(.int (((((cG >>> ((0 : Int32) &&& 31)).toInt8.toInt32.toInt8.toInt32 &&& (255 : Int32)) <<< ((0 : Int32) &&& 31)) ||| (((cG >>> ((8 : Int32) &&& 31)).toInt8.toInt32.toInt8.toInt32 &&& (255 : Int32)) <<< ((8 : Int32) &&& 31))).toUInt32.toUInt16.toUInt32.toInt32))])) (fun t k => XS.i2c X5.here hx rfl (hb hby own_d25_58) rfl k) ?_
  refine own_leaf X5 hx hlk (t := .char) Bd.returns (own_nn16 _) (Or.inl ⟨rfl, by simp, _, rfl⟩) (hb hby own_d25_59) (by decide) (by decide) ?_
  show QGC20 Z bG kg cG yA yB yC yD h0 n0 _ T5.heap _
  rw [e5]
  refine ⟨?_, N0, rfl⟩
  rfl
theorem own_efPC21 (m : MethodId) (x0 : Addr) (x1 : Int32) (x2 : Int32) : entryFrame m #[(.ref x0), (.int x1), (.int x2)] 3 = mkF m 0 #[rv x0, iv x1, iv x2] [] := by first | (simp [entryFrame, mkF, argsToLocals, Value.category]; done) | rfl
def QPC21 (Z : State) (bP : Addr) (cP : Int32) (kp : ClassId) (yA : Int32) (yB : Int32) (yC : Int32) (yD : Int32) (h0 : Heap) (n0 : Nat) (v : Option Value) (h : Heap) (L : List Loc) : Prop := v = none ∧ Fr n0 L ∧ Keep h0 h [bP] ∧ (Arv Z h bP kp .byte (4 : Int32) [(.int yA), (.int yB), (.int (cP >>> ((0 : Int32) &&& 31)).toInt8.toInt32.toInt8.toInt32), (.int (cP >>> ((8 : Int32) &&& 31)).toInt8.toInt32.toInt8.toInt32)] (.int (0 : Int32)))
set_option maxRecDepth 65536 in
set_option maxHeartbeats 40000000 in
theorem rmPC21 (l : Launch) (Z : State) (a0 : Array Value) (hw : ∀ d ∈ tables_1, d.before a0 Z = true) (ws : List Jvm.Cond) (bP : Addr) (cP : Int32) (kp : ClassId) (yA : Int32) (yB : Int32) (yC : Int32) (yD : Int32) (h0 : Heap) (n0 : Nat) (Z0 : n0 ≤ h0.size) (O0 : Old Z n0 h0) (SA : Sta Z Z.heap sAB sAH "Z" (.int (1 : Int32))) (SH : Sta Z Z.heap sAB "HI_BYTE_SHIFT" "I" (.int (0 : Int32))) (SL : Sta Z Z.heap sAB "LO_BYTE_SHIFT" "I" (.int (8 : Int32))) (Vp : Arv Z h0 bP kp .byte (4 : Int32) [(.int yA), (.int yB), (.int yC), (.int yD)] (.int (0 : Int32))) (g_bP : n0 ≤ bP) :
    MetFree l (⟨sAB, "putChar", "([BII)V"⟩ : MethodName) (head1 (Jvm.Cond.code (⟨sAB, "putChar", "([BII)V"⟩ : MethodName) jdk_52_method_4_code 3 none :: ws) (oR 0 0 0 0)) (fun a U => a = #[(.ref bP), (.int 1), (.int cP)] ∧ Z.Warmed39 U.vm ∧ U.heap = h0) (fun _ _ _ _ _ => True) (fun _ U o U' => ∃ v L, o = .returned v ∧ QPC21 Z bP cP kp yA yB yC yD h0 n0 v U'.heap L ∧ FrameEnd U o U' L (oR 0 0 0 0).cells (oR 0 0 0 0).slots) := by
  refine MetFree.of_bodySF (plainFor_of_name own_pn0) hisR ?_
  intro p e s m args below meth c s₁ Bd hml0 hP hK
  obtain ⟨rfl, hZ, hh⟩ := hP
  have hx := Bd.exec
  have hby := Bd.bytes
  have hlk : meth.locks = false := Bd.notSynchronized
  have hml : c.maxLocals = 3 := hml0
  have hown : s.vm.findClass sAB = some m.cls := findClass_of_methodNamed Bd.named
  have hnm := (name_of_methodNamed Bd.named Bd.method).1
  have X0 : Stand p l e (oR 0 0 0 0) s m #[(.ref bP), (.int 1), (.int cP)] below meth c s₁ [] 0 0 := Stand.of_body Bd
  have e0 : s₁.heap = h0 := by rw [← hh, Bd.state]; rfl
  have N0 := Fr.nil n0
  refine own_body (A := s₁.setTop (mkF m 0 #[rv bP, iv 1, iv cP] [])) (Q := QPC21 Z bP cP kp yA yB yC yD h0 n0) (fun t k => castTop (own_efPC21 m bP (1 : Int32) cP) k) ?_
  obtain ⟨T1, X1, e1, st1⟩ := getS2 X0 hx hZ hown (host := "") (Or.inl (oW hw 154 rfl)) Via.refl e0 (SA.ext O0.2) (g := (mkF m 0 #[rv bP, iv 1, iv cP] [])) rfl (hb hby own_d24_0)
  refine ov (B := T1.setTop (mkF m 3 #[rv bP, iv 1, iv cP] [(.int 1)])) (fun t k => st1 t k) ?_
  have hc3 : ¬ ((1 : Int32) = (0 : Int32)) := by decide
  refine ov (B := T1.setTop (mkF m 28 #[rv bP, iv 1, iv cP] [])) (fun t k => XS.ifYes X1.here hx rfl (pc0 := 3) (pc' := 28) rfl (hb hby own_d24_3) rfl ((if0 _ _).trans (feq hc3).2) (by decide) (by decide) k) ?_
  refine oILN (n := 29) X1 hx (hb hby own_d24_28) rfl rfl ?_
  refine oIC (n := 30) X1 hx (1 : Int32) (hb hby own_d24_29) (by decide) rfl ?_
  refine ov (B := T1.setTop (mkF m 31 #[rv bP, iv 1, iv cP] [(.int 2)])) (fun t k => XS.ishl X1.here hx rfl (hb hby own_d24_30) rfl (by rw [(by decide : ((1 : Int32) <<< ((1 : Int32) &&& 31)) = (2 : Int32))]; exact k)) ?_
  refine ov (B := T1.setTop (mkF m 32 #[rv bP, iv 2, iv cP] [])) (fun t k => XS.istoreN X1.here hx rfl (hb hby own_d24_31) rfl (l' := #[rv bP, iv 2, iv cP]) rfl k) ?_
  refine oALN (n := 33) X1 hx (hb hby own_d24_32) rfl rfl rfl ?_
  refine oILN (n := 34) X1 hx (hb hby own_d24_33) rfl rfl ?_
  refine ov (B := T1.setTop (mkF m 37 #[rv bP, iv 3, iv cP] [(.int 2), (.ref bP)])) (fun t k => XS.iinc X1.here hx rfl (hb hby own_d24_34) rfl (l' := #[rv bP, iv 3, iv cP]) rfl k) ?_
  refine oILN (n := 38) X1 hx (hb hby own_d24_37) rfl rfl ?_
  obtain ⟨T2, X2, e2, st2⟩ := getS2 X1 hx hZ hown (host := "") (Or.inl (oW hw 155 rfl)) Via.refl e1 (SH.ext O0.2) (g := (mkF m 38 #[rv bP, iv 3, iv cP] [(.int cP), (.int 2), (.ref bP)])) rfl (hb hby own_d24_38)
  refine ov (B := T2.setTop (mkF m 41 #[rv bP, iv 3, iv cP] [(.int 0), (.int cP), (.int 2), (.ref bP)])) (fun t k => st2 t k) ?_
  refine ov (B := T2.setTop (mkF m 42 #[rv bP, iv 3, iv cP] [(.int (cP >>> ((0 : Int32) &&& 31))), (.int 2), (.ref bP)])) (fun t k => XS.ishr X2.here hx rfl (hb hby own_d24_41) rfl k) ?_
  refine ov (B := T2.setTop (mkF m 43 #[rv bP, iv 3, iv cP] [(.int ((cP >>> ((0 : Int32) &&& 31)).toInt8.toInt32)), (.int 2), (.ref bP)])) (fun t k => XS.i2b X2.here hx rfl (hb hby own_d24_42) rfl k) ?_
  obtain ⟨cl3, Ar3, q3, S3, M3, H3, G3⟩ := id Vp
  obtain ⟨T4, h4, X4, e4, W4, st4⟩ := stB X2 hx hZ e2 Ar3 (j := (2 : Int32)) (inb_of S3 ⟨by decide, by decide⟩) (g := (mkF m 43 #[rv bP, iv 3, iv cP] [(.int ((cP >>> ((0 : Int32) &&& 31)).toInt8.toInt32)), (.int 2), (.ref bP)])) rfl rfl (hb hby own_d24_43)
  have V4 : Arv Z h4 bP kp .byte (4 : Int32) [(.int yA), (.int yB), (.int ((cP >>> ((0 : Int32) &&& 31)).toInt8.toInt32).toInt8.toInt32), (.int yD)] (.int 0) := Arv.set Ar3 q3 S3 M3 H3 G3 (fits_nar_byte _) W4 2 rfl (Nat.le_of_ble_eq_true rfl)
  have N4 := Fr.snoc X4 N0 g_bP
  refine ov (B := T4.setTop (mkF m 44 #[rv bP, iv 3, iv cP] [])) (fun t k => st4 t k) ?_
  refine oALN (n := 45) X4 hx (hb hby own_d24_44) rfl rfl rfl ?_
  refine oILN (n := 46) X4 hx (hb hby own_d24_45) rfl rfl ?_
  refine oILN (n := 47) X4 hx (hb hby own_d24_46) rfl rfl ?_
  obtain ⟨T5, X5, e5, st5⟩ := getS2 X4 hx hZ hown (host := "") (Or.inl (oW hw 156 rfl)) Via.refl e4 (SL.ext (O0.wr W4 g_bP).2) (g := (mkF m 47 #[rv bP, iv 3, iv cP] [(.int cP), (.int 3), (.ref bP)])) rfl (hb hby own_d24_47)
  refine ov (B := T5.setTop (mkF m 50 #[rv bP, iv 3, iv cP] [(.int 8), (.int cP), (.int 3), (.ref bP)])) (fun t k => st5 t k) ?_
  refine ov (B := T5.setTop (mkF m 51 #[rv bP, iv 3, iv cP] [(.int (cP >>> ((8 : Int32) &&& 31))), (.int 3), (.ref bP)])) (fun t k => XS.ishr X5.here hx rfl (hb hby own_d24_50) rfl k) ?_
  refine ov (B := T5.setTop (mkF m 52 #[rv bP, iv 3, iv cP] [(.int ((cP >>> ((8 : Int32) &&& 31)).toInt8.toInt32)), (.int 3), (.ref bP)])) (fun t k => XS.i2b X5.here hx rfl (hb hby own_d24_51) rfl k) ?_
  obtain ⟨cl6, Ar6, q6, S6, M6, H6, G6⟩ := id V4
  obtain ⟨T7, h7, X7, e7, W7, st7⟩ := stB X5 hx hZ e5 Ar6 (j := (3 : Int32)) (inb_of S6 ⟨by decide, by decide⟩) (g := (mkF m 52 #[rv bP, iv 3, iv cP] [(.int ((cP >>> ((8 : Int32) &&& 31)).toInt8.toInt32)), (.int 3), (.ref bP)])) rfl rfl (hb hby own_d24_52)
  have V7 : Arv Z h7 bP kp .byte (4 : Int32) [(.int yA), (.int yB), (.int ((cP >>> ((0 : Int32) &&& 31)).toInt8.toInt32).toInt8.toInt32), (.int ((cP >>> ((8 : Int32) &&& 31)).toInt8.toInt32).toInt8.toInt32)] (.int 0) := Arv.set Ar6 q6 S6 M6 H6 G6 (fits_nar_byte _) W7 3 rfl (Nat.le_of_ble_eq_true rfl)
  have N7 := Fr.snoc X7 N4 g_bP
  refine ov (B := T7.setTop (mkF m 53 #[rv bP, iv 3, iv cP] [])) (fun t k => st7 t k) ?_
  refine own_leafV X7 hx hlk Bd.returns (hb hby own_d24_53) (by decide) (by decide) ?_
  show QPC21 Z bP cP kp yA yB yC yD h0 n0 _ T7.heap _
  rw [e7]
  refine ⟨?_, N7, (((Keep.refl h0 [bP]).wr W4 (Or.inl (List.mem_of_getElem? (i := 0) rfl))).wr W7 (Or.inl (List.mem_of_getElem? (i := 0) rfl))), V7⟩
  rfl
theorem own_efGC21 (m : MethodId) (x0 : Addr) (x1 : Int32) : entryFrame m #[(.ref x0), (.int x1)] 2 = mkF m 0 #[rv x0, iv x1] [] := by first | (simp [entryFrame, mkF, argsToLocals, Value.category]; done) | rfl
def QGC21 (Z : State) (bG : Addr) (kg : ClassId) (cG : Int32) (yA : Int32) (yB : Int32) (yC : Int32) (yD : Int32) (h0 : Heap) (n0 : Nat) (v : Option Value) (h : Heap) (L : List Loc) : Prop := v = some (.int (own_gc cG)) ∧ Fr n0 L ∧ h = h0
set_option maxRecDepth 65536 in
set_option maxHeartbeats 40000000 in
theorem rmGC21 (l : Launch) (Z : State) (a0 : Array Value) (hw : ∀ d ∈ tables_1, d.before a0 Z = true) (ws : List Jvm.Cond) (bG : Addr) (kg : ClassId) (cG : Int32) (yA : Int32) (yB : Int32) (yC : Int32) (yD : Int32) (h0 : Heap) (n0 : Nat) (Z0 : n0 ≤ h0.size) (O0 : Old Z n0 h0) (SA : Sta Z Z.heap sAB sAH "Z" (.int (1 : Int32))) (SH : Sta Z Z.heap sAB "HI_BYTE_SHIFT" "I" (.int (0 : Int32))) (SL : Sta Z Z.heap sAB "LO_BYTE_SHIFT" "I" (.int (8 : Int32))) (Vg : Arv Z h0 bG kg .byte (4 : Int32) [(.int yA), (.int yB), (.int (cG >>> ((0 : Int32) &&& 31)).toInt8.toInt32.toInt8.toInt32), (.int (cG >>> ((8 : Int32) &&& 31)).toInt8.toInt32.toInt8.toInt32)] (.int (0 : Int32))) :
    MetFree l (⟨sAB, "getChar", "([BI)C"⟩ : MethodName) (head1 (Jvm.Cond.code (⟨sAB, "getChar", "([BI)C"⟩ : MethodName) jdk_52_method_5_code 2 (some .char) :: ws) (oR 0 0 0 0)) (fun a U => a = #[(.ref bG), (.int 1)] ∧ Z.Warmed39 U.vm ∧ U.heap = h0) (fun _ _ _ _ _ => True) (fun _ U o U' => ∃ v L, o = .returned v ∧ QGC21 Z bG kg cG yA yB yC yD h0 n0 v U'.heap L ∧ FrameEnd U o U' L (oR 0 0 0 0).cells (oR 0 0 0 0).slots) := by
  refine MetFree.of_bodySF (plainFor_of_name own_pn0) hisR ?_
  intro p e s m args below meth c s₁ Bd hml0 hP hK
  obtain ⟨rfl, hZ, hh⟩ := hP
  have hx := Bd.exec
  have hby := Bd.bytes
  have hlk : meth.locks = false := Bd.notSynchronized
  have hml : c.maxLocals = 2 := hml0
  have hown : s.vm.findClass sAB = some m.cls := findClass_of_methodNamed Bd.named
  have hnm := (name_of_methodNamed Bd.named Bd.method).1
  have X0 : Stand p l e (oR 0 0 0 0) s m #[(.ref bG), (.int 1)] below meth c s₁ [] 0 0 := Stand.of_body Bd
  have e0 : s₁.heap = h0 := by rw [← hh, Bd.state]; rfl
  have N0 := Fr.nil n0
  refine own_body (A := s₁.setTop (mkF m 0 #[rv bG, iv 1] [])) (Q := QGC21 Z bG kg cG yA yB yC yD h0 n0) (fun t k => castTop (own_efGC21 m bG (1 : Int32)) k) ?_
  obtain ⟨T1, X1, e1, st1⟩ := getS2 X0 hx hZ hown (host := "") (Or.inl (oW hw 154 rfl)) Via.refl e0 (SA.ext O0.2) (g := (mkF m 0 #[rv bG, iv 1] [])) rfl (hb hby own_d25_0)
  refine ov (B := T1.setTop (mkF m 3 #[rv bG, iv 1] [(.int 1)])) (fun t k => st1 t k) ?_
  have hc3 : ¬ ((1 : Int32) = (0 : Int32)) := by decide
  refine ov (B := T1.setTop (mkF m 28 #[rv bG, iv 1] [])) (fun t k => XS.ifYes X1.here hx rfl (pc0 := 3) (pc' := 28) rfl (hb hby own_d25_3) rfl ((if0 _ _).trans (feq hc3).2) (by decide) (by decide) k) ?_
  refine oILN (n := 29) X1 hx (hb hby own_d25_28) rfl rfl ?_
  refine oIC (n := 30) X1 hx (1 : Int32) (hb hby own_d25_29) (by decide) rfl ?_
  refine ov (B := T1.setTop (mkF m 31 #[rv bG, iv 1] [(.int 2)])) (fun t k => XS.ishl X1.here hx rfl (hb hby own_d25_30) rfl (by rw [(by decide : ((1 : Int32) <<< ((1 : Int32) &&& 31)) = (2 : Int32))]; exact k)) ?_
  refine ov (B := T1.setTop (mkF m 32 #[rv bG, iv 2] [])) (fun t k => XS.istoreN X1.here hx rfl (hb hby own_d25_31) rfl (l' := #[rv bG, iv 2]) rfl k) ?_
  refine oALN (n := 33) X1 hx (hb hby own_d25_32) rfl rfl rfl ?_
  refine oILN (n := 34) X1 hx (hb hby own_d25_33) rfl rfl ?_
  refine ov (B := T1.setTop (mkF m 37 #[rv bG, iv 3] [(.int 2), (.ref bG)])) (fun t k => XS.iinc X1.here hx rfl (hb hby own_d25_34) rfl (l' := #[rv bG, iv 3]) rfl k) ?_
  obtain ⟨cl2, Ar2, q2, S2, M2, H2, G2⟩ := id Vg
  have hin2 : ¬ ((2 : Int32) < 0 ∨ cl2.slots.size ≤ ((2 : Int32)).toNatClampNeg) := inb_of S2 ⟨by decide, by decide⟩
  refine ov (B := T1.setTop (mkF m 38 #[rv bG, iv 3] [(.int (cG >>> ((0 : Int32) &&& 31)).toInt8.toInt32.toInt8.toInt32)])) (fun t k => X1.baloadBytes hx (j := (2 : Int32)) (v := (.int (cG >>> ((0 : Int32) &&& 31)).toInt8.toInt32.toInt8.toInt32)) (by rw [e1]; exact Ar2.1) (State.isArrayOf_alike hZ.alike Ar2.2.1) Ar2.2.2 hin2 (Has.at H2 hin2 rfl) (g := (mkF m 37 #[rv bG, iv 3] [(.int 2), (.ref bG)])) rfl rfl (hb hby own_d25_37) _ k) ?_
  refine oSP (n := 41) X1 hx (255 : Int32) (hb hby own_d25_38) (by decide) rfl ?_
  refine ov (B := T1.setTop (mkF m 42 #[rv bG, iv 3] [(.int ((cG >>> ((0 : Int32) &&& 31)).toInt8.toInt32.toInt8.toInt32 &&& (255 : Int32)))])) (fun t k => XS.iand X1.here hx rfl (hb hby own_d25_41) rfl k) ?_
  obtain ⟨T3, X3, e3, st3⟩ := getS2 X1 hx hZ hown (host := "") (Or.inl (oW hw 155 rfl)) Via.refl e1 (SH.ext O0.2) (g := (mkF m 42 #[rv bG, iv 3] [(.int ((cG >>> ((0 : Int32) &&& 31)).toInt8.toInt32.toInt8.toInt32 &&& (255 : Int32)))])) rfl (hb hby own_d25_42)
  refine ov (B := T3.setTop (mkF m 45 #[rv bG, iv 3] [(.int 0), (.int ((cG >>> ((0 : Int32) &&& 31)).toInt8.toInt32.toInt8.toInt32 &&& (255 : Int32)))])) (fun t k => st3 t k) ?_
  refine ov (B := T3.setTop (mkF m 46 #[rv bG, iv 3] [(.int (((cG >>> ((0 : Int32) &&& 31)).toInt8.toInt32.toInt8.toInt32 &&& (255 : Int32)) <<< ((0 : Int32) &&& 31)))])) (fun t k => XS.ishl X3.here hx rfl (hb hby own_d25_45) rfl k) ?_
  refine oALN (n := 47) X3 hx (hb hby own_d25_46) rfl rfl rfl ?_
  refine oILN (n := 48) X3 hx (hb hby own_d25_47) rfl rfl ?_
  obtain ⟨cl4, Ar4, q4, S4, M4, H4, G4⟩ := id Vg
  have hin4 : ¬ ((3 : Int32) < 0 ∨ cl4.slots.size ≤ ((3 : Int32)).toNatClampNeg) := inb_of S4 ⟨by decide, by decide⟩
  refine ov (B := T3.setTop (mkF m 49 #[rv bG, iv 3] [(.int (cG >>> ((8 : Int32) &&& 31)).toInt8.toInt32.toInt8.toInt32), (.int (((cG >>> ((0 : Int32) &&& 31)).toInt8.toInt32.toInt8.toInt32 &&& (255 : Int32)) <<< ((0 : Int32) &&& 31)))])) (fun t k => X3.baloadBytes hx (j := (3 : Int32)) (v := (.int (cG >>> ((8 : Int32) &&& 31)).toInt8.toInt32.toInt8.toInt32)) (by rw [e3]; exact Ar4.1) (State.isArrayOf_alike hZ.alike Ar4.2.1) Ar4.2.2 hin4 (Has.at H4 hin4 rfl) (g := (mkF m 48 #[rv bG, iv 3] [(.int 3), (.ref bG), (.int (((cG >>> ((0 : Int32) &&& 31)).toInt8.toInt32.toInt8.toInt32 &&& (255 : Int32)) <<< ((0 : Int32) &&& 31)))])) rfl rfl (hb hby own_d25_48) _ k) ?_
  refine oSP (n := 52) X3 hx (255 : Int32) (hb hby own_d25_49) (by decide) rfl ?_
  refine ov (B := T3.setTop (mkF m 53 #[rv bG, iv 3] [(.int ((cG >>> ((8 : Int32) &&& 31)).toInt8.toInt32.toInt8.toInt32 &&& (255 : Int32))), (.int (((cG >>> ((0 : Int32) &&& 31)).toInt8.toInt32.toInt8.toInt32 &&& (255 : Int32)) <<< ((0 : Int32) &&& 31)))])) (fun t k => XS.iand X3.here hx rfl (hb hby own_d25_52) rfl k) ?_
  obtain ⟨T5, X5, e5, st5⟩ := getS2 X3 hx hZ hown (host := "") (Or.inl (oW hw 156 rfl)) Via.refl e3 (SL.ext O0.2) (g := (mkF m 53 #[rv bG, iv 3] [(.int ((cG >>> ((8 : Int32) &&& 31)).toInt8.toInt32.toInt8.toInt32 &&& (255 : Int32))), (.int (((cG >>> ((0 : Int32) &&& 31)).toInt8.toInt32.toInt8.toInt32 &&& (255 : Int32)) <<< ((0 : Int32) &&& 31)))])) rfl (hb hby own_d25_53)
  refine ov (B := T5.setTop (mkF m 56 #[rv bG, iv 3] [(.int 8), (.int ((cG >>> ((8 : Int32) &&& 31)).toInt8.toInt32.toInt8.toInt32 &&& (255 : Int32))), (.int (((cG >>> ((0 : Int32) &&& 31)).toInt8.toInt32.toInt8.toInt32 &&& (255 : Int32)) <<< ((0 : Int32) &&& 31)))])) (fun t k => st5 t k) ?_
  refine ov (B := T5.setTop (mkF m 57 #[rv bG, iv 3] [(.int (((cG >>> ((8 : Int32) &&& 31)).toInt8.toInt32.toInt8.toInt32 &&& (255 : Int32)) <<< ((8 : Int32) &&& 31))), (.int (((cG >>> ((0 : Int32) &&& 31)).toInt8.toInt32.toInt8.toInt32 &&& (255 : Int32)) <<< ((0 : Int32) &&& 31)))])) (fun t k => XS.ishl X5.here hx rfl (hb hby own_d25_56) rfl k) ?_
  refine ov (B := T5.setTop (mkF m 58 #[rv bG, iv 3] [(.int ((((cG >>> ((0 : Int32) &&& 31)).toInt8.toInt32.toInt8.toInt32 &&& (255 : Int32)) <<< ((0 : Int32) &&& 31)) ||| (((cG >>> ((8 : Int32) &&& 31)).toInt8.toInt32.toInt8.toInt32 &&& (255 : Int32)) <<< ((8 : Int32) &&& 31))))])) (fun t k => XS.ior X5.here hx rfl (hb hby own_d25_57) rfl k) ?_
  refine ov (B := T5.setTop (mkF m 59 #[rv bG, iv 3] [(.int (((((cG >>> ((0 : Int32) &&& 31)).toInt8.toInt32.toInt8.toInt32 &&& (255 : Int32)) <<< ((0 : Int32) &&& 31)) ||| (((cG >>> ((8 : Int32) &&& 31)).toInt8.toInt32.toInt8.toInt32 &&& (255 : Int32)) <<< ((8 : Int32) &&& 31))).toUInt32.toUInt16.toUInt32.toInt32))])) (fun t k => XS.i2c X5.here hx rfl (hb hby own_d25_58) rfl k) ?_
  refine own_leaf X5 hx hlk (t := .char) Bd.returns (own_nn16 _) (Or.inl ⟨rfl, by simp, _, rfl⟩) (hb hby own_d25_59) (by decide) (by decide) ?_
  show QGC21 Z bG kg cG yA yB yC yD h0 n0 _ T5.heap _
  rw [e5]
  refine ⟨?_, N0, rfl⟩
  rfl
theorem own_efTB2 (m : MethodId) (x0 : Addr) (x1 : Int32) (x2 : Int32) : entryFrame m #[(.ref x0), (.int x1), (.int x2)] 5 = mkF m 0 #[rv x0, iv x1, iv x2, uu, uu] [] := by first | (simp [entryFrame, mkF, argsToLocals, Value.category]; done) | rfl
def QTB2 (Z : State) (aC : Addr) (kc : ClassId) (xA : Int32) (xB : Int32) (h0 : Heap) (n0 : Nat) (v : Option Value) (h : Heap) (L : List Loc) : Prop := ∃ (r : Addr) (kr : ClassId), v = some (.ref r) ∧ Fr n0 L ∧ Keep h0 h [] ∧ (h0.size ≤ r) ∧ (Arv Z h r kr .byte (4 : Int32) [(.int (xA >>> ((0 : Int32) &&& 31)).toInt8.toInt32.toInt8.toInt32), (.int (xA >>> ((8 : Int32) &&& 31)).toInt8.toInt32.toInt8.toInt32), (.int (xB >>> ((0 : Int32) &&& 31)).toInt8.toInt32.toInt8.toInt32), (.int (xB >>> ((8 : Int32) &&& 31)).toInt8.toInt32.toInt8.toInt32)] (.int (0 : Int32)))
set_option maxRecDepth 65536 in
set_option maxHeartbeats 40000000 in
theorem rmTB2 (l : Launch) (Z : State) (a0 : Array Value) (hw : ∀ d ∈ tables_1, d.before a0 Z = true) (ws : List Jvm.Cond) (aC : Addr) (kc : ClassId) (xA : Int32) (xB : Int32) (h0 : Heap) (n0 : Nat) (Z0 : n0 ≤ h0.size) (O0 : Old Z n0 h0) (SA : Sta Z Z.heap sAB sAH "Z" (.int (1 : Int32))) (SH : Sta Z Z.heap sAB "HI_BYTE_SHIFT" "I" (.int (0 : Int32))) (SL : Sta Z Z.heap sAB "LO_BYTE_SHIFT" "I" (.int (8 : Int32))) (Vc : Arv Z h0 aC kc .char (2 : Int32) [(.int xA), (.int xB)] (.int (0 : Int32))) :
    MetFree l (⟨sAB, "toBytes", "([CII)[B"⟩ : MethodName) (head1 (Jvm.Cond.code (⟨sAB, "toBytes", "([CII)[B"⟩ : MethodName) jdk_52_method_14_code 5 (some (.array .byte)) :: ws) (oR 2 1 4 32)) (fun a U => a = #[(.ref aC), (.int 0), (.int 2)] ∧ Z.Warmed39 U.vm ∧ U.heap = h0) (fun _ _ _ _ _ => True) (fun _ U o U' => ∃ v L, o = .returned v ∧ QTB2 Z aC kc xA xB h0 n0 v U'.heap L ∧ FrameEnd U o U' L (oR 2 1 4 32).cells (oR 2 1 4 32).slots) := by
  refine MetFree.of_bodySF (plainFor_of_name own_pn0) hisR ?_
  intro p e s m args below meth c s₁ Bd hml0 hP hK
  obtain ⟨rfl, hZ, hh⟩ := hP
  have hx := Bd.exec
  have hby := Bd.bytes
  have hlk : meth.locks = false := Bd.notSynchronized
  have hml : c.maxLocals = 5 := hml0
  have hown : s.vm.findClass sAB = some m.cls := findClass_of_methodNamed Bd.named
  have hnm := (name_of_methodNamed Bd.named Bd.method).1
  have X0 : Stand p l e (oR 2 1 4 32) s m #[(.ref aC), (.int 0), (.int 2)] below meth c s₁ [] 0 0 := Stand.of_body Bd
  have e0 : s₁.heap = h0 := by rw [← hh, Bd.state]; rfl
  have N0 := Fr.nil n0
  refine own_body (A := s₁.setTop (mkF m 0 #[rv aC, iv 0, iv 2, uu, uu] [])) (Q := QTB2 Z aC kc xA xB h0 n0) (fun t k => castTop (own_efTB2 m aC (0 : Int32) (2 : Int32)) k) ?_
  refine oILN (n := 1) X0 hx (hb hby own_d21_0) rfl rfl ?_
  obtain ⟨_, _, ⟨T1, L1, k1, n1⟩, -, X1, ⟨Lc1, hQ1, l1, y1, z1⟩, st1⟩ := Jvm.LawKit.callS X0 hx (y := (⟨sAB, "newBytesFor", "(I)[B"⟩ : MethodName)) hown (mvT hZ (oW hw 144 rfl)) (mvT hZ (oW hw 145 rfl)) (mvT hZ (oW hw 133 rfl)) (mvT hZ (oW hw 146 rfl)) (by decide) (backOf (W := 0) (rmNF2 l Z a0 hw []  h0 n0 Z0 ) hZ (oW hw 146 rfl) (oW hw 133 rfl) (by decide) (by decide)) (g := (mkF m 1 #[rv aC, iv 0, iv 2, uu, uu] [(.int 2)])) rfl (by rw [hml]; rfl) (argsL := [(.int 2)]) (rest := []) (lenOf own_pd1 rfl) rfl (by show 2 * 0 + _ ≤ _; exact Nat.le_of_eq rfl) (hb hby own_d21_1) (fun _ _ => ⟨rfl, e0, (by decide : 0 + 1 ≤ _), (by decide : 0 + 4 ≤ _)⟩)
  dsimp only [Pt.U, Pt.locs, Pt.cells, Pt.slots] at X1 l1 y1 z1 st1 hQ1
  subst l1 y1 z1
  obtain ⟨r_1, kr_1, rfl, Nq1, Kq1, hr_1, f1_0⟩ := hQ1
  have N1 := Fr.app N0 Nq1
  have g_r_1 : n0 ≤ r_1 := Nat.le_trans Z0 hr_1
  refine ov (B := T1.setTop (mkF m 4 #[rv aC, iv 0, iv 2, uu, uu] [(.ref r_1)])) (fun t k => st1 t k) ?_
  refine ov (B := T1.setTop (mkF m 5 #[rv aC, iv 0, iv 2, rv r_1, uu] [])) (fun t k => XS.astoreN X1.here hx rfl (hb hby own_d21_4) rfl rfl (l' := #[rv aC, iv 0, iv 2, rv r_1, uu]) rfl k) ?_
  refine oIC (n := 6) X1 hx (0 : Int32) (hb hby own_d21_5) (by decide) rfl ?_
  refine ov (B := T1.setTop (mkF m 8 #[rv aC, iv 0, iv 2, rv r_1, iv 0] [])) (fun t k => XS.istore X1.here hx rfl (hb hby own_d21_6) rfl (l' := #[rv aC, iv 0, iv 2, rv r_1, iv 0]) rfl k) ?_
  refine oIL (n := 10) X1 hx (hb hby own_d21_8) rfl rfl ?_
  refine oILN (n := 11) X1 hx (hb hby own_d21_10) rfl rfl ?_
  have hc11 : (0 : Int32) < (2 : Int32) := by decide
  refine ov (B := T1.setTop (mkF m 14 #[rv aC, iv 0, iv 2, rv r_1, iv 0] [])) (fun t k => XS.icmpNo X1.here hx rfl (hb hby own_d21_11) rfl (tlt hc11).2.1 k) ?_
  refine oALN (n := 15) X1 hx (hb hby own_d21_14) rfl rfl rfl ?_
  refine oIL (n := 17) X1 hx (hb hby own_d21_15) rfl rfl ?_
  refine oALN (n := 18) X1 hx (hb hby own_d21_17) rfl rfl rfl ?_
  refine oILN (n := 19) X1 hx (hb hby own_d21_18) rfl rfl ?_
  obtain ⟨cl2, Ar2, q2, S2, M2, H2, G2⟩ := id (Vc.keep Kq1 nin0)
  have hin2 : ¬ ((0 : Int32) < 0 ∨ cl2.slots.size ≤ ((0 : Int32)).toNatClampNeg) := inb_of S2 ⟨by decide, by decide⟩
  refine ov (B := T1.setTop (mkF m 20 #[rv aC, iv 0, iv 2, rv r_1, iv 0] [(.int xA), (.int 0), (.ref r_1)])) (fun t k => X1.caload hx (j := (0 : Int32)) (v := (.int xA)) (Ar2.1) (State.isArrayOf_alike hZ.alike Ar2.2.1) Ar2.2.2 hin2 (Has.at H2 hin2 rfl) (g := (mkF m 19 #[rv aC, iv 0, iv 2, rv r_1, iv 0] [(.int 0), (.ref aC), (.int 0), (.ref r_1)])) rfl rfl (hb hby own_d21_19) _ k) ?_
  obtain ⟨_, _, ⟨T3, L3, k3, n3⟩, -, X3, ⟨Lc3, hQ3, l3, y3, z3⟩, st3⟩ := Jvm.LawKit.callS X1 hx (y := (⟨sAB, "putChar", "([BII)V"⟩ : MethodName)) hown (mvT hZ (oW hw 151 rfl)) (mvT hZ (oW hw 152 rfl)) (mvT hZ (oW hw 133 rfl)) (mvT hZ (oW hw 153 rfl)) (by decide) (backOf (W := 0) (rmPC20 l Z a0 hw [] r_1 xA kr_1 (0 : Int32) (0 : Int32) (0 : Int32) (0 : Int32) T1.heap n0 (Nat.le_trans Z0 Kq1.1) (O0.keep Kq1 all0) (by assumption) (by assumption) (by assumption) f1_0 g_r_1) hZ (oW hw 153 rfl) (oW hw 133 rfl) (by decide) (by decide)) (g := (mkF m 20 #[rv aC, iv 0, iv 2, rv r_1, iv 0] [(.int xA), (.int 0), (.ref r_1)])) rfl (by rw [hml]; rfl) (argsL := [(.ref r_1), (.int 0), (.int xA)]) (rest := []) (lenOf own_pd2 rfl) rfl (by show 2 * 0 + _ ≤ _; exact Nat.le_of_eq rfl) (hb hby own_d21_20) (fun _ _ => ⟨rfl, rfl, (by decide : (0 + 1) + 0 ≤ _), (by decide : (0 + 4) + 0 ≤ _)⟩)
  dsimp only [Pt.U, Pt.locs, Pt.cells, Pt.slots] at X3 l3 y3 z3 st3 hQ3
  subst l3 y3 z3
  obtain ⟨rfl, Nq3, Kq3, f3_0⟩ := hQ3
  have N3 := Fr.app N1 Nq3
  refine ov (B := T3.setTop (mkF m 23 #[rv aC, iv 0, iv 2, rv r_1, iv 0] [])) (fun t k => st3 t k) ?_
  refine ov (B := T3.setTop (mkF m 26 #[rv aC, iv 1, iv 2, rv r_1, iv 0] [])) (fun t k => XS.iinc X3.here hx rfl (hb hby own_d21_23) rfl (l' := #[rv aC, iv 1, iv 2, rv r_1, iv 0]) rfl k) ?_
  refine ov (B := T3.setTop (mkF m 29 #[rv aC, iv 1, iv 2, rv r_1, iv 1] [])) (fun t k => XS.iinc X3.here hx rfl (hb hby own_d21_26) rfl (l' := #[rv aC, iv 1, iv 2, rv r_1, iv 1]) rfl k) ?_
  refine oGO (n := 8) X3 hx (hb hby own_d21_29) (by decide) (by decide) ?_
  refine oIL (n := 10) X3 hx (hb hby own_d21_8) rfl rfl ?_
  refine oILN (n := 11) X3 hx (hb hby own_d21_10) rfl rfl ?_
  have hc11 : (1 : Int32) < (2 : Int32) := by decide
  refine ov (B := T3.setTop (mkF m 14 #[rv aC, iv 1, iv 2, rv r_1, iv 1] [])) (fun t k => XS.icmpNo X3.here hx rfl (hb hby own_d21_11) rfl (tlt hc11).2.1 k) ?_
  refine oALN (n := 15) X3 hx (hb hby own_d21_14) rfl rfl rfl ?_
  refine oIL (n := 17) X3 hx (hb hby own_d21_15) rfl rfl ?_
  refine oALN (n := 18) X3 hx (hb hby own_d21_17) rfl rfl rfl ?_
  refine oILN (n := 19) X3 hx (hb hby own_d21_18) rfl rfl ?_
  obtain ⟨cl4, Ar4, q4, S4, M4, H4, G4⟩ := id ((Vc.keep Kq1 nin0).keep Kq3 (ninS (Nat.ne_of_lt (Nat.lt_of_lt_of_le Vc.lt hr_1)) nin0))
  have hin4 : ¬ ((1 : Int32) < 0 ∨ cl4.slots.size ≤ ((1 : Int32)).toNatClampNeg) := inb_of S4 ⟨by decide, by decide⟩
  refine ov (B := T3.setTop (mkF m 20 #[rv aC, iv 1, iv 2, rv r_1, iv 1] [(.int xB), (.int 1), (.ref r_1)])) (fun t k => X3.caload hx (j := (1 : Int32)) (v := (.int xB)) (Ar4.1) (State.isArrayOf_alike hZ.alike Ar4.2.1) Ar4.2.2 hin4 (Has.at H4 hin4 rfl) (g := (mkF m 19 #[rv aC, iv 1, iv 2, rv r_1, iv 1] [(.int 1), (.ref aC), (.int 1), (.ref r_1)])) rfl rfl (hb hby own_d21_19) _ k) ?_
  obtain ⟨_, _, ⟨T5, L5, k5, n5⟩, -, X5, ⟨Lc5, hQ5, l5, y5, z5⟩, st5⟩ := Jvm.LawKit.callS X3 hx (y := (⟨sAB, "putChar", "([BII)V"⟩ : MethodName)) hown (mvT hZ (oW hw 151 rfl)) (mvT hZ (oW hw 152 rfl)) (mvT hZ (oW hw 133 rfl)) (mvT hZ (oW hw 153 rfl)) (by decide) (backOf (W := 0) (rmPC21 l Z a0 hw [] r_1 xB kr_1 (xA >>> ((0 : Int32) &&& 31)).toInt8.toInt32.toInt8.toInt32 (xA >>> ((8 : Int32) &&& 31)).toInt8.toInt32.toInt8.toInt32 (0 : Int32) (0 : Int32) T3.heap n0 (Nat.le_trans (Nat.le_trans Z0 Kq1.1) Kq3.1) ((O0.keep Kq1 all0).keep Kq3 (allS g_r_1 all0)) (by assumption) (by assumption) (by assumption) f3_0 g_r_1) hZ (oW hw 153 rfl) (oW hw 133 rfl) (by decide) (by decide)) (g := (mkF m 20 #[rv aC, iv 1, iv 2, rv r_1, iv 1] [(.int xB), (.int 1), (.ref r_1)])) rfl (by rw [hml]; rfl) (argsL := [(.ref r_1), (.int 1), (.int xB)]) (rest := []) (lenOf own_pd2 rfl) rfl (by show 2 * 0 + _ ≤ _; exact Nat.le_of_eq rfl) (hb hby own_d21_20) (fun _ _ => ⟨rfl, rfl, (by decide : ((0 + 1) + 0) + 0 ≤ _), (by decide : ((0 + 4) + 0) + 0 ≤ _)⟩)
  dsimp only [Pt.U, Pt.locs, Pt.cells, Pt.slots] at X5 l5 y5 z5 st5 hQ5
  subst l5 y5 z5
  obtain ⟨rfl, Nq5, Kq5, f5_0⟩ := hQ5
  have N5 := Fr.app N3 Nq5
  refine ov (B := T5.setTop (mkF m 23 #[rv aC, iv 1, iv 2, rv r_1, iv 1] [])) (fun t k => st5 t k) ?_
  refine ov (B := T5.setTop (mkF m 26 #[rv aC, iv 2, iv 2, rv r_1, iv 1] [])) (fun t k => XS.iinc X5.here hx rfl (hb hby own_d21_23) rfl (l' := #[rv aC, iv 2, iv 2, rv r_1, iv 1]) rfl k) ?_
  refine ov (B := T5.setTop (mkF m 29 #[rv aC, iv 2, iv 2, rv r_1, iv 2] [])) (fun t k => XS.iinc X5.here hx rfl (hb hby own_d21_26) rfl (l' := #[rv aC, iv 2, iv 2, rv r_1, iv 2]) rfl k) ?_
  refine oGO (n := 8) X5 hx (hb hby own_d21_29) (by decide) (by decide) ?_
  refine oIL (n := 10) X5 hx (hb hby own_d21_8) rfl rfl ?_
  refine oILN (n := 11) X5 hx (hb hby own_d21_10) rfl rfl ?_
  have hc11 : ¬ ((2 : Int32) < (2 : Int32)) := by decide
  refine ov (B := T5.setTop (mkF m 32 #[rv aC, iv 2, iv 2, rv r_1, iv 2] [])) (fun t k => XS.icmpYes X5.here hx rfl (pc0 := 11) (pc' := 32) rfl (hb hby own_d21_11) rfl (flt hc11).2.1 (by decide) (by decide) k) ?_
  refine oALN (n := 33) X5 hx (hb hby own_d21_32) rfl rfl rfl ?_
  refine own_leaf X5 hx hlk (t := (.array .byte)) Bd.returns rfl (Or.inr (Or.inr (Or.inr (Or.inr ⟨rfl, rfl, rfl⟩)))) (hb hby own_d21_33) (by decide) (by decide) ?_
  show QTB2 Z aC kc xA xB h0 n0 _ T5.heap _
  refine ⟨r_1, kr_1, ?_, N5, ((((Keep.refl h0 []).trans Kq1 all0).trans Kq3 (allS (Or.inr hr_1) all0)).trans Kq5 (allS (Or.inr hr_1) all0)), ?_, f5_0⟩
  · rfl
  · exact hr_1
theorem own_efCF22 (m : MethodId) (x0 : Addr) (x1 : Int32) : entryFrame m #[(.ref x0), (.int x1)] 2 = mkF m 0 #[rv x0, iv x1] [] := by first | (simp [entryFrame, mkF, argsToLocals, Value.category]; done) | rfl
def QCF22 (Z : State) (bF : Addr) (kf : ClassId) (yA : Int32) (yB : Int32) (h0 : Heap) (n0 : Nat) (v : Option Value) (h : Heap) (L : List Loc) : Prop := v = some (.int (0 : Int32)) ∧ Fr n0 L ∧ h = h0
set_option maxRecDepth 65536 in
set_option maxHeartbeats 40000000 in
theorem rmCF22 (l : Launch) (Z : State) (a0 : Array Value) (hw : ∀ d ∈ tables_1, d.before a0 Z = true) (ws : List Jvm.Cond) (bF : Addr) (kf : ClassId) (yA : Int32) (yB : Int32) (h0 : Heap) (n0 : Nat) (Z0 : n0 ≤ h0.size) (Vf : Arv Z h0 bF kf .byte (2 : Int32) [(.int yA), (.int yB)] (.int (0 : Int32))) :
    MetFree l (⟨sAB, sAN, "([BI)B"⟩ : MethodName) (head1 (Jvm.Cond.code (⟨sAB, sAN, "([BI)B"⟩ : MethodName) jdk_52_method_15_code 2 (some .byte) :: ws) (oR 0 0 0 0)) (fun a U => a = #[(.ref bF), (.int 2)] ∧ Z.Warmed39 U.vm ∧ U.heap = h0) (fun _ _ _ _ _ => True) (fun _ U o U' => ∃ v L, o = .returned v ∧ QCF22 Z bF kf yA yB h0 n0 v U'.heap L ∧ FrameEnd U o U' L (oR 0 0 0 0).cells (oR 0 0 0 0).slots) := by
  refine MetFree.of_bodySF (plainFor_of_name own_pn0) hisR ?_
  intro p e s m args below meth c s₁ Bd hml0 hP hK
  obtain ⟨rfl, hZ, hh⟩ := hP
  have hx := Bd.exec
  have hby := Bd.bytes
  have hlk : meth.locks = false := Bd.notSynchronized
  have hml : c.maxLocals = 2 := hml0
  have hown : s.vm.findClass sAB = some m.cls := findClass_of_methodNamed Bd.named
  have hnm := (name_of_methodNamed Bd.named Bd.method).1
  have X0 : Stand p l e (oR 0 0 0 0) s m #[(.ref bF), (.int 2)] below meth c s₁ [] 0 0 := Stand.of_body Bd
  have e0 : s₁.heap = h0 := by rw [← hh, Bd.state]; rfl
  have N0 := Fr.nil n0
  refine own_body (A := s₁.setTop (mkF m 0 #[rv bF, iv 2] [])) (Q := QCF22 Z bF kf yA yB h0 n0) (fun t k => castTop (own_efCF22 m bF (2 : Int32)) k) ?_
  refine oILN (n := 1) X0 hx (hb hby own_d20_0) rfl rfl ?_
  refine oALN (n := 2) X0 hx (hb hby own_d20_1) rfl rfl rfl ?_
  obtain ⟨cl1, Ar1, q1, S1, M1, H1, G1⟩ := id Vf
  refine ov (B := s₁.setTop (mkF m 3 #[rv bF, iv 2] [(.int 2), (.int 2)])) (fun t k => X0.arraylength hx (by rw [e0]; exact Ar1.1) (State.isArrayOf_alike hZ.alike Ar1.2.1) (g := (mkF m 2 #[rv bF, iv 2] [(.ref bF), (.int 2)])) rfl rfl (hb hby own_d20_2) _ (by rw [len_of S1 M1]; exact k)) ?_
  refine ov (B := s₁.setTop (mkF m 4 #[rv bF, iv 2] [(.int 0)])) (fun t k => XS.isub X0.here hx rfl (hb hby own_d20_3) rfl k) ?_
  refine oBP (n := 6) X0 hx (31 : Int32) (hb hby own_d20_4) (by decide) rfl ?_
  refine ov (B := s₁.setTop (mkF m 7 #[rv bF, iv 2] [(.int (((0 : Int32).toUInt32 >>> ((31 : Int32) &&& 31).toUInt32).toInt32))])) (fun t k => XS.iushr X0.here hx rfl (hb hby own_d20_6) rfl k) ?_
  refine ov (B := s₁.setTop (mkF m 8 #[rv bF, iv 2] [(.int ((((0 : Int32).toUInt32 >>> ((31 : Int32) &&& 31).toUInt32).toInt32).toInt8.toInt32))])) (fun t k => XS.i2b X0.here hx rfl (hb hby own_d20_7) rfl k) ?_
  refine own_leaf X0 hx hlk (t := .byte) Bd.returns (by decide) (Or.inl ⟨rfl, by simp, _, rfl⟩) (hb hby own_d20_8) (by decide) (by decide) ?_
  show QCF22 Z bF kf yA yB h0 n0 _ s₁.heap _
  rw [e0]
  refine ⟨?_, N0, rfl⟩
  exact congrArg (fun z => some (Value.int z)) (by decide)
theorem own_efCF24 (m : MethodId) (x0 : Addr) (x1 : Int32) : entryFrame m #[(.ref x0), (.int x1)] 2 = mkF m 0 #[rv x0, iv x1] [] := by first | (simp [entryFrame, mkF, argsToLocals, Value.category]; done) | rfl
def QCF24 (Z : State) (bF : Addr) (kf : ClassId) (yA : Int32) (yB : Int32) (yC : Int32) (yD : Int32) (h0 : Heap) (n0 : Nat) (v : Option Value) (h : Heap) (L : List Loc) : Prop := v = some (.int (1 : Int32)) ∧ Fr n0 L ∧ h = h0
set_option maxRecDepth 65536 in
set_option maxHeartbeats 40000000 in
theorem rmCF24 (l : Launch) (Z : State) (a0 : Array Value) (hw : ∀ d ∈ tables_1, d.before a0 Z = true) (ws : List Jvm.Cond) (bF : Addr) (kf : ClassId) (yA : Int32) (yB : Int32) (yC : Int32) (yD : Int32) (h0 : Heap) (n0 : Nat) (Z0 : n0 ≤ h0.size) (Vf : Arv Z h0 bF kf .byte (4 : Int32) [(.int yA), (.int yB), (.int yC), (.int yD)] (.int (0 : Int32))) :
    MetFree l (⟨sAB, sAN, "([BI)B"⟩ : MethodName) (head1 (Jvm.Cond.code (⟨sAB, sAN, "([BI)B"⟩ : MethodName) jdk_52_method_15_code 2 (some .byte) :: ws) (oR 0 0 0 0)) (fun a U => a = #[(.ref bF), (.int 2)] ∧ Z.Warmed39 U.vm ∧ U.heap = h0) (fun _ _ _ _ _ => True) (fun _ U o U' => ∃ v L, o = .returned v ∧ QCF24 Z bF kf yA yB yC yD h0 n0 v U'.heap L ∧ FrameEnd U o U' L (oR 0 0 0 0).cells (oR 0 0 0 0).slots) := by
  refine MetFree.of_bodySF (plainFor_of_name own_pn0) hisR ?_
  intro p e s m args below meth c s₁ Bd hml0 hP hK
  obtain ⟨rfl, hZ, hh⟩ := hP
  have hx := Bd.exec
  have hby := Bd.bytes
  have hlk : meth.locks = false := Bd.notSynchronized
  have hml : c.maxLocals = 2 := hml0
  have hown : s.vm.findClass sAB = some m.cls := findClass_of_methodNamed Bd.named
  have hnm := (name_of_methodNamed Bd.named Bd.method).1
  have X0 : Stand p l e (oR 0 0 0 0) s m #[(.ref bF), (.int 2)] below meth c s₁ [] 0 0 := Stand.of_body Bd
  have e0 : s₁.heap = h0 := by rw [← hh, Bd.state]; rfl
  have N0 := Fr.nil n0
  refine own_body (A := s₁.setTop (mkF m 0 #[rv bF, iv 2] [])) (Q := QCF24 Z bF kf yA yB yC yD h0 n0) (fun t k => castTop (own_efCF24 m bF (2 : Int32)) k) ?_
  refine oILN (n := 1) X0 hx (hb hby own_d20_0) rfl rfl ?_
  refine oALN (n := 2) X0 hx (hb hby own_d20_1) rfl rfl rfl ?_
  obtain ⟨cl1, Ar1, q1, S1, M1, H1, G1⟩ := id Vf
  refine ov (B := s₁.setTop (mkF m 3 #[rv bF, iv 2] [(.int 4), (.int 2)])) (fun t k => X0.arraylength hx (by rw [e0]; exact Ar1.1) (State.isArrayOf_alike hZ.alike Ar1.2.1) (g := (mkF m 2 #[rv bF, iv 2] [(.ref bF), (.int 2)])) rfl rfl (hb hby own_d20_2) _ (by rw [len_of S1 M1]; exact k)) ?_
  refine ov (B := s₁.setTop (mkF m 4 #[rv bF, iv 2] [(.int (-2 : Int32))])) (fun t k => XS.isub X0.here hx rfl (hb hby own_d20_3) rfl k) ?_
  refine oBP (n := 6) X0 hx (31 : Int32) (hb hby own_d20_4) (by decide) rfl ?_
  refine ov (B := s₁.setTop (mkF m 7 #[rv bF, iv 2] [(.int (((-2 : Int32).toUInt32 >>> ((31 : Int32) &&& 31).toUInt32).toInt32))])) (fun t k => XS.iushr X0.here hx rfl (hb hby own_d20_6) rfl k) ?_
  refine ov (B := s₁.setTop (mkF m 8 #[rv bF, iv 2] [(.int ((((-2 : Int32).toUInt32 >>> ((31 : Int32) &&& 31).toUInt32).toInt32).toInt8.toInt32))])) (fun t k => XS.i2b X0.here hx rfl (hb hby own_d20_7) rfl k) ?_
  refine own_leaf X0 hx hlk (t := .byte) Bd.returns (by decide) (Or.inl ⟨rfl, by simp, _, rfl⟩) (hb hby own_d20_8) (by decide) (by decide) ?_
  show QCF24 Z bF kf yA yB yC yD h0 n0 _ s₁.heap _
  rw [e0]
  refine ⟨?_, N0, rfl⟩
  exact congrArg (fun z => some (Value.int z)) (by decide)
theorem own_efNL3 (m : MethodId) (x0 : Int32) : entryFrame m #[(.int x0)] 1 = mkF m 0 #[iv x0] [] := by first | (simp [entryFrame, mkF, argsToLocals, Value.category]; done) | rfl
def QNL3 (Z : State)  (h0 : Heap) (n0 : Nat) (v : Option Value) (h : Heap) (L : List Loc) : Prop := v = some (.int (6 : Int32)) ∧ Fr n0 L ∧ h = h0
set_option maxRecDepth 65536 in
set_option maxHeartbeats 40000000 in
theorem rmNL3 (l : Launch) (Z : State) (a0 : Array Value) (hw : ∀ d ∈ tables_1, d.before a0 Z = true) (ws : List Jvm.Cond)  (h0 : Heap) (n0 : Nat) (Z0 : n0 ≤ h0.size) :
    MetFree l (⟨sAB, "newBytesLength", "(I)I"⟩ : MethodName) (head1 (Jvm.Cond.code (⟨sAB, "newBytesLength", "(I)I"⟩ : MethodName) jdk_52_method_3_code 1 (some .int) :: ws) (oR 0 0 0 0)) (fun a U => a = #[(.int 3)] ∧ Z.Warmed39 U.vm ∧ U.heap = h0) (fun _ _ _ _ _ => True) (fun _ U o U' => ∃ v L, o = .returned v ∧ QNL3 Z  h0 n0 v U'.heap L ∧ FrameEnd U o U' L (oR 0 0 0 0).cells (oR 0 0 0 0).slots) := by
  refine MetFree.of_bodySF (plainFor_of_name own_pn0) hisR ?_
  intro p e s m args below meth c s₁ Bd hml0 hP hK
  obtain ⟨rfl, hZ, hh⟩ := hP
  have hx := Bd.exec
  have hby := Bd.bytes
  have hlk : meth.locks = false := Bd.notSynchronized
  have hml : c.maxLocals = 1 := hml0
  have hown : s.vm.findClass sAB = some m.cls := findClass_of_methodNamed Bd.named
  have hnm := (name_of_methodNamed Bd.named Bd.method).1
  have X0 : Stand p l e (oR 0 0 0 0) s m #[(.int 3)] below meth c s₁ [] 0 0 := Stand.of_body Bd
  have e0 : s₁.heap = h0 := by rw [← hh, Bd.state]; rfl
  have N0 := Fr.nil n0
  refine own_body (A := s₁.setTop (mkF m 0 #[iv 3] [])) (Q := QNL3 Z  h0 n0) (fun t k => castTop (own_efNL3 m (3 : Int32)) k) ?_
  refine oILN (n := 1) X0 hx (hb hby own_d23_0) rfl rfl ?_
  have hc1 : ¬ ((3 : Int32) < (0 : Int32)) := by decide
  refine ov (B := s₁.setTop (mkF m 12 #[iv 3] [])) (fun t k => XS.ifYes X0.here hx rfl (pc0 := 1) (pc' := 12) rfl (hb hby own_d23_1) rfl ((if0 _ _).trans (flt hc1).2.1) (by decide) (by decide) k) ?_
  refine oILN (n := 13) X0 hx (hb hby own_d23_12) rfl rfl ?_
  refine ov (B := s₁.setTop (mkF m 15 #[iv 3] [(.int 1073741823), (.int 3)])) (fun t k => X0.ldcInt hx hown (mvT hZ (oW hw 150 rfl)) (g := (mkF m 13 #[iv 3] [(.int 3)])) rfl (hb hby own_d23_13) _ k) ?_
  have hc15 : (3 : Int32) < (1073741823 : Int32) := by decide
  refine ov (B := s₁.setTop (mkF m 55 #[iv 3] [])) (fun t k => XS.icmpYes X0.here hx rfl (pc0 := 15) (pc' := 55) rfl (hb hby own_d23_15) rfl (tlt hc15).1 (by decide) (by decide) k) ?_
  refine oILN (n := 56) X0 hx (hb hby own_d23_55) rfl rfl ?_
  refine oIC (n := 57) X0 hx (1 : Int32) (hb hby own_d23_56) (by decide) rfl ?_
  refine ov (B := s₁.setTop (mkF m 58 #[iv 3] [(.int 6)])) (fun t k => XS.ishl X0.here hx rfl (hb hby own_d23_57) rfl (by rw [(by decide : ((3 : Int32) <<< ((1 : Int32) &&& 31)) = (6 : Int32))]; exact k)) ?_
  refine own_leaf X0 hx hlk (t := .int) Bd.returns rfl (Or.inl ⟨rfl, by simp, _, rfl⟩) (hb hby own_d23_58) (by decide) (by decide) ?_
  show QNL3 Z  h0 n0 _ s₁.heap _
  rw [e0]
  refine ⟨?_, N0, rfl⟩
  rfl
theorem own_efNF3 (m : MethodId) (x0 : Int32) : entryFrame m #[(.int x0)] 1 = mkF m 0 #[iv x0] [] := by first | (simp [entryFrame, mkF, argsToLocals, Value.category]; done) | rfl
def QNF3 (Z : State)  (h0 : Heap) (n0 : Nat) (v : Option Value) (h : Heap) (L : List Loc) : Prop := ∃ (r : Addr) (kr : ClassId), v = some (.ref r) ∧ Fr n0 L ∧ Keep h0 h [] ∧ (h0.size ≤ r) ∧ (Arv Z h r kr .byte (6 : Int32) [(.int (0 : Int32)), (.int (0 : Int32)), (.int (0 : Int32)), (.int (0 : Int32)), (.int (0 : Int32)), (.int (0 : Int32))] (.int (0 : Int32)))
set_option maxRecDepth 65536 in
set_option maxHeartbeats 40000000 in
theorem rmNF3 (l : Launch) (Z : State) (a0 : Array Value) (hw : ∀ d ∈ tables_1, d.before a0 Z = true) (ws : List Jvm.Cond)  (h0 : Heap) (n0 : Nat) (Z0 : n0 ≤ h0.size) :
    MetFree l (⟨sAB, "newBytesFor", "(I)[B"⟩ : MethodName) (head1 (Jvm.Cond.code (⟨sAB, "newBytesFor", "(I)[B"⟩ : MethodName) jdk_52_method_2_code 1 (some (.array .byte)) :: ws) (oR 1 1 6 16)) (fun a U => a = #[(.int 3)] ∧ Z.Warmed39 U.vm ∧ U.heap = h0) (fun _ _ _ _ _ => True) (fun _ U o U' => ∃ v L, o = .returned v ∧ QNF3 Z  h0 n0 v U'.heap L ∧ FrameEnd U o U' L (oR 1 1 6 16).cells (oR 1 1 6 16).slots) := by
  refine MetFree.of_bodySF (plainFor_of_name own_pn0) hisR ?_
  intro p e s m args below meth c s₁ Bd hml0 hP hK
  obtain ⟨rfl, hZ, hh⟩ := hP
  have hx := Bd.exec
  have hby := Bd.bytes
  have hlk : meth.locks = false := Bd.notSynchronized
  have hml : c.maxLocals = 1 := hml0
  have hown : s.vm.findClass sAB = some m.cls := findClass_of_methodNamed Bd.named
  have hnm := (name_of_methodNamed Bd.named Bd.method).1
  have X0 : Stand p l e (oR 1 1 6 16) s m #[(.int 3)] below meth c s₁ [] 0 0 := Stand.of_body Bd
  have e0 : s₁.heap = h0 := by rw [← hh, Bd.state]; rfl
  have N0 := Fr.nil n0
  refine own_body (A := s₁.setTop (mkF m 0 #[iv 3] [])) (Q := QNF3 Z  h0 n0) (fun t k => castTop (own_efNF3 m (3 : Int32)) k) ?_
  refine oILN (n := 1) X0 hx (hb hby own_d22_0) rfl rfl ?_
  obtain ⟨_, _, ⟨T1, L1, k1, n1⟩, -, X1, ⟨Lc1, hQ1, l1, y1, z1⟩, st1⟩ := Jvm.LawKit.callS X0 hx (y := (⟨sAB, "newBytesLength", "(I)I"⟩ : MethodName)) hown (mvT hZ (oW hw 147 rfl)) (mvT hZ (oW hw 148 rfl)) (mvT hZ (oW hw 133 rfl)) (mvT hZ (oW hw 149 rfl)) (by decide) (backOf (W := 0) (rmNL3 l Z a0 hw []  h0 n0 Z0 ) hZ (oW hw 149 rfl) (oW hw 133 rfl) (by decide) (by decide)) (g := (mkF m 1 #[iv 3] [(.int 3)])) rfl (by rw [hml]; rfl) (argsL := [(.int 3)]) (rest := []) (lenOf own_pd0 rfl) rfl (by show 2 * 0 + _ ≤ _; exact Nat.le_of_eq rfl) (hb hby own_d22_1) (fun _ _ => ⟨rfl, e0, (by decide : 0 + 0 ≤ _), (by decide : 0 + 0 ≤ _)⟩)
  dsimp only [Pt.U, Pt.locs, Pt.cells, Pt.slots] at X1 l1 y1 z1 st1 hQ1
  subst l1 y1 z1
  obtain ⟨rfl, Nq1, eq1⟩ := hQ1
  have N1 := Fr.app N0 Nq1
  refine ov (B := T1.setTop (mkF m 4 #[iv 3] [(.int 6)])) (fun t k => st1 t k) ?_
  obtain ⟨T2, h2, kc2, X2, e2, E2, A2, st2⟩ := newP X1 hx hZ (oW hw 20 rfl) eq1 (g := (mkF m 4 #[iv 3] [(.int 6)])) rfl (hb hby own_d22_4) rfl (by decide) (cap := 6) (by decide) (by decide) (by decide) (by decide)
  obtain ⟨b2, g2⟩ : ∃ z, z = h0.size := ⟨_, rfl⟩
  rw [← g2] at A2 st2
  have g_b2 : n0 ≤ b2 := Nat.le_trans Z0 (Nat.le_of_eq g2.symm)
  have V2 : Arv Z h2 b2 kc2 .byte (6 : Int32) [(.int 0), (.int 0), (.int 0), (.int 0), (.int 0), (.int 0)] (.int 0) := (Arv.new A2 (by decide)).pad (pad_rep [] (.int 0) 6)
  refine ov (B := T2.setTop (mkF m 6 #[iv 3] [(.ref b2)])) (fun t k => st2 t k) ?_
  refine own_leaf X2 hx hlk (t := (.array .byte)) Bd.returns rfl (Or.inr (Or.inr (Or.inr (Or.inr ⟨rfl, rfl, rfl⟩)))) (hb hby own_d22_6) (by decide) (by decide) ?_
  show QNF3 Z  h0 n0 _ T2.heap _
  rw [e2]
  refine ⟨b2, kc2, ?_, N1, ((Keep.refl h0 []).ext E2), ?_, V2⟩
  · rfl
  · exact (Nat.le_of_eq g2.symm)
theorem own_efPC30 (m : MethodId) (x0 : Addr) (x1 : Int32) (x2 : Int32) : entryFrame m #[(.ref x0), (.int x1), (.int x2)] 3 = mkF m 0 #[rv x0, iv x1, iv x2] [] := by first | (simp [entryFrame, mkF, argsToLocals, Value.category]; done) | rfl
def QPC30 (Z : State) (bP : Addr) (cP : Int32) (kp : ClassId) (yA : Int32) (yB : Int32) (yC : Int32) (yD : Int32) (yE : Int32) (yF : Int32) (h0 : Heap) (n0 : Nat) (v : Option Value) (h : Heap) (L : List Loc) : Prop := v = none ∧ Fr n0 L ∧ Keep h0 h [bP] ∧ (Arv Z h bP kp .byte (6 : Int32) [(.int (cP >>> ((0 : Int32) &&& 31)).toInt8.toInt32.toInt8.toInt32), (.int (cP >>> ((8 : Int32) &&& 31)).toInt8.toInt32.toInt8.toInt32), (.int yC), (.int yD), (.int yE), (.int yF)] (.int (0 : Int32)))
set_option maxRecDepth 65536 in
set_option maxHeartbeats 40000000 in
theorem rmPC30 (l : Launch) (Z : State) (a0 : Array Value) (hw : ∀ d ∈ tables_1, d.before a0 Z = true) (ws : List Jvm.Cond) (bP : Addr) (cP : Int32) (kp : ClassId) (yA : Int32) (yB : Int32) (yC : Int32) (yD : Int32) (yE : Int32) (yF : Int32) (h0 : Heap) (n0 : Nat) (Z0 : n0 ≤ h0.size) (O0 : Old Z n0 h0) (SA : Sta Z Z.heap sAB sAH "Z" (.int (1 : Int32))) (SH : Sta Z Z.heap sAB "HI_BYTE_SHIFT" "I" (.int (0 : Int32))) (SL : Sta Z Z.heap sAB "LO_BYTE_SHIFT" "I" (.int (8 : Int32))) (Vp : Arv Z h0 bP kp .byte (6 : Int32) [(.int yA), (.int yB), (.int yC), (.int yD), (.int yE), (.int yF)] (.int (0 : Int32))) (g_bP : n0 ≤ bP) :
    MetFree l (⟨sAB, "putChar", "([BII)V"⟩ : MethodName) (head1 (Jvm.Cond.code (⟨sAB, "putChar", "([BII)V"⟩ : MethodName) jdk_52_method_4_code 3 none :: ws) (oR 0 0 0 0)) (fun a U => a = #[(.ref bP), (.int 0), (.int cP)] ∧ Z.Warmed39 U.vm ∧ U.heap = h0) (fun _ _ _ _ _ => True) (fun _ U o U' => ∃ v L, o = .returned v ∧ QPC30 Z bP cP kp yA yB yC yD yE yF h0 n0 v U'.heap L ∧ FrameEnd U o U' L (oR 0 0 0 0).cells (oR 0 0 0 0).slots) := by
  refine MetFree.of_bodySF (plainFor_of_name own_pn0) hisR ?_
  intro p e s m args below meth c s₁ Bd hml0 hP hK
  obtain ⟨rfl, hZ, hh⟩ := hP
  have hx := Bd.exec
  have hby := Bd.bytes
  have hlk : meth.locks = false := Bd.notSynchronized
  have hml : c.maxLocals = 3 := hml0
  have hown : s.vm.findClass sAB = some m.cls := findClass_of_methodNamed Bd.named
  have hnm := (name_of_methodNamed Bd.named Bd.method).1
  have X0 : Stand p l e (oR 0 0 0 0) s m #[(.ref bP), (.int 0), (.int cP)] below meth c s₁ [] 0 0 := Stand.of_body Bd
  have e0 : s₁.heap = h0 := by rw [← hh, Bd.state]; rfl
  have N0 := Fr.nil n0
  refine own_body (A := s₁.setTop (mkF m 0 #[rv bP, iv 0, iv cP] [])) (Q := QPC30 Z bP cP kp yA yB yC yD yE yF h0 n0) (fun t k => castTop (own_efPC30 m bP (0 : Int32) cP) k) ?_
  obtain ⟨T1, X1, e1, st1⟩ := getS2 X0 hx hZ hown (host := "") (Or.inl (oW hw 154 rfl)) Via.refl e0 (SA.ext O0.2) (g := (mkF m 0 #[rv bP, iv 0, iv cP] [])) rfl (hb hby own_d24_0)
  refine ov (B := T1.setTop (mkF m 3 #[rv bP, iv 0, iv cP] [(.int 1)])) (fun t k => st1 t k) ?_
  have hc3 : ¬ ((1 : Int32) = (0 : Int32)) := by decide
  refine ov (B := T1.setTop (mkF m 28 #[rv bP, iv 0, iv cP] [])) (fun t k => XS.ifYes X1.here hx rfl (pc0 := 3) (pc' := 28) rfl (hb hby own_d24_3) rfl ((if0 _ _).trans (feq hc3).2) (by decide) (by decide) k) ?_
  refine oILN (n := 29) X1 hx (hb hby own_d24_28) rfl rfl ?_
  refine oIC (n := 30) X1 hx (1 : Int32) (hb hby own_d24_29) (by decide) rfl ?_
  refine ov (B := T1.setTop (mkF m 31 #[rv bP, iv 0, iv cP] [(.int 0)])) (fun t k => XS.ishl X1.here hx rfl (hb hby own_d24_30) rfl (by rw [(by decide : ((0 : Int32) <<< ((1 : Int32) &&& 31)) = (0 : Int32))]; exact k)) ?_
  refine ov (B := T1.setTop (mkF m 32 #[rv bP, iv 0, iv cP] [])) (fun t k => XS.istoreN X1.here hx rfl (hb hby own_d24_31) rfl (l' := #[rv bP, iv 0, iv cP]) rfl k) ?_
  refine oALN (n := 33) X1 hx (hb hby own_d24_32) rfl rfl rfl ?_
  refine oILN (n := 34) X1 hx (hb hby own_d24_33) rfl rfl ?_
  refine ov (B := T1.setTop (mkF m 37 #[rv bP, iv 1, iv cP] [(.int 0), (.ref bP)])) (fun t k => XS.iinc X1.here hx rfl (hb hby own_d24_34) rfl (l' := #[rv bP, iv 1, iv cP]) rfl k) ?_
  refine oILN (n := 38) X1 hx (hb hby own_d24_37) rfl rfl ?_
  obtain ⟨T2, X2, e2, st2⟩ := getS2 X1 hx hZ hown (host := "") (Or.inl (oW hw 155 rfl)) Via.refl e1 (SH.ext O0.2) (g := (mkF m 38 #[rv bP, iv 1, iv cP] [(.int cP), (.int 0), (.ref bP)])) rfl (hb hby own_d24_38)
  refine ov (B := T2.setTop (mkF m 41 #[rv bP, iv 1, iv cP] [(.int 0), (.int cP), (.int 0), (.ref bP)])) (fun t k => st2 t k) ?_
  refine ov (B := T2.setTop (mkF m 42 #[rv bP, iv 1, iv cP] [(.int (cP >>> ((0 : Int32) &&& 31))), (.int 0), (.ref bP)])) (fun t k => XS.ishr X2.here hx rfl (hb hby own_d24_41) rfl k) ?_
  refine ov (B := T2.setTop (mkF m 43 #[rv bP, iv 1, iv cP] [(.int ((cP >>> ((0 : Int32) &&& 31)).toInt8.toInt32)), (.int 0), (.ref bP)])) (fun t k => XS.i2b X2.here hx rfl (hb hby own_d24_42) rfl k) ?_
  obtain ⟨cl3, Ar3, q3, S3, M3, H3, G3⟩ := id Vp
  obtain ⟨T4, h4, X4, e4, W4, st4⟩ := stB X2 hx hZ e2 Ar3 (j := (0 : Int32)) (inb_of S3 ⟨by decide, by decide⟩) (g := (mkF m 43 #[rv bP, iv 1, iv cP] [(.int ((cP >>> ((0 : Int32) &&& 31)).toInt8.toInt32)), (.int 0), (.ref bP)])) rfl rfl (hb hby own_d24_43)
  have V4 : Arv Z h4 bP kp .byte (6 : Int32) [(.int ((cP >>> ((0 : Int32) &&& 31)).toInt8.toInt32).toInt8.toInt32), (.int yB), (.int yC), (.int yD), (.int yE), (.int yF)] (.int 0) := Arv.set Ar3 q3 S3 M3 H3 G3 (fits_nar_byte _) W4 0 rfl (Nat.le_of_ble_eq_true rfl)
  have N4 := Fr.snoc X4 N0 g_bP
  refine ov (B := T4.setTop (mkF m 44 #[rv bP, iv 1, iv cP] [])) (fun t k => st4 t k) ?_
  refine oALN (n := 45) X4 hx (hb hby own_d24_44) rfl rfl rfl ?_
  refine oILN (n := 46) X4 hx (hb hby own_d24_45) rfl rfl ?_
  refine oILN (n := 47) X4 hx (hb hby own_d24_46) rfl rfl ?_
  obtain ⟨T5, X5, e5, st5⟩ := getS2 X4 hx hZ hown (host := "") (Or.inl (oW hw 156 rfl)) Via.refl e4 (SL.ext (O0.wr W4 g_bP).2) (g := (mkF m 47 #[rv bP, iv 1, iv cP] [(.int cP), (.int 1), (.ref bP)])) rfl (hb hby own_d24_47)
  refine ov (B := T5.setTop (mkF m 50 #[rv bP, iv 1, iv cP] [(.int 8), (.int cP), (.int 1), (.ref bP)])) (fun t k => st5 t k) ?_
  refine ov (B := T5.setTop (mkF m 51 #[rv bP, iv 1, iv cP] [(.int (cP >>> ((8 : Int32) &&& 31))), (.int 1), (.ref bP)])) (fun t k => XS.ishr X5.here hx rfl (hb hby own_d24_50) rfl k) ?_
  refine ov (B := T5.setTop (mkF m 52 #[rv bP, iv 1, iv cP] [(.int ((cP >>> ((8 : Int32) &&& 31)).toInt8.toInt32)), (.int 1), (.ref bP)])) (fun t k => XS.i2b X5.here hx rfl (hb hby own_d24_51) rfl k) ?_
  obtain ⟨cl6, Ar6, q6, S6, M6, H6, G6⟩ := id V4
  obtain ⟨T7, h7, X7, e7, W7, st7⟩ := stB X5 hx hZ e5 Ar6 (j := (1 : Int32)) (inb_of S6 ⟨by decide, by decide⟩) (g := (mkF m 52 #[rv bP, iv 1, iv cP] [(.int ((cP >>> ((8 : Int32) &&& 31)).toInt8.toInt32)), (.int 1), (.ref bP)])) rfl rfl (hb hby own_d24_52)
  have V7 : Arv Z h7 bP kp .byte (6 : Int32) [(.int ((cP >>> ((0 : Int32) &&& 31)).toInt8.toInt32).toInt8.toInt32), (.int ((cP >>> ((8 : Int32) &&& 31)).toInt8.toInt32).toInt8.toInt32), (.int yC), (.int yD), (.int yE), (.int yF)] (.int 0) := Arv.set Ar6 q6 S6 M6 H6 G6 (fits_nar_byte _) W7 1 rfl (Nat.le_of_ble_eq_true rfl)
  have N7 := Fr.snoc X7 N4 g_bP
  refine ov (B := T7.setTop (mkF m 53 #[rv bP, iv 1, iv cP] [])) (fun t k => st7 t k) ?_
  refine own_leafV X7 hx hlk Bd.returns (hb hby own_d24_53) (by decide) (by decide) ?_
  show QPC30 Z bP cP kp yA yB yC yD yE yF h0 n0 _ T7.heap _
  rw [e7]
  refine ⟨?_, N7, (((Keep.refl h0 [bP]).wr W4 (Or.inl (List.mem_of_getElem? (i := 0) rfl))).wr W7 (Or.inl (List.mem_of_getElem? (i := 0) rfl))), V7⟩
  rfl
theorem own_efGC30 (m : MethodId) (x0 : Addr) (x1 : Int32) : entryFrame m #[(.ref x0), (.int x1)] 2 = mkF m 0 #[rv x0, iv x1] [] := by first | (simp [entryFrame, mkF, argsToLocals, Value.category]; done) | rfl
def QGC30 (Z : State) (bG : Addr) (kg : ClassId) (cG : Int32) (yA : Int32) (yB : Int32) (yC : Int32) (yD : Int32) (yE : Int32) (yF : Int32) (h0 : Heap) (n0 : Nat) (v : Option Value) (h : Heap) (L : List Loc) : Prop := v = some (.int (own_gc cG)) ∧ Fr n0 L ∧ h = h0
set_option maxRecDepth 65536 in
set_option maxHeartbeats 40000000 in
theorem rmGC30 (l : Launch) (Z : State) (a0 : Array Value) (hw : ∀ d ∈ tables_1, d.before a0 Z = true) (ws : List Jvm.Cond) (bG : Addr) (kg : ClassId) (cG : Int32) (yA : Int32) (yB : Int32) (yC : Int32) (yD : Int32) (yE : Int32) (yF : Int32) (h0 : Heap) (n0 : Nat) (Z0 : n0 ≤ h0.size) (O0 : Old Z n0 h0) (SA : Sta Z Z.heap sAB sAH "Z" (.int (1 : Int32))) (SH : Sta Z Z.heap sAB "HI_BYTE_SHIFT" "I" (.int (0 : Int32))) (SL : Sta Z Z.heap sAB "LO_BYTE_SHIFT" "I" (.int (8 : Int32))) (Vg : Arv Z h0 bG kg .byte (6 : Int32) [(.int (cG >>> ((0 : Int32) &&& 31)).toInt8.toInt32.toInt8.toInt32), (.int (cG >>> ((8 : Int32) &&& 31)).toInt8.toInt32.toInt8.toInt32), (.int yC), (.int yD), (.int yE), (.int yF)] (.int (0 : Int32))) :
    MetFree l (⟨sAB, "getChar", "([BI)C"⟩ : MethodName) (head1 (Jvm.Cond.code (⟨sAB, "getChar", "([BI)C"⟩ : MethodName) jdk_52_method_5_code 2 (some .char) :: ws) (oR 0 0 0 0)) (fun a U => a = #[(.ref bG), (.int 0)] ∧ Z.Warmed39 U.vm ∧ U.heap = h0) (fun _ _ _ _ _ => True) (fun _ U o U' => ∃ v L, o = .returned v ∧ QGC30 Z bG kg cG yA yB yC yD yE yF h0 n0 v U'.heap L ∧ FrameEnd U o U' L (oR 0 0 0 0).cells (oR 0 0 0 0).slots) := by
  refine MetFree.of_bodySF (plainFor_of_name own_pn0) hisR ?_
  intro p e s m args below meth c s₁ Bd hml0 hP hK
  obtain ⟨rfl, hZ, hh⟩ := hP
  have hx := Bd.exec
  have hby := Bd.bytes
  have hlk : meth.locks = false := Bd.notSynchronized
  have hml : c.maxLocals = 2 := hml0
  have hown : s.vm.findClass sAB = some m.cls := findClass_of_methodNamed Bd.named
  have hnm := (name_of_methodNamed Bd.named Bd.method).1
  have X0 : Stand p l e (oR 0 0 0 0) s m #[(.ref bG), (.int 0)] below meth c s₁ [] 0 0 := Stand.of_body Bd
  have e0 : s₁.heap = h0 := by rw [← hh, Bd.state]; rfl
  have N0 := Fr.nil n0
  refine own_body (A := s₁.setTop (mkF m 0 #[rv bG, iv 0] [])) (Q := QGC30 Z bG kg cG yA yB yC yD yE yF h0 n0) (fun t k => castTop (own_efGC30 m bG (0 : Int32)) k) ?_
  obtain ⟨T1, X1, e1, st1⟩ := getS2 X0 hx hZ hown (host := "") (Or.inl (oW hw 154 rfl)) Via.refl e0 (SA.ext O0.2) (g := (mkF m 0 #[rv bG, iv 0] [])) rfl (hb hby own_d25_0)
  refine ov (B := T1.setTop (mkF m 3 #[rv bG, iv 0] [(.int 1)])) (fun t k => st1 t k) ?_
  have hc3 : ¬ ((1 : Int32) = (0 : Int32)) := by decide
  refine ov (B := T1.setTop (mkF m 28 #[rv bG, iv 0] [])) (fun t k => XS.ifYes X1.here hx rfl (pc0 := 3) (pc' := 28) rfl (hb hby own_d25_3) rfl ((if0 _ _).trans (feq hc3).2) (by decide) (by decide) k) ?_
  refine oILN (n := 29) X1 hx (hb hby own_d25_28) rfl rfl ?_
  refine oIC (n := 30) X1 hx (1 : Int32) (hb hby own_d25_29) (by decide) rfl ?_
  refine ov (B := T1.setTop (mkF m 31 #[rv bG, iv 0] [(.int 0)])) (fun t k => XS.ishl X1.here hx rfl (hb hby own_d25_30) rfl (by rw [(by decide : ((0 : Int32) <<< ((1 : Int32) &&& 31)) = (0 : Int32))]; exact k)) ?_
  refine ov (B := T1.setTop (mkF m 32 #[rv bG, iv 0] [])) (fun t k => XS.istoreN X1.here hx rfl (hb hby own_d25_31) rfl (l' := #[rv bG, iv 0]) rfl k) ?_
  refine oALN (n := 33) X1 hx (hb hby own_d25_32) rfl rfl rfl ?_
  refine oILN (n := 34) X1 hx (hb hby own_d25_33) rfl rfl ?_
  refine ov (B := T1.setTop (mkF m 37 #[rv bG, iv 1] [(.int 0), (.ref bG)])) (fun t k => XS.iinc X1.here hx rfl (hb hby own_d25_34) rfl (l' := #[rv bG, iv 1]) rfl k) ?_
  obtain ⟨cl2, Ar2, q2, S2, M2, H2, G2⟩ := id Vg
  have hin2 : ¬ ((0 : Int32) < 0 ∨ cl2.slots.size ≤ ((0 : Int32)).toNatClampNeg) := inb_of S2 ⟨by decide, by decide⟩
  refine ov (B := T1.setTop (mkF m 38 #[rv bG, iv 1] [(.int (cG >>> ((0 : Int32) &&& 31)).toInt8.toInt32.toInt8.toInt32)])) (fun t k => X1.baloadBytes hx (j := (0 : Int32)) (v := (.int (cG >>> ((0 : Int32) &&& 31)).toInt8.toInt32.toInt8.toInt32)) (by rw [e1]; exact Ar2.1) (State.isArrayOf_alike hZ.alike Ar2.2.1) Ar2.2.2 hin2 (Has.at H2 hin2 rfl) (g := (mkF m 37 #[rv bG, iv 1] [(.int 0), (.ref bG)])) rfl rfl (hb hby own_d25_37) _ k) ?_
  refine oSP (n := 41) X1 hx (255 : Int32) (hb hby own_d25_38) (by decide) rfl ?_
  refine ov (B := T1.setTop (mkF m 42 #[rv bG, iv 1] [(.int ((cG >>> ((0 : Int32) &&& 31)).toInt8.toInt32.toInt8.toInt32 &&& (255 : Int32)))])) (fun t k => XS.iand X1.here hx rfl (hb hby own_d25_41) rfl k) ?_
  obtain ⟨T3, X3, e3, st3⟩ := getS2 X1 hx hZ hown (host := "") (Or.inl (oW hw 155 rfl)) Via.refl e1 (SH.ext O0.2) (g := (mkF m 42 #[rv bG, iv 1] [(.int ((cG >>> ((0 : Int32) &&& 31)).toInt8.toInt32.toInt8.toInt32 &&& (255 : Int32)))])) rfl (hb hby own_d25_42)
  refine ov (B := T3.setTop (mkF m 45 #[rv bG, iv 1] [(.int 0), (.int ((cG >>> ((0 : Int32) &&& 31)).toInt8.toInt32.toInt8.toInt32 &&& (255 : Int32)))])) (fun t k => st3 t k) ?_
  refine ov (B := T3.setTop (mkF m 46 #[rv bG, iv 1] [(.int (((cG >>> ((0 : Int32) &&& 31)).toInt8.toInt32.toInt8.toInt32 &&& (255 : Int32)) <<< ((0 : Int32) &&& 31)))])) (fun t k => XS.ishl X3.here hx rfl (hb hby own_d25_45) rfl k) ?_
  refine oALN (n := 47) X3 hx (hb hby own_d25_46) rfl rfl rfl ?_
  refine oILN (n := 48) X3 hx (hb hby own_d25_47) rfl rfl ?_
  obtain ⟨cl4, Ar4, q4, S4, M4, H4, G4⟩ := id Vg
  have hin4 : ¬ ((1 : Int32) < 0 ∨ cl4.slots.size ≤ ((1 : Int32)).toNatClampNeg) := inb_of S4 ⟨by decide, by decide⟩
  refine ov (B := T3.setTop (mkF m 49 #[rv bG, iv 1] [(.int (cG >>> ((8 : Int32) &&& 31)).toInt8.toInt32.toInt8.toInt32), (.int (((cG >>> ((0 : Int32) &&& 31)).toInt8.toInt32.toInt8.toInt32 &&& (255 : Int32)) <<< ((0 : Int32) &&& 31)))])) (fun t k => X3.baloadBytes hx (j := (1 : Int32)) (v := (.int (cG >>> ((8 : Int32) &&& 31)).toInt8.toInt32.toInt8.toInt32)) (by rw [e3]; exact Ar4.1) (State.isArrayOf_alike hZ.alike Ar4.2.1) Ar4.2.2 hin4 (Has.at H4 hin4 rfl) (g := (mkF m 48 #[rv bG, iv 1] [(.int 1), (.ref bG), (.int (((cG >>> ((0 : Int32) &&& 31)).toInt8.toInt32.toInt8.toInt32 &&& (255 : Int32)) <<< ((0 : Int32) &&& 31)))])) rfl rfl (hb hby own_d25_48) _ k) ?_
  refine oSP (n := 52) X3 hx (255 : Int32) (hb hby own_d25_49) (by decide) rfl ?_
  refine ov (B := T3.setTop (mkF m 53 #[rv bG, iv 1] [(.int ((cG >>> ((8 : Int32) &&& 31)).toInt8.toInt32.toInt8.toInt32 &&& (255 : Int32))), (.int (((cG >>> ((0 : Int32) &&& 31)).toInt8.toInt32.toInt8.toInt32 &&& (255 : Int32)) <<< ((0 : Int32) &&& 31)))])) (fun t k => XS.iand X3.here hx rfl (hb hby own_d25_52) rfl k) ?_
  obtain ⟨T5, X5, e5, st5⟩ := getS2 X3 hx hZ hown (host := "") (Or.inl (oW hw 156 rfl)) Via.refl e3 (SL.ext O0.2) (g := (mkF m 53 #[rv bG, iv 1] [(.int ((cG >>> ((8 : Int32) &&& 31)).toInt8.toInt32.toInt8.toInt32 &&& (255 : Int32))), (.int (((cG >>> ((0 : Int32) &&& 31)).toInt8.toInt32.toInt8.toInt32 &&& (255 : Int32)) <<< ((0 : Int32) &&& 31)))])) rfl (hb hby own_d25_53)
  refine ov (B := T5.setTop (mkF m 56 #[rv bG, iv 1] [(.int 8), (.int ((cG >>> ((8 : Int32) &&& 31)).toInt8.toInt32.toInt8.toInt32 &&& (255 : Int32))), (.int (((cG >>> ((0 : Int32) &&& 31)).toInt8.toInt32.toInt8.toInt32 &&& (255 : Int32)) <<< ((0 : Int32) &&& 31)))])) (fun t k => st5 t k) ?_
  refine ov (B := T5.setTop (mkF m 57 #[rv bG, iv 1] [(.int (((cG >>> ((8 : Int32) &&& 31)).toInt8.toInt32.toInt8.toInt32 &&& (255 : Int32)) <<< ((8 : Int32) &&& 31))), (.int (((cG >>> ((0 : Int32) &&& 31)).toInt8.toInt32.toInt8.toInt32 &&& (255 : Int32)) <<< ((0 : Int32) &&& 31)))])) (fun t k => XS.ishl X5.here hx rfl (hb hby own_d25_56) rfl k) ?_
  refine ov (B := T5.setTop (mkF m 58 #[rv bG, iv 1] [(.int ((((cG >>> ((0 : Int32) &&& 31)).toInt8.toInt32.toInt8.toInt32 &&& (255 : Int32)) <<< ((0 : Int32) &&& 31)) ||| (((cG >>> ((8 : Int32) &&& 31)).toInt8.toInt32.toInt8.toInt32 &&& (255 : Int32)) <<< ((8 : Int32) &&& 31))))])) (fun t k => XS.ior X5.here hx rfl (hb hby own_d25_57) rfl k) ?_
  refine ov (B := T5.setTop (mkF m 59 #[rv bG, iv 1] [(.int (((((cG >>> ((0 : Int32) &&& 31)).toInt8.toInt32.toInt8.toInt32 &&& (255 : Int32)) <<< ((0 : Int32) &&& 31)) ||| (((cG >>> ((8 : Int32) &&& 31)).toInt8.toInt32.toInt8.toInt32 &&& (255 : Int32)) <<< ((8 : Int32) &&& 31))).toUInt32.toUInt16.toUInt32.toInt32))])) (fun t k => XS.i2c X5.here hx rfl (hb hby own_d25_58) rfl k) ?_
  refine own_leaf X5 hx hlk (t := .char) Bd.returns (own_nn16 _) (Or.inl ⟨rfl, by simp, _, rfl⟩) (hb hby own_d25_59) (by decide) (by decide) ?_
  show QGC30 Z bG kg cG yA yB yC yD yE yF h0 n0 _ T5.heap _
  rw [e5]
  refine ⟨?_, N0, rfl⟩
  rfl
theorem own_efPC31 (m : MethodId) (x0 : Addr) (x1 : Int32) (x2 : Int32) : entryFrame m #[(.ref x0), (.int x1), (.int x2)] 3 = mkF m 0 #[rv x0, iv x1, iv x2] [] := by first | (simp [entryFrame, mkF, argsToLocals, Value.category]; done) | rfl
def QPC31 (Z : State) (bP : Addr) (cP : Int32) (kp : ClassId) (yA : Int32) (yB : Int32) (yC : Int32) (yD : Int32) (yE : Int32) (yF : Int32) (h0 : Heap) (n0 : Nat) (v : Option Value) (h : Heap) (L : List Loc) : Prop := v = none ∧ Fr n0 L ∧ Keep h0 h [bP] ∧ (Arv Z h bP kp .byte (6 : Int32) [(.int yA), (.int yB), (.int (cP >>> ((0 : Int32) &&& 31)).toInt8.toInt32.toInt8.toInt32), (.int (cP >>> ((8 : Int32) &&& 31)).toInt8.toInt32.toInt8.toInt32), (.int yE), (.int yF)] (.int (0 : Int32)))
set_option maxRecDepth 65536 in
set_option maxHeartbeats 40000000 in
theorem rmPC31 (l : Launch) (Z : State) (a0 : Array Value) (hw : ∀ d ∈ tables_1, d.before a0 Z = true) (ws : List Jvm.Cond) (bP : Addr) (cP : Int32) (kp : ClassId) (yA : Int32) (yB : Int32) (yC : Int32) (yD : Int32) (yE : Int32) (yF : Int32) (h0 : Heap) (n0 : Nat) (Z0 : n0 ≤ h0.size) (O0 : Old Z n0 h0) (SA : Sta Z Z.heap sAB sAH "Z" (.int (1 : Int32))) (SH : Sta Z Z.heap sAB "HI_BYTE_SHIFT" "I" (.int (0 : Int32))) (SL : Sta Z Z.heap sAB "LO_BYTE_SHIFT" "I" (.int (8 : Int32))) (Vp : Arv Z h0 bP kp .byte (6 : Int32) [(.int yA), (.int yB), (.int yC), (.int yD), (.int yE), (.int yF)] (.int (0 : Int32))) (g_bP : n0 ≤ bP) :
    MetFree l (⟨sAB, "putChar", "([BII)V"⟩ : MethodName) (head1 (Jvm.Cond.code (⟨sAB, "putChar", "([BII)V"⟩ : MethodName) jdk_52_method_4_code 3 none :: ws) (oR 0 0 0 0)) (fun a U => a = #[(.ref bP), (.int 1), (.int cP)] ∧ Z.Warmed39 U.vm ∧ U.heap = h0) (fun _ _ _ _ _ => True) (fun _ U o U' => ∃ v L, o = .returned v ∧ QPC31 Z bP cP kp yA yB yC yD yE yF h0 n0 v U'.heap L ∧ FrameEnd U o U' L (oR 0 0 0 0).cells (oR 0 0 0 0).slots) := by
  refine MetFree.of_bodySF (plainFor_of_name own_pn0) hisR ?_
  intro p e s m args below meth c s₁ Bd hml0 hP hK
  obtain ⟨rfl, hZ, hh⟩ := hP
  have hx := Bd.exec
  have hby := Bd.bytes
  have hlk : meth.locks = false := Bd.notSynchronized
  have hml : c.maxLocals = 3 := hml0
  have hown : s.vm.findClass sAB = some m.cls := findClass_of_methodNamed Bd.named
  have hnm := (name_of_methodNamed Bd.named Bd.method).1
  have X0 : Stand p l e (oR 0 0 0 0) s m #[(.ref bP), (.int 1), (.int cP)] below meth c s₁ [] 0 0 := Stand.of_body Bd
  have e0 : s₁.heap = h0 := by rw [← hh, Bd.state]; rfl
  have N0 := Fr.nil n0
  refine own_body (A := s₁.setTop (mkF m 0 #[rv bP, iv 1, iv cP] [])) (Q := QPC31 Z bP cP kp yA yB yC yD yE yF h0 n0) (fun t k => castTop (own_efPC31 m bP (1 : Int32) cP) k) ?_
  obtain ⟨T1, X1, e1, st1⟩ := getS2 X0 hx hZ hown (host := "") (Or.inl (oW hw 154 rfl)) Via.refl e0 (SA.ext O0.2) (g := (mkF m 0 #[rv bP, iv 1, iv cP] [])) rfl (hb hby own_d24_0)
  refine ov (B := T1.setTop (mkF m 3 #[rv bP, iv 1, iv cP] [(.int 1)])) (fun t k => st1 t k) ?_
  have hc3 : ¬ ((1 : Int32) = (0 : Int32)) := by decide
  refine ov (B := T1.setTop (mkF m 28 #[rv bP, iv 1, iv cP] [])) (fun t k => XS.ifYes X1.here hx rfl (pc0 := 3) (pc' := 28) rfl (hb hby own_d24_3) rfl ((if0 _ _).trans (feq hc3).2) (by decide) (by decide) k) ?_
  refine oILN (n := 29) X1 hx (hb hby own_d24_28) rfl rfl ?_
  refine oIC (n := 30) X1 hx (1 : Int32) (hb hby own_d24_29) (by decide) rfl ?_
  refine ov (B := T1.setTop (mkF m 31 #[rv bP, iv 1, iv cP] [(.int 2)])) (fun t k => XS.ishl X1.here hx rfl (hb hby own_d24_30) rfl (by rw [(by decide : ((1 : Int32) <<< ((1 : Int32) &&& 31)) = (2 : Int32))]; exact k)) ?_
  refine ov (B := T1.setTop (mkF m 32 #[rv bP, iv 2, iv cP] [])) (fun t k => XS.istoreN X1.here hx rfl (hb hby own_d24_31) rfl (l' := #[rv bP, iv 2, iv cP]) rfl k) ?_
  refine oALN (n := 33) X1 hx (hb hby own_d24_32) rfl rfl rfl ?_
  refine oILN (n := 34) X1 hx (hb hby own_d24_33) rfl rfl ?_
  refine ov (B := T1.setTop (mkF m 37 #[rv bP, iv 3, iv cP] [(.int 2), (.ref bP)])) (fun t k => XS.iinc X1.here hx rfl (hb hby own_d24_34) rfl (l' := #[rv bP, iv 3, iv cP]) rfl k) ?_
  refine oILN (n := 38) X1 hx (hb hby own_d24_37) rfl rfl ?_
  obtain ⟨T2, X2, e2, st2⟩ := getS2 X1 hx hZ hown (host := "") (Or.inl (oW hw 155 rfl)) Via.refl e1 (SH.ext O0.2) (g := (mkF m 38 #[rv bP, iv 3, iv cP] [(.int cP), (.int 2), (.ref bP)])) rfl (hb hby own_d24_38)
  refine ov (B := T2.setTop (mkF m 41 #[rv bP, iv 3, iv cP] [(.int 0), (.int cP), (.int 2), (.ref bP)])) (fun t k => st2 t k) ?_
  refine ov (B := T2.setTop (mkF m 42 #[rv bP, iv 3, iv cP] [(.int (cP >>> ((0 : Int32) &&& 31))), (.int 2), (.ref bP)])) (fun t k => XS.ishr X2.here hx rfl (hb hby own_d24_41) rfl k) ?_
  refine ov (B := T2.setTop (mkF m 43 #[rv bP, iv 3, iv cP] [(.int ((cP >>> ((0 : Int32) &&& 31)).toInt8.toInt32)), (.int 2), (.ref bP)])) (fun t k => XS.i2b X2.here hx rfl (hb hby own_d24_42) rfl k) ?_
  obtain ⟨cl3, Ar3, q3, S3, M3, H3, G3⟩ := id Vp
  obtain ⟨T4, h4, X4, e4, W4, st4⟩ := stB X2 hx hZ e2 Ar3 (j := (2 : Int32)) (inb_of S3 ⟨by decide, by decide⟩) (g := (mkF m 43 #[rv bP, iv 3, iv cP] [(.int ((cP >>> ((0 : Int32) &&& 31)).toInt8.toInt32)), (.int 2), (.ref bP)])) rfl rfl (hb hby own_d24_43)
  have V4 : Arv Z h4 bP kp .byte (6 : Int32) [(.int yA), (.int yB), (.int ((cP >>> ((0 : Int32) &&& 31)).toInt8.toInt32).toInt8.toInt32), (.int yD), (.int yE), (.int yF)] (.int 0) := Arv.set Ar3 q3 S3 M3 H3 G3 (fits_nar_byte _) W4 2 rfl (Nat.le_of_ble_eq_true rfl)
  have N4 := Fr.snoc X4 N0 g_bP
  refine ov (B := T4.setTop (mkF m 44 #[rv bP, iv 3, iv cP] [])) (fun t k => st4 t k) ?_
  refine oALN (n := 45) X4 hx (hb hby own_d24_44) rfl rfl rfl ?_
  refine oILN (n := 46) X4 hx (hb hby own_d24_45) rfl rfl ?_
  refine oILN (n := 47) X4 hx (hb hby own_d24_46) rfl rfl ?_
  obtain ⟨T5, X5, e5, st5⟩ := getS2 X4 hx hZ hown (host := "") (Or.inl (oW hw 156 rfl)) Via.refl e4 (SL.ext (O0.wr W4 g_bP).2) (g := (mkF m 47 #[rv bP, iv 3, iv cP] [(.int cP), (.int 3), (.ref bP)])) rfl (hb hby own_d24_47)
  refine ov (B := T5.setTop (mkF m 50 #[rv bP, iv 3, iv cP] [(.int 8), (.int cP), (.int 3), (.ref bP)])) (fun t k => st5 t k) ?_
  refine ov (B := T5.setTop (mkF m 51 #[rv bP, iv 3, iv cP] [(.int (cP >>> ((8 : Int32) &&& 31))), (.int 3), (.ref bP)])) (fun t k => XS.ishr X5.here hx rfl (hb hby own_d24_50) rfl k) ?_
  refine ov (B := T5.setTop (mkF m 52 #[rv bP, iv 3, iv cP] [(.int ((cP >>> ((8 : Int32) &&& 31)).toInt8.toInt32)), (.int 3), (.ref bP)])) (fun t k => XS.i2b X5.here hx rfl (hb hby own_d24_51) rfl k) ?_
  obtain ⟨cl6, Ar6, q6, S6, M6, H6, G6⟩ := id V4
  obtain ⟨T7, h7, X7, e7, W7, st7⟩ := stB X5 hx hZ e5 Ar6 (j := (3 : Int32)) (inb_of S6 ⟨by decide, by decide⟩) (g := (mkF m 52 #[rv bP, iv 3, iv cP] [(.int ((cP >>> ((8 : Int32) &&& 31)).toInt8.toInt32)), (.int 3), (.ref bP)])) rfl rfl (hb hby own_d24_52)
  have V7 : Arv Z h7 bP kp .byte (6 : Int32) [(.int yA), (.int yB), (.int ((cP >>> ((0 : Int32) &&& 31)).toInt8.toInt32).toInt8.toInt32), (.int ((cP >>> ((8 : Int32) &&& 31)).toInt8.toInt32).toInt8.toInt32), (.int yE), (.int yF)] (.int 0) := Arv.set Ar6 q6 S6 M6 H6 G6 (fits_nar_byte _) W7 3 rfl (Nat.le_of_ble_eq_true rfl)
  have N7 := Fr.snoc X7 N4 g_bP
  refine ov (B := T7.setTop (mkF m 53 #[rv bP, iv 3, iv cP] [])) (fun t k => st7 t k) ?_
  refine own_leafV X7 hx hlk Bd.returns (hb hby own_d24_53) (by decide) (by decide) ?_
  show QPC31 Z bP cP kp yA yB yC yD yE yF h0 n0 _ T7.heap _
  rw [e7]
  refine ⟨?_, N7, (((Keep.refl h0 [bP]).wr W4 (Or.inl (List.mem_of_getElem? (i := 0) rfl))).wr W7 (Or.inl (List.mem_of_getElem? (i := 0) rfl))), V7⟩
  rfl
theorem own_efGC31 (m : MethodId) (x0 : Addr) (x1 : Int32) : entryFrame m #[(.ref x0), (.int x1)] 2 = mkF m 0 #[rv x0, iv x1] [] := by first | (simp [entryFrame, mkF, argsToLocals, Value.category]; done) | rfl
def QGC31 (Z : State) (bG : Addr) (kg : ClassId) (cG : Int32) (yA : Int32) (yB : Int32) (yC : Int32) (yD : Int32) (yE : Int32) (yF : Int32) (h0 : Heap) (n0 : Nat) (v : Option Value) (h : Heap) (L : List Loc) : Prop := v = some (.int (own_gc cG)) ∧ Fr n0 L ∧ h = h0
set_option maxRecDepth 65536 in
set_option maxHeartbeats 40000000 in
theorem rmGC31 (l : Launch) (Z : State) (a0 : Array Value) (hw : ∀ d ∈ tables_1, d.before a0 Z = true) (ws : List Jvm.Cond) (bG : Addr) (kg : ClassId) (cG : Int32) (yA : Int32) (yB : Int32) (yC : Int32) (yD : Int32) (yE : Int32) (yF : Int32) (h0 : Heap) (n0 : Nat) (Z0 : n0 ≤ h0.size) (O0 : Old Z n0 h0) (SA : Sta Z Z.heap sAB sAH "Z" (.int (1 : Int32))) (SH : Sta Z Z.heap sAB "HI_BYTE_SHIFT" "I" (.int (0 : Int32))) (SL : Sta Z Z.heap sAB "LO_BYTE_SHIFT" "I" (.int (8 : Int32))) (Vg : Arv Z h0 bG kg .byte (6 : Int32) [(.int yA), (.int yB), (.int (cG >>> ((0 : Int32) &&& 31)).toInt8.toInt32.toInt8.toInt32), (.int (cG >>> ((8 : Int32) &&& 31)).toInt8.toInt32.toInt8.toInt32), (.int yE), (.int yF)] (.int (0 : Int32))) :
    MetFree l (⟨sAB, "getChar", "([BI)C"⟩ : MethodName) (head1 (Jvm.Cond.code (⟨sAB, "getChar", "([BI)C"⟩ : MethodName) jdk_52_method_5_code 2 (some .char) :: ws) (oR 0 0 0 0)) (fun a U => a = #[(.ref bG), (.int 1)] ∧ Z.Warmed39 U.vm ∧ U.heap = h0) (fun _ _ _ _ _ => True) (fun _ U o U' => ∃ v L, o = .returned v ∧ QGC31 Z bG kg cG yA yB yC yD yE yF h0 n0 v U'.heap L ∧ FrameEnd U o U' L (oR 0 0 0 0).cells (oR 0 0 0 0).slots) := by
  refine MetFree.of_bodySF (plainFor_of_name own_pn0) hisR ?_
  intro p e s m args below meth c s₁ Bd hml0 hP hK
  obtain ⟨rfl, hZ, hh⟩ := hP
  have hx := Bd.exec
  have hby := Bd.bytes
  have hlk : meth.locks = false := Bd.notSynchronized
  have hml : c.maxLocals = 2 := hml0
  have hown : s.vm.findClass sAB = some m.cls := findClass_of_methodNamed Bd.named
  have hnm := (name_of_methodNamed Bd.named Bd.method).1
  have X0 : Stand p l e (oR 0 0 0 0) s m #[(.ref bG), (.int 1)] below meth c s₁ [] 0 0 := Stand.of_body Bd
  have e0 : s₁.heap = h0 := by rw [← hh, Bd.state]; rfl
  have N0 := Fr.nil n0
  refine own_body (A := s₁.setTop (mkF m 0 #[rv bG, iv 1] [])) (Q := QGC31 Z bG kg cG yA yB yC yD yE yF h0 n0) (fun t k => castTop (own_efGC31 m bG (1 : Int32)) k) ?_
  obtain ⟨T1, X1, e1, st1⟩ := getS2 X0 hx hZ hown (host := "") (Or.inl (oW hw 154 rfl)) Via.refl e0 (SA.ext O0.2) (g := (mkF m 0 #[rv bG, iv 1] [])) rfl (hb hby own_d25_0)
  refine ov (B := T1.setTop (mkF m 3 #[rv bG, iv 1] [(.int 1)])) (fun t k => st1 t k) ?_
  have hc3 : ¬ ((1 : Int32) = (0 : Int32)) := by decide
  refine ov (B := T1.setTop (mkF m 28 #[rv bG, iv 1] [])) (fun t k => XS.ifYes X1.here hx rfl (pc0 := 3) (pc' := 28) rfl (hb hby own_d25_3) rfl ((if0 _ _).trans (feq hc3).2) (by decide) (by decide) k) ?_
  refine oILN (n := 29) X1 hx (hb hby own_d25_28) rfl rfl ?_
  refine oIC (n := 30) X1 hx (1 : Int32) (hb hby own_d25_29) (by decide) rfl ?_
  refine ov (B := T1.setTop (mkF m 31 #[rv bG, iv 1] [(.int 2)])) (fun t k => XS.ishl X1.here hx rfl (hb hby own_d25_30) rfl (by rw [(by decide : ((1 : Int32) <<< ((1 : Int32) &&& 31)) = (2 : Int32))]; exact k)) ?_
  refine ov (B := T1.setTop (mkF m 32 #[rv bG, iv 2] [])) (fun t k => XS.istoreN X1.here hx rfl (hb hby own_d25_31) rfl (l' := #[rv bG, iv 2]) rfl k) ?_
  refine oALN (n := 33) X1 hx (hb hby own_d25_32) rfl rfl rfl ?_
  refine oILN (n := 34) X1 hx (hb hby own_d25_33) rfl rfl ?_
  refine ov (B := T1.setTop (mkF m 37 #[rv bG, iv 3] [(.int 2), (.ref bG)])) (fun t k => XS.iinc X1.here hx rfl (hb hby own_d25_34) rfl (l' := #[rv bG, iv 3]) rfl k) ?_
  obtain ⟨cl2, Ar2, q2, S2, M2, H2, G2⟩ := id Vg
  have hin2 : ¬ ((2 : Int32) < 0 ∨ cl2.slots.size ≤ ((2 : Int32)).toNatClampNeg) := inb_of S2 ⟨by decide, by decide⟩
  refine ov (B := T1.setTop (mkF m 38 #[rv bG, iv 3] [(.int (cG >>> ((0 : Int32) &&& 31)).toInt8.toInt32.toInt8.toInt32)])) (fun t k => X1.baloadBytes hx (j := (2 : Int32)) (v := (.int (cG >>> ((0 : Int32) &&& 31)).toInt8.toInt32.toInt8.toInt32)) (by rw [e1]; exact Ar2.1) (State.isArrayOf_alike hZ.alike Ar2.2.1) Ar2.2.2 hin2 (Has.at H2 hin2 rfl) (g := (mkF m 37 #[rv bG, iv 3] [(.int 2), (.ref bG)])) rfl rfl (hb hby own_d25_37) _ k) ?_
  refine oSP (n := 41) X1 hx (255 : Int32) (hb hby own_d25_38) (by decide) rfl ?_
  refine ov (B := T1.setTop (mkF m 42 #[rv bG, iv 3] [(.int ((cG >>> ((0 : Int32) &&& 31)).toInt8.toInt32.toInt8.toInt32 &&& (255 : Int32)))])) (fun t k => XS.iand X1.here hx rfl (hb hby own_d25_41) rfl k) ?_
  obtain ⟨T3, X3, e3, st3⟩ := getS2 X1 hx hZ hown (host := "") (Or.inl (oW hw 155 rfl)) Via.refl e1 (SH.ext O0.2) (g := (mkF m 42 #[rv bG, iv 3] [(.int ((cG >>> ((0 : Int32) &&& 31)).toInt8.toInt32.toInt8.toInt32 &&& (255 : Int32)))])) rfl (hb hby own_d25_42)
  refine ov (B := T3.setTop (mkF m 45 #[rv bG, iv 3] [(.int 0), (.int ((cG >>> ((0 : Int32) &&& 31)).toInt8.toInt32.toInt8.toInt32 &&& (255 : Int32)))])) (fun t k => st3 t k) ?_
  refine ov (B := T3.setTop (mkF m 46 #[rv bG, iv 3] [(.int (((cG >>> ((0 : Int32) &&& 31)).toInt8.toInt32.toInt8.toInt32 &&& (255 : Int32)) <<< ((0 : Int32) &&& 31)))])) (fun t k => XS.ishl X3.here hx rfl (hb hby own_d25_45) rfl k) ?_
  refine oALN (n := 47) X3 hx (hb hby own_d25_46) rfl rfl rfl ?_
  refine oILN (n := 48) X3 hx (hb hby own_d25_47) rfl rfl ?_
  obtain ⟨cl4, Ar4, q4, S4, M4, H4, G4⟩ := id Vg
  have hin4 : ¬ ((3 : Int32) < 0 ∨ cl4.slots.size ≤ ((3 : Int32)).toNatClampNeg) := inb_of S4 ⟨by decide, by decide⟩
  refine ov (B := T3.setTop (mkF m 49 #[rv bG, iv 3] [(.int (cG >>> ((8 : Int32) &&& 31)).toInt8.toInt32.toInt8.toInt32), (.int (((cG >>> ((0 : Int32) &&& 31)).toInt8.toInt32.toInt8.toInt32 &&& (255 : Int32)) <<< ((0 : Int32) &&& 31)))])) (fun t k => X3.baloadBytes hx (j := (3 : Int32)) (v := (.int (cG >>> ((8 : Int32) &&& 31)).toInt8.toInt32.toInt8.toInt32)) (by rw [e3]; exact Ar4.1) (State.isArrayOf_alike hZ.alike Ar4.2.1) Ar4.2.2 hin4 (Has.at H4 hin4 rfl) (g := (mkF m 48 #[rv bG, iv 3] [(.int 3), (.ref bG), (.int (((cG >>> ((0 : Int32) &&& 31)).toInt8.toInt32.toInt8.toInt32 &&& (255 : Int32)) <<< ((0 : Int32) &&& 31)))])) rfl rfl (hb hby own_d25_48) _ k) ?_
  refine oSP (n := 52) X3 hx (255 : Int32) (hb hby own_d25_49) (by decide) rfl ?_
  refine ov (B := T3.setTop (mkF m 53 #[rv bG, iv 3] [(.int ((cG >>> ((8 : Int32) &&& 31)).toInt8.toInt32.toInt8.toInt32 &&& (255 : Int32))), (.int (((cG >>> ((0 : Int32) &&& 31)).toInt8.toInt32.toInt8.toInt32 &&& (255 : Int32)) <<< ((0 : Int32) &&& 31)))])) (fun t k => XS.iand X3.here hx rfl (hb hby own_d25_52) rfl k) ?_
  obtain ⟨T5, X5, e5, st5⟩ := getS2 X3 hx hZ hown (host := "") (Or.inl (oW hw 156 rfl)) Via.refl e3 (SL.ext O0.2) (g := (mkF m 53 #[rv bG, iv 3] [(.int ((cG >>> ((8 : Int32) &&& 31)).toInt8.toInt32.toInt8.toInt32 &&& (255 : Int32))), (.int (((cG >>> ((0 : Int32) &&& 31)).toInt8.toInt32.toInt8.toInt32 &&& (255 : Int32)) <<< ((0 : Int32) &&& 31)))])) rfl (hb hby own_d25_53)
  refine ov (B := T5.setTop (mkF m 56 #[rv bG, iv 3] [(.int 8), (.int ((cG >>> ((8 : Int32) &&& 31)).toInt8.toInt32.toInt8.toInt32 &&& (255 : Int32))), (.int (((cG >>> ((0 : Int32) &&& 31)).toInt8.toInt32.toInt8.toInt32 &&& (255 : Int32)) <<< ((0 : Int32) &&& 31)))])) (fun t k => st5 t k) ?_
  refine ov (B := T5.setTop (mkF m 57 #[rv bG, iv 3] [(.int (((cG >>> ((8 : Int32) &&& 31)).toInt8.toInt32.toInt8.toInt32 &&& (255 : Int32)) <<< ((8 : Int32) &&& 31))), (.int (((cG >>> ((0 : Int32) &&& 31)).toInt8.toInt32.toInt8.toInt32 &&& (255 : Int32)) <<< ((0 : Int32) &&& 31)))])) (fun t k => XS.ishl X5.here hx rfl (hb hby own_d25_56) rfl k) ?_
  refine ov (B := T5.setTop (mkF m 58 #[rv bG, iv 3] [(.int ((((cG >>> ((0 : Int32) &&& 31)).toInt8.toInt32.toInt8.toInt32 &&& (255 : Int32)) <<< ((0 : Int32) &&& 31)) ||| (((cG >>> ((8 : Int32) &&& 31)).toInt8.toInt32.toInt8.toInt32 &&& (255 : Int32)) <<< ((8 : Int32) &&& 31))))])) (fun t k => XS.ior X5.here hx rfl (hb hby own_d25_57) rfl k) ?_
  refine ov (B := T5.setTop (mkF m 59 #[rv bG, iv 3] [(.int (((((cG >>> ((0 : Int32) &&& 31)).toInt8.toInt32.toInt8.toInt32 &&& (255 : Int32)) <<< ((0 : Int32) &&& 31)) ||| (((cG >>> ((8 : Int32) &&& 31)).toInt8.toInt32.toInt8.toInt32 &&& (255 : Int32)) <<< ((8 : Int32) &&& 31))).toUInt32.toUInt16.toUInt32.toInt32))])) (fun t k => XS.i2c X5.here hx rfl (hb hby own_d25_58) rfl k) ?_
  refine own_leaf X5 hx hlk (t := .char) Bd.returns (own_nn16 _) (Or.inl ⟨rfl, by simp, _, rfl⟩) (hb hby own_d25_59) (by decide) (by decide) ?_
  show QGC31 Z bG kg cG yA yB yC yD yE yF h0 n0 _ T5.heap _
  rw [e5]
  refine ⟨?_, N0, rfl⟩
  rfl
theorem own_efPC32 (m : MethodId) (x0 : Addr) (x1 : Int32) (x2 : Int32) : entryFrame m #[(.ref x0), (.int x1), (.int x2)] 3 = mkF m 0 #[rv x0, iv x1, iv x2] [] := by first | (simp [entryFrame, mkF, argsToLocals, Value.category]; done) | rfl
def QPC32 (Z : State) (bP : Addr) (cP : Int32) (kp : ClassId) (yA : Int32) (yB : Int32) (yC : Int32) (yD : Int32) (yE : Int32) (yF : Int32) (h0 : Heap) (n0 : Nat) (v : Option Value) (h : Heap) (L : List Loc) : Prop := v = none ∧ Fr n0 L ∧ Keep h0 h [bP] ∧ (Arv Z h bP kp .byte (6 : Int32) [(.int yA), (.int yB), (.int yC), (.int yD), (.int (cP >>> ((0 : Int32) &&& 31)).toInt8.toInt32.toInt8.toInt32), (.int (cP >>> ((8 : Int32) &&& 31)).toInt8.toInt32.toInt8.toInt32)] (.int (0 : Int32)))
set_option maxRecDepth 65536 in
set_option maxHeartbeats 40000000 in
theorem rmPC32 (l : Launch) (Z : State) (a0 : Array Value) (hw : ∀ d ∈ tables_1, d.before a0 Z = true) (ws : List Jvm.Cond) (bP : Addr) (cP : Int32) (kp : ClassId) (yA : Int32) (yB : Int32) (yC : Int32) (yD : Int32) (yE : Int32) (yF : Int32) (h0 : Heap) (n0 : Nat) (Z0 : n0 ≤ h0.size) (O0 : Old Z n0 h0) (SA : Sta Z Z.heap sAB sAH "Z" (.int (1 : Int32))) (SH : Sta Z Z.heap sAB "HI_BYTE_SHIFT" "I" (.int (0 : Int32))) (SL : Sta Z Z.heap sAB "LO_BYTE_SHIFT" "I" (.int (8 : Int32))) (Vp : Arv Z h0 bP kp .byte (6 : Int32) [(.int yA), (.int yB), (.int yC), (.int yD), (.int yE), (.int yF)] (.int (0 : Int32))) (g_bP : n0 ≤ bP) :
    MetFree l (⟨sAB, "putChar", "([BII)V"⟩ : MethodName) (head1 (Jvm.Cond.code (⟨sAB, "putChar", "([BII)V"⟩ : MethodName) jdk_52_method_4_code 3 none :: ws) (oR 0 0 0 0)) (fun a U => a = #[(.ref bP), (.int 2), (.int cP)] ∧ Z.Warmed39 U.vm ∧ U.heap = h0) (fun _ _ _ _ _ => True) (fun _ U o U' => ∃ v L, o = .returned v ∧ QPC32 Z bP cP kp yA yB yC yD yE yF h0 n0 v U'.heap L ∧ FrameEnd U o U' L (oR 0 0 0 0).cells (oR 0 0 0 0).slots) := by
  refine MetFree.of_bodySF (plainFor_of_name own_pn0) hisR ?_
  intro p e s m args below meth c s₁ Bd hml0 hP hK
  obtain ⟨rfl, hZ, hh⟩ := hP
  have hx := Bd.exec
  have hby := Bd.bytes
  have hlk : meth.locks = false := Bd.notSynchronized
  have hml : c.maxLocals = 3 := hml0
  have hown : s.vm.findClass sAB = some m.cls := findClass_of_methodNamed Bd.named
  have hnm := (name_of_methodNamed Bd.named Bd.method).1
  have X0 : Stand p l e (oR 0 0 0 0) s m #[(.ref bP), (.int 2), (.int cP)] below meth c s₁ [] 0 0 := Stand.of_body Bd
  have e0 : s₁.heap = h0 := by rw [← hh, Bd.state]; rfl
  have N0 := Fr.nil n0
  refine own_body (A := s₁.setTop (mkF m 0 #[rv bP, iv 2, iv cP] [])) (Q := QPC32 Z bP cP kp yA yB yC yD yE yF h0 n0) (fun t k => castTop (own_efPC32 m bP (2 : Int32) cP) k) ?_
  obtain ⟨T1, X1, e1, st1⟩ := getS2 X0 hx hZ hown (host := "") (Or.inl (oW hw 154 rfl)) Via.refl e0 (SA.ext O0.2) (g := (mkF m 0 #[rv bP, iv 2, iv cP] [])) rfl (hb hby own_d24_0)
  refine ov (B := T1.setTop (mkF m 3 #[rv bP, iv 2, iv cP] [(.int 1)])) (fun t k => st1 t k) ?_
  have hc3 : ¬ ((1 : Int32) = (0 : Int32)) := by decide
  refine ov (B := T1.setTop (mkF m 28 #[rv bP, iv 2, iv cP] [])) (fun t k => XS.ifYes X1.here hx rfl (pc0 := 3) (pc' := 28) rfl (hb hby own_d24_3) rfl ((if0 _ _).trans (feq hc3).2) (by decide) (by decide) k) ?_
  refine oILN (n := 29) X1 hx (hb hby own_d24_28) rfl rfl ?_
  refine oIC (n := 30) X1 hx (1 : Int32) (hb hby own_d24_29) (by decide) rfl ?_
  refine ov (B := T1.setTop (mkF m 31 #[rv bP, iv 2, iv cP] [(.int 4)])) (fun t k => XS.ishl X1.here hx rfl (hb hby own_d24_30) rfl (by rw [(by decide : ((2 : Int32) <<< ((1 : Int32) &&& 31)) = (4 : Int32))]; exact k)) ?_
  refine ov (B := T1.setTop (mkF m 32 #[rv bP, iv 4, iv cP] [])) (fun t k => XS.istoreN X1.here hx rfl (hb hby own_d24_31) rfl (l' := #[rv bP, iv 4, iv cP]) rfl k) ?_
  refine oALN (n := 33) X1 hx (hb hby own_d24_32) rfl rfl rfl ?_
  refine oILN (n := 34) X1 hx (hb hby own_d24_33) rfl rfl ?_
  refine ov (B := T1.setTop (mkF m 37 #[rv bP, iv 5, iv cP] [(.int 4), (.ref bP)])) (fun t k => XS.iinc X1.here hx rfl (hb hby own_d24_34) rfl (l' := #[rv bP, iv 5, iv cP]) rfl k) ?_
  refine oILN (n := 38) X1 hx (hb hby own_d24_37) rfl rfl ?_
  obtain ⟨T2, X2, e2, st2⟩ := getS2 X1 hx hZ hown (host := "") (Or.inl (oW hw 155 rfl)) Via.refl e1 (SH.ext O0.2) (g := (mkF m 38 #[rv bP, iv 5, iv cP] [(.int cP), (.int 4), (.ref bP)])) rfl (hb hby own_d24_38)
  refine ov (B := T2.setTop (mkF m 41 #[rv bP, iv 5, iv cP] [(.int 0), (.int cP), (.int 4), (.ref bP)])) (fun t k => st2 t k) ?_
  refine ov (B := T2.setTop (mkF m 42 #[rv bP, iv 5, iv cP] [(.int (cP >>> ((0 : Int32) &&& 31))), (.int 4), (.ref bP)])) (fun t k => XS.ishr X2.here hx rfl (hb hby own_d24_41) rfl k) ?_
  refine ov (B := T2.setTop (mkF m 43 #[rv bP, iv 5, iv cP] [(.int ((cP >>> ((0 : Int32) &&& 31)).toInt8.toInt32)), (.int 4), (.ref bP)])) (fun t k => XS.i2b X2.here hx rfl (hb hby own_d24_42) rfl k) ?_
  obtain ⟨cl3, Ar3, q3, S3, M3, H3, G3⟩ := id Vp
  obtain ⟨T4, h4, X4, e4, W4, st4⟩ := stB X2 hx hZ e2 Ar3 (j := (4 : Int32)) (inb_of S3 ⟨by decide, by decide⟩) (g := (mkF m 43 #[rv bP, iv 5, iv cP] [(.int ((cP >>> ((0 : Int32) &&& 31)).toInt8.toInt32)), (.int 4), (.ref bP)])) rfl rfl (hb hby own_d24_43)
  have V4 : Arv Z h4 bP kp .byte (6 : Int32) [(.int yA), (.int yB), (.int yC), (.int yD), (.int ((cP >>> ((0 : Int32) &&& 31)).toInt8.toInt32).toInt8.toInt32), (.int yF)] (.int 0) := Arv.set Ar3 q3 S3 M3 H3 G3 (fits_nar_byte _) W4 4 rfl (Nat.le_of_ble_eq_true rfl)
  have N4 := Fr.snoc X4 N0 g_bP
  refine ov (B := T4.setTop (mkF m 44 #[rv bP, iv 5, iv cP] [])) (fun t k => st4 t k) ?_
  refine oALN (n := 45) X4 hx (hb hby own_d24_44) rfl rfl rfl ?_
  refine oILN (n := 46) X4 hx (hb hby own_d24_45) rfl rfl ?_
  refine oILN (n := 47) X4 hx (hb hby own_d24_46) rfl rfl ?_
  obtain ⟨T5, X5, e5, st5⟩ := getS2 X4 hx hZ hown (host := "") (Or.inl (oW hw 156 rfl)) Via.refl e4 (SL.ext (O0.wr W4 g_bP).2) (g := (mkF m 47 #[rv bP, iv 5, iv cP] [(.int cP), (.int 5), (.ref bP)])) rfl (hb hby own_d24_47)
  refine ov (B := T5.setTop (mkF m 50 #[rv bP, iv 5, iv cP] [(.int 8), (.int cP), (.int 5), (.ref bP)])) (fun t k => st5 t k) ?_
  refine ov (B := T5.setTop (mkF m 51 #[rv bP, iv 5, iv cP] [(.int (cP >>> ((8 : Int32) &&& 31))), (.int 5), (.ref bP)])) (fun t k => XS.ishr X5.here hx rfl (hb hby own_d24_50) rfl k) ?_
  refine ov (B := T5.setTop (mkF m 52 #[rv bP, iv 5, iv cP] [(.int ((cP >>> ((8 : Int32) &&& 31)).toInt8.toInt32)), (.int 5), (.ref bP)])) (fun t k => XS.i2b X5.here hx rfl (hb hby own_d24_51) rfl k) ?_
  obtain ⟨cl6, Ar6, q6, S6, M6, H6, G6⟩ := id V4
  obtain ⟨T7, h7, X7, e7, W7, st7⟩ := stB X5 hx hZ e5 Ar6 (j := (5 : Int32)) (inb_of S6 ⟨by decide, by decide⟩) (g := (mkF m 52 #[rv bP, iv 5, iv cP] [(.int ((cP >>> ((8 : Int32) &&& 31)).toInt8.toInt32)), (.int 5), (.ref bP)])) rfl rfl (hb hby own_d24_52)
  have V7 : Arv Z h7 bP kp .byte (6 : Int32) [(.int yA), (.int yB), (.int yC), (.int yD), (.int ((cP >>> ((0 : Int32) &&& 31)).toInt8.toInt32).toInt8.toInt32), (.int ((cP >>> ((8 : Int32) &&& 31)).toInt8.toInt32).toInt8.toInt32)] (.int 0) := Arv.set Ar6 q6 S6 M6 H6 G6 (fits_nar_byte _) W7 5 rfl (Nat.le_of_ble_eq_true rfl)
  have N7 := Fr.snoc X7 N4 g_bP
  refine ov (B := T7.setTop (mkF m 53 #[rv bP, iv 5, iv cP] [])) (fun t k => st7 t k) ?_
  refine own_leafV X7 hx hlk Bd.returns (hb hby own_d24_53) (by decide) (by decide) ?_
  show QPC32 Z bP cP kp yA yB yC yD yE yF h0 n0 _ T7.heap _
  rw [e7]
  refine ⟨?_, N7, (((Keep.refl h0 [bP]).wr W4 (Or.inl (List.mem_of_getElem? (i := 0) rfl))).wr W7 (Or.inl (List.mem_of_getElem? (i := 0) rfl))), V7⟩
  rfl
theorem own_efGC32 (m : MethodId) (x0 : Addr) (x1 : Int32) : entryFrame m #[(.ref x0), (.int x1)] 2 = mkF m 0 #[rv x0, iv x1] [] := by first | (simp [entryFrame, mkF, argsToLocals, Value.category]; done) | rfl
def QGC32 (Z : State) (bG : Addr) (kg : ClassId) (cG : Int32) (yA : Int32) (yB : Int32) (yC : Int32) (yD : Int32) (yE : Int32) (yF : Int32) (h0 : Heap) (n0 : Nat) (v : Option Value) (h : Heap) (L : List Loc) : Prop := v = some (.int (own_gc cG)) ∧ Fr n0 L ∧ h = h0
set_option maxRecDepth 65536 in
set_option maxHeartbeats 40000000 in
theorem rmGC32 (l : Launch) (Z : State) (a0 : Array Value) (hw : ∀ d ∈ tables_1, d.before a0 Z = true) (ws : List Jvm.Cond) (bG : Addr) (kg : ClassId) (cG : Int32) (yA : Int32) (yB : Int32) (yC : Int32) (yD : Int32) (yE : Int32) (yF : Int32) (h0 : Heap) (n0 : Nat) (Z0 : n0 ≤ h0.size) (O0 : Old Z n0 h0) (SA : Sta Z Z.heap sAB sAH "Z" (.int (1 : Int32))) (SH : Sta Z Z.heap sAB "HI_BYTE_SHIFT" "I" (.int (0 : Int32))) (SL : Sta Z Z.heap sAB "LO_BYTE_SHIFT" "I" (.int (8 : Int32))) (Vg : Arv Z h0 bG kg .byte (6 : Int32) [(.int yA), (.int yB), (.int yC), (.int yD), (.int (cG >>> ((0 : Int32) &&& 31)).toInt8.toInt32.toInt8.toInt32), (.int (cG >>> ((8 : Int32) &&& 31)).toInt8.toInt32.toInt8.toInt32)] (.int (0 : Int32))) :
    MetFree l (⟨sAB, "getChar", "([BI)C"⟩ : MethodName) (head1 (Jvm.Cond.code (⟨sAB, "getChar", "([BI)C"⟩ : MethodName) jdk_52_method_5_code 2 (some .char) :: ws) (oR 0 0 0 0)) (fun a U => a = #[(.ref bG), (.int 2)] ∧ Z.Warmed39 U.vm ∧ U.heap = h0) (fun _ _ _ _ _ => True) (fun _ U o U' => ∃ v L, o = .returned v ∧ QGC32 Z bG kg cG yA yB yC yD yE yF h0 n0 v U'.heap L ∧ FrameEnd U o U' L (oR 0 0 0 0).cells (oR 0 0 0 0).slots) := by
  refine MetFree.of_bodySF (plainFor_of_name own_pn0) hisR ?_
  intro p e s m args below meth c s₁ Bd hml0 hP hK
  obtain ⟨rfl, hZ, hh⟩ := hP
  have hx := Bd.exec
  have hby := Bd.bytes
  have hlk : meth.locks = false := Bd.notSynchronized
  have hml : c.maxLocals = 2 := hml0
  have hown : s.vm.findClass sAB = some m.cls := findClass_of_methodNamed Bd.named
  have hnm := (name_of_methodNamed Bd.named Bd.method).1
  have X0 : Stand p l e (oR 0 0 0 0) s m #[(.ref bG), (.int 2)] below meth c s₁ [] 0 0 := Stand.of_body Bd
  have e0 : s₁.heap = h0 := by rw [← hh, Bd.state]; rfl
  have N0 := Fr.nil n0
  refine own_body (A := s₁.setTop (mkF m 0 #[rv bG, iv 2] [])) (Q := QGC32 Z bG kg cG yA yB yC yD yE yF h0 n0) (fun t k => castTop (own_efGC32 m bG (2 : Int32)) k) ?_
  obtain ⟨T1, X1, e1, st1⟩ := getS2 X0 hx hZ hown (host := "") (Or.inl (oW hw 154 rfl)) Via.refl e0 (SA.ext O0.2) (g := (mkF m 0 #[rv bG, iv 2] [])) rfl (hb hby own_d25_0)
  refine ov (B := T1.setTop (mkF m 3 #[rv bG, iv 2] [(.int 1)])) (fun t k => st1 t k) ?_
  have hc3 : ¬ ((1 : Int32) = (0 : Int32)) := by decide
  refine ov (B := T1.setTop (mkF m 28 #[rv bG, iv 2] [])) (fun t k => XS.ifYes X1.here hx rfl (pc0 := 3) (pc' := 28) rfl (hb hby own_d25_3) rfl ((if0 _ _).trans (feq hc3).2) (by decide) (by decide) k) ?_
  refine oILN (n := 29) X1 hx (hb hby own_d25_28) rfl rfl ?_
  refine oIC (n := 30) X1 hx (1 : Int32) (hb hby own_d25_29) (by decide) rfl ?_
  refine ov (B := T1.setTop (mkF m 31 #[rv bG, iv 2] [(.int 4)])) (fun t k => XS.ishl X1.here hx rfl (hb hby own_d25_30) rfl (by rw [(by decide : ((2 : Int32) <<< ((1 : Int32) &&& 31)) = (4 : Int32))]; exact k)) ?_
  refine ov (B := T1.setTop (mkF m 32 #[rv bG, iv 4] [])) (fun t k => XS.istoreN X1.here hx rfl (hb hby own_d25_31) rfl (l' := #[rv bG, iv 4]) rfl k) ?_
  refine oALN (n := 33) X1 hx (hb hby own_d25_32) rfl rfl rfl ?_
  refine oILN (n := 34) X1 hx (hb hby own_d25_33) rfl rfl ?_
  refine ov (B := T1.setTop (mkF m 37 #[rv bG, iv 5] [(.int 4), (.ref bG)])) (fun t k => XS.iinc X1.here hx rfl (hb hby own_d25_34) rfl (l' := #[rv bG, iv 5]) rfl k) ?_
  obtain ⟨cl2, Ar2, q2, S2, M2, H2, G2⟩ := id Vg
  have hin2 : ¬ ((4 : Int32) < 0 ∨ cl2.slots.size ≤ ((4 : Int32)).toNatClampNeg) := inb_of S2 ⟨by decide, by decide⟩
  refine ov (B := T1.setTop (mkF m 38 #[rv bG, iv 5] [(.int (cG >>> ((0 : Int32) &&& 31)).toInt8.toInt32.toInt8.toInt32)])) (fun t k => X1.baloadBytes hx (j := (4 : Int32)) (v := (.int (cG >>> ((0 : Int32) &&& 31)).toInt8.toInt32.toInt8.toInt32)) (by rw [e1]; exact Ar2.1) (State.isArrayOf_alike hZ.alike Ar2.2.1) Ar2.2.2 hin2 (Has.at H2 hin2 rfl) (g := (mkF m 37 #[rv bG, iv 5] [(.int 4), (.ref bG)])) rfl rfl (hb hby own_d25_37) _ k) ?_
  refine oSP (n := 41) X1 hx (255 : Int32) (hb hby own_d25_38) (by decide) rfl ?_
  refine ov (B := T1.setTop (mkF m 42 #[rv bG, iv 5] [(.int ((cG >>> ((0 : Int32) &&& 31)).toInt8.toInt32.toInt8.toInt32 &&& (255 : Int32)))])) (fun t k => XS.iand X1.here hx rfl (hb hby own_d25_41) rfl k) ?_
  obtain ⟨T3, X3, e3, st3⟩ := getS2 X1 hx hZ hown (host := "") (Or.inl (oW hw 155 rfl)) Via.refl e1 (SH.ext O0.2) (g := (mkF m 42 #[rv bG, iv 5] [(.int ((cG >>> ((0 : Int32) &&& 31)).toInt8.toInt32.toInt8.toInt32 &&& (255 : Int32)))])) rfl (hb hby own_d25_42)
  refine ov (B := T3.setTop (mkF m 45 #[rv bG, iv 5] [(.int 0), (.int ((cG >>> ((0 : Int32) &&& 31)).toInt8.toInt32.toInt8.toInt32 &&& (255 : Int32)))])) (fun t k => st3 t k) ?_
  refine ov (B := T3.setTop (mkF m 46 #[rv bG, iv 5] [(.int (((cG >>> ((0 : Int32) &&& 31)).toInt8.toInt32.toInt8.toInt32 &&& (255 : Int32)) <<< ((0 : Int32) &&& 31)))])) (fun t k => XS.ishl X3.here hx rfl (hb hby own_d25_45) rfl k) ?_
  refine oALN (n := 47) X3 hx (hb hby own_d25_46) rfl rfl rfl ?_
  refine oILN (n := 48) X3 hx (hb hby own_d25_47) rfl rfl ?_
  obtain ⟨cl4, Ar4, q4, S4, M4, H4, G4⟩ := id Vg
  have hin4 : ¬ ((5 : Int32) < 0 ∨ cl4.slots.size ≤ ((5 : Int32)).toNatClampNeg) := inb_of S4 ⟨by decide, by decide⟩
  refine ov (B := T3.setTop (mkF m 49 #[rv bG, iv 5] [(.int (cG >>> ((8 : Int32) &&& 31)).toInt8.toInt32.toInt8.toInt32), (.int (((cG >>> ((0 : Int32) &&& 31)).toInt8.toInt32.toInt8.toInt32 &&& (255 : Int32)) <<< ((0 : Int32) &&& 31)))])) (fun t k => X3.baloadBytes hx (j := (5 : Int32)) (v := (.int (cG >>> ((8 : Int32) &&& 31)).toInt8.toInt32.toInt8.toInt32)) (by rw [e3]; exact Ar4.1) (State.isArrayOf_alike hZ.alike Ar4.2.1) Ar4.2.2 hin4 (Has.at H4 hin4 rfl) (g := (mkF m 48 #[rv bG, iv 5] [(.int 5), (.ref bG), (.int (((cG >>> ((0 : Int32) &&& 31)).toInt8.toInt32.toInt8.toInt32 &&& (255 : Int32)) <<< ((0 : Int32) &&& 31)))])) rfl rfl (hb hby own_d25_48) _ k) ?_
  refine oSP (n := 52) X3 hx (255 : Int32) (hb hby own_d25_49) (by decide) rfl ?_
  refine ov (B := T3.setTop (mkF m 53 #[rv bG, iv 5] [(.int ((cG >>> ((8 : Int32) &&& 31)).toInt8.toInt32.toInt8.toInt32 &&& (255 : Int32))), (.int (((cG >>> ((0 : Int32) &&& 31)).toInt8.toInt32.toInt8.toInt32 &&& (255 : Int32)) <<< ((0 : Int32) &&& 31)))])) (fun t k => XS.iand X3.here hx rfl (hb hby own_d25_52) rfl k) ?_
  obtain ⟨T5, X5, e5, st5⟩ := getS2 X3 hx hZ hown (host := "") (Or.inl (oW hw 156 rfl)) Via.refl e3 (SL.ext O0.2) (g := (mkF m 53 #[rv bG, iv 5] [(.int ((cG >>> ((8 : Int32) &&& 31)).toInt8.toInt32.toInt8.toInt32 &&& (255 : Int32))), (.int (((cG >>> ((0 : Int32) &&& 31)).toInt8.toInt32.toInt8.toInt32 &&& (255 : Int32)) <<< ((0 : Int32) &&& 31)))])) rfl (hb hby own_d25_53)
  refine ov (B := T5.setTop (mkF m 56 #[rv bG, iv 5] [(.int 8), (.int ((cG >>> ((8 : Int32) &&& 31)).toInt8.toInt32.toInt8.toInt32 &&& (255 : Int32))), (.int (((cG >>> ((0 : Int32) &&& 31)).toInt8.toInt32.toInt8.toInt32 &&& (255 : Int32)) <<< ((0 : Int32) &&& 31)))])) (fun t k => st5 t k) ?_
  refine ov (B := T5.setTop (mkF m 57 #[rv bG, iv 5] [(.int (((cG >>> ((8 : Int32) &&& 31)).toInt8.toInt32.toInt8.toInt32 &&& (255 : Int32)) <<< ((8 : Int32) &&& 31))), (.int (((cG >>> ((0 : Int32) &&& 31)).toInt8.toInt32.toInt8.toInt32 &&& (255 : Int32)) <<< ((0 : Int32) &&& 31)))])) (fun t k => XS.ishl X5.here hx rfl (hb hby own_d25_56) rfl k) ?_
  refine ov (B := T5.setTop (mkF m 58 #[rv bG, iv 5] [(.int ((((cG >>> ((0 : Int32) &&& 31)).toInt8.toInt32.toInt8.toInt32 &&& (255 : Int32)) <<< ((0 : Int32) &&& 31)) ||| (((cG >>> ((8 : Int32) &&& 31)).toInt8.toInt32.toInt8.toInt32 &&& (255 : Int32)) <<< ((8 : Int32) &&& 31))))])) (fun t k => XS.ior X5.here hx rfl (hb hby own_d25_57) rfl k) ?_
  refine ov (B := T5.setTop (mkF m 59 #[rv bG, iv 5] [(.int (((((cG >>> ((0 : Int32) &&& 31)).toInt8.toInt32.toInt8.toInt32 &&& (255 : Int32)) <<< ((0 : Int32) &&& 31)) ||| (((cG >>> ((8 : Int32) &&& 31)).toInt8.toInt32.toInt8.toInt32 &&& (255 : Int32)) <<< ((8 : Int32) &&& 31))).toUInt32.toUInt16.toUInt32.toInt32))])) (fun t k => XS.i2c X5.here hx rfl (hb hby own_d25_58) rfl k) ?_
  refine own_leaf X5 hx hlk (t := .char) Bd.returns (own_nn16 _) (Or.inl ⟨rfl, by simp, _, rfl⟩) (hb hby own_d25_59) (by decide) (by decide) ?_
  show QGC32 Z bG kg cG yA yB yC yD yE yF h0 n0 _ T5.heap _
  rw [e5]
  refine ⟨?_, N0, rfl⟩
  rfl
theorem own_efTB3 (m : MethodId) (x0 : Addr) (x1 : Int32) (x2 : Int32) : entryFrame m #[(.ref x0), (.int x1), (.int x2)] 5 = mkF m 0 #[rv x0, iv x1, iv x2, uu, uu] [] := by first | (simp [entryFrame, mkF, argsToLocals, Value.category]; done) | rfl
def QTB3 (Z : State) (aC : Addr) (kc : ClassId) (xA : Int32) (xB : Int32) (xC : Int32) (h0 : Heap) (n0 : Nat) (v : Option Value) (h : Heap) (L : List Loc) : Prop := ∃ (r : Addr) (kr : ClassId), v = some (.ref r) ∧ Fr n0 L ∧ Keep h0 h [] ∧ (h0.size ≤ r) ∧ (Arv Z h r kr .byte (6 : Int32) [(.int (xA >>> ((0 : Int32) &&& 31)).toInt8.toInt32.toInt8.toInt32), (.int (xA >>> ((8 : Int32) &&& 31)).toInt8.toInt32.toInt8.toInt32), (.int (xB >>> ((0 : Int32) &&& 31)).toInt8.toInt32.toInt8.toInt32), (.int (xB >>> ((8 : Int32) &&& 31)).toInt8.toInt32.toInt8.toInt32), (.int (xC >>> ((0 : Int32) &&& 31)).toInt8.toInt32.toInt8.toInt32), (.int (xC >>> ((8 : Int32) &&& 31)).toInt8.toInt32.toInt8.toInt32)] (.int (0 : Int32)))
set_option maxRecDepth 65536 in
set_option maxHeartbeats 40000000 in
theorem rmTB3 (l : Launch) (Z : State) (a0 : Array Value) (hw : ∀ d ∈ tables_1, d.before a0 Z = true) (ws : List Jvm.Cond) (aC : Addr) (kc : ClassId) (xA : Int32) (xB : Int32) (xC : Int32) (h0 : Heap) (n0 : Nat) (Z0 : n0 ≤ h0.size) (O0 : Old Z n0 h0) (SA : Sta Z Z.heap sAB sAH "Z" (.int (1 : Int32))) (SH : Sta Z Z.heap sAB "HI_BYTE_SHIFT" "I" (.int (0 : Int32))) (SL : Sta Z Z.heap sAB "LO_BYTE_SHIFT" "I" (.int (8 : Int32))) (Vc : Arv Z h0 aC kc .char (3 : Int32) [(.int xA), (.int xB), (.int xC)] (.int (0 : Int32))) :
    MetFree l (⟨sAB, "toBytes", "([CII)[B"⟩ : MethodName) (head1 (Jvm.Cond.code (⟨sAB, "toBytes", "([CII)[B"⟩ : MethodName) jdk_52_method_14_code 5 (some (.array .byte)) :: ws) (oR 2 1 6 32)) (fun a U => a = #[(.ref aC), (.int 0), (.int 3)] ∧ Z.Warmed39 U.vm ∧ U.heap = h0) (fun _ _ _ _ _ => True) (fun _ U o U' => ∃ v L, o = .returned v ∧ QTB3 Z aC kc xA xB xC h0 n0 v U'.heap L ∧ FrameEnd U o U' L (oR 2 1 6 32).cells (oR 2 1 6 32).slots) := by
  refine MetFree.of_bodySF (plainFor_of_name own_pn0) hisR ?_
  intro p e s m args below meth c s₁ Bd hml0 hP hK
  obtain ⟨rfl, hZ, hh⟩ := hP
  have hx := Bd.exec
  have hby := Bd.bytes
  have hlk : meth.locks = false := Bd.notSynchronized
  have hml : c.maxLocals = 5 := hml0
  have hown : s.vm.findClass sAB = some m.cls := findClass_of_methodNamed Bd.named
  have hnm := (name_of_methodNamed Bd.named Bd.method).1
  have X0 : Stand p l e (oR 2 1 6 32) s m #[(.ref aC), (.int 0), (.int 3)] below meth c s₁ [] 0 0 := Stand.of_body Bd
  have e0 : s₁.heap = h0 := by rw [← hh, Bd.state]; rfl
  have N0 := Fr.nil n0
  refine own_body (A := s₁.setTop (mkF m 0 #[rv aC, iv 0, iv 3, uu, uu] [])) (Q := QTB3 Z aC kc xA xB xC h0 n0) (fun t k => castTop (own_efTB3 m aC (0 : Int32) (3 : Int32)) k) ?_
  refine oILN (n := 1) X0 hx (hb hby own_d21_0) rfl rfl ?_
  obtain ⟨_, _, ⟨T1, L1, k1, n1⟩, -, X1, ⟨Lc1, hQ1, l1, y1, z1⟩, st1⟩ := Jvm.LawKit.callS X0 hx (y := (⟨sAB, "newBytesFor", "(I)[B"⟩ : MethodName)) hown (mvT hZ (oW hw 144 rfl)) (mvT hZ (oW hw 145 rfl)) (mvT hZ (oW hw 133 rfl)) (mvT hZ (oW hw 146 rfl)) (by decide) (backOf (W := 0) (rmNF3 l Z a0 hw []  h0 n0 Z0 ) hZ (oW hw 146 rfl) (oW hw 133 rfl) (by decide) (by decide)) (g := (mkF m 1 #[rv aC, iv 0, iv 3, uu, uu] [(.int 3)])) rfl (by rw [hml]; rfl) (argsL := [(.int 3)]) (rest := []) (lenOf own_pd1 rfl) rfl (by show 2 * 0 + _ ≤ _; exact Nat.le_of_eq rfl) (hb hby own_d21_1) (fun _ _ => ⟨rfl, e0, (by decide : 0 + 1 ≤ _), (by decide : 0 + 6 ≤ _)⟩)
  dsimp only [Pt.U, Pt.locs, Pt.cells, Pt.slots] at X1 l1 y1 z1 st1 hQ1
  subst l1 y1 z1
  obtain ⟨r_1, kr_1, rfl, Nq1, Kq1, hr_1, f1_0⟩ := hQ1
  have N1 := Fr.app N0 Nq1
  have g_r_1 : n0 ≤ r_1 := Nat.le_trans Z0 hr_1
  refine ov (B := T1.setTop (mkF m 4 #[rv aC, iv 0, iv 3, uu, uu] [(.ref r_1)])) (fun t k => st1 t k) ?_
  refine ov (B := T1.setTop (mkF m 5 #[rv aC, iv 0, iv 3, rv r_1, uu] [])) (fun t k => XS.astoreN X1.here hx rfl (hb hby own_d21_4) rfl rfl (l' := #[rv aC, iv 0, iv 3, rv r_1, uu]) rfl k) ?_
  refine oIC (n := 6) X1 hx (0 : Int32) (hb hby own_d21_5) (by decide) rfl ?_
  refine ov (B := T1.setTop (mkF m 8 #[rv aC, iv 0, iv 3, rv r_1, iv 0] [])) (fun t k => XS.istore X1.here hx rfl (hb hby own_d21_6) rfl (l' := #[rv aC, iv 0, iv 3, rv r_1, iv 0]) rfl k) ?_
  refine oIL (n := 10) X1 hx (hb hby own_d21_8) rfl rfl ?_
  refine oILN (n := 11) X1 hx (hb hby own_d21_10) rfl rfl ?_
  have hc11 : (0 : Int32) < (3 : Int32) := by decide
  refine ov (B := T1.setTop (mkF m 14 #[rv aC, iv 0, iv 3, rv r_1, iv 0] [])) (fun t k => XS.icmpNo X1.here hx rfl (hb hby own_d21_11) rfl (tlt hc11).2.1 k) ?_
  refine oALN (n := 15) X1 hx (hb hby own_d21_14) rfl rfl rfl ?_
  refine oIL (n := 17) X1 hx (hb hby own_d21_15) rfl rfl ?_
  refine oALN (n := 18) X1 hx (hb hby own_d21_17) rfl rfl rfl ?_
  refine oILN (n := 19) X1 hx (hb hby own_d21_18) rfl rfl ?_
  obtain ⟨cl2, Ar2, q2, S2, M2, H2, G2⟩ := id (Vc.keep Kq1 nin0)
  have hin2 : ¬ ((0 : Int32) < 0 ∨ cl2.slots.size ≤ ((0 : Int32)).toNatClampNeg) := inb_of S2 ⟨by decide, by decide⟩
  refine ov (B := T1.setTop (mkF m 20 #[rv aC, iv 0, iv 3, rv r_1, iv 0] [(.int xA), (.int 0), (.ref r_1)])) (fun t k => X1.caload hx (j := (0 : Int32)) (v := (.int xA)) (Ar2.1) (State.isArrayOf_alike hZ.alike Ar2.2.1) Ar2.2.2 hin2 (Has.at H2 hin2 rfl) (g := (mkF m 19 #[rv aC, iv 0, iv 3, rv r_1, iv 0] [(.int 0), (.ref aC), (.int 0), (.ref r_1)])) rfl rfl (hb hby own_d21_19) _ k) ?_
  obtain ⟨_, _, ⟨T3, L3, k3, n3⟩, -, X3, ⟨Lc3, hQ3, l3, y3, z3⟩, st3⟩ := Jvm.LawKit.callS X1 hx (y := (⟨sAB, "putChar", "([BII)V"⟩ : MethodName)) hown (mvT hZ (oW hw 151 rfl)) (mvT hZ (oW hw 152 rfl)) (mvT hZ (oW hw 133 rfl)) (mvT hZ (oW hw 153 rfl)) (by decide) (backOf (W := 0) (rmPC30 l Z a0 hw [] r_1 xA kr_1 (0 : Int32) (0 : Int32) (0 : Int32) (0 : Int32) (0 : Int32) (0 : Int32) T1.heap n0 (Nat.le_trans Z0 Kq1.1) (O0.keep Kq1 all0) (by assumption) (by assumption) (by assumption) f1_0 g_r_1) hZ (oW hw 153 rfl) (oW hw 133 rfl) (by decide) (by decide)) (g := (mkF m 20 #[rv aC, iv 0, iv 3, rv r_1, iv 0] [(.int xA), (.int 0), (.ref r_1)])) rfl (by rw [hml]; rfl) (argsL := [(.ref r_1), (.int 0), (.int xA)]) (rest := []) (lenOf own_pd2 rfl) rfl (by show 2 * 0 + _ ≤ _; exact Nat.le_of_eq rfl) (hb hby own_d21_20) (fun _ _ => ⟨rfl, rfl, (by decide : (0 + 1) + 0 ≤ _), (by decide : (0 + 6) + 0 ≤ _)⟩)
  dsimp only [Pt.U, Pt.locs, Pt.cells, Pt.slots] at X3 l3 y3 z3 st3 hQ3
  subst l3 y3 z3
  obtain ⟨rfl, Nq3, Kq3, f3_0⟩ := hQ3
  have N3 := Fr.app N1 Nq3
  refine ov (B := T3.setTop (mkF m 23 #[rv aC, iv 0, iv 3, rv r_1, iv 0] [])) (fun t k => st3 t k) ?_
  refine ov (B := T3.setTop (mkF m 26 #[rv aC, iv 1, iv 3, rv r_1, iv 0] [])) (fun t k => XS.iinc X3.here hx rfl (hb hby own_d21_23) rfl (l' := #[rv aC, iv 1, iv 3, rv r_1, iv 0]) rfl k) ?_
  refine ov (B := T3.setTop (mkF m 29 #[rv aC, iv 1, iv 3, rv r_1, iv 1] [])) (fun t k => XS.iinc X3.here hx rfl (hb hby own_d21_26) rfl (l' := #[rv aC, iv 1, iv 3, rv r_1, iv 1]) rfl k) ?_
  refine oGO (n := 8) X3 hx (hb hby own_d21_29) (by decide) (by decide) ?_
  refine oIL (n := 10) X3 hx (hb hby own_d21_8) rfl rfl ?_
  refine oILN (n := 11) X3 hx (hb hby own_d21_10) rfl rfl ?_
  have hc11 : (1 : Int32) < (3 : Int32) := by decide
  refine ov (B := T3.setTop (mkF m 14 #[rv aC, iv 1, iv 3, rv r_1, iv 1] [])) (fun t k => XS.icmpNo X3.here hx rfl (hb hby own_d21_11) rfl (tlt hc11).2.1 k) ?_
  refine oALN (n := 15) X3 hx (hb hby own_d21_14) rfl rfl rfl ?_
  refine oIL (n := 17) X3 hx (hb hby own_d21_15) rfl rfl ?_
  refine oALN (n := 18) X3 hx (hb hby own_d21_17) rfl rfl rfl ?_
  refine oILN (n := 19) X3 hx (hb hby own_d21_18) rfl rfl ?_
  obtain ⟨cl4, Ar4, q4, S4, M4, H4, G4⟩ := id ((Vc.keep Kq1 nin0).keep Kq3 (ninS (Nat.ne_of_lt (Nat.lt_of_lt_of_le Vc.lt hr_1)) nin0))
  have hin4 : ¬ ((1 : Int32) < 0 ∨ cl4.slots.size ≤ ((1 : Int32)).toNatClampNeg) := inb_of S4 ⟨by decide, by decide⟩
  refine ov (B := T3.setTop (mkF m 20 #[rv aC, iv 1, iv 3, rv r_1, iv 1] [(.int xB), (.int 1), (.ref r_1)])) (fun t k => X3.caload hx (j := (1 : Int32)) (v := (.int xB)) (Ar4.1) (State.isArrayOf_alike hZ.alike Ar4.2.1) Ar4.2.2 hin4 (Has.at H4 hin4 rfl) (g := (mkF m 19 #[rv aC, iv 1, iv 3, rv r_1, iv 1] [(.int 1), (.ref aC), (.int 1), (.ref r_1)])) rfl rfl (hb hby own_d21_19) _ k) ?_
  obtain ⟨_, _, ⟨T5, L5, k5, n5⟩, -, X5, ⟨Lc5, hQ5, l5, y5, z5⟩, st5⟩ := Jvm.LawKit.callS X3 hx (y := (⟨sAB, "putChar", "([BII)V"⟩ : MethodName)) hown (mvT hZ (oW hw 151 rfl)) (mvT hZ (oW hw 152 rfl)) (mvT hZ (oW hw 133 rfl)) (mvT hZ (oW hw 153 rfl)) (by decide) (backOf (W := 0) (rmPC31 l Z a0 hw [] r_1 xB kr_1 (xA >>> ((0 : Int32) &&& 31)).toInt8.toInt32.toInt8.toInt32 (xA >>> ((8 : Int32) &&& 31)).toInt8.toInt32.toInt8.toInt32 (0 : Int32) (0 : Int32) (0 : Int32) (0 : Int32) T3.heap n0 (Nat.le_trans (Nat.le_trans Z0 Kq1.1) Kq3.1) ((O0.keep Kq1 all0).keep Kq3 (allS g_r_1 all0)) (by assumption) (by assumption) (by assumption) f3_0 g_r_1) hZ (oW hw 153 rfl) (oW hw 133 rfl) (by decide) (by decide)) (g := (mkF m 20 #[rv aC, iv 1, iv 3, rv r_1, iv 1] [(.int xB), (.int 1), (.ref r_1)])) rfl (by rw [hml]; rfl) (argsL := [(.ref r_1), (.int 1), (.int xB)]) (rest := []) (lenOf own_pd2 rfl) rfl (by show 2 * 0 + _ ≤ _; exact Nat.le_of_eq rfl) (hb hby own_d21_20) (fun _ _ => ⟨rfl, rfl, (by decide : ((0 + 1) + 0) + 0 ≤ _), (by decide : ((0 + 6) + 0) + 0 ≤ _)⟩)
  dsimp only [Pt.U, Pt.locs, Pt.cells, Pt.slots] at X5 l5 y5 z5 st5 hQ5
  subst l5 y5 z5
  obtain ⟨rfl, Nq5, Kq5, f5_0⟩ := hQ5
  have N5 := Fr.app N3 Nq5
  refine ov (B := T5.setTop (mkF m 23 #[rv aC, iv 1, iv 3, rv r_1, iv 1] [])) (fun t k => st5 t k) ?_
  refine ov (B := T5.setTop (mkF m 26 #[rv aC, iv 2, iv 3, rv r_1, iv 1] [])) (fun t k => XS.iinc X5.here hx rfl (hb hby own_d21_23) rfl (l' := #[rv aC, iv 2, iv 3, rv r_1, iv 1]) rfl k) ?_
  refine ov (B := T5.setTop (mkF m 29 #[rv aC, iv 2, iv 3, rv r_1, iv 2] [])) (fun t k => XS.iinc X5.here hx rfl (hb hby own_d21_26) rfl (l' := #[rv aC, iv 2, iv 3, rv r_1, iv 2]) rfl k) ?_
  refine oGO (n := 8) X5 hx (hb hby own_d21_29) (by decide) (by decide) ?_
  refine oIL (n := 10) X5 hx (hb hby own_d21_8) rfl rfl ?_
  refine oILN (n := 11) X5 hx (hb hby own_d21_10) rfl rfl ?_
  have hc11 : (2 : Int32) < (3 : Int32) := by decide
  refine ov (B := T5.setTop (mkF m 14 #[rv aC, iv 2, iv 3, rv r_1, iv 2] [])) (fun t k => XS.icmpNo X5.here hx rfl (hb hby own_d21_11) rfl (tlt hc11).2.1 k) ?_
  refine oALN (n := 15) X5 hx (hb hby own_d21_14) rfl rfl rfl ?_
  refine oIL (n := 17) X5 hx (hb hby own_d21_15) rfl rfl ?_
  refine oALN (n := 18) X5 hx (hb hby own_d21_17) rfl rfl rfl ?_
  refine oILN (n := 19) X5 hx (hb hby own_d21_18) rfl rfl ?_
  obtain ⟨cl6, Ar6, q6, S6, M6, H6, G6⟩ := id (((Vc.keep Kq1 nin0).keep Kq3 (ninS (Nat.ne_of_lt (Nat.lt_of_lt_of_le Vc.lt hr_1)) nin0)).keep Kq5 (ninS (Nat.ne_of_lt (Nat.lt_of_lt_of_le Vc.lt hr_1)) nin0))
  have hin6 : ¬ ((2 : Int32) < 0 ∨ cl6.slots.size ≤ ((2 : Int32)).toNatClampNeg) := inb_of S6 ⟨by decide, by decide⟩
  refine ov (B := T5.setTop (mkF m 20 #[rv aC, iv 2, iv 3, rv r_1, iv 2] [(.int xC), (.int 2), (.ref r_1)])) (fun t k => X5.caload hx (j := (2 : Int32)) (v := (.int xC)) (Ar6.1) (State.isArrayOf_alike hZ.alike Ar6.2.1) Ar6.2.2 hin6 (Has.at H6 hin6 rfl) (g := (mkF m 19 #[rv aC, iv 2, iv 3, rv r_1, iv 2] [(.int 2), (.ref aC), (.int 2), (.ref r_1)])) rfl rfl (hb hby own_d21_19) _ k) ?_
  obtain ⟨_, _, ⟨T7, L7, k7, n7⟩, -, X7, ⟨Lc7, hQ7, l7, y7, z7⟩, st7⟩ := Jvm.LawKit.callS X5 hx (y := (⟨sAB, "putChar", "([BII)V"⟩ : MethodName)) hown (mvT hZ (oW hw 151 rfl)) (mvT hZ (oW hw 152 rfl)) (mvT hZ (oW hw 133 rfl)) (mvT hZ (oW hw 153 rfl)) (by decide) (backOf (W := 0) (rmPC32 l Z a0 hw [] r_1 xC kr_1 (xA >>> ((0 : Int32) &&& 31)).toInt8.toInt32.toInt8.toInt32 (xA >>> ((8 : Int32) &&& 31)).toInt8.toInt32.toInt8.toInt32 (xB >>> ((0 : Int32) &&& 31)).toInt8.toInt32.toInt8.toInt32 (xB >>> ((8 : Int32) &&& 31)).toInt8.toInt32.toInt8.toInt32 (0 : Int32) (0 : Int32) T5.heap n0 (Nat.le_trans (Nat.le_trans (Nat.le_trans Z0 Kq1.1) Kq3.1) Kq5.1) (((O0.keep Kq1 all0).keep Kq3 (allS g_r_1 all0)).keep Kq5 (allS g_r_1 all0)) (by assumption) (by assumption) (by assumption) f5_0 g_r_1) hZ (oW hw 153 rfl) (oW hw 133 rfl) (by decide) (by decide)) (g := (mkF m 20 #[rv aC, iv 2, iv 3, rv r_1, iv 2] [(.int xC), (.int 2), (.ref r_1)])) rfl (by rw [hml]; rfl) (argsL := [(.ref r_1), (.int 2), (.int xC)]) (rest := []) (lenOf own_pd2 rfl) rfl (by show 2 * 0 + _ ≤ _; exact Nat.le_of_eq rfl) (hb hby own_d21_20) (fun _ _ => ⟨rfl, rfl, (by decide : (((0 + 1) + 0) + 0) + 0 ≤ _), (by decide : (((0 + 6) + 0) + 0) + 0 ≤ _)⟩)
  dsimp only [Pt.U, Pt.locs, Pt.cells, Pt.slots] at X7 l7 y7 z7 st7 hQ7
  subst l7 y7 z7
  obtain ⟨rfl, Nq7, Kq7, f7_0⟩ := hQ7
  have N7 := Fr.app N5 Nq7
  refine ov (B := T7.setTop (mkF m 23 #[rv aC, iv 2, iv 3, rv r_1, iv 2] [])) (fun t k => st7 t k) ?_
  refine ov (B := T7.setTop (mkF m 26 #[rv aC, iv 3, iv 3, rv r_1, iv 2] [])) (fun t k => XS.iinc X7.here hx rfl (hb hby own_d21_23) rfl (l' := #[rv aC, iv 3, iv 3, rv r_1, iv 2]) rfl k) ?_
  refine ov (B := T7.setTop (mkF m 29 #[rv aC, iv 3, iv 3, rv r_1, iv 3] [])) (fun t k => XS.iinc X7.here hx rfl (hb hby own_d21_26) rfl (l' := #[rv aC, iv 3, iv 3, rv r_1, iv 3]) rfl k) ?_
  refine oGO (n := 8) X7 hx (hb hby own_d21_29) (by decide) (by decide) ?_
  refine oIL (n := 10) X7 hx (hb hby own_d21_8) rfl rfl ?_
  refine oILN (n := 11) X7 hx (hb hby own_d21_10) rfl rfl ?_
  have hc11 : ¬ ((3 : Int32) < (3 : Int32)) := by decide
  refine ov (B := T7.setTop (mkF m 32 #[rv aC, iv 3, iv 3, rv r_1, iv 3] [])) (fun t k => XS.icmpYes X7.here hx rfl (pc0 := 11) (pc' := 32) rfl (hb hby own_d21_11) rfl (flt hc11).2.1 (by decide) (by decide) k) ?_
  refine oALN (n := 33) X7 hx (hb hby own_d21_32) rfl rfl rfl ?_
  refine own_leaf X7 hx hlk (t := (.array .byte)) Bd.returns rfl (Or.inr (Or.inr (Or.inr (Or.inr ⟨rfl, rfl, rfl⟩)))) (hb hby own_d21_33) (by decide) (by decide) ?_
  show QTB3 Z aC kc xA xB xC h0 n0 _ T7.heap _
  refine ⟨r_1, kr_1, ?_, N7, (((((Keep.refl h0 []).trans Kq1 all0).trans Kq3 (allS (Or.inr hr_1) all0)).trans Kq5 (allS (Or.inr hr_1) all0)).trans Kq7 (allS (Or.inr hr_1) all0)), ?_, f7_0⟩
  · rfl
  · exact hr_1
theorem own_efCF33 (m : MethodId) (x0 : Addr) (x1 : Int32) : entryFrame m #[(.ref x0), (.int x1)] 2 = mkF m 0 #[rv x0, iv x1] [] := by first | (simp [entryFrame, mkF, argsToLocals, Value.category]; done) | rfl
def QCF33 (Z : State) (bF : Addr) (kf : ClassId) (yA : Int32) (yB : Int32) (yC : Int32) (h0 : Heap) (n0 : Nat) (v : Option Value) (h : Heap) (L : List Loc) : Prop := v = some (.int (0 : Int32)) ∧ Fr n0 L ∧ h = h0
set_option maxRecDepth 65536 in
set_option maxHeartbeats 40000000 in
theorem rmCF33 (l : Launch) (Z : State) (a0 : Array Value) (hw : ∀ d ∈ tables_1, d.before a0 Z = true) (ws : List Jvm.Cond) (bF : Addr) (kf : ClassId) (yA : Int32) (yB : Int32) (yC : Int32) (h0 : Heap) (n0 : Nat) (Z0 : n0 ≤ h0.size) (Vf : Arv Z h0 bF kf .byte (3 : Int32) [(.int yA), (.int yB), (.int yC)] (.int (0 : Int32))) :
    MetFree l (⟨sAB, sAN, "([BI)B"⟩ : MethodName) (head1 (Jvm.Cond.code (⟨sAB, sAN, "([BI)B"⟩ : MethodName) jdk_52_method_15_code 2 (some .byte) :: ws) (oR 0 0 0 0)) (fun a U => a = #[(.ref bF), (.int 3)] ∧ Z.Warmed39 U.vm ∧ U.heap = h0) (fun _ _ _ _ _ => True) (fun _ U o U' => ∃ v L, o = .returned v ∧ QCF33 Z bF kf yA yB yC h0 n0 v U'.heap L ∧ FrameEnd U o U' L (oR 0 0 0 0).cells (oR 0 0 0 0).slots) := by
  refine MetFree.of_bodySF (plainFor_of_name own_pn0) hisR ?_
  intro p e s m args below meth c s₁ Bd hml0 hP hK
  obtain ⟨rfl, hZ, hh⟩ := hP
  have hx := Bd.exec
  have hby := Bd.bytes
  have hlk : meth.locks = false := Bd.notSynchronized
  have hml : c.maxLocals = 2 := hml0
  have hown : s.vm.findClass sAB = some m.cls := findClass_of_methodNamed Bd.named
  have hnm := (name_of_methodNamed Bd.named Bd.method).1
  have X0 : Stand p l e (oR 0 0 0 0) s m #[(.ref bF), (.int 3)] below meth c s₁ [] 0 0 := Stand.of_body Bd
  have e0 : s₁.heap = h0 := by rw [← hh, Bd.state]; rfl
  have N0 := Fr.nil n0
  refine own_body (A := s₁.setTop (mkF m 0 #[rv bF, iv 3] [])) (Q := QCF33 Z bF kf yA yB yC h0 n0) (fun t k => castTop (own_efCF33 m bF (3 : Int32)) k) ?_
  refine oILN (n := 1) X0 hx (hb hby own_d20_0) rfl rfl ?_
  refine oALN (n := 2) X0 hx (hb hby own_d20_1) rfl rfl rfl ?_
  obtain ⟨cl1, Ar1, q1, S1, M1, H1, G1⟩ := id Vf
  refine ov (B := s₁.setTop (mkF m 3 #[rv bF, iv 3] [(.int 3), (.int 3)])) (fun t k => X0.arraylength hx (by rw [e0]; exact Ar1.1) (State.isArrayOf_alike hZ.alike Ar1.2.1) (g := (mkF m 2 #[rv bF, iv 3] [(.ref bF), (.int 3)])) rfl rfl (hb hby own_d20_2) _ (by rw [len_of S1 M1]; exact k)) ?_
  refine ov (B := s₁.setTop (mkF m 4 #[rv bF, iv 3] [(.int 0)])) (fun t k => XS.isub X0.here hx rfl (hb hby own_d20_3) rfl k) ?_
  refine oBP (n := 6) X0 hx (31 : Int32) (hb hby own_d20_4) (by decide) rfl ?_
  refine ov (B := s₁.setTop (mkF m 7 #[rv bF, iv 3] [(.int (((0 : Int32).toUInt32 >>> ((31 : Int32) &&& 31).toUInt32).toInt32))])) (fun t k => XS.iushr X0.here hx rfl (hb hby own_d20_6) rfl k) ?_
  refine ov (B := s₁.setTop (mkF m 8 #[rv bF, iv 3] [(.int ((((0 : Int32).toUInt32 >>> ((31 : Int32) &&& 31).toUInt32).toInt32).toInt8.toInt32))])) (fun t k => XS.i2b X0.here hx rfl (hb hby own_d20_7) rfl k) ?_
  refine own_leaf X0 hx hlk (t := .byte) Bd.returns (by decide) (Or.inl ⟨rfl, by simp, _, rfl⟩) (hb hby own_d20_8) (by decide) (by decide) ?_
  show QCF33 Z bF kf yA yB yC h0 n0 _ s₁.heap _
  rw [e0]
  refine ⟨?_, N0, rfl⟩
  exact congrArg (fun z => some (Value.int z)) (by decide)
theorem own_efCF36 (m : MethodId) (x0 : Addr) (x1 : Int32) : entryFrame m #[(.ref x0), (.int x1)] 2 = mkF m 0 #[rv x0, iv x1] [] := by first | (simp [entryFrame, mkF, argsToLocals, Value.category]; done) | rfl
def QCF36 (Z : State) (bF : Addr) (kf : ClassId) (yA : Int32) (yB : Int32) (yC : Int32) (yD : Int32) (yE : Int32) (yF : Int32) (h0 : Heap) (n0 : Nat) (v : Option Value) (h : Heap) (L : List Loc) : Prop := v = some (.int (1 : Int32)) ∧ Fr n0 L ∧ h = h0
set_option maxRecDepth 65536 in
set_option maxHeartbeats 40000000 in
theorem rmCF36 (l : Launch) (Z : State) (a0 : Array Value) (hw : ∀ d ∈ tables_1, d.before a0 Z = true) (ws : List Jvm.Cond) (bF : Addr) (kf : ClassId) (yA : Int32) (yB : Int32) (yC : Int32) (yD : Int32) (yE : Int32) (yF : Int32) (h0 : Heap) (n0 : Nat) (Z0 : n0 ≤ h0.size) (Vf : Arv Z h0 bF kf .byte (6 : Int32) [(.int yA), (.int yB), (.int yC), (.int yD), (.int yE), (.int yF)] (.int (0 : Int32))) :
    MetFree l (⟨sAB, sAN, "([BI)B"⟩ : MethodName) (head1 (Jvm.Cond.code (⟨sAB, sAN, "([BI)B"⟩ : MethodName) jdk_52_method_15_code 2 (some .byte) :: ws) (oR 0 0 0 0)) (fun a U => a = #[(.ref bF), (.int 3)] ∧ Z.Warmed39 U.vm ∧ U.heap = h0) (fun _ _ _ _ _ => True) (fun _ U o U' => ∃ v L, o = .returned v ∧ QCF36 Z bF kf yA yB yC yD yE yF h0 n0 v U'.heap L ∧ FrameEnd U o U' L (oR 0 0 0 0).cells (oR 0 0 0 0).slots) := by
  refine MetFree.of_bodySF (plainFor_of_name own_pn0) hisR ?_
  intro p e s m args below meth c s₁ Bd hml0 hP hK
  obtain ⟨rfl, hZ, hh⟩ := hP
  have hx := Bd.exec
  have hby := Bd.bytes
  have hlk : meth.locks = false := Bd.notSynchronized
  have hml : c.maxLocals = 2 := hml0
  have hown : s.vm.findClass sAB = some m.cls := findClass_of_methodNamed Bd.named
  have hnm := (name_of_methodNamed Bd.named Bd.method).1
  have X0 : Stand p l e (oR 0 0 0 0) s m #[(.ref bF), (.int 3)] below meth c s₁ [] 0 0 := Stand.of_body Bd
  have e0 : s₁.heap = h0 := by rw [← hh, Bd.state]; rfl
  have N0 := Fr.nil n0
  refine own_body (A := s₁.setTop (mkF m 0 #[rv bF, iv 3] [])) (Q := QCF36 Z bF kf yA yB yC yD yE yF h0 n0) (fun t k => castTop (own_efCF36 m bF (3 : Int32)) k) ?_
  refine oILN (n := 1) X0 hx (hb hby own_d20_0) rfl rfl ?_
  refine oALN (n := 2) X0 hx (hb hby own_d20_1) rfl rfl rfl ?_
  obtain ⟨cl1, Ar1, q1, S1, M1, H1, G1⟩ := id Vf
  refine ov (B := s₁.setTop (mkF m 3 #[rv bF, iv 3] [(.int 6), (.int 3)])) (fun t k => X0.arraylength hx (by rw [e0]; exact Ar1.1) (State.isArrayOf_alike hZ.alike Ar1.2.1) (g := (mkF m 2 #[rv bF, iv 3] [(.ref bF), (.int 3)])) rfl rfl (hb hby own_d20_2) _ (by rw [len_of S1 M1]; exact k)) ?_
  refine ov (B := s₁.setTop (mkF m 4 #[rv bF, iv 3] [(.int (-3 : Int32))])) (fun t k => XS.isub X0.here hx rfl (hb hby own_d20_3) rfl k) ?_
  refine oBP (n := 6) X0 hx (31 : Int32) (hb hby own_d20_4) (by decide) rfl ?_
  refine ov (B := s₁.setTop (mkF m 7 #[rv bF, iv 3] [(.int (((-3 : Int32).toUInt32 >>> ((31 : Int32) &&& 31).toUInt32).toInt32))])) (fun t k => XS.iushr X0.here hx rfl (hb hby own_d20_6) rfl k) ?_
  refine ov (B := s₁.setTop (mkF m 8 #[rv bF, iv 3] [(.int ((((-3 : Int32).toUInt32 >>> ((31 : Int32) &&& 31).toUInt32).toInt32).toInt8.toInt32))])) (fun t k => XS.i2b X0.here hx rfl (hb hby own_d20_7) rfl k) ?_
  refine own_leaf X0 hx hlk (t := .byte) Bd.returns (by decide) (Or.inl ⟨rfl, by simp, _, rfl⟩) (hb hby own_d20_8) (by decide) (by decide) ?_
  show QCF36 Z bF kf yA yB yC yD yE yF h0 n0 _ s₁.heap _
  rw [e0]
  refine ⟨?_, N0, rfl⟩
  exact congrArg (fun z => some (Value.int z)) (by decide)
theorem own_d19_0 : decode jdk_52_method_21_code 0 = .ok (.iconst 0, 1) := by decide +kernel
theorem own_d19_1 : decode jdk_52_method_21_code 1 = .ok (.istore 5, 2) := by decide +kernel
theorem own_d19_3 : decode jdk_52_method_21_code 3 = .ok (.iload 5, 2) := by decide +kernel
theorem own_d19_5 : decode jdk_52_method_21_code 5 = .ok (.iload 4, 2) := by decide +kernel
theorem own_d19_7 : decode jdk_52_method_21_code 7 = .ok (.if_icmp .ge 37, 3) := by decide +kernel
theorem own_d19_10 : decode jdk_52_method_21_code 10 = .ok (.aload_n 0, 1) := by decide +kernel
theorem own_d19_11 : decode jdk_52_method_21_code 11 = .ok (.iload_n 1, 1) := by decide +kernel
theorem own_d19_12 : decode jdk_52_method_21_code 12 = .ok (.caload, 1) := by decide +kernel
theorem own_d19_13 : decode jdk_52_method_21_code 13 = .ok (.istore 6, 2) := by decide +kernel
theorem own_d19_15 : decode jdk_52_method_21_code 15 = .ok (.iload 6, 2) := by decide +kernel
theorem own_d19_17 : decode jdk_52_method_21_code 17 = .ok (.sipush 255, 3) := by decide +kernel
theorem own_d19_20 : decode jdk_52_method_21_code 20 = .ok (.if_icmp .le 6, 3) := by decide +kernel
theorem own_d19_23 : decode jdk_52_method_21_code 23 = .ok (.iload 5, 2) := by decide +kernel
theorem own_d19_25 : decode jdk_52_method_21_code 25 = .ok (.ireturn, 1) := by decide +kernel
theorem own_efCA10 (m : MethodId) (x0 : Addr) (x1 : Int32) (x2 : Addr) (x3 : Int32) (x4 : Int32) : entryFrame m #[(.ref x0), (.int x1), (.ref x2), (.int x3), (.int x4)] 7 = mkF m 0 #[rv x0, iv x1, rv x2, iv x3, iv x4, uu, uu] [] := by first | (simp [entryFrame, mkF, argsToLocals, Value.category]; done) | rfl
def QCA10 (Z : State) (aC : Addr) (bC : Addr) (kc : ClassId) (kb : ClassId) (xA : Int32) (h0 : Heap) (n0 : Nat) (v : Option Value) (h : Heap) (L : List Loc) : Prop := v = some (.int (0 : Int32)) ∧ Fr n0 L ∧ Keep h0 h [bC] ∧ (Arv Z h bC kb .byte (1 : Int32) [(.int (0 : Int32))] (.int (0 : Int32)))
set_option maxRecDepth 65536 in
set_option maxHeartbeats 40000000 in
theorem rmCA10 (l : Launch) (Z : State) (a0 : Array Value) (hw : ∀ d ∈ tables_1, d.before a0 Z = true) (ws : List Jvm.Cond) (aC : Addr) (bC : Addr) (kc : ClassId) (kb : ClassId) (xA : Int32) (h0 : Heap) (n0 : Nat) (Z0 : n0 ≤ h0.size) (Vc : Arv Z h0 aC kc .char (1 : Int32) [(.int xA)] (.int (0 : Int32))) (Vb : Arv Z h0 bC kb .byte (1 : Int32) [(.int (0 : Int32))] (.int (0 : Int32))) (nab : aC ≠ bC) (g_bC : n0 ≤ bC) (hbA : (255 : Int32) < xA) (huA : own_U xA) :
    MetFree l (⟨sAB, "compress", "([CI[BII)I"⟩ : MethodName) (head1 (Jvm.Cond.code (⟨sAB, "compress", "([CI[BII)I"⟩ : MethodName) jdk_52_method_21_code 7 (some .int) :: ws) (oR 0 0 0 0)) (fun a U => a = #[(.ref aC), (.int 0), (.ref bC), (.int 0), (.int 1)] ∧ Z.Warmed39 U.vm ∧ U.heap = h0) (fun _ _ _ _ _ => True) (fun _ U o U' => ∃ v L, o = .returned v ∧ QCA10 Z aC bC kc kb xA h0 n0 v U'.heap L ∧ FrameEnd U o U' L (oR 0 0 0 0).cells (oR 0 0 0 0).slots) := by
  refine MetFree.of_bodySF (plainFor_of_name own_pn0) hisR ?_
  intro p e s m args below meth c s₁ Bd hml0 hP hK
  obtain ⟨rfl, hZ, hh⟩ := hP
  have hx := Bd.exec
  have hby := Bd.bytes
  have hlk : meth.locks = false := Bd.notSynchronized
  have hml : c.maxLocals = 7 := hml0
  have hown : s.vm.findClass sAB = some m.cls := findClass_of_methodNamed Bd.named
  have hnm := (name_of_methodNamed Bd.named Bd.method).1
  have X0 : Stand p l e (oR 0 0 0 0) s m #[(.ref aC), (.int 0), (.ref bC), (.int 0), (.int 1)] below meth c s₁ [] 0 0 := Stand.of_body Bd
  have e0 : s₁.heap = h0 := by rw [← hh, Bd.state]; rfl
  have N0 := Fr.nil n0
  refine own_body (A := s₁.setTop (mkF m 0 #[rv aC, iv 0, rv bC, iv 0, iv 1, uu, uu] [])) (Q := QCA10 Z aC bC kc kb xA h0 n0) (fun t k => castTop (own_efCA10 m aC (0 : Int32) bC (0 : Int32) (1 : Int32)) k) ?_
  refine oIC (n := 1) X0 hx (0 : Int32) (hb hby own_d19_0) (by decide) rfl ?_
  refine ov (B := s₁.setTop (mkF m 3 #[rv aC, iv 0, rv bC, iv 0, iv 1, iv 0, uu] [])) (fun t k => XS.istore X0.here hx rfl (hb hby own_d19_1) rfl (l' := #[rv aC, iv 0, rv bC, iv 0, iv 1, iv 0, uu]) rfl k) ?_
  refine oIL (n := 5) X0 hx (hb hby own_d19_3) rfl rfl ?_
  refine oIL (n := 7) X0 hx (hb hby own_d19_5) rfl rfl ?_
  have hc7 : (0 : Int32) < (1 : Int32) := by decide
  refine ov (B := s₁.setTop (mkF m 10 #[rv aC, iv 0, rv bC, iv 0, iv 1, iv 0, uu] [])) (fun t k => XS.icmpNo X0.here hx rfl (hb hby own_d19_7) rfl (tlt hc7).2.1 k) ?_
  refine oALN (n := 11) X0 hx (hb hby own_d19_10) rfl rfl rfl ?_
  refine oILN (n := 12) X0 hx (hb hby own_d19_11) rfl rfl ?_
  obtain ⟨cl1, Ar1, q1, S1, M1, H1, G1⟩ := id Vc
  have hin1 : ¬ ((0 : Int32) < 0 ∨ cl1.slots.size ≤ ((0 : Int32)).toNatClampNeg) := inb_of S1 ⟨by decide, by decide⟩
  refine ov (B := s₁.setTop (mkF m 13 #[rv aC, iv 0, rv bC, iv 0, iv 1, iv 0, uu] [(.int xA)])) (fun t k => X0.caload hx (j := (0 : Int32)) (v := (.int xA)) (by rw [e0]; exact Ar1.1) (State.isArrayOf_alike hZ.alike Ar1.2.1) Ar1.2.2 hin1 (Has.at H1 hin1 rfl) (g := (mkF m 12 #[rv aC, iv 0, rv bC, iv 0, iv 1, iv 0, uu] [(.int 0), (.ref aC)])) rfl rfl (hb hby own_d19_12) _ k) ?_
  refine ov (B := s₁.setTop (mkF m 15 #[rv aC, iv 0, rv bC, iv 0, iv 1, iv 0, iv xA] [])) (fun t k => XS.istore X0.here hx rfl (hb hby own_d19_13) rfl (l' := #[rv aC, iv 0, rv bC, iv 0, iv 1, iv 0, iv xA]) rfl k) ?_
  refine oIL (n := 17) X0 hx (hb hby own_d19_15) rfl rfl ?_
  refine oSP (n := 20) X0 hx (255 : Int32) (hb hby own_d19_17) (by decide) rfl ?_
  have hc20 : (255 : Int32) < xA := hbA
  refine ov (B := s₁.setTop (mkF m 23 #[rv aC, iv 0, rv bC, iv 0, iv 1, iv 0, iv xA] [])) (fun t k => XS.icmpNo X0.here hx rfl (hb hby own_d19_20) rfl (tlt hc20).2.2.2 k) ?_
  refine oIL (n := 25) X0 hx (hb hby own_d19_23) rfl rfl ?_
  refine own_leaf X0 hx hlk (t := .int) Bd.returns rfl (Or.inl ⟨rfl, by simp, _, rfl⟩) (hb hby own_d19_25) (by decide) (by decide) ?_
  show QCA10 Z aC bC kc kb xA h0 n0 _ s₁.heap _
  rw [e0]
  refine ⟨?_, N0, (Keep.refl h0 [bC]), Vb⟩
  rfl
theorem own_d19_26 : decode jdk_52_method_21_code 26 = .ok (.aload_n 2, 1) := by decide +kernel
theorem own_d19_27 : decode jdk_52_method_21_code 27 = .ok (.iload_n 3, 1) := by decide +kernel
theorem own_d19_28 : decode jdk_52_method_21_code 28 = .ok (.iload 6, 2) := by decide +kernel
theorem own_d19_30 : decode jdk_52_method_21_code 30 = .ok (.i2b, 1) := by decide +kernel
theorem own_d19_31 : decode jdk_52_method_21_code 31 = .ok (.bastore, 1) := by decide +kernel
theorem own_d19_32 : decode jdk_52_method_21_code 32 = .ok (.iinc 1 1, 3) := by decide +kernel
theorem own_d19_35 : decode jdk_52_method_21_code 35 = .ok (.iinc 3 1, 3) := by decide +kernel
theorem own_d19_38 : decode jdk_52_method_21_code 38 = .ok (.iinc 5 1, 3) := by decide +kernel
theorem own_d19_41 : decode jdk_52_method_21_code 41 = .ok (.goto (-38), 3) := by decide +kernel
theorem own_d19_44 : decode jdk_52_method_21_code 44 = .ok (.iload 4, 2) := by decide +kernel
theorem own_d19_46 : decode jdk_52_method_21_code 46 = .ok (.ireturn, 1) := by decide +kernel
theorem own_efCA11 (m : MethodId) (x0 : Addr) (x1 : Int32) (x2 : Addr) (x3 : Int32) (x4 : Int32) : entryFrame m #[(.ref x0), (.int x1), (.ref x2), (.int x3), (.int x4)] 7 = mkF m 0 #[rv x0, iv x1, rv x2, iv x3, iv x4, uu, uu] [] := by first | (simp [entryFrame, mkF, argsToLocals, Value.category]; done) | rfl
def QCA11 (Z : State) (aC : Addr) (bC : Addr) (kc : ClassId) (kb : ClassId) (xA : Int32) (h0 : Heap) (n0 : Nat) (v : Option Value) (h : Heap) (L : List Loc) : Prop := v = some (.int (1 : Int32)) ∧ Fr n0 L ∧ Keep h0 h [bC] ∧ (Arv Z h bC kb .byte (1 : Int32) [(.int xA.toInt8.toInt32.toInt8.toInt32)] (.int (0 : Int32)))
set_option maxRecDepth 65536 in
set_option maxHeartbeats 40000000 in
theorem rmCA11 (l : Launch) (Z : State) (a0 : Array Value) (hw : ∀ d ∈ tables_1, d.before a0 Z = true) (ws : List Jvm.Cond) (aC : Addr) (bC : Addr) (kc : ClassId) (kb : ClassId) (xA : Int32) (h0 : Heap) (n0 : Nat) (Z0 : n0 ≤ h0.size) (Vc : Arv Z h0 aC kc .char (1 : Int32) [(.int xA)] (.int (0 : Int32))) (Vb : Arv Z h0 bC kb .byte (1 : Int32) [(.int (0 : Int32))] (.int (0 : Int32))) (nab : aC ≠ bC) (g_bC : n0 ≤ bC) (hsA : ¬ (255 : Int32) < xA) :
    MetFree l (⟨sAB, "compress", "([CI[BII)I"⟩ : MethodName) (head1 (Jvm.Cond.code (⟨sAB, "compress", "([CI[BII)I"⟩ : MethodName) jdk_52_method_21_code 7 (some .int) :: ws) (oR 0 0 0 0)) (fun a U => a = #[(.ref aC), (.int 0), (.ref bC), (.int 0), (.int 1)] ∧ Z.Warmed39 U.vm ∧ U.heap = h0) (fun _ _ _ _ _ => True) (fun _ U o U' => ∃ v L, o = .returned v ∧ QCA11 Z aC bC kc kb xA h0 n0 v U'.heap L ∧ FrameEnd U o U' L (oR 0 0 0 0).cells (oR 0 0 0 0).slots) := by
  refine MetFree.of_bodySF (plainFor_of_name own_pn0) hisR ?_
  intro p e s m args below meth c s₁ Bd hml0 hP hK
  obtain ⟨rfl, hZ, hh⟩ := hP
  have hx := Bd.exec
  have hby := Bd.bytes
  have hlk : meth.locks = false := Bd.notSynchronized
  have hml : c.maxLocals = 7 := hml0
  have hown : s.vm.findClass sAB = some m.cls := findClass_of_methodNamed Bd.named
  have hnm := (name_of_methodNamed Bd.named Bd.method).1
  have X0 : Stand p l e (oR 0 0 0 0) s m #[(.ref aC), (.int 0), (.ref bC), (.int 0), (.int 1)] below meth c s₁ [] 0 0 := Stand.of_body Bd
  have e0 : s₁.heap = h0 := by rw [← hh, Bd.state]; rfl
  have N0 := Fr.nil n0
  refine own_body (A := s₁.setTop (mkF m 0 #[rv aC, iv 0, rv bC, iv 0, iv 1, uu, uu] [])) (Q := QCA11 Z aC bC kc kb xA h0 n0) (fun t k => castTop (own_efCA11 m aC (0 : Int32) bC (0 : Int32) (1 : Int32)) k) ?_
  refine oIC (n := 1) X0 hx (0 : Int32) (hb hby own_d19_0) (by decide) rfl ?_
  refine ov (B := s₁.setTop (mkF m 3 #[rv aC, iv 0, rv bC, iv 0, iv 1, iv 0, uu] [])) (fun t k => XS.istore X0.here hx rfl (hb hby own_d19_1) rfl (l' := #[rv aC, iv 0, rv bC, iv 0, iv 1, iv 0, uu]) rfl k) ?_
  refine oIL (n := 5) X0 hx (hb hby own_d19_3) rfl rfl ?_
  refine oIL (n := 7) X0 hx (hb hby own_d19_5) rfl rfl ?_
  have hc7 : (0 : Int32) < (1 : Int32) := by decide
  refine ov (B := s₁.setTop (mkF m 10 #[rv aC, iv 0, rv bC, iv 0, iv 1, iv 0, uu] [])) (fun t k => XS.icmpNo X0.here hx rfl (hb hby own_d19_7) rfl (tlt hc7).2.1 k) ?_
  refine oALN (n := 11) X0 hx (hb hby own_d19_10) rfl rfl rfl ?_
  refine oILN (n := 12) X0 hx (hb hby own_d19_11) rfl rfl ?_
  obtain ⟨cl1, Ar1, q1, S1, M1, H1, G1⟩ := id Vc
  have hin1 : ¬ ((0 : Int32) < 0 ∨ cl1.slots.size ≤ ((0 : Int32)).toNatClampNeg) := inb_of S1 ⟨by decide, by decide⟩
  refine ov (B := s₁.setTop (mkF m 13 #[rv aC, iv 0, rv bC, iv 0, iv 1, iv 0, uu] [(.int xA)])) (fun t k => X0.caload hx (j := (0 : Int32)) (v := (.int xA)) (by rw [e0]; exact Ar1.1) (State.isArrayOf_alike hZ.alike Ar1.2.1) Ar1.2.2 hin1 (Has.at H1 hin1 rfl) (g := (mkF m 12 #[rv aC, iv 0, rv bC, iv 0, iv 1, iv 0, uu] [(.int 0), (.ref aC)])) rfl rfl (hb hby own_d19_12) _ k) ?_
  refine ov (B := s₁.setTop (mkF m 15 #[rv aC, iv 0, rv bC, iv 0, iv 1, iv 0, iv xA] [])) (fun t k => XS.istore X0.here hx rfl (hb hby own_d19_13) rfl (l' := #[rv aC, iv 0, rv bC, iv 0, iv 1, iv 0, iv xA]) rfl k) ?_
  refine oIL (n := 17) X0 hx (hb hby own_d19_15) rfl rfl ?_
  refine oSP (n := 20) X0 hx (255 : Int32) (hb hby own_d19_17) (by decide) rfl ?_
  have hc20 : ¬ ((255 : Int32) < xA) := hsA
  refine ov (B := s₁.setTop (mkF m 26 #[rv aC, iv 0, rv bC, iv 0, iv 1, iv 0, iv xA] [])) (fun t k => XS.icmpYes X0.here hx rfl (pc0 := 20) (pc' := 26) rfl (hb hby own_d19_20) rfl (flt hc20).2.2.2 (by decide) (by decide) k) ?_
  refine oALN (n := 27) X0 hx (hb hby own_d19_26) rfl rfl rfl ?_
  refine oILN (n := 28) X0 hx (hb hby own_d19_27) rfl rfl ?_
  refine oIL (n := 30) X0 hx (hb hby own_d19_28) rfl rfl ?_
  refine ov (B := s₁.setTop (mkF m 31 #[rv aC, iv 0, rv bC, iv 0, iv 1, iv 0, iv xA] [(.int (xA.toInt8.toInt32)), (.int 0), (.ref bC)])) (fun t k => XS.i2b X0.here hx rfl (hb hby own_d19_30) rfl k) ?_
  obtain ⟨cl2, Ar2, q2, S2, M2, H2, G2⟩ := id Vb
  obtain ⟨T3, h3, X3, e3, W3, st3⟩ := stB X0 hx hZ e0 Ar2 (j := (0 : Int32)) (inb_of S2 ⟨by decide, by decide⟩) (g := (mkF m 31 #[rv aC, iv 0, rv bC, iv 0, iv 1, iv 0, iv xA] [(.int (xA.toInt8.toInt32)), (.int 0), (.ref bC)])) rfl rfl (hb hby own_d19_31)
  have V3 : Arv Z h3 bC kb .byte (1 : Int32) [(.int (xA.toInt8.toInt32).toInt8.toInt32)] (.int 0) := Arv.set Ar2 q2 S2 M2 H2 G2 (fits_nar_byte _) W3 0 rfl (Nat.le_of_ble_eq_true rfl)
  have N3 := Fr.snoc X3 N0 g_bC
  refine ov (B := T3.setTop (mkF m 32 #[rv aC, iv 0, rv bC, iv 0, iv 1, iv 0, iv xA] [])) (fun t k => st3 t k) ?_
  refine ov (B := T3.setTop (mkF m 35 #[rv aC, iv 1, rv bC, iv 0, iv 1, iv 0, iv xA] [])) (fun t k => XS.iinc X3.here hx rfl (hb hby own_d19_32) rfl (l' := #[rv aC, iv 1, rv bC, iv 0, iv 1, iv 0, iv xA]) rfl k) ?_
  refine ov (B := T3.setTop (mkF m 38 #[rv aC, iv 1, rv bC, iv 1, iv 1, iv 0, iv xA] [])) (fun t k => XS.iinc X3.here hx rfl (hb hby own_d19_35) rfl (l' := #[rv aC, iv 1, rv bC, iv 1, iv 1, iv 0, iv xA]) rfl k) ?_
  refine ov (B := T3.setTop (mkF m 41 #[rv aC, iv 1, rv bC, iv 1, iv 1, iv 1, iv xA] [])) (fun t k => XS.iinc X3.here hx rfl (hb hby own_d19_38) rfl (l' := #[rv aC, iv 1, rv bC, iv 1, iv 1, iv 1, iv xA]) rfl k) ?_
  refine oGO (n := 3) X3 hx (hb hby own_d19_41) (by decide) (by decide) ?_
  refine oIL (n := 5) X3 hx (hb hby own_d19_3) rfl rfl ?_
  refine oIL (n := 7) X3 hx (hb hby own_d19_5) rfl rfl ?_
  have hc7 : ¬ ((1 : Int32) < (1 : Int32)) := by decide
  refine ov (B := T3.setTop (mkF m 44 #[rv aC, iv 1, rv bC, iv 1, iv 1, iv 1, iv xA] [])) (fun t k => XS.icmpYes X3.here hx rfl (pc0 := 7) (pc' := 44) rfl (hb hby own_d19_7) rfl (flt hc7).2.1 (by decide) (by decide) k) ?_
  refine oIL (n := 46) X3 hx (hb hby own_d19_44) rfl rfl ?_
  refine own_leaf X3 hx hlk (t := .int) Bd.returns rfl (Or.inl ⟨rfl, by simp, _, rfl⟩) (hb hby own_d19_46) (by decide) (by decide) ?_
  show QCA11 Z aC bC kc kb xA h0 n0 _ T3.heap _
  rw [e3]
  refine ⟨?_, N3, ((Keep.refl h0 [bC]).wr W3 (Or.inl (List.mem_of_getElem? (i := 0) rfl))), V3⟩
  rfl
theorem own_efCA20 (m : MethodId) (x0 : Addr) (x1 : Int32) (x2 : Addr) (x3 : Int32) (x4 : Int32) : entryFrame m #[(.ref x0), (.int x1), (.ref x2), (.int x3), (.int x4)] 7 = mkF m 0 #[rv x0, iv x1, rv x2, iv x3, iv x4, uu, uu] [] := by first | (simp [entryFrame, mkF, argsToLocals, Value.category]; done) | rfl
def QCA20 (Z : State) (aC : Addr) (bC : Addr) (kc : ClassId) (kb : ClassId) (xA : Int32) (xB : Int32) (h0 : Heap) (n0 : Nat) (v : Option Value) (h : Heap) (L : List Loc) : Prop := v = some (.int (0 : Int32)) ∧ Fr n0 L ∧ Keep h0 h [bC] ∧ (Arv Z h bC kb .byte (2 : Int32) [(.int (0 : Int32)), (.int (0 : Int32))] (.int (0 : Int32)))
set_option maxRecDepth 65536 in
set_option maxHeartbeats 40000000 in
theorem rmCA20 (l : Launch) (Z : State) (a0 : Array Value) (hw : ∀ d ∈ tables_1, d.before a0 Z = true) (ws : List Jvm.Cond) (aC : Addr) (bC : Addr) (kc : ClassId) (kb : ClassId) (xA : Int32) (xB : Int32) (h0 : Heap) (n0 : Nat) (Z0 : n0 ≤ h0.size) (Vc : Arv Z h0 aC kc .char (2 : Int32) [(.int xA), (.int xB)] (.int (0 : Int32))) (Vb : Arv Z h0 bC kb .byte (2 : Int32) [(.int (0 : Int32)), (.int (0 : Int32))] (.int (0 : Int32))) (nab : aC ≠ bC) (g_bC : n0 ≤ bC) (hbA : (255 : Int32) < xA) (huA : own_U xA) :
    MetFree l (⟨sAB, "compress", "([CI[BII)I"⟩ : MethodName) (head1 (Jvm.Cond.code (⟨sAB, "compress", "([CI[BII)I"⟩ : MethodName) jdk_52_method_21_code 7 (some .int) :: ws) (oR 0 0 0 0)) (fun a U => a = #[(.ref aC), (.int 0), (.ref bC), (.int 0), (.int 2)] ∧ Z.Warmed39 U.vm ∧ U.heap = h0) (fun _ _ _ _ _ => True) (fun _ U o U' => ∃ v L, o = .returned v ∧ QCA20 Z aC bC kc kb xA xB h0 n0 v U'.heap L ∧ FrameEnd U o U' L (oR 0 0 0 0).cells (oR 0 0 0 0).slots) := by
  refine MetFree.of_bodySF (plainFor_of_name own_pn0) hisR ?_
  intro p e s m args below meth c s₁ Bd hml0 hP hK
  obtain ⟨rfl, hZ, hh⟩ := hP
  have hx := Bd.exec
  have hby := Bd.bytes
  have hlk : meth.locks = false := Bd.notSynchronized
  have hml : c.maxLocals = 7 := hml0
  have hown : s.vm.findClass sAB = some m.cls := findClass_of_methodNamed Bd.named
  have hnm := (name_of_methodNamed Bd.named Bd.method).1
  have X0 : Stand p l e (oR 0 0 0 0) s m #[(.ref aC), (.int 0), (.ref bC), (.int 0), (.int 2)] below meth c s₁ [] 0 0 := Stand.of_body Bd
  have e0 : s₁.heap = h0 := by rw [← hh, Bd.state]; rfl
  have N0 := Fr.nil n0
  refine own_body (A := s₁.setTop (mkF m 0 #[rv aC, iv 0, rv bC, iv 0, iv 2, uu, uu] [])) (Q := QCA20 Z aC bC kc kb xA xB h0 n0) (fun t k => castTop (own_efCA20 m aC (0 : Int32) bC (0 : Int32) (2 : Int32)) k) ?_
  refine oIC (n := 1) X0 hx (0 : Int32) (hb hby own_d19_0) (by decide) rfl ?_
  refine ov (B := s₁.setTop (mkF m 3 #[rv aC, iv 0, rv bC, iv 0, iv 2, iv 0, uu] [])) (fun t k => XS.istore X0.here hx rfl (hb hby own_d19_1) rfl (l' := #[rv aC, iv 0, rv bC, iv 0, iv 2, iv 0, uu]) rfl k) ?_
  refine oIL (n := 5) X0 hx (hb hby own_d19_3) rfl rfl ?_
  refine oIL (n := 7) X0 hx (hb hby own_d19_5) rfl rfl ?_
  have hc7 : (0 : Int32) < (2 : Int32) := by decide
  refine ov (B := s₁.setTop (mkF m 10 #[rv aC, iv 0, rv bC, iv 0, iv 2, iv 0, uu] [])) (fun t k => XS.icmpNo X0.here hx rfl (hb hby own_d19_7) rfl (tlt hc7).2.1 k) ?_
  refine oALN (n := 11) X0 hx (hb hby own_d19_10) rfl rfl rfl ?_
  refine oILN (n := 12) X0 hx (hb hby own_d19_11) rfl rfl ?_
  obtain ⟨cl1, Ar1, q1, S1, M1, H1, G1⟩ := id Vc
  have hin1 : ¬ ((0 : Int32) < 0 ∨ cl1.slots.size ≤ ((0 : Int32)).toNatClampNeg) := inb_of S1 ⟨by decide, by decide⟩
  refine ov (B := s₁.setTop (mkF m 13 #[rv aC, iv 0, rv bC, iv 0, iv 2, iv 0, uu] [(.int xA)])) (fun t k => X0.caload hx (j := (0 : Int32)) (v := (.int xA)) (by rw [e0]; exact Ar1.1) (State.isArrayOf_alike hZ.alike Ar1.2.1) Ar1.2.2 hin1 (Has.at H1 hin1 rfl) (g := (mkF m 12 #[rv aC, iv 0, rv bC, iv 0, iv 2, iv 0, uu] [(.int 0), (.ref aC)])) rfl rfl (hb hby own_d19_12) _ k) ?_
  refine ov (B := s₁.setTop (mkF m 15 #[rv aC, iv 0, rv bC, iv 0, iv 2, iv 0, iv xA] [])) (fun t k => XS.istore X0.here hx rfl (hb hby own_d19_13) rfl (l' := #[rv aC, iv 0, rv bC, iv 0, iv 2, iv 0, iv xA]) rfl k) ?_
  refine oIL (n := 17) X0 hx (hb hby own_d19_15) rfl rfl ?_
  refine oSP (n := 20) X0 hx (255 : Int32) (hb hby own_d19_17) (by decide) rfl ?_
  have hc20 : (255 : Int32) < xA := hbA
  refine ov (B := s₁.setTop (mkF m 23 #[rv aC, iv 0, rv bC, iv 0, iv 2, iv 0, iv xA] [])) (fun t k => XS.icmpNo X0.here hx rfl (hb hby own_d19_20) rfl (tlt hc20).2.2.2 k) ?_
  refine oIL (n := 25) X0 hx (hb hby own_d19_23) rfl rfl ?_
  refine own_leaf X0 hx hlk (t := .int) Bd.returns rfl (Or.inl ⟨rfl, by simp, _, rfl⟩) (hb hby own_d19_25) (by decide) (by decide) ?_
  show QCA20 Z aC bC kc kb xA xB h0 n0 _ s₁.heap _
  rw [e0]
  refine ⟨?_, N0, (Keep.refl h0 [bC]), Vb⟩
  rfl
theorem own_efCA21 (m : MethodId) (x0 : Addr) (x1 : Int32) (x2 : Addr) (x3 : Int32) (x4 : Int32) : entryFrame m #[(.ref x0), (.int x1), (.ref x2), (.int x3), (.int x4)] 7 = mkF m 0 #[rv x0, iv x1, rv x2, iv x3, iv x4, uu, uu] [] := by first | (simp [entryFrame, mkF, argsToLocals, Value.category]; done) | rfl
def QCA21 (Z : State) (aC : Addr) (bC : Addr) (kc : ClassId) (kb : ClassId) (xA : Int32) (xB : Int32) (h0 : Heap) (n0 : Nat) (v : Option Value) (h : Heap) (L : List Loc) : Prop := v = some (.int (1 : Int32)) ∧ Fr n0 L ∧ Keep h0 h [bC] ∧ (Arv Z h bC kb .byte (2 : Int32) [(.int xA.toInt8.toInt32.toInt8.toInt32), (.int (0 : Int32))] (.int (0 : Int32)))
set_option maxRecDepth 65536 in
set_option maxHeartbeats 40000000 in
theorem rmCA21 (l : Launch) (Z : State) (a0 : Array Value) (hw : ∀ d ∈ tables_1, d.before a0 Z = true) (ws : List Jvm.Cond) (aC : Addr) (bC : Addr) (kc : ClassId) (kb : ClassId) (xA : Int32) (xB : Int32) (h0 : Heap) (n0 : Nat) (Z0 : n0 ≤ h0.size) (Vc : Arv Z h0 aC kc .char (2 : Int32) [(.int xA), (.int xB)] (.int (0 : Int32))) (Vb : Arv Z h0 bC kb .byte (2 : Int32) [(.int (0 : Int32)), (.int (0 : Int32))] (.int (0 : Int32))) (nab : aC ≠ bC) (g_bC : n0 ≤ bC) (hsA : ¬ (255 : Int32) < xA) (hbB : (255 : Int32) < xB) (huB : own_U xB) :
    MetFree l (⟨sAB, "compress", "([CI[BII)I"⟩ : MethodName) (head1 (Jvm.Cond.code (⟨sAB, "compress", "([CI[BII)I"⟩ : MethodName) jdk_52_method_21_code 7 (some .int) :: ws) (oR 0 0 0 0)) (fun a U => a = #[(.ref aC), (.int 0), (.ref bC), (.int 0), (.int 2)] ∧ Z.Warmed39 U.vm ∧ U.heap = h0) (fun _ _ _ _ _ => True) (fun _ U o U' => ∃ v L, o = .returned v ∧ QCA21 Z aC bC kc kb xA xB h0 n0 v U'.heap L ∧ FrameEnd U o U' L (oR 0 0 0 0).cells (oR 0 0 0 0).slots) := by
  refine MetFree.of_bodySF (plainFor_of_name own_pn0) hisR ?_
  intro p e s m args below meth c s₁ Bd hml0 hP hK
  obtain ⟨rfl, hZ, hh⟩ := hP
  have hx := Bd.exec
  have hby := Bd.bytes
  have hlk : meth.locks = false := Bd.notSynchronized
  have hml : c.maxLocals = 7 := hml0
  have hown : s.vm.findClass sAB = some m.cls := findClass_of_methodNamed Bd.named
  have hnm := (name_of_methodNamed Bd.named Bd.method).1
  have X0 : Stand p l e (oR 0 0 0 0) s m #[(.ref aC), (.int 0), (.ref bC), (.int 0), (.int 2)] below meth c s₁ [] 0 0 := Stand.of_body Bd
  have e0 : s₁.heap = h0 := by rw [← hh, Bd.state]; rfl
  have N0 := Fr.nil n0
  refine own_body (A := s₁.setTop (mkF m 0 #[rv aC, iv 0, rv bC, iv 0, iv 2, uu, uu] [])) (Q := QCA21 Z aC bC kc kb xA xB h0 n0) (fun t k => castTop (own_efCA21 m aC (0 : Int32) bC (0 : Int32) (2 : Int32)) k) ?_
  refine oIC (n := 1) X0 hx (0 : Int32) (hb hby own_d19_0) (by decide) rfl ?_
  refine ov (B := s₁.setTop (mkF m 3 #[rv aC, iv 0, rv bC, iv 0, iv 2, iv 0, uu] [])) (fun t k => XS.istore X0.here hx rfl (hb hby own_d19_1) rfl (l' := #[rv aC, iv 0, rv bC, iv 0, iv 2, iv 0, uu]) rfl k) ?_
  refine oIL (n := 5) X0 hx (hb hby own_d19_3) rfl rfl ?_
  refine oIL (n := 7) X0 hx (hb hby own_d19_5) rfl rfl ?_
  have hc7 : (0 : Int32) < (2 : Int32) := by decide
  refine ov (B := s₁.setTop (mkF m 10 #[rv aC, iv 0, rv bC, iv 0, iv 2, iv 0, uu] [])) (fun t k => XS.icmpNo X0.here hx rfl (hb hby own_d19_7) rfl (tlt hc7).2.1 k) ?_
  refine oALN (n := 11) X0 hx (hb hby own_d19_10) rfl rfl rfl ?_
  refine oILN (n := 12) X0 hx (hb hby own_d19_11) rfl rfl ?_
  obtain ⟨cl1, Ar1, q1, S1, M1, H1, G1⟩ := id Vc
  have hin1 : ¬ ((0 : Int32) < 0 ∨ cl1.slots.size ≤ ((0 : Int32)).toNatClampNeg) := inb_of S1 ⟨by decide, by decide⟩
  refine ov (B := s₁.setTop (mkF m 13 #[rv aC, iv 0, rv bC, iv 0, iv 2, iv 0, uu] [(.int xA)])) (fun t k => X0.caload hx (j := (0 : Int32)) (v := (.int xA)) (by rw [e0]; exact Ar1.1) (State.isArrayOf_alike hZ.alike Ar1.2.1) Ar1.2.2 hin1 (Has.at H1 hin1 rfl) (g := (mkF m 12 #[rv aC, iv 0, rv bC, iv 0, iv 2, iv 0, uu] [(.int 0), (.ref aC)])) rfl rfl (hb hby own_d19_12) _ k) ?_
  refine ov (B := s₁.setTop (mkF m 15 #[rv aC, iv 0, rv bC, iv 0, iv 2, iv 0, iv xA] [])) (fun t k => XS.istore X0.here hx rfl (hb hby own_d19_13) rfl (l' := #[rv aC, iv 0, rv bC, iv 0, iv 2, iv 0, iv xA]) rfl k) ?_
  refine oIL (n := 17) X0 hx (hb hby own_d19_15) rfl rfl ?_
  refine oSP (n := 20) X0 hx (255 : Int32) (hb hby own_d19_17) (by decide) rfl ?_
  have hc20 : ¬ ((255 : Int32) < xA) := hsA
  refine ov (B := s₁.setTop (mkF m 26 #[rv aC, iv 0, rv bC, iv 0, iv 2, iv 0, iv xA] [])) (fun t k => XS.icmpYes X0.here hx rfl (pc0 := 20) (pc' := 26) rfl (hb hby own_d19_20) rfl (flt hc20).2.2.2 (by decide) (by decide) k) ?_
  refine oALN (n := 27) X0 hx (hb hby own_d19_26) rfl rfl rfl ?_
  refine oILN (n := 28) X0 hx (hb hby own_d19_27) rfl rfl ?_
  refine oIL (n := 30) X0 hx (hb hby own_d19_28) rfl rfl ?_
  refine ov (B := s₁.setTop (mkF m 31 #[rv aC, iv 0, rv bC, iv 0, iv 2, iv 0, iv xA] [(.int (xA.toInt8.toInt32)), (.int 0), (.ref bC)])) (fun t k => XS.i2b X0.here hx rfl (hb hby own_d19_30) rfl k) ?_
  obtain ⟨cl2, Ar2, q2, S2, M2, H2, G2⟩ := id Vb
  obtain ⟨T3, h3, X3, e3, W3, st3⟩ := stB X0 hx hZ e0 Ar2 (j := (0 : Int32)) (inb_of S2 ⟨by decide, by decide⟩) (g := (mkF m 31 #[rv aC, iv 0, rv bC, iv 0, iv 2, iv 0, iv xA] [(.int (xA.toInt8.toInt32)), (.int 0), (.ref bC)])) rfl rfl (hb hby own_d19_31)
  have V3 : Arv Z h3 bC kb .byte (2 : Int32) [(.int (xA.toInt8.toInt32).toInt8.toInt32), (.int 0)] (.int 0) := Arv.set Ar2 q2 S2 M2 H2 G2 (fits_nar_byte _) W3 0 rfl (Nat.le_of_ble_eq_true rfl)
  have N3 := Fr.snoc X3 N0 g_bC
  refine ov (B := T3.setTop (mkF m 32 #[rv aC, iv 0, rv bC, iv 0, iv 2, iv 0, iv xA] [])) (fun t k => st3 t k) ?_
  refine ov (B := T3.setTop (mkF m 35 #[rv aC, iv 1, rv bC, iv 0, iv 2, iv 0, iv xA] [])) (fun t k => XS.iinc X3.here hx rfl (hb hby own_d19_32) rfl (l' := #[rv aC, iv 1, rv bC, iv 0, iv 2, iv 0, iv xA]) rfl k) ?_
  refine ov (B := T3.setTop (mkF m 38 #[rv aC, iv 1, rv bC, iv 1, iv 2, iv 0, iv xA] [])) (fun t k => XS.iinc X3.here hx rfl (hb hby own_d19_35) rfl (l' := #[rv aC, iv 1, rv bC, iv 1, iv 2, iv 0, iv xA]) rfl k) ?_
  refine ov (B := T3.setTop (mkF m 41 #[rv aC, iv 1, rv bC, iv 1, iv 2, iv 1, iv xA] [])) (fun t k => XS.iinc X3.here hx rfl (hb hby own_d19_38) rfl (l' := #[rv aC, iv 1, rv bC, iv 1, iv 2, iv 1, iv xA]) rfl k) ?_
  refine oGO (n := 3) X3 hx (hb hby own_d19_41) (by decide) (by decide) ?_
  refine oIL (n := 5) X3 hx (hb hby own_d19_3) rfl rfl ?_
  refine oIL (n := 7) X3 hx (hb hby own_d19_5) rfl rfl ?_
  have hc7 : (1 : Int32) < (2 : Int32) := by decide
  refine ov (B := T3.setTop (mkF m 10 #[rv aC, iv 1, rv bC, iv 1, iv 2, iv 1, iv xA] [])) (fun t k => XS.icmpNo X3.here hx rfl (hb hby own_d19_7) rfl (tlt hc7).2.1 k) ?_
  refine oALN (n := 11) X3 hx (hb hby own_d19_10) rfl rfl rfl ?_
  refine oILN (n := 12) X3 hx (hb hby own_d19_11) rfl rfl ?_
  obtain ⟨cl4, Ar4, q4, S4, M4, H4, G4⟩ := id (Vc.other W3 nab)
  have hin4 : ¬ ((1 : Int32) < 0 ∨ cl4.slots.size ≤ ((1 : Int32)).toNatClampNeg) := inb_of S4 ⟨by decide, by decide⟩
  refine ov (B := T3.setTop (mkF m 13 #[rv aC, iv 1, rv bC, iv 1, iv 2, iv 1, iv xA] [(.int xB)])) (fun t k => X3.caload hx (j := (1 : Int32)) (v := (.int xB)) (by rw [e3]; exact Ar4.1) (State.isArrayOf_alike hZ.alike Ar4.2.1) Ar4.2.2 hin4 (Has.at H4 hin4 rfl) (g := (mkF m 12 #[rv aC, iv 1, rv bC, iv 1, iv 2, iv 1, iv xA] [(.int 1), (.ref aC)])) rfl rfl (hb hby own_d19_12) _ k) ?_
  refine ov (B := T3.setTop (mkF m 15 #[rv aC, iv 1, rv bC, iv 1, iv 2, iv 1, iv xB] [])) (fun t k => XS.istore X3.here hx rfl (hb hby own_d19_13) rfl (l' := #[rv aC, iv 1, rv bC, iv 1, iv 2, iv 1, iv xB]) rfl k) ?_
  refine oIL (n := 17) X3 hx (hb hby own_d19_15) rfl rfl ?_
  refine oSP (n := 20) X3 hx (255 : Int32) (hb hby own_d19_17) (by decide) rfl ?_
  have hc20 : (255 : Int32) < xB := hbB
  refine ov (B := T3.setTop (mkF m 23 #[rv aC, iv 1, rv bC, iv 1, iv 2, iv 1, iv xB] [])) (fun t k => XS.icmpNo X3.here hx rfl (hb hby own_d19_20) rfl (tlt hc20).2.2.2 k) ?_
  refine oIL (n := 25) X3 hx (hb hby own_d19_23) rfl rfl ?_
  refine own_leaf X3 hx hlk (t := .int) Bd.returns rfl (Or.inl ⟨rfl, by simp, _, rfl⟩) (hb hby own_d19_25) (by decide) (by decide) ?_
  show QCA21 Z aC bC kc kb xA xB h0 n0 _ T3.heap _
  rw [e3]
  refine ⟨?_, N3, ((Keep.refl h0 [bC]).wr W3 (Or.inl (List.mem_of_getElem? (i := 0) rfl))), V3⟩
  rfl
theorem own_efCA22 (m : MethodId) (x0 : Addr) (x1 : Int32) (x2 : Addr) (x3 : Int32) (x4 : Int32) : entryFrame m #[(.ref x0), (.int x1), (.ref x2), (.int x3), (.int x4)] 7 = mkF m 0 #[rv x0, iv x1, rv x2, iv x3, iv x4, uu, uu] [] := by first | (simp [entryFrame, mkF, argsToLocals, Value.category]; done) | rfl
def QCA22 (Z : State) (aC : Addr) (bC : Addr) (kc : ClassId) (kb : ClassId) (xA : Int32) (xB : Int32) (h0 : Heap) (n0 : Nat) (v : Option Value) (h : Heap) (L : List Loc) : Prop := v = some (.int (2 : Int32)) ∧ Fr n0 L ∧ Keep h0 h [bC] ∧ (Arv Z h bC kb .byte (2 : Int32) [(.int xA.toInt8.toInt32.toInt8.toInt32), (.int xB.toInt8.toInt32.toInt8.toInt32)] (.int (0 : Int32)))
set_option maxRecDepth 65536 in
set_option maxHeartbeats 40000000 in
theorem rmCA22 (l : Launch) (Z : State) (a0 : Array Value) (hw : ∀ d ∈ tables_1, d.before a0 Z = true) (ws : List Jvm.Cond) (aC : Addr) (bC : Addr) (kc : ClassId) (kb : ClassId) (xA : Int32) (xB : Int32) (h0 : Heap) (n0 : Nat) (Z0 : n0 ≤ h0.size) (Vc : Arv Z h0 aC kc .char (2 : Int32) [(.int xA), (.int xB)] (.int (0 : Int32))) (Vb : Arv Z h0 bC kb .byte (2 : Int32) [(.int (0 : Int32)), (.int (0 : Int32))] (.int (0 : Int32))) (nab : aC ≠ bC) (g_bC : n0 ≤ bC) (hsA : ¬ (255 : Int32) < xA) (hsB : ¬ (255 : Int32) < xB) :
    MetFree l (⟨sAB, "compress", "([CI[BII)I"⟩ : MethodName) (head1 (Jvm.Cond.code (⟨sAB, "compress", "([CI[BII)I"⟩ : MethodName) jdk_52_method_21_code 7 (some .int) :: ws) (oR 0 0 0 0)) (fun a U => a = #[(.ref aC), (.int 0), (.ref bC), (.int 0), (.int 2)] ∧ Z.Warmed39 U.vm ∧ U.heap = h0) (fun _ _ _ _ _ => True) (fun _ U o U' => ∃ v L, o = .returned v ∧ QCA22 Z aC bC kc kb xA xB h0 n0 v U'.heap L ∧ FrameEnd U o U' L (oR 0 0 0 0).cells (oR 0 0 0 0).slots) := by
  refine MetFree.of_bodySF (plainFor_of_name own_pn0) hisR ?_
  intro p e s m args below meth c s₁ Bd hml0 hP hK
  obtain ⟨rfl, hZ, hh⟩ := hP
  have hx := Bd.exec
  have hby := Bd.bytes
  have hlk : meth.locks = false := Bd.notSynchronized
  have hml : c.maxLocals = 7 := hml0
  have hown : s.vm.findClass sAB = some m.cls := findClass_of_methodNamed Bd.named
  have hnm := (name_of_methodNamed Bd.named Bd.method).1
  have X0 : Stand p l e (oR 0 0 0 0) s m #[(.ref aC), (.int 0), (.ref bC), (.int 0), (.int 2)] below meth c s₁ [] 0 0 := Stand.of_body Bd
  have e0 : s₁.heap = h0 := by rw [← hh, Bd.state]; rfl
  have N0 := Fr.nil n0
  refine own_body (A := s₁.setTop (mkF m 0 #[rv aC, iv 0, rv bC, iv 0, iv 2, uu, uu] [])) (Q := QCA22 Z aC bC kc kb xA xB h0 n0) (fun t k => castTop (own_efCA22 m aC (0 : Int32) bC (0 : Int32) (2 : Int32)) k) ?_
  refine oIC (n := 1) X0 hx (0 : Int32) (hb hby own_d19_0) (by decide) rfl ?_
  refine ov (B := s₁.setTop (mkF m 3 #[rv aC, iv 0, rv bC, iv 0, iv 2, iv 0, uu] [])) (fun t k => XS.istore X0.here hx rfl (hb hby own_d19_1) rfl (l' := #[rv aC, iv 0, rv bC, iv 0, iv 2, iv 0, uu]) rfl k) ?_
  refine oIL (n := 5) X0 hx (hb hby own_d19_3) rfl rfl ?_
  refine oIL (n := 7) X0 hx (hb hby own_d19_5) rfl rfl ?_
  have hc7 : (0 : Int32) < (2 : Int32) := by decide
  refine ov (B := s₁.setTop (mkF m 10 #[rv aC, iv 0, rv bC, iv 0, iv 2, iv 0, uu] [])) (fun t k => XS.icmpNo X0.here hx rfl (hb hby own_d19_7) rfl (tlt hc7).2.1 k) ?_
  refine oALN (n := 11) X0 hx (hb hby own_d19_10) rfl rfl rfl ?_
  refine oILN (n := 12) X0 hx (hb hby own_d19_11) rfl rfl ?_
  obtain ⟨cl1, Ar1, q1, S1, M1, H1, G1⟩ := id Vc
  have hin1 : ¬ ((0 : Int32) < 0 ∨ cl1.slots.size ≤ ((0 : Int32)).toNatClampNeg) := inb_of S1 ⟨by decide, by decide⟩
  refine ov (B := s₁.setTop (mkF m 13 #[rv aC, iv 0, rv bC, iv 0, iv 2, iv 0, uu] [(.int xA)])) (fun t k => X0.caload hx (j := (0 : Int32)) (v := (.int xA)) (by rw [e0]; exact Ar1.1) (State.isArrayOf_alike hZ.alike Ar1.2.1) Ar1.2.2 hin1 (Has.at H1 hin1 rfl) (g := (mkF m 12 #[rv aC, iv 0, rv bC, iv 0, iv 2, iv 0, uu] [(.int 0), (.ref aC)])) rfl rfl (hb hby own_d19_12) _ k) ?_
  refine ov (B := s₁.setTop (mkF m 15 #[rv aC, iv 0, rv bC, iv 0, iv 2, iv 0, iv xA] [])) (fun t k => XS.istore X0.here hx rfl (hb hby own_d19_13) rfl (l' := #[rv aC, iv 0, rv bC, iv 0, iv 2, iv 0, iv xA]) rfl k) ?_
  refine oIL (n := 17) X0 hx (hb hby own_d19_15) rfl rfl ?_
  refine oSP (n := 20) X0 hx (255 : Int32) (hb hby own_d19_17) (by decide) rfl ?_
  have hc20 : ¬ ((255 : Int32) < xA) := hsA
  refine ov (B := s₁.setTop (mkF m 26 #[rv aC, iv 0, rv bC, iv 0, iv 2, iv 0, iv xA] [])) (fun t k => XS.icmpYes X0.here hx rfl (pc0 := 20) (pc' := 26) rfl (hb hby own_d19_20) rfl (flt hc20).2.2.2 (by decide) (by decide) k) ?_
  refine oALN (n := 27) X0 hx (hb hby own_d19_26) rfl rfl rfl ?_
  refine oILN (n := 28) X0 hx (hb hby own_d19_27) rfl rfl ?_
  refine oIL (n := 30) X0 hx (hb hby own_d19_28) rfl rfl ?_
  refine ov (B := s₁.setTop (mkF m 31 #[rv aC, iv 0, rv bC, iv 0, iv 2, iv 0, iv xA] [(.int (xA.toInt8.toInt32)), (.int 0), (.ref bC)])) (fun t k => XS.i2b X0.here hx rfl (hb hby own_d19_30) rfl k) ?_
  obtain ⟨cl2, Ar2, q2, S2, M2, H2, G2⟩ := id Vb
  obtain ⟨T3, h3, X3, e3, W3, st3⟩ := stB X0 hx hZ e0 Ar2 (j := (0 : Int32)) (inb_of S2 ⟨by decide, by decide⟩) (g := (mkF m 31 #[rv aC, iv 0, rv bC, iv 0, iv 2, iv 0, iv xA] [(.int (xA.toInt8.toInt32)), (.int 0), (.ref bC)])) rfl rfl (hb hby own_d19_31)
  have V3 : Arv Z h3 bC kb .byte (2 : Int32) [(.int (xA.toInt8.toInt32).toInt8.toInt32), (.int 0)] (.int 0) := Arv.set Ar2 q2 S2 M2 H2 G2 (fits_nar_byte _) W3 0 rfl (Nat.le_of_ble_eq_true rfl)
  have N3 := Fr.snoc X3 N0 g_bC
  refine ov (B := T3.setTop (mkF m 32 #[rv aC, iv 0, rv bC, iv 0, iv 2, iv 0, iv xA] [])) (fun t k => st3 t k) ?_
  refine ov (B := T3.setTop (mkF m 35 #[rv aC, iv 1, rv bC, iv 0, iv 2, iv 0, iv xA] [])) (fun t k => XS.iinc X3.here hx rfl (hb hby own_d19_32) rfl (l' := #[rv aC, iv 1, rv bC, iv 0, iv 2, iv 0, iv xA]) rfl k) ?_
  refine ov (B := T3.setTop (mkF m 38 #[rv aC, iv 1, rv bC, iv 1, iv 2, iv 0, iv xA] [])) (fun t k => XS.iinc X3.here hx rfl (hb hby own_d19_35) rfl (l' := #[rv aC, iv 1, rv bC, iv 1, iv 2, iv 0, iv xA]) rfl k) ?_
  refine ov (B := T3.setTop (mkF m 41 #[rv aC, iv 1, rv bC, iv 1, iv 2, iv 1, iv xA] [])) (fun t k => XS.iinc X3.here hx rfl (hb hby own_d19_38) rfl (l' := #[rv aC, iv 1, rv bC, iv 1, iv 2, iv 1, iv xA]) rfl k) ?_
  refine oGO (n := 3) X3 hx (hb hby own_d19_41) (by decide) (by decide) ?_
  refine oIL (n := 5) X3 hx (hb hby own_d19_3) rfl rfl ?_
  refine oIL (n := 7) X3 hx (hb hby own_d19_5) rfl rfl ?_
  have hc7 : (1 : Int32) < (2 : Int32) := by decide
  refine ov (B := T3.setTop (mkF m 10 #[rv aC, iv 1, rv bC, iv 1, iv 2, iv 1, iv xA] [])) (fun t k => XS.icmpNo X3.here hx rfl (hb hby own_d19_7) rfl (tlt hc7).2.1 k) ?_
  refine oALN (n := 11) X3 hx (hb hby own_d19_10) rfl rfl rfl ?_
  refine oILN (n := 12) X3 hx (hb hby own_d19_11) rfl rfl ?_
  obtain ⟨cl4, Ar4, q4, S4, M4, H4, G4⟩ := id (Vc.other W3 nab)
  have hin4 : ¬ ((1 : Int32) < 0 ∨ cl4.slots.size ≤ ((1 : Int32)).toNatClampNeg) := inb_of S4 ⟨by decide, by decide⟩
  refine ov (B := T3.setTop (mkF m 13 #[rv aC, iv 1, rv bC, iv 1, iv 2, iv 1, iv xA] [(.int xB)])) (fun t k => X3.caload hx (j := (1 : Int32)) (v := (.int xB)) (by rw [e3]; exact Ar4.1) (State.isArrayOf_alike hZ.alike Ar4.2.1) Ar4.2.2 hin4 (Has.at H4 hin4 rfl) (g := (mkF m 12 #[rv aC, iv 1, rv bC, iv 1, iv 2, iv 1, iv xA] [(.int 1), (.ref aC)])) rfl rfl (hb hby own_d19_12) _ k) ?_
  refine ov (B := T3.setTop (mkF m 15 #[rv aC, iv 1, rv bC, iv 1, iv 2, iv 1, iv xB] [])) (fun t k => XS.istore X3.here hx rfl (hb hby own_d19_13) rfl (l' := #[rv aC, iv 1, rv bC, iv 1, iv 2, iv 1, iv xB]) rfl k) ?_
  refine oIL (n := 17) X3 hx (hb hby own_d19_15) rfl rfl ?_
  refine oSP (n := 20) X3 hx (255 : Int32) (hb hby own_d19_17) (by decide) rfl ?_
  have hc20 : ¬ ((255 : Int32) < xB) := hsB
  refine ov (B := T3.setTop (mkF m 26 #[rv aC, iv 1, rv bC, iv 1, iv 2, iv 1, iv xB] [])) (fun t k => XS.icmpYes X3.here hx rfl (pc0 := 20) (pc' := 26) rfl (hb hby own_d19_20) rfl (flt hc20).2.2.2 (by decide) (by decide) k) ?_
  refine oALN (n := 27) X3 hx (hb hby own_d19_26) rfl rfl rfl ?_
  refine oILN (n := 28) X3 hx (hb hby own_d19_27) rfl rfl ?_
  refine oIL (n := 30) X3 hx (hb hby own_d19_28) rfl rfl ?_
  refine ov (B := T3.setTop (mkF m 31 #[rv aC, iv 1, rv bC, iv 1, iv 2, iv 1, iv xB] [(.int (xB.toInt8.toInt32)), (.int 1), (.ref bC)])) (fun t k => XS.i2b X3.here hx rfl (hb hby own_d19_30) rfl k) ?_
  obtain ⟨cl5, Ar5, q5, S5, M5, H5, G5⟩ := id V3
  obtain ⟨T6, h6, X6, e6, W6, st6⟩ := stB X3 hx hZ e3 Ar5 (j := (1 : Int32)) (inb_of S5 ⟨by decide, by decide⟩) (g := (mkF m 31 #[rv aC, iv 1, rv bC, iv 1, iv 2, iv 1, iv xB] [(.int (xB.toInt8.toInt32)), (.int 1), (.ref bC)])) rfl rfl (hb hby own_d19_31)
  have V6 : Arv Z h6 bC kb .byte (2 : Int32) [(.int (xA.toInt8.toInt32).toInt8.toInt32), (.int (xB.toInt8.toInt32).toInt8.toInt32)] (.int 0) := Arv.set Ar5 q5 S5 M5 H5 G5 (fits_nar_byte _) W6 1 rfl (Nat.le_of_ble_eq_true rfl)
  have N6 := Fr.snoc X6 N3 g_bC
  refine ov (B := T6.setTop (mkF m 32 #[rv aC, iv 1, rv bC, iv 1, iv 2, iv 1, iv xB] [])) (fun t k => st6 t k) ?_
  refine ov (B := T6.setTop (mkF m 35 #[rv aC, iv 2, rv bC, iv 1, iv 2, iv 1, iv xB] [])) (fun t k => XS.iinc X6.here hx rfl (hb hby own_d19_32) rfl (l' := #[rv aC, iv 2, rv bC, iv 1, iv 2, iv 1, iv xB]) rfl k) ?_
  refine ov (B := T6.setTop (mkF m 38 #[rv aC, iv 2, rv bC, iv 2, iv 2, iv 1, iv xB] [])) (fun t k => XS.iinc X6.here hx rfl (hb hby own_d19_35) rfl (l' := #[rv aC, iv 2, rv bC, iv 2, iv 2, iv 1, iv xB]) rfl k) ?_
  refine ov (B := T6.setTop (mkF m 41 #[rv aC, iv 2, rv bC, iv 2, iv 2, iv 2, iv xB] [])) (fun t k => XS.iinc X6.here hx rfl (hb hby own_d19_38) rfl (l' := #[rv aC, iv 2, rv bC, iv 2, iv 2, iv 2, iv xB]) rfl k) ?_
  refine oGO (n := 3) X6 hx (hb hby own_d19_41) (by decide) (by decide) ?_
  refine oIL (n := 5) X6 hx (hb hby own_d19_3) rfl rfl ?_
  refine oIL (n := 7) X6 hx (hb hby own_d19_5) rfl rfl ?_
  have hc7 : ¬ ((2 : Int32) < (2 : Int32)) := by decide
  refine ov (B := T6.setTop (mkF m 44 #[rv aC, iv 2, rv bC, iv 2, iv 2, iv 2, iv xB] [])) (fun t k => XS.icmpYes X6.here hx rfl (pc0 := 7) (pc' := 44) rfl (hb hby own_d19_7) rfl (flt hc7).2.1 (by decide) (by decide) k) ?_
  refine oIL (n := 46) X6 hx (hb hby own_d19_44) rfl rfl ?_
  refine own_leaf X6 hx hlk (t := .int) Bd.returns rfl (Or.inl ⟨rfl, by simp, _, rfl⟩) (hb hby own_d19_46) (by decide) (by decide) ?_
  show QCA22 Z aC bC kc kb xA xB h0 n0 _ T6.heap _
  rw [e6]
  refine ⟨?_, N6, (((Keep.refl h0 [bC]).wr W3 (Or.inl (List.mem_of_getElem? (i := 0) rfl))).wr W6 (Or.inl (List.mem_of_getElem? (i := 0) rfl))), V6⟩
  rfl
theorem own_efCA30 (m : MethodId) (x0 : Addr) (x1 : Int32) (x2 : Addr) (x3 : Int32) (x4 : Int32) : entryFrame m #[(.ref x0), (.int x1), (.ref x2), (.int x3), (.int x4)] 7 = mkF m 0 #[rv x0, iv x1, rv x2, iv x3, iv x4, uu, uu] [] := by first | (simp [entryFrame, mkF, argsToLocals, Value.category]; done) | rfl
def QCA30 (Z : State) (aC : Addr) (bC : Addr) (kc : ClassId) (kb : ClassId) (xA : Int32) (xB : Int32) (xC : Int32) (h0 : Heap) (n0 : Nat) (v : Option Value) (h : Heap) (L : List Loc) : Prop := v = some (.int (0 : Int32)) ∧ Fr n0 L ∧ Keep h0 h [bC] ∧ (Arv Z h bC kb .byte (3 : Int32) [(.int (0 : Int32)), (.int (0 : Int32)), (.int (0 : Int32))] (.int (0 : Int32)))
set_option maxRecDepth 65536 in
set_option maxHeartbeats 40000000 in
theorem rmCA30 (l : Launch) (Z : State) (a0 : Array Value) (hw : ∀ d ∈ tables_1, d.before a0 Z = true) (ws : List Jvm.Cond) (aC : Addr) (bC : Addr) (kc : ClassId) (kb : ClassId) (xA : Int32) (xB : Int32) (xC : Int32) (h0 : Heap) (n0 : Nat) (Z0 : n0 ≤ h0.size) (Vc : Arv Z h0 aC kc .char (3 : Int32) [(.int xA), (.int xB), (.int xC)] (.int (0 : Int32))) (Vb : Arv Z h0 bC kb .byte (3 : Int32) [(.int (0 : Int32)), (.int (0 : Int32)), (.int (0 : Int32))] (.int (0 : Int32))) (nab : aC ≠ bC) (g_bC : n0 ≤ bC) (hbA : (255 : Int32) < xA) (huA : own_U xA) :
    MetFree l (⟨sAB, "compress", "([CI[BII)I"⟩ : MethodName) (head1 (Jvm.Cond.code (⟨sAB, "compress", "([CI[BII)I"⟩ : MethodName) jdk_52_method_21_code 7 (some .int) :: ws) (oR 0 0 0 0)) (fun a U => a = #[(.ref aC), (.int 0), (.ref bC), (.int 0), (.int 3)] ∧ Z.Warmed39 U.vm ∧ U.heap = h0) (fun _ _ _ _ _ => True) (fun _ U o U' => ∃ v L, o = .returned v ∧ QCA30 Z aC bC kc kb xA xB xC h0 n0 v U'.heap L ∧ FrameEnd U o U' L (oR 0 0 0 0).cells (oR 0 0 0 0).slots) := by
  refine MetFree.of_bodySF (plainFor_of_name own_pn0) hisR ?_
  intro p e s m args below meth c s₁ Bd hml0 hP hK
  obtain ⟨rfl, hZ, hh⟩ := hP
  have hx := Bd.exec
  have hby := Bd.bytes
  have hlk : meth.locks = false := Bd.notSynchronized
  have hml : c.maxLocals = 7 := hml0
  have hown : s.vm.findClass sAB = some m.cls := findClass_of_methodNamed Bd.named
  have hnm := (name_of_methodNamed Bd.named Bd.method).1
  have X0 : Stand p l e (oR 0 0 0 0) s m #[(.ref aC), (.int 0), (.ref bC), (.int 0), (.int 3)] below meth c s₁ [] 0 0 := Stand.of_body Bd
  have e0 : s₁.heap = h0 := by rw [← hh, Bd.state]; rfl
  have N0 := Fr.nil n0
  refine own_body (A := s₁.setTop (mkF m 0 #[rv aC, iv 0, rv bC, iv 0, iv 3, uu, uu] [])) (Q := QCA30 Z aC bC kc kb xA xB xC h0 n0) (fun t k => castTop (own_efCA30 m aC (0 : Int32) bC (0 : Int32) (3 : Int32)) k) ?_
  refine oIC (n := 1) X0 hx (0 : Int32) (hb hby own_d19_0) (by decide) rfl ?_
  refine ov (B := s₁.setTop (mkF m 3 #[rv aC, iv 0, rv bC, iv 0, iv 3, iv 0, uu] [])) (fun t k => XS.istore X0.here hx rfl (hb hby own_d19_1) rfl (l' := #[rv aC, iv 0, rv bC, iv 0, iv 3, iv 0, uu]) rfl k) ?_
  refine oIL (n := 5) X0 hx (hb hby own_d19_3) rfl rfl ?_
  refine oIL (n := 7) X0 hx (hb hby own_d19_5) rfl rfl ?_
  have hc7 : (0 : Int32) < (3 : Int32) := by decide
  refine ov (B := s₁.setTop (mkF m 10 #[rv aC, iv 0, rv bC, iv 0, iv 3, iv 0, uu] [])) (fun t k => XS.icmpNo X0.here hx rfl (hb hby own_d19_7) rfl (tlt hc7).2.1 k) ?_
  refine oALN (n := 11) X0 hx (hb hby own_d19_10) rfl rfl rfl ?_
  refine oILN (n := 12) X0 hx (hb hby own_d19_11) rfl rfl ?_
  obtain ⟨cl1, Ar1, q1, S1, M1, H1, G1⟩ := id Vc
  have hin1 : ¬ ((0 : Int32) < 0 ∨ cl1.slots.size ≤ ((0 : Int32)).toNatClampNeg) := inb_of S1 ⟨by decide, by decide⟩
  refine ov (B := s₁.setTop (mkF m 13 #[rv aC, iv 0, rv bC, iv 0, iv 3, iv 0, uu] [(.int xA)])) (fun t k => X0.caload hx (j := (0 : Int32)) (v := (.int xA)) (by rw [e0]; exact Ar1.1) (State.isArrayOf_alike hZ.alike Ar1.2.1) Ar1.2.2 hin1 (Has.at H1 hin1 rfl) (g := (mkF m 12 #[rv aC, iv 0, rv bC, iv 0, iv 3, iv 0, uu] [(.int 0), (.ref aC)])) rfl rfl (hb hby own_d19_12) _ k) ?_
  refine ov (B := s₁.setTop (mkF m 15 #[rv aC, iv 0, rv bC, iv 0, iv 3, iv 0, iv xA] [])) (fun t k => XS.istore X0.here hx rfl (hb hby own_d19_13) rfl (l' := #[rv aC, iv 0, rv bC, iv 0, iv 3, iv 0, iv xA]) rfl k) ?_
  refine oIL (n := 17) X0 hx (hb hby own_d19_15) rfl rfl ?_
  refine oSP (n := 20) X0 hx (255 : Int32) (hb hby own_d19_17) (by decide) rfl ?_
  have hc20 : (255 : Int32) < xA := hbA
  refine ov (B := s₁.setTop (mkF m 23 #[rv aC, iv 0, rv bC, iv 0, iv 3, iv 0, iv xA] [])) (fun t k => XS.icmpNo X0.here hx rfl (hb hby own_d19_20) rfl (tlt hc20).2.2.2 k) ?_
  refine oIL (n := 25) X0 hx (hb hby own_d19_23) rfl rfl ?_
  refine own_leaf X0 hx hlk (t := .int) Bd.returns rfl (Or.inl ⟨rfl, by simp, _, rfl⟩) (hb hby own_d19_25) (by decide) (by decide) ?_
  show QCA30 Z aC bC kc kb xA xB xC h0 n0 _ s₁.heap _
  rw [e0]
  refine ⟨?_, N0, (Keep.refl h0 [bC]), Vb⟩
  rfl
theorem own_efCA31 (m : MethodId) (x0 : Addr) (x1 : Int32) (x2 : Addr) (x3 : Int32) (x4 : Int32) : entryFrame m #[(.ref x0), (.int x1), (.ref x2), (.int x3), (.int x4)] 7 = mkF m 0 #[rv x0, iv x1, rv x2, iv x3, iv x4, uu, uu] [] := by first | (simp [entryFrame, mkF, argsToLocals, Value.category]; done) | rfl
def QCA31 (Z : State) (aC : Addr) (bC : Addr) (kc : ClassId) (kb : ClassId) (xA : Int32) (xB : Int32) (xC : Int32) (h0 : Heap) (n0 : Nat) (v : Option Value) (h : Heap) (L : List Loc) : Prop := v = some (.int (1 : Int32)) ∧ Fr n0 L ∧ Keep h0 h [bC] ∧ (Arv Z h bC kb .byte (3 : Int32) [(.int xA.toInt8.toInt32.toInt8.toInt32), (.int (0 : Int32)), (.int (0 : Int32))] (.int (0 : Int32)))
set_option maxRecDepth 65536 in
set_option maxHeartbeats 40000000 in
theorem rmCA31 (l : Launch) (Z : State) (a0 : Array Value) (hw : ∀ d ∈ tables_1, d.before a0 Z = true) (ws : List Jvm.Cond) (aC : Addr) (bC : Addr) (kc : ClassId) (kb : ClassId) (xA : Int32) (xB : Int32) (xC : Int32) (h0 : Heap) (n0 : Nat) (Z0 : n0 ≤ h0.size) (Vc : Arv Z h0 aC kc .char (3 : Int32) [(.int xA), (.int xB), (.int xC)] (.int (0 : Int32))) (Vb : Arv Z h0 bC kb .byte (3 : Int32) [(.int (0 : Int32)), (.int (0 : Int32)), (.int (0 : Int32))] (.int (0 : Int32))) (nab : aC ≠ bC) (g_bC : n0 ≤ bC) (hsA : ¬ (255 : Int32) < xA) (hbB : (255 : Int32) < xB) (huB : own_U xB) :
    MetFree l (⟨sAB, "compress", "([CI[BII)I"⟩ : MethodName) (head1 (Jvm.Cond.code (⟨sAB, "compress", "([CI[BII)I"⟩ : MethodName) jdk_52_method_21_code 7 (some .int) :: ws) (oR 0 0 0 0)) (fun a U => a = #[(.ref aC), (.int 0), (.ref bC), (.int 0), (.int 3)] ∧ Z.Warmed39 U.vm ∧ U.heap = h0) (fun _ _ _ _ _ => True) (fun _ U o U' => ∃ v L, o = .returned v ∧ QCA31 Z aC bC kc kb xA xB xC h0 n0 v U'.heap L ∧ FrameEnd U o U' L (oR 0 0 0 0).cells (oR 0 0 0 0).slots) := by
  refine MetFree.of_bodySF (plainFor_of_name own_pn0) hisR ?_
  intro p e s m args below meth c s₁ Bd hml0 hP hK
  obtain ⟨rfl, hZ, hh⟩ := hP
  have hx := Bd.exec
  have hby := Bd.bytes
  have hlk : meth.locks = false := Bd.notSynchronized
  have hml : c.maxLocals = 7 := hml0
  have hown : s.vm.findClass sAB = some m.cls := findClass_of_methodNamed Bd.named
  have hnm := (name_of_methodNamed Bd.named Bd.method).1
  have X0 : Stand p l e (oR 0 0 0 0) s m #[(.ref aC), (.int 0), (.ref bC), (.int 0), (.int 3)] below meth c s₁ [] 0 0 := Stand.of_body Bd
  have e0 : s₁.heap = h0 := by rw [← hh, Bd.state]; rfl
  have N0 := Fr.nil n0
  refine own_body (A := s₁.setTop (mkF m 0 #[rv aC, iv 0, rv bC, iv 0, iv 3, uu, uu] [])) (Q := QCA31 Z aC bC kc kb xA xB xC h0 n0) (fun t k => castTop (own_efCA31 m aC (0 : Int32) bC (0 : Int32) (3 : Int32)) k) ?_
  refine oIC (n := 1) X0 hx (0 : Int32) (hb hby own_d19_0) (by decide) rfl ?_
  refine ov (B := s₁.setTop (mkF m 3 #[rv aC, iv 0, rv bC, iv 0, iv 3, iv 0, uu] [])) (fun t k => XS.istore X0.here hx rfl (hb hby own_d19_1) rfl (l' := #[rv aC, iv 0, rv bC, iv 0, iv 3, iv 0, uu]) rfl k) ?_
  refine oIL (n := 5) X0 hx (hb hby own_d19_3) rfl rfl ?_
  refine oIL (n := 7) X0 hx (hb hby own_d19_5) rfl rfl ?_
  have hc7 : (0 : Int32) < (3 : Int32) := by decide
  refine ov (B := s₁.setTop (mkF m 10 #[rv aC, iv 0, rv bC, iv 0, iv 3, iv 0, uu] [])) (fun t k => XS.icmpNo X0.here hx rfl (hb hby own_d19_7) rfl (tlt hc7).2.1 k) ?_
  refine oALN (n := 11) X0 hx (hb hby own_d19_10) rfl rfl rfl ?_
  refine oILN (n := 12) X0 hx (hb hby own_d19_11) rfl rfl ?_
  obtain ⟨cl1, Ar1, q1, S1, M1, H1, G1⟩ := id Vc
  have hin1 : ¬ ((0 : Int32) < 0 ∨ cl1.slots.size ≤ ((0 : Int32)).toNatClampNeg) := inb_of S1 ⟨by decide, by decide⟩
  refine ov (B := s₁.setTop (mkF m 13 #[rv aC, iv 0, rv bC, iv 0, iv 3, iv 0, uu] [(.int xA)])) (fun t k => X0.caload hx (j := (0 : Int32)) (v := (.int xA)) (by rw [e0]; exact Ar1.1) (State.isArrayOf_alike hZ.alike Ar1.2.1) Ar1.2.2 hin1 (Has.at H1 hin1 rfl) (g := (mkF m 12 #[rv aC, iv 0, rv bC, iv 0, iv 3, iv 0, uu] [(.int 0), (.ref aC)])) rfl rfl (hb hby own_d19_12) _ k) ?_
  refine ov (B := s₁.setTop (mkF m 15 #[rv aC, iv 0, rv bC, iv 0, iv 3, iv 0, iv xA] [])) (fun t k => XS.istore X0.here hx rfl (hb hby own_d19_13) rfl (l' := #[rv aC, iv 0, rv bC, iv 0, iv 3, iv 0, iv xA]) rfl k) ?_
  refine oIL (n := 17) X0 hx (hb hby own_d19_15) rfl rfl ?_
  refine oSP (n := 20) X0 hx (255 : Int32) (hb hby own_d19_17) (by decide) rfl ?_
  have hc20 : ¬ ((255 : Int32) < xA) := hsA
  refine ov (B := s₁.setTop (mkF m 26 #[rv aC, iv 0, rv bC, iv 0, iv 3, iv 0, iv xA] [])) (fun t k => XS.icmpYes X0.here hx rfl (pc0 := 20) (pc' := 26) rfl (hb hby own_d19_20) rfl (flt hc20).2.2.2 (by decide) (by decide) k) ?_
  refine oALN (n := 27) X0 hx (hb hby own_d19_26) rfl rfl rfl ?_
  refine oILN (n := 28) X0 hx (hb hby own_d19_27) rfl rfl ?_
  refine oIL (n := 30) X0 hx (hb hby own_d19_28) rfl rfl ?_
  refine ov (B := s₁.setTop (mkF m 31 #[rv aC, iv 0, rv bC, iv 0, iv 3, iv 0, iv xA] [(.int (xA.toInt8.toInt32)), (.int 0), (.ref bC)])) (fun t k => XS.i2b X0.here hx rfl (hb hby own_d19_30) rfl k) ?_
  obtain ⟨cl2, Ar2, q2, S2, M2, H2, G2⟩ := id Vb
  obtain ⟨T3, h3, X3, e3, W3, st3⟩ := stB X0 hx hZ e0 Ar2 (j := (0 : Int32)) (inb_of S2 ⟨by decide, by decide⟩) (g := (mkF m 31 #[rv aC, iv 0, rv bC, iv 0, iv 3, iv 0, iv xA] [(.int (xA.toInt8.toInt32)), (.int 0), (.ref bC)])) rfl rfl (hb hby own_d19_31)
  have V3 : Arv Z h3 bC kb .byte (3 : Int32) [(.int (xA.toInt8.toInt32).toInt8.toInt32), (.int 0), (.int 0)] (.int 0) := Arv.set Ar2 q2 S2 M2 H2 G2 (fits_nar_byte _) W3 0 rfl (Nat.le_of_ble_eq_true rfl)
  have N3 := Fr.snoc X3 N0 g_bC
  refine ov (B := T3.setTop (mkF m 32 #[rv aC, iv 0, rv bC, iv 0, iv 3, iv 0, iv xA] [])) (fun t k => st3 t k) ?_
  refine ov (B := T3.setTop (mkF m 35 #[rv aC, iv 1, rv bC, iv 0, iv 3, iv 0, iv xA] [])) (fun t k => XS.iinc X3.here hx rfl (hb hby own_d19_32) rfl (l' := #[rv aC, iv 1, rv bC, iv 0, iv 3, iv 0, iv xA]) rfl k) ?_
  refine ov (B := T3.setTop (mkF m 38 #[rv aC, iv 1, rv bC, iv 1, iv 3, iv 0, iv xA] [])) (fun t k => XS.iinc X3.here hx rfl (hb hby own_d19_35) rfl (l' := #[rv aC, iv 1, rv bC, iv 1, iv 3, iv 0, iv xA]) rfl k) ?_
  refine ov (B := T3.setTop (mkF m 41 #[rv aC, iv 1, rv bC, iv 1, iv 3, iv 1, iv xA] [])) (fun t k => XS.iinc X3.here hx rfl (hb hby own_d19_38) rfl (l' := #[rv aC, iv 1, rv bC, iv 1, iv 3, iv 1, iv xA]) rfl k) ?_
  refine oGO (n := 3) X3 hx (hb hby own_d19_41) (by decide) (by decide) ?_
  refine oIL (n := 5) X3 hx (hb hby own_d19_3) rfl rfl ?_
  refine oIL (n := 7) X3 hx (hb hby own_d19_5) rfl rfl ?_
  have hc7 : (1 : Int32) < (3 : Int32) := by decide
  refine ov (B := T3.setTop (mkF m 10 #[rv aC, iv 1, rv bC, iv 1, iv 3, iv 1, iv xA] [])) (fun t k => XS.icmpNo X3.here hx rfl (hb hby own_d19_7) rfl (tlt hc7).2.1 k) ?_
  refine oALN (n := 11) X3 hx (hb hby own_d19_10) rfl rfl rfl ?_
  refine oILN (n := 12) X3 hx (hb hby own_d19_11) rfl rfl ?_
  obtain ⟨cl4, Ar4, q4, S4, M4, H4, G4⟩ := id (Vc.other W3 nab)
  have hin4 : ¬ ((1 : Int32) < 0 ∨ cl4.slots.size ≤ ((1 : Int32)).toNatClampNeg) := inb_of S4 ⟨by decide, by decide⟩
  refine ov (B := T3.setTop (mkF m 13 #[rv aC, iv 1, rv bC, iv 1, iv 3, iv 1, iv xA] [(.int xB)])) (fun t k => X3.caload hx (j := (1 : Int32)) (v := (.int xB)) (by rw [e3]; exact Ar4.1) (State.isArrayOf_alike hZ.alike Ar4.2.1) Ar4.2.2 hin4 (Has.at H4 hin4 rfl) (g := (mkF m 12 #[rv aC, iv 1, rv bC, iv 1, iv 3, iv 1, iv xA] [(.int 1), (.ref aC)])) rfl rfl (hb hby own_d19_12) _ k) ?_
  refine ov (B := T3.setTop (mkF m 15 #[rv aC, iv 1, rv bC, iv 1, iv 3, iv 1, iv xB] [])) (fun t k => XS.istore X3.here hx rfl (hb hby own_d19_13) rfl (l' := #[rv aC, iv 1, rv bC, iv 1, iv 3, iv 1, iv xB]) rfl k) ?_
  refine oIL (n := 17) X3 hx (hb hby own_d19_15) rfl rfl ?_
  refine oSP (n := 20) X3 hx (255 : Int32) (hb hby own_d19_17) (by decide) rfl ?_
  have hc20 : (255 : Int32) < xB := hbB
  refine ov (B := T3.setTop (mkF m 23 #[rv aC, iv 1, rv bC, iv 1, iv 3, iv 1, iv xB] [])) (fun t k => XS.icmpNo X3.here hx rfl (hb hby own_d19_20) rfl (tlt hc20).2.2.2 k) ?_
  refine oIL (n := 25) X3 hx (hb hby own_d19_23) rfl rfl ?_
  refine own_leaf X3 hx hlk (t := .int) Bd.returns rfl (Or.inl ⟨rfl, by simp, _, rfl⟩) (hb hby own_d19_25) (by decide) (by decide) ?_
  show QCA31 Z aC bC kc kb xA xB xC h0 n0 _ T3.heap _
  rw [e3]
  refine ⟨?_, N3, ((Keep.refl h0 [bC]).wr W3 (Or.inl (List.mem_of_getElem? (i := 0) rfl))), V3⟩
  rfl
theorem own_efCA32 (m : MethodId) (x0 : Addr) (x1 : Int32) (x2 : Addr) (x3 : Int32) (x4 : Int32) : entryFrame m #[(.ref x0), (.int x1), (.ref x2), (.int x3), (.int x4)] 7 = mkF m 0 #[rv x0, iv x1, rv x2, iv x3, iv x4, uu, uu] [] := by first | (simp [entryFrame, mkF, argsToLocals, Value.category]; done) | rfl
def QCA32 (Z : State) (aC : Addr) (bC : Addr) (kc : ClassId) (kb : ClassId) (xA : Int32) (xB : Int32) (xC : Int32) (h0 : Heap) (n0 : Nat) (v : Option Value) (h : Heap) (L : List Loc) : Prop := v = some (.int (2 : Int32)) ∧ Fr n0 L ∧ Keep h0 h [bC] ∧ (Arv Z h bC kb .byte (3 : Int32) [(.int xA.toInt8.toInt32.toInt8.toInt32), (.int xB.toInt8.toInt32.toInt8.toInt32), (.int (0 : Int32))] (.int (0 : Int32)))
set_option maxRecDepth 65536 in
set_option maxHeartbeats 40000000 in
theorem rmCA32 (l : Launch) (Z : State) (a0 : Array Value) (hw : ∀ d ∈ tables_1, d.before a0 Z = true) (ws : List Jvm.Cond) (aC : Addr) (bC : Addr) (kc : ClassId) (kb : ClassId) (xA : Int32) (xB : Int32) (xC : Int32) (h0 : Heap) (n0 : Nat) (Z0 : n0 ≤ h0.size) (Vc : Arv Z h0 aC kc .char (3 : Int32) [(.int xA), (.int xB), (.int xC)] (.int (0 : Int32))) (Vb : Arv Z h0 bC kb .byte (3 : Int32) [(.int (0 : Int32)), (.int (0 : Int32)), (.int (0 : Int32))] (.int (0 : Int32))) (nab : aC ≠ bC) (g_bC : n0 ≤ bC) (hsA : ¬ (255 : Int32) < xA) (hsB : ¬ (255 : Int32) < xB) (hbC : (255 : Int32) < xC) (huC : own_U xC) :
    MetFree l (⟨sAB, "compress", "([CI[BII)I"⟩ : MethodName) (head1 (Jvm.Cond.code (⟨sAB, "compress", "([CI[BII)I"⟩ : MethodName) jdk_52_method_21_code 7 (some .int) :: ws) (oR 0 0 0 0)) (fun a U => a = #[(.ref aC), (.int 0), (.ref bC), (.int 0), (.int 3)] ∧ Z.Warmed39 U.vm ∧ U.heap = h0) (fun _ _ _ _ _ => True) (fun _ U o U' => ∃ v L, o = .returned v ∧ QCA32 Z aC bC kc kb xA xB xC h0 n0 v U'.heap L ∧ FrameEnd U o U' L (oR 0 0 0 0).cells (oR 0 0 0 0).slots) := by
  refine MetFree.of_bodySF (plainFor_of_name own_pn0) hisR ?_
  intro p e s m args below meth c s₁ Bd hml0 hP hK
  obtain ⟨rfl, hZ, hh⟩ := hP
  have hx := Bd.exec
  have hby := Bd.bytes
  have hlk : meth.locks = false := Bd.notSynchronized
  have hml : c.maxLocals = 7 := hml0
  have hown : s.vm.findClass sAB = some m.cls := findClass_of_methodNamed Bd.named
  have hnm := (name_of_methodNamed Bd.named Bd.method).1
  have X0 : Stand p l e (oR 0 0 0 0) s m #[(.ref aC), (.int 0), (.ref bC), (.int 0), (.int 3)] below meth c s₁ [] 0 0 := Stand.of_body Bd
  have e0 : s₁.heap = h0 := by rw [← hh, Bd.state]; rfl
  have N0 := Fr.nil n0
  refine own_body (A := s₁.setTop (mkF m 0 #[rv aC, iv 0, rv bC, iv 0, iv 3, uu, uu] [])) (Q := QCA32 Z aC bC kc kb xA xB xC h0 n0) (fun t k => castTop (own_efCA32 m aC (0 : Int32) bC (0 : Int32) (3 : Int32)) k) ?_
  refine oIC (n := 1) X0 hx (0 : Int32) (hb hby own_d19_0) (by decide) rfl ?_
  refine ov (B := s₁.setTop (mkF m 3 #[rv aC, iv 0, rv bC, iv 0, iv 3, iv 0, uu] [])) (fun t k => XS.istore X0.here hx rfl (hb hby own_d19_1) rfl (l' := #[rv aC, iv 0, rv bC, iv 0, iv 3, iv 0, uu]) rfl k) ?_
  refine oIL (n := 5) X0 hx (hb hby own_d19_3) rfl rfl ?_
  refine oIL (n := 7) X0 hx (hb hby own_d19_5) rfl rfl ?_
  have hc7 : (0 : Int32) < (3 : Int32) := by decide
  refine ov (B := s₁.setTop (mkF m 10 #[rv aC, iv 0, rv bC, iv 0, iv 3, iv 0, uu] [])) (fun t k => XS.icmpNo X0.here hx rfl (hb hby own_d19_7) rfl (tlt hc7).2.1 k) ?_
  refine oALN (n := 11) X0 hx (hb hby own_d19_10) rfl rfl rfl ?_
  refine oILN (n := 12) X0 hx (hb hby own_d19_11) rfl rfl ?_
  obtain ⟨cl1, Ar1, q1, S1, M1, H1, G1⟩ := id Vc
  have hin1 : ¬ ((0 : Int32) < 0 ∨ cl1.slots.size ≤ ((0 : Int32)).toNatClampNeg) := inb_of S1 ⟨by decide, by decide⟩
  refine ov (B := s₁.setTop (mkF m 13 #[rv aC, iv 0, rv bC, iv 0, iv 3, iv 0, uu] [(.int xA)])) (fun t k => X0.caload hx (j := (0 : Int32)) (v := (.int xA)) (by rw [e0]; exact Ar1.1) (State.isArrayOf_alike hZ.alike Ar1.2.1) Ar1.2.2 hin1 (Has.at H1 hin1 rfl) (g := (mkF m 12 #[rv aC, iv 0, rv bC, iv 0, iv 3, iv 0, uu] [(.int 0), (.ref aC)])) rfl rfl (hb hby own_d19_12) _ k) ?_
  refine ov (B := s₁.setTop (mkF m 15 #[rv aC, iv 0, rv bC, iv 0, iv 3, iv 0, iv xA] [])) (fun t k => XS.istore X0.here hx rfl (hb hby own_d19_13) rfl (l' := #[rv aC, iv 0, rv bC, iv 0, iv 3, iv 0, iv xA]) rfl k) ?_
  refine oIL (n := 17) X0 hx (hb hby own_d19_15) rfl rfl ?_
  refine oSP (n := 20) X0 hx (255 : Int32) (hb hby own_d19_17) (by decide) rfl ?_
  have hc20 : ¬ ((255 : Int32) < xA) := hsA
  refine ov (B := s₁.setTop (mkF m 26 #[rv aC, iv 0, rv bC, iv 0, iv 3, iv 0, iv xA] [])) (fun t k => XS.icmpYes X0.here hx rfl (pc0 := 20) (pc' := 26) rfl (hb hby own_d19_20) rfl (flt hc20).2.2.2 (by decide) (by decide) k) ?_
  refine oALN (n := 27) X0 hx (hb hby own_d19_26) rfl rfl rfl ?_
  refine oILN (n := 28) X0 hx (hb hby own_d19_27) rfl rfl ?_
  refine oIL (n := 30) X0 hx (hb hby own_d19_28) rfl rfl ?_
  refine ov (B := s₁.setTop (mkF m 31 #[rv aC, iv 0, rv bC, iv 0, iv 3, iv 0, iv xA] [(.int (xA.toInt8.toInt32)), (.int 0), (.ref bC)])) (fun t k => XS.i2b X0.here hx rfl (hb hby own_d19_30) rfl k) ?_
  obtain ⟨cl2, Ar2, q2, S2, M2, H2, G2⟩ := id Vb
  obtain ⟨T3, h3, X3, e3, W3, st3⟩ := stB X0 hx hZ e0 Ar2 (j := (0 : Int32)) (inb_of S2 ⟨by decide, by decide⟩) (g := (mkF m 31 #[rv aC, iv 0, rv bC, iv 0, iv 3, iv 0, iv xA] [(.int (xA.toInt8.toInt32)), (.int 0), (.ref bC)])) rfl rfl (hb hby own_d19_31)
  have V3 : Arv Z h3 bC kb .byte (3 : Int32) [(.int (xA.toInt8.toInt32).toInt8.toInt32), (.int 0), (.int 0)] (.int 0) := Arv.set Ar2 q2 S2 M2 H2 G2 (fits_nar_byte _) W3 0 rfl (Nat.le_of_ble_eq_true rfl)
  have N3 := Fr.snoc X3 N0 g_bC
  refine ov (B := T3.setTop (mkF m 32 #[rv aC, iv 0, rv bC, iv 0, iv 3, iv 0, iv xA] [])) (fun t k => st3 t k) ?_
  refine ov (B := T3.setTop (mkF m 35 #[rv aC, iv 1, rv bC, iv 0, iv 3, iv 0, iv xA] [])) (fun t k => XS.iinc X3.here hx rfl (hb hby own_d19_32) rfl (l' := #[rv aC, iv 1, rv bC, iv 0, iv 3, iv 0, iv xA]) rfl k) ?_
  refine ov (B := T3.setTop (mkF m 38 #[rv aC, iv 1, rv bC, iv 1, iv 3, iv 0, iv xA] [])) (fun t k => XS.iinc X3.here hx rfl (hb hby own_d19_35) rfl (l' := #[rv aC, iv 1, rv bC, iv 1, iv 3, iv 0, iv xA]) rfl k) ?_
  refine ov (B := T3.setTop (mkF m 41 #[rv aC, iv 1, rv bC, iv 1, iv 3, iv 1, iv xA] [])) (fun t k => XS.iinc X3.here hx rfl (hb hby own_d19_38) rfl (l' := #[rv aC, iv 1, rv bC, iv 1, iv 3, iv 1, iv xA]) rfl k) ?_
  refine oGO (n := 3) X3 hx (hb hby own_d19_41) (by decide) (by decide) ?_
  refine oIL (n := 5) X3 hx (hb hby own_d19_3) rfl rfl ?_
  refine oIL (n := 7) X3 hx (hb hby own_d19_5) rfl rfl ?_
  have hc7 : (1 : Int32) < (3 : Int32) := by decide
  refine ov (B := T3.setTop (mkF m 10 #[rv aC, iv 1, rv bC, iv 1, iv 3, iv 1, iv xA] [])) (fun t k => XS.icmpNo X3.here hx rfl (hb hby own_d19_7) rfl (tlt hc7).2.1 k) ?_
  refine oALN (n := 11) X3 hx (hb hby own_d19_10) rfl rfl rfl ?_
  refine oILN (n := 12) X3 hx (hb hby own_d19_11) rfl rfl ?_
  obtain ⟨cl4, Ar4, q4, S4, M4, H4, G4⟩ := id (Vc.other W3 nab)
  have hin4 : ¬ ((1 : Int32) < 0 ∨ cl4.slots.size ≤ ((1 : Int32)).toNatClampNeg) := inb_of S4 ⟨by decide, by decide⟩
  refine ov (B := T3.setTop (mkF m 13 #[rv aC, iv 1, rv bC, iv 1, iv 3, iv 1, iv xA] [(.int xB)])) (fun t k => X3.caload hx (j := (1 : Int32)) (v := (.int xB)) (by rw [e3]; exact Ar4.1) (State.isArrayOf_alike hZ.alike Ar4.2.1) Ar4.2.2 hin4 (Has.at H4 hin4 rfl) (g := (mkF m 12 #[rv aC, iv 1, rv bC, iv 1, iv 3, iv 1, iv xA] [(.int 1), (.ref aC)])) rfl rfl (hb hby own_d19_12) _ k) ?_
  refine ov (B := T3.setTop (mkF m 15 #[rv aC, iv 1, rv bC, iv 1, iv 3, iv 1, iv xB] [])) (fun t k => XS.istore X3.here hx rfl (hb hby own_d19_13) rfl (l' := #[rv aC, iv 1, rv bC, iv 1, iv 3, iv 1, iv xB]) rfl k) ?_
  refine oIL (n := 17) X3 hx (hb hby own_d19_15) rfl rfl ?_
  refine oSP (n := 20) X3 hx (255 : Int32) (hb hby own_d19_17) (by decide) rfl ?_
  have hc20 : ¬ ((255 : Int32) < xB) := hsB
  refine ov (B := T3.setTop (mkF m 26 #[rv aC, iv 1, rv bC, iv 1, iv 3, iv 1, iv xB] [])) (fun t k => XS.icmpYes X3.here hx rfl (pc0 := 20) (pc' := 26) rfl (hb hby own_d19_20) rfl (flt hc20).2.2.2 (by decide) (by decide) k) ?_
  refine oALN (n := 27) X3 hx (hb hby own_d19_26) rfl rfl rfl ?_
  refine oILN (n := 28) X3 hx (hb hby own_d19_27) rfl rfl ?_
  refine oIL (n := 30) X3 hx (hb hby own_d19_28) rfl rfl ?_
  refine ov (B := T3.setTop (mkF m 31 #[rv aC, iv 1, rv bC, iv 1, iv 3, iv 1, iv xB] [(.int (xB.toInt8.toInt32)), (.int 1), (.ref bC)])) (fun t k => XS.i2b X3.here hx rfl (hb hby own_d19_30) rfl k) ?_
  obtain ⟨cl5, Ar5, q5, S5, M5, H5, G5⟩ := id V3
  obtain ⟨T6, h6, X6, e6, W6, st6⟩ := stB X3 hx hZ e3 Ar5 (j := (1 : Int32)) (inb_of S5 ⟨by decide, by decide⟩) (g := (mkF m 31 #[rv aC, iv 1, rv bC, iv 1, iv 3, iv 1, iv xB] [(.int (xB.toInt8.toInt32)), (.int 1), (.ref bC)])) rfl rfl (hb hby own_d19_31)
  have V6 : Arv Z h6 bC kb .byte (3 : Int32) [(.int (xA.toInt8.toInt32).toInt8.toInt32), (.int (xB.toInt8.toInt32).toInt8.toInt32), (.int 0)] (.int 0) := Arv.set Ar5 q5 S5 M5 H5 G5 (fits_nar_byte _) W6 1 rfl (Nat.le_of_ble_eq_true rfl)
  have N6 := Fr.snoc X6 N3 g_bC
  refine ov (B := T6.setTop (mkF m 32 #[rv aC, iv 1, rv bC, iv 1, iv 3, iv 1, iv xB] [])) (fun t k => st6 t k) ?_
  refine ov (B := T6.setTop (mkF m 35 #[rv aC, iv 2, rv bC, iv 1, iv 3, iv 1, iv xB] [])) (fun t k => XS.iinc X6.here hx rfl (hb hby own_d19_32) rfl (l' := #[rv aC, iv 2, rv bC, iv 1, iv 3, iv 1, iv xB]) rfl k) ?_
  refine ov (B := T6.setTop (mkF m 38 #[rv aC, iv 2, rv bC, iv 2, iv 3, iv 1, iv xB] [])) (fun t k => XS.iinc X6.here hx rfl (hb hby own_d19_35) rfl (l' := #[rv aC, iv 2, rv bC, iv 2, iv 3, iv 1, iv xB]) rfl k) ?_
  refine ov (B := T6.setTop (mkF m 41 #[rv aC, iv 2, rv bC, iv 2, iv 3, iv 2, iv xB] [])) (fun t k => XS.iinc X6.here hx rfl (hb hby own_d19_38) rfl (l' := #[rv aC, iv 2, rv bC, iv 2, iv 3, iv 2, iv xB]) rfl k) ?_
  refine oGO (n := 3) X6 hx (hb hby own_d19_41) (by decide) (by decide) ?_
  refine oIL (n := 5) X6 hx (hb hby own_d19_3) rfl rfl ?_
  refine oIL (n := 7) X6 hx (hb hby own_d19_5) rfl rfl ?_
  have hc7 : (2 : Int32) < (3 : Int32) := by decide
  refine ov (B := T6.setTop (mkF m 10 #[rv aC, iv 2, rv bC, iv 2, iv 3, iv 2, iv xB] [])) (fun t k => XS.icmpNo X6.here hx rfl (hb hby own_d19_7) rfl (tlt hc7).2.1 k) ?_
  refine oALN (n := 11) X6 hx (hb hby own_d19_10) rfl rfl rfl ?_
  refine oILN (n := 12) X6 hx (hb hby own_d19_11) rfl rfl ?_
  obtain ⟨cl7, Ar7, q7, S7, M7, H7, G7⟩ := id ((Vc.other W3 nab).other W6 nab)
  have hin7 : ¬ ((2 : Int32) < 0 ∨ cl7.slots.size ≤ ((2 : Int32)).toNatClampNeg) := inb_of S7 ⟨by decide, by decide⟩
  refine ov (B := T6.setTop (mkF m 13 #[rv aC, iv 2, rv bC, iv 2, iv 3, iv 2, iv xB] [(.int xC)])) (fun t k => X6.caload hx (j := (2 : Int32)) (v := (.int xC)) (by rw [e6]; exact Ar7.1) (State.isArrayOf_alike hZ.alike Ar7.2.1) Ar7.2.2 hin7 (Has.at H7 hin7 rfl) (g := (mkF m 12 #[rv aC, iv 2, rv bC, iv 2, iv 3, iv 2, iv xB] [(.int 2), (.ref aC)])) rfl rfl (hb hby own_d19_12) _ k) ?_
  refine ov (B := T6.setTop (mkF m 15 #[rv aC, iv 2, rv bC, iv 2, iv 3, iv 2, iv xC] [])) (fun t k => XS.istore X6.here hx rfl (hb hby own_d19_13) rfl (l' := #[rv aC, iv 2, rv bC, iv 2, iv 3, iv 2, iv xC]) rfl k) ?_
  refine oIL (n := 17) X6 hx (hb hby own_d19_15) rfl rfl ?_
  refine oSP (n := 20) X6 hx (255 : Int32) (hb hby own_d19_17) (by decide) rfl ?_
  have hc20 : (255 : Int32) < xC := hbC
  refine ov (B := T6.setTop (mkF m 23 #[rv aC, iv 2, rv bC, iv 2, iv 3, iv 2, iv xC] [])) (fun t k => XS.icmpNo X6.here hx rfl (hb hby own_d19_20) rfl (tlt hc20).2.2.2 k) ?_
  refine oIL (n := 25) X6 hx (hb hby own_d19_23) rfl rfl ?_
  refine own_leaf X6 hx hlk (t := .int) Bd.returns rfl (Or.inl ⟨rfl, by simp, _, rfl⟩) (hb hby own_d19_25) (by decide) (by decide) ?_
  show QCA32 Z aC bC kc kb xA xB xC h0 n0 _ T6.heap _
  rw [e6]
  refine ⟨?_, N6, (((Keep.refl h0 [bC]).wr W3 (Or.inl (List.mem_of_getElem? (i := 0) rfl))).wr W6 (Or.inl (List.mem_of_getElem? (i := 0) rfl))), V6⟩
  rfl
theorem own_efCA33 (m : MethodId) (x0 : Addr) (x1 : Int32) (x2 : Addr) (x3 : Int32) (x4 : Int32) : entryFrame m #[(.ref x0), (.int x1), (.ref x2), (.int x3), (.int x4)] 7 = mkF m 0 #[rv x0, iv x1, rv x2, iv x3, iv x4, uu, uu] [] := by first | (simp [entryFrame, mkF, argsToLocals, Value.category]; done) | rfl
def QCA33 (Z : State) (aC : Addr) (bC : Addr) (kc : ClassId) (kb : ClassId) (xA : Int32) (xB : Int32) (xC : Int32) (h0 : Heap) (n0 : Nat) (v : Option Value) (h : Heap) (L : List Loc) : Prop := v = some (.int (3 : Int32)) ∧ Fr n0 L ∧ Keep h0 h [bC] ∧ (Arv Z h bC kb .byte (3 : Int32) [(.int xA.toInt8.toInt32.toInt8.toInt32), (.int xB.toInt8.toInt32.toInt8.toInt32), (.int xC.toInt8.toInt32.toInt8.toInt32)] (.int (0 : Int32)))
set_option maxRecDepth 65536 in
set_option maxHeartbeats 40000000 in
theorem rmCA33 (l : Launch) (Z : State) (a0 : Array Value) (hw : ∀ d ∈ tables_1, d.before a0 Z = true) (ws : List Jvm.Cond) (aC : Addr) (bC : Addr) (kc : ClassId) (kb : ClassId) (xA : Int32) (xB : Int32) (xC : Int32) (h0 : Heap) (n0 : Nat) (Z0 : n0 ≤ h0.size) (Vc : Arv Z h0 aC kc .char (3 : Int32) [(.int xA), (.int xB), (.int xC)] (.int (0 : Int32))) (Vb : Arv Z h0 bC kb .byte (3 : Int32) [(.int (0 : Int32)), (.int (0 : Int32)), (.int (0 : Int32))] (.int (0 : Int32))) (nab : aC ≠ bC) (g_bC : n0 ≤ bC) (hsA : ¬ (255 : Int32) < xA) (hsB : ¬ (255 : Int32) < xB) (hsC : ¬ (255 : Int32) < xC) :
    MetFree l (⟨sAB, "compress", "([CI[BII)I"⟩ : MethodName) (head1 (Jvm.Cond.code (⟨sAB, "compress", "([CI[BII)I"⟩ : MethodName) jdk_52_method_21_code 7 (some .int) :: ws) (oR 0 0 0 0)) (fun a U => a = #[(.ref aC), (.int 0), (.ref bC), (.int 0), (.int 3)] ∧ Z.Warmed39 U.vm ∧ U.heap = h0) (fun _ _ _ _ _ => True) (fun _ U o U' => ∃ v L, o = .returned v ∧ QCA33 Z aC bC kc kb xA xB xC h0 n0 v U'.heap L ∧ FrameEnd U o U' L (oR 0 0 0 0).cells (oR 0 0 0 0).slots) := by
  refine MetFree.of_bodySF (plainFor_of_name own_pn0) hisR ?_
  intro p e s m args below meth c s₁ Bd hml0 hP hK
  obtain ⟨rfl, hZ, hh⟩ := hP
  have hx := Bd.exec
  have hby := Bd.bytes
  have hlk : meth.locks = false := Bd.notSynchronized
  have hml : c.maxLocals = 7 := hml0
  have hown : s.vm.findClass sAB = some m.cls := findClass_of_methodNamed Bd.named
  have hnm := (name_of_methodNamed Bd.named Bd.method).1
  have X0 : Stand p l e (oR 0 0 0 0) s m #[(.ref aC), (.int 0), (.ref bC), (.int 0), (.int 3)] below meth c s₁ [] 0 0 := Stand.of_body Bd
  have e0 : s₁.heap = h0 := by rw [← hh, Bd.state]; rfl
  have N0 := Fr.nil n0
  refine own_body (A := s₁.setTop (mkF m 0 #[rv aC, iv 0, rv bC, iv 0, iv 3, uu, uu] [])) (Q := QCA33 Z aC bC kc kb xA xB xC h0 n0) (fun t k => castTop (own_efCA33 m aC (0 : Int32) bC (0 : Int32) (3 : Int32)) k) ?_
  refine oIC (n := 1) X0 hx (0 : Int32) (hb hby own_d19_0) (by decide) rfl ?_
  refine ov (B := s₁.setTop (mkF m 3 #[rv aC, iv 0, rv bC, iv 0, iv 3, iv 0, uu] [])) (fun t k => XS.istore X0.here hx rfl (hb hby own_d19_1) rfl (l' := #[rv aC, iv 0, rv bC, iv 0, iv 3, iv 0, uu]) rfl k) ?_
  refine oIL (n := 5) X0 hx (hb hby own_d19_3) rfl rfl ?_
  refine oIL (n := 7) X0 hx (hb hby own_d19_5) rfl rfl ?_
  have hc7 : (0 : Int32) < (3 : Int32) := by decide
  refine ov (B := s₁.setTop (mkF m 10 #[rv aC, iv 0, rv bC, iv 0, iv 3, iv 0, uu] [])) (fun t k => XS.icmpNo X0.here hx rfl (hb hby own_d19_7) rfl (tlt hc7).2.1 k) ?_
  refine oALN (n := 11) X0 hx (hb hby own_d19_10) rfl rfl rfl ?_
  refine oILN (n := 12) X0 hx (hb hby own_d19_11) rfl rfl ?_
  obtain ⟨cl1, Ar1, q1, S1, M1, H1, G1⟩ := id Vc
  have hin1 : ¬ ((0 : Int32) < 0 ∨ cl1.slots.size ≤ ((0 : Int32)).toNatClampNeg) := inb_of S1 ⟨by decide, by decide⟩
  refine ov (B := s₁.setTop (mkF m 13 #[rv aC, iv 0, rv bC, iv 0, iv 3, iv 0, uu] [(.int xA)])) (fun t k => X0.caload hx (j := (0 : Int32)) (v := (.int xA)) (by rw [e0]; exact Ar1.1) (State.isArrayOf_alike hZ.alike Ar1.2.1) Ar1.2.2 hin1 (Has.at H1 hin1 rfl) (g := (mkF m 12 #[rv aC, iv 0, rv bC, iv 0, iv 3, iv 0, uu] [(.int 0), (.ref aC)])) rfl rfl (hb hby own_d19_12) _ k) ?_
  refine ov (B := s₁.setTop (mkF m 15 #[rv aC, iv 0, rv bC, iv 0, iv 3, iv 0, iv xA] [])) (fun t k => XS.istore X0.here hx rfl (hb hby own_d19_13) rfl (l' := #[rv aC, iv 0, rv bC, iv 0, iv 3, iv 0, iv xA]) rfl k) ?_
  refine oIL (n := 17) X0 hx (hb hby own_d19_15) rfl rfl ?_
  refine oSP (n := 20) X0 hx (255 : Int32) (hb hby own_d19_17) (by decide) rfl ?_
  have hc20 : ¬ ((255 : Int32) < xA) := hsA
  refine ov (B := s₁.setTop (mkF m 26 #[rv aC, iv 0, rv bC, iv 0, iv 3, iv 0, iv xA] [])) (fun t k => XS.icmpYes X0.here hx rfl (pc0 := 20) (pc' := 26) rfl (hb hby own_d19_20) rfl (flt hc20).2.2.2 (by decide) (by decide) k) ?_
  refine oALN (n := 27) X0 hx (hb hby own_d19_26) rfl rfl rfl ?_
  refine oILN (n := 28) X0 hx (hb hby own_d19_27) rfl rfl ?_
  refine oIL (n := 30) X0 hx (hb hby own_d19_28) rfl rfl ?_
  refine ov (B := s₁.setTop (mkF m 31 #[rv aC, iv 0, rv bC, iv 0, iv 3, iv 0, iv xA] [(.int (xA.toInt8.toInt32)), (.int 0), (.ref bC)])) (fun t k => XS.i2b X0.here hx rfl (hb hby own_d19_30) rfl k) ?_
  obtain ⟨cl2, Ar2, q2, S2, M2, H2, G2⟩ := id Vb
  obtain ⟨T3, h3, X3, e3, W3, st3⟩ := stB X0 hx hZ e0 Ar2 (j := (0 : Int32)) (inb_of S2 ⟨by decide, by decide⟩) (g := (mkF m 31 #[rv aC, iv 0, rv bC, iv 0, iv 3, iv 0, iv xA] [(.int (xA.toInt8.toInt32)), (.int 0), (.ref bC)])) rfl rfl (hb hby own_d19_31)
  have V3 : Arv Z h3 bC kb .byte (3 : Int32) [(.int (xA.toInt8.toInt32).toInt8.toInt32), (.int 0), (.int 0)] (.int 0) := Arv.set Ar2 q2 S2 M2 H2 G2 (fits_nar_byte _) W3 0 rfl (Nat.le_of_ble_eq_true rfl)
  have N3 := Fr.snoc X3 N0 g_bC
  refine ov (B := T3.setTop (mkF m 32 #[rv aC, iv 0, rv bC, iv 0, iv 3, iv 0, iv xA] [])) (fun t k => st3 t k) ?_
  refine ov (B := T3.setTop (mkF m 35 #[rv aC, iv 1, rv bC, iv 0, iv 3, iv 0, iv xA] [])) (fun t k => XS.iinc X3.here hx rfl (hb hby own_d19_32) rfl (l' := #[rv aC, iv 1, rv bC, iv 0, iv 3, iv 0, iv xA]) rfl k) ?_
  refine ov (B := T3.setTop (mkF m 38 #[rv aC, iv 1, rv bC, iv 1, iv 3, iv 0, iv xA] [])) (fun t k => XS.iinc X3.here hx rfl (hb hby own_d19_35) rfl (l' := #[rv aC, iv 1, rv bC, iv 1, iv 3, iv 0, iv xA]) rfl k) ?_
  refine ov (B := T3.setTop (mkF m 41 #[rv aC, iv 1, rv bC, iv 1, iv 3, iv 1, iv xA] [])) (fun t k => XS.iinc X3.here hx rfl (hb hby own_d19_38) rfl (l' := #[rv aC, iv 1, rv bC, iv 1, iv 3, iv 1, iv xA]) rfl k) ?_
  refine oGO (n := 3) X3 hx (hb hby own_d19_41) (by decide) (by decide) ?_
  refine oIL (n := 5) X3 hx (hb hby own_d19_3) rfl rfl ?_
  refine oIL (n := 7) X3 hx (hb hby own_d19_5) rfl rfl ?_
  have hc7 : (1 : Int32) < (3 : Int32) := by decide
  refine ov (B := T3.setTop (mkF m 10 #[rv aC, iv 1, rv bC, iv 1, iv 3, iv 1, iv xA] [])) (fun t k => XS.icmpNo X3.here hx rfl (hb hby own_d19_7) rfl (tlt hc7).2.1 k) ?_
  refine oALN (n := 11) X3 hx (hb hby own_d19_10) rfl rfl rfl ?_
  refine oILN (n := 12) X3 hx (hb hby own_d19_11) rfl rfl ?_
  obtain ⟨cl4, Ar4, q4, S4, M4, H4, G4⟩ := id (Vc.other W3 nab)
  have hin4 : ¬ ((1 : Int32) < 0 ∨ cl4.slots.size ≤ ((1 : Int32)).toNatClampNeg) := inb_of S4 ⟨by decide, by decide⟩
  refine ov (B := T3.setTop (mkF m 13 #[rv aC, iv 1, rv bC, iv 1, iv 3, iv 1, iv xA] [(.int xB)])) (fun t k => X3.caload hx (j := (1 : Int32)) (v := (.int xB)) (by rw [e3]; exact Ar4.1) (State.isArrayOf_alike hZ.alike Ar4.2.1) Ar4.2.2 hin4 (Has.at H4 hin4 rfl) (g := (mkF m 12 #[rv aC, iv 1, rv bC, iv 1, iv 3, iv 1, iv xA] [(.int 1), (.ref aC)])) rfl rfl (hb hby own_d19_12) _ k) ?_
  refine ov (B := T3.setTop (mkF m 15 #[rv aC, iv 1, rv bC, iv 1, iv 3, iv 1, iv xB] [])) (fun t k => XS.istore X3.here hx rfl (hb hby own_d19_13) rfl (l' := #[rv aC, iv 1, rv bC, iv 1, iv 3, iv 1, iv xB]) rfl k) ?_
  refine oIL (n := 17) X3 hx (hb hby own_d19_15) rfl rfl ?_
  refine oSP (n := 20) X3 hx (255 : Int32) (hb hby own_d19_17) (by decide) rfl ?_
  have hc20 : ¬ ((255 : Int32) < xB) := hsB
  refine ov (B := T3.setTop (mkF m 26 #[rv aC, iv 1, rv bC, iv 1, iv 3, iv 1, iv xB] [])) (fun t k => XS.icmpYes X3.here hx rfl (pc0 := 20) (pc' := 26) rfl (hb hby own_d19_20) rfl (flt hc20).2.2.2 (by decide) (by decide) k) ?_
  refine oALN (n := 27) X3 hx (hb hby own_d19_26) rfl rfl rfl ?_
  refine oILN (n := 28) X3 hx (hb hby own_d19_27) rfl rfl ?_
  refine oIL (n := 30) X3 hx (hb hby own_d19_28) rfl rfl ?_
  refine ov (B := T3.setTop (mkF m 31 #[rv aC, iv 1, rv bC, iv 1, iv 3, iv 1, iv xB] [(.int (xB.toInt8.toInt32)), (.int 1), (.ref bC)])) (fun t k => XS.i2b X3.here hx rfl (hb hby own_d19_30) rfl k) ?_
  obtain ⟨cl5, Ar5, q5, S5, M5, H5, G5⟩ := id V3
  obtain ⟨T6, h6, X6, e6, W6, st6⟩ := stB X3 hx hZ e3 Ar5 (j := (1 : Int32)) (inb_of S5 ⟨by decide, by decide⟩) (g := (mkF m 31 #[rv aC, iv 1, rv bC, iv 1, iv 3, iv 1, iv xB] [(.int (xB.toInt8.toInt32)), (.int 1), (.ref bC)])) rfl rfl (hb hby own_d19_31)
  have V6 : Arv Z h6 bC kb .byte (3 : Int32) [(.int (xA.toInt8.toInt32).toInt8.toInt32), (.int (xB.toInt8.toInt32).toInt8.toInt32), (.int 0)] (.int 0) := Arv.set Ar5 q5 S5 M5 H5 G5 (fits_nar_byte _) W6 1 rfl (Nat.le_of_ble_eq_true rfl)
  have N6 := Fr.snoc X6 N3 g_bC
  refine ov (B := T6.setTop (mkF m 32 #[rv aC, iv 1, rv bC, iv 1, iv 3, iv 1, iv xB] [])) (fun t k => st6 t k) ?_
  refine ov (B := T6.setTop (mkF m 35 #[rv aC, iv 2, rv bC, iv 1, iv 3, iv 1, iv xB] [])) (fun t k => XS.iinc X6.here hx rfl (hb hby own_d19_32) rfl (l' := #[rv aC, iv 2, rv bC, iv 1, iv 3, iv 1, iv xB]) rfl k) ?_
  refine ov (B := T6.setTop (mkF m 38 #[rv aC, iv 2, rv bC, iv 2, iv 3, iv 1, iv xB] [])) (fun t k => XS.iinc X6.here hx rfl (hb hby own_d19_35) rfl (l' := #[rv aC, iv 2, rv bC, iv 2, iv 3, iv 1, iv xB]) rfl k) ?_
  refine ov (B := T6.setTop (mkF m 41 #[rv aC, iv 2, rv bC, iv 2, iv 3, iv 2, iv xB] [])) (fun t k => XS.iinc X6.here hx rfl (hb hby own_d19_38) rfl (l' := #[rv aC, iv 2, rv bC, iv 2, iv 3, iv 2, iv xB]) rfl k) ?_
  refine oGO (n := 3) X6 hx (hb hby own_d19_41) (by decide) (by decide) ?_
  refine oIL (n := 5) X6 hx (hb hby own_d19_3) rfl rfl ?_
  refine oIL (n := 7) X6 hx (hb hby own_d19_5) rfl rfl ?_
  have hc7 : (2 : Int32) < (3 : Int32) := by decide
  refine ov (B := T6.setTop (mkF m 10 #[rv aC, iv 2, rv bC, iv 2, iv 3, iv 2, iv xB] [])) (fun t k => XS.icmpNo X6.here hx rfl (hb hby own_d19_7) rfl (tlt hc7).2.1 k) ?_
  refine oALN (n := 11) X6 hx (hb hby own_d19_10) rfl rfl rfl ?_
  refine oILN (n := 12) X6 hx (hb hby own_d19_11) rfl rfl ?_
  obtain ⟨cl7, Ar7, q7, S7, M7, H7, G7⟩ := id ((Vc.other W3 nab).other W6 nab)
  have hin7 : ¬ ((2 : Int32) < 0 ∨ cl7.slots.size ≤ ((2 : Int32)).toNatClampNeg) := inb_of S7 ⟨by decide, by decide⟩
  refine ov (B := T6.setTop (mkF m 13 #[rv aC, iv 2, rv bC, iv 2, iv 3, iv 2, iv xB] [(.int xC)])) (fun t k => X6.caload hx (j := (2 : Int32)) (v := (.int xC)) (by rw [e6]; exact Ar7.1) (State.isArrayOf_alike hZ.alike Ar7.2.1) Ar7.2.2 hin7 (Has.at H7 hin7 rfl) (g := (mkF m 12 #[rv aC, iv 2, rv bC, iv 2, iv 3, iv 2, iv xB] [(.int 2), (.ref aC)])) rfl rfl (hb hby own_d19_12) _ k) ?_
  refine ov (B := T6.setTop (mkF m 15 #[rv aC, iv 2, rv bC, iv 2, iv 3, iv 2, iv xC] [])) (fun t k => XS.istore X6.here hx rfl (hb hby own_d19_13) rfl (l' := #[rv aC, iv 2, rv bC, iv 2, iv 3, iv 2, iv xC]) rfl k) ?_
  refine oIL (n := 17) X6 hx (hb hby own_d19_15) rfl rfl ?_
  refine oSP (n := 20) X6 hx (255 : Int32) (hb hby own_d19_17) (by decide) rfl ?_
  have hc20 : ¬ ((255 : Int32) < xC) := hsC
  refine ov (B := T6.setTop (mkF m 26 #[rv aC, iv 2, rv bC, iv 2, iv 3, iv 2, iv xC] [])) (fun t k => XS.icmpYes X6.here hx rfl (pc0 := 20) (pc' := 26) rfl (hb hby own_d19_20) rfl (flt hc20).2.2.2 (by decide) (by decide) k) ?_
  refine oALN (n := 27) X6 hx (hb hby own_d19_26) rfl rfl rfl ?_
  refine oILN (n := 28) X6 hx (hb hby own_d19_27) rfl rfl ?_
  refine oIL (n := 30) X6 hx (hb hby own_d19_28) rfl rfl ?_
  refine ov (B := T6.setTop (mkF m 31 #[rv aC, iv 2, rv bC, iv 2, iv 3, iv 2, iv xC] [(.int (xC.toInt8.toInt32)), (.int 2), (.ref bC)])) (fun t k => XS.i2b X6.here hx rfl (hb hby own_d19_30) rfl k) ?_
  obtain ⟨cl8, Ar8, q8, S8, M8, H8, G8⟩ := id V6
  obtain ⟨T9, h9, X9, e9, W9, st9⟩ := stB X6 hx hZ e6 Ar8 (j := (2 : Int32)) (inb_of S8 ⟨by decide, by decide⟩) (g := (mkF m 31 #[rv aC, iv 2, rv bC, iv 2, iv 3, iv 2, iv xC] [(.int (xC.toInt8.toInt32)), (.int 2), (.ref bC)])) rfl rfl (hb hby own_d19_31)
  have V9 : Arv Z h9 bC kb .byte (3 : Int32) [(.int (xA.toInt8.toInt32).toInt8.toInt32), (.int (xB.toInt8.toInt32).toInt8.toInt32), (.int (xC.toInt8.toInt32).toInt8.toInt32)] (.int 0) := Arv.set Ar8 q8 S8 M8 H8 G8 (fits_nar_byte _) W9 2 rfl (Nat.le_of_ble_eq_true rfl)
  have N9 := Fr.snoc X9 N6 g_bC
  refine ov (B := T9.setTop (mkF m 32 #[rv aC, iv 2, rv bC, iv 2, iv 3, iv 2, iv xC] [])) (fun t k => st9 t k) ?_
  refine ov (B := T9.setTop (mkF m 35 #[rv aC, iv 3, rv bC, iv 2, iv 3, iv 2, iv xC] [])) (fun t k => XS.iinc X9.here hx rfl (hb hby own_d19_32) rfl (l' := #[rv aC, iv 3, rv bC, iv 2, iv 3, iv 2, iv xC]) rfl k) ?_
  refine ov (B := T9.setTop (mkF m 38 #[rv aC, iv 3, rv bC, iv 3, iv 3, iv 2, iv xC] [])) (fun t k => XS.iinc X9.here hx rfl (hb hby own_d19_35) rfl (l' := #[rv aC, iv 3, rv bC, iv 3, iv 3, iv 2, iv xC]) rfl k) ?_
  refine ov (B := T9.setTop (mkF m 41 #[rv aC, iv 3, rv bC, iv 3, iv 3, iv 3, iv xC] [])) (fun t k => XS.iinc X9.here hx rfl (hb hby own_d19_38) rfl (l' := #[rv aC, iv 3, rv bC, iv 3, iv 3, iv 3, iv xC]) rfl k) ?_
  refine oGO (n := 3) X9 hx (hb hby own_d19_41) (by decide) (by decide) ?_
  refine oIL (n := 5) X9 hx (hb hby own_d19_3) rfl rfl ?_
  refine oIL (n := 7) X9 hx (hb hby own_d19_5) rfl rfl ?_
  have hc7 : ¬ ((3 : Int32) < (3 : Int32)) := by decide
  refine ov (B := T9.setTop (mkF m 44 #[rv aC, iv 3, rv bC, iv 3, iv 3, iv 3, iv xC] [])) (fun t k => XS.icmpYes X9.here hx rfl (pc0 := 7) (pc' := 44) rfl (hb hby own_d19_7) rfl (flt hc7).2.1 (by decide) (by decide) k) ?_
  refine oIL (n := 46) X9 hx (hb hby own_d19_44) rfl rfl ?_
  refine own_leaf X9 hx hlk (t := .int) Bd.returns rfl (Or.inl ⟨rfl, by simp, _, rfl⟩) (hb hby own_d19_46) (by decide) (by decide) ?_
  show QCA33 Z aC bC kc kb xA xB xC h0 n0 _ T9.heap _
  rw [e9]
  refine ⟨?_, N9, ((((Keep.refl h0 [bC]).wr W3 (Or.inl (List.mem_of_getElem? (i := 0) rfl))).wr W6 (Or.inl (List.mem_of_getElem? (i := 0) rfl))).wr W9 (Or.inl (List.mem_of_getElem? (i := 0) rfl))), V9⟩
  rfl
theorem own_pd3 : parseMethodDescriptor "([CI[BII)I" = some ⟨[(.array .char), .int, (.array .byte), .int, .int], some .int⟩ := by decide +kernel
theorem own_d18_0 : decode jdk_52_method_16_code 0 = .ok (.iload_n 2, 1) := by decide +kernel
theorem own_d18_1 : decode jdk_52_method_16_code 1 = .ok (.newarray .byte, 2) := by decide +kernel
theorem own_d18_3 : decode jdk_52_method_16_code 3 = .ok (.astore_n 3, 1) := by decide +kernel
theorem own_d18_4 : decode jdk_52_method_16_code 4 = .ok (.aload_n 0, 1) := by decide +kernel
theorem own_d18_5 : decode jdk_52_method_16_code 5 = .ok (.iload_n 1, 1) := by decide +kernel
theorem own_d18_6 : decode jdk_52_method_16_code 6 = .ok (.aload_n 3, 1) := by decide +kernel
theorem own_d18_7 : decode jdk_52_method_16_code 7 = .ok (.iconst 0, 1) := by decide +kernel
theorem own_d18_8 : decode jdk_52_method_16_code 8 = .ok (.iload_n 2, 1) := by decide +kernel
theorem own_d18_9 : decode jdk_52_method_16_code 9 = .ok (.invokestatic 115, 3) := by decide +kernel
theorem own_d18_12 : decode jdk_52_method_16_code 12 = .ok (.istore 4, 2) := by decide +kernel
theorem own_d18_14 : decode jdk_52_method_16_code 14 = .ok (.iload 4, 2) := by decide +kernel
theorem own_d18_16 : decode jdk_52_method_16_code 16 = .ok (.iload_n 2, 1) := by decide +kernel
theorem own_d18_17 : decode jdk_52_method_16_code 17 = .ok (.if_icmp .eq 40, 3) := by decide +kernel
theorem own_d18_57 : decode jdk_52_method_16_code 57 = .ok (.aload_n 3, 1) := by decide +kernel
theorem own_d18_58 : decode jdk_52_method_16_code 58 = .ok (.areturn, 1) := by decide +kernel
theorem own_efCB10 (m : MethodId) (x0 : Addr) (x1 : Int32) (x2 : Int32) : entryFrame m #[(.ref x0), (.int x1), (.int x2)] 6 = mkF m 0 #[rv x0, iv x1, iv x2, uu, uu, uu] [] := by first | (simp [entryFrame, mkF, argsToLocals, Value.category]; done) | rfl
def QCB10 (Z : State) (aC : Addr) (kc : ClassId) (xA : Int32) (h0 : Heap) (n0 : Nat) (v : Option Value) (h : Heap) (L : List Loc) : Prop := ∃ (r : Addr) (kr : ClassId), v = some (.ref r) ∧ Fr n0 L ∧ Keep h0 h [] ∧ (h0.size ≤ r) ∧ (Arv Z h r kr .byte (1 : Int32) [(.int xA.toInt8.toInt32.toInt8.toInt32)] (.int (0 : Int32)))
set_option maxRecDepth 65536 in
set_option maxHeartbeats 40000000 in
theorem rmCB10 (l : Launch) (Z : State) (a0 : Array Value) (hw : ∀ d ∈ tables_1, d.before a0 Z = true) (ws : List Jvm.Cond) (aC : Addr) (kc : ClassId) (xA : Int32) (h0 : Heap) (n0 : Nat) (Z0 : n0 ≤ h0.size) (Vc : Arv Z h0 aC kc .char (1 : Int32) [(.int xA)] (.int (0 : Int32))) (hsA : ¬ (255 : Int32) < xA) :
    MetFree l (⟨sAB, "compress", "([CII)[B"⟩ : MethodName) (head1 (Jvm.Cond.code (⟨sAB, "compress", "([CII)[B"⟩ : MethodName) jdk_52_method_16_code 6 (some (.array .byte)) :: ws) (oR 3 2 3 56)) (fun a U => a = #[(.ref aC), (.int 0), (.int 1)] ∧ Z.Warmed39 U.vm ∧ U.heap = h0) (fun _ _ _ _ _ => True) (fun _ U o U' => ∃ v L, o = .returned v ∧ QCB10 Z aC kc xA h0 n0 v U'.heap L ∧ FrameEnd U o U' L (oR 3 2 3 56).cells (oR 3 2 3 56).slots) := by
  refine MetFree.of_bodySF (plainFor_of_name own_pn0) hisR ?_
  intro p e s m args below meth c s₁ Bd hml0 hP hK
  obtain ⟨rfl, hZ, hh⟩ := hP
  have hx := Bd.exec
  have hby := Bd.bytes
  have hlk : meth.locks = false := Bd.notSynchronized
  have hml : c.maxLocals = 6 := hml0
  have hown : s.vm.findClass sAB = some m.cls := findClass_of_methodNamed Bd.named
  have hnm := (name_of_methodNamed Bd.named Bd.method).1
  have X0 : Stand p l e (oR 3 2 3 56) s m #[(.ref aC), (.int 0), (.int 1)] below meth c s₁ [] 0 0 := Stand.of_body Bd
  have e0 : s₁.heap = h0 := by rw [← hh, Bd.state]; rfl
  have N0 := Fr.nil n0
  refine own_body (A := s₁.setTop (mkF m 0 #[rv aC, iv 0, iv 1, uu, uu, uu] [])) (Q := QCB10 Z aC kc xA h0 n0) (fun t k => castTop (own_efCB10 m aC (0 : Int32) (1 : Int32)) k) ?_
  refine oILN (n := 1) X0 hx (hb hby own_d18_0) rfl rfl ?_
  obtain ⟨T1, h1, kc1, X1, e1, E1, A1, st1⟩ := newP X0 hx hZ (oW hw 20 rfl) e0 (g := (mkF m 1 #[rv aC, iv 0, iv 1, uu, uu, uu] [(.int 1)])) rfl (hb hby own_d18_1) rfl (by decide) (cap := 1) (by decide) (by decide) (by decide) (by decide)
  obtain ⟨b1, g1⟩ : ∃ z, z = h0.size := ⟨_, rfl⟩
  rw [← g1] at A1 st1
  have g_b1 : n0 ≤ b1 := Nat.le_trans Z0 (Nat.le_of_eq g1.symm)
  have V1 : Arv Z h1 b1 kc1 .byte (1 : Int32) [(.int 0)] (.int 0) := (Arv.new A1 (by decide)).pad (pad_rep [] (.int 0) 1)
  refine ov (B := T1.setTop (mkF m 3 #[rv aC, iv 0, iv 1, uu, uu, uu] [(.ref b1)])) (fun t k => st1 t k) ?_
  refine ov (B := T1.setTop (mkF m 4 #[rv aC, iv 0, iv 1, rv b1, uu, uu] [])) (fun t k => XS.astoreN X1.here hx rfl (hb hby own_d18_3) rfl rfl (l' := #[rv aC, iv 0, iv 1, rv b1, uu, uu]) rfl k) ?_
  refine oALN (n := 5) X1 hx (hb hby own_d18_4) rfl rfl rfl ?_
  refine oILN (n := 6) X1 hx (hb hby own_d18_5) rfl rfl ?_
  refine oALN (n := 7) X1 hx (hb hby own_d18_6) rfl rfl rfl ?_
  refine oIC (n := 8) X1 hx (0 : Int32) (hb hby own_d18_7) (by decide) rfl ?_
  refine oILN (n := 9) X1 hx (hb hby own_d18_8) rfl rfl ?_
  obtain ⟨_, _, ⟨T2, L2, k2, n2⟩, -, X2, ⟨Lc2, hQ2, l2, y2, z2⟩, st2⟩ := Jvm.LawKit.callS X1 hx (y := (⟨sAB, "compress", "([CI[BII)I"⟩ : MethodName)) hown (mvT hZ (oW hw 135 rfl)) (mvT hZ (oW hw 136 rfl)) (mvT hZ (oW hw 133 rfl)) (mvT hZ (oW hw 137 rfl)) (by decide) (backOf (W := 0) (rmCA11 l Z a0 hw [] aC b1 kc kc1 xA h1 n0 (Nat.le_trans Z0 E1.1) (Vc.ext E1) V1 (Nat.ne_of_lt (Nat.lt_of_lt_of_le Vc.lt (Nat.le_of_eq g1.symm))) g_b1 hsA) hZ (oW hw 137 rfl) (oW hw 133 rfl) (by decide) (by decide)) (g := (mkF m 9 #[rv aC, iv 0, iv 1, rv b1, uu, uu] [(.int 1), (.int 0), (.ref b1), (.int 0), (.ref aC)])) rfl (by rw [hml]; rfl) (argsL := [(.ref aC), (.int 0), (.ref b1), (.int 0), (.int 1)]) (rest := []) (lenOf own_pd3 rfl) rfl (by show 2 * 0 + _ ≤ _; exact Nat.le_of_eq rfl) (hb hby own_d18_9) (fun _ _ => ⟨rfl, e1, (by decide : (0 + 1) + 0 ≤ _), (by decide : (0 + 1) + 0 ≤ _)⟩)
  dsimp only [Pt.U, Pt.locs, Pt.cells, Pt.slots] at X2 l2 y2 z2 st2 hQ2
  subst l2 y2 z2
  obtain ⟨rfl, Nq2, Kq2, f2_0⟩ := hQ2
  have N2 := Fr.app N0 Nq2
  refine ov (B := T2.setTop (mkF m 12 #[rv aC, iv 0, iv 1, rv b1, uu, uu] [(.int 1)])) (fun t k => st2 t k) ?_
  refine ov (B := T2.setTop (mkF m 14 #[rv aC, iv 0, iv 1, rv b1, iv 1, uu] [])) (fun t k => XS.istore X2.here hx rfl (hb hby own_d18_12) rfl (l' := #[rv aC, iv 0, iv 1, rv b1, iv 1, uu]) rfl k) ?_
  refine oIL (n := 16) X2 hx (hb hby own_d18_14) rfl rfl ?_
  refine oILN (n := 17) X2 hx (hb hby own_d18_16) rfl rfl ?_
  have hc17 : (1 : Int32) = (1 : Int32) := by decide
  refine ov (B := T2.setTop (mkF m 57 #[rv aC, iv 0, iv 1, rv b1, iv 1, uu] [])) (fun t k => XS.icmpYes X2.here hx rfl (pc0 := 17) (pc' := 57) rfl (hb hby own_d18_17) rfl (teq hc17).1 (by decide) (by decide) k) ?_
  refine oALN (n := 58) X2 hx (hb hby own_d18_57) rfl rfl rfl ?_
  refine own_leaf X2 hx hlk (t := (.array .byte)) Bd.returns rfl (Or.inr (Or.inr (Or.inr (Or.inr ⟨rfl, rfl, rfl⟩)))) (hb hby own_d18_58) (by decide) (by decide) ?_
  show QCB10 Z aC kc xA h0 n0 _ T2.heap _
  refine ⟨b1, kc1, ?_, N2, (((Keep.refl h0 []).ext E1).trans Kq2 (allS (Or.inr (Nat.le_of_eq g1.symm)) all0)), ?_, f2_0⟩
  · rfl
  · exact (Nat.le_of_eq g1.symm)
theorem own_pd4 : parseMethodDescriptor "([CII)[B" = some ⟨[(.array .char), .int, .int], some (.array .byte)⟩ := by decide +kernel
theorem own_pd5 : parseMethodDescriptor "([BI)C" = some ⟨[(.array .byte), .int], some .char⟩ := by decide +kernel
theorem own_d18_20 : decode jdk_52_method_16_code 20 = .ok (.aload_n 0, 1) := by decide +kernel
theorem own_d18_21 : decode jdk_52_method_16_code 21 = .ok (.iload_n 1, 1) := by decide +kernel
theorem own_d18_22 : decode jdk_52_method_16_code 22 = .ok (.iload_n 2, 1) := by decide +kernel
theorem own_d18_23 : decode jdk_52_method_16_code 23 = .ok (.invokestatic 119, 3) := by decide +kernel
theorem own_d18_26 : decode jdk_52_method_16_code 26 = .ok (.astore 5, 2) := by decide +kernel
theorem own_d18_28 : decode jdk_52_method_16_code 28 = .ok (.aload 5, 2) := by decide +kernel
theorem own_d18_30 : decode jdk_52_method_16_code 30 = .ok (.iload 4, 2) := by decide +kernel
theorem own_d18_32 : decode jdk_52_method_16_code 32 = .ok (.invokestatic 71, 3) := by decide +kernel
theorem own_d18_35 : decode jdk_52_method_16_code 35 = .ok (.sipush 255, 3) := by decide +kernel
theorem own_d18_38 : decode jdk_52_method_16_code 38 = .ok (.if_icmp .gt 16, 3) := by decide +kernel
theorem own_d18_54 : decode jdk_52_method_16_code 54 = .ok (.aload 5, 2) := by decide +kernel
theorem own_d18_56 : decode jdk_52_method_16_code 56 = .ok (.areturn, 1) := by decide +kernel
theorem own_efCB11 (m : MethodId) (x0 : Addr) (x1 : Int32) (x2 : Int32) : entryFrame m #[(.ref x0), (.int x1), (.int x2)] 6 = mkF m 0 #[rv x0, iv x1, iv x2, uu, uu, uu] [] := by first | (simp [entryFrame, mkF, argsToLocals, Value.category]; done) | rfl
def QCB11 (Z : State) (aC : Addr) (kc : ClassId) (xA : Int32) (h0 : Heap) (n0 : Nat) (v : Option Value) (h : Heap) (L : List Loc) : Prop := ∃ (r : Addr) (kr : ClassId), v = some (.ref r) ∧ Fr n0 L ∧ Keep h0 h [] ∧ (h0.size ≤ r) ∧ (Arv Z h r kr .byte (2 : Int32) [(.int (xA >>> ((0 : Int32) &&& 31)).toInt8.toInt32.toInt8.toInt32), (.int (xA >>> ((8 : Int32) &&& 31)).toInt8.toInt32.toInt8.toInt32)] (.int (0 : Int32)))
set_option maxRecDepth 65536 in
set_option maxHeartbeats 40000000 in
theorem rmCB11 (l : Launch) (Z : State) (a0 : Array Value) (hw : ∀ d ∈ tables_1, d.before a0 Z = true) (ws : List Jvm.Cond) (aC : Addr) (kc : ClassId) (xA : Int32) (h0 : Heap) (n0 : Nat) (Z0 : n0 ≤ h0.size) (O0 : Old Z n0 h0) (SA : Sta Z Z.heap sAB sAH "Z" (.int (1 : Int32))) (SH : Sta Z Z.heap sAB "HI_BYTE_SHIFT" "I" (.int (0 : Int32))) (SL : Sta Z Z.heap sAB "LO_BYTE_SHIFT" "I" (.int (8 : Int32))) (Vc : Arv Z h0 aC kc .char (1 : Int32) [(.int xA)] (.int (0 : Int32))) (hB : own_B1 xA) (huA : own_U xA) :
    MetFree l (⟨sAB, "compress", "([CII)[B"⟩ : MethodName) (head1 (Jvm.Cond.code (⟨sAB, "compress", "([CII)[B"⟩ : MethodName) jdk_52_method_16_code 6 (some (.array .byte)) :: ws) (oR 3 2 3 56)) (fun a U => a = #[(.ref aC), (.int 0), (.int 1)] ∧ Z.Warmed39 U.vm ∧ U.heap = h0) (fun _ _ _ _ _ => True) (fun _ U o U' => ∃ v L, o = .returned v ∧ QCB11 Z aC kc xA h0 n0 v U'.heap L ∧ FrameEnd U o U' L (oR 3 2 3 56).cells (oR 3 2 3 56).slots) := by
  refine MetFree.of_bodySF (plainFor_of_name own_pn0) hisR ?_
  intro p e s m args below meth c s₁ Bd hml0 hP hK
  obtain ⟨rfl, hZ, hh⟩ := hP
  have hx := Bd.exec
  have hby := Bd.bytes
  have hlk : meth.locks = false := Bd.notSynchronized
  have hml : c.maxLocals = 6 := hml0
  have hown : s.vm.findClass sAB = some m.cls := findClass_of_methodNamed Bd.named
  have hnm := (name_of_methodNamed Bd.named Bd.method).1
  have X0 : Stand p l e (oR 3 2 3 56) s m #[(.ref aC), (.int 0), (.int 1)] below meth c s₁ [] 0 0 := Stand.of_body Bd
  have e0 : s₁.heap = h0 := by rw [← hh, Bd.state]; rfl
  have N0 := Fr.nil n0
  refine own_body (A := s₁.setTop (mkF m 0 #[rv aC, iv 0, iv 1, uu, uu, uu] [])) (Q := QCB11 Z aC kc xA h0 n0) (fun t k => castTop (own_efCB11 m aC (0 : Int32) (1 : Int32)) k) ?_
  refine oILN (n := 1) X0 hx (hb hby own_d18_0) rfl rfl ?_
  obtain ⟨T1, h1, kc1, X1, e1, E1, A1, st1⟩ := newP X0 hx hZ (oW hw 20 rfl) e0 (g := (mkF m 1 #[rv aC, iv 0, iv 1, uu, uu, uu] [(.int 1)])) rfl (hb hby own_d18_1) rfl (by decide) (cap := 1) (by decide) (by decide) (by decide) (by decide)
  obtain ⟨b1, g1⟩ : ∃ z, z = h0.size := ⟨_, rfl⟩
  rw [← g1] at A1 st1
  have g_b1 : n0 ≤ b1 := Nat.le_trans Z0 (Nat.le_of_eq g1.symm)
  have V1 : Arv Z h1 b1 kc1 .byte (1 : Int32) [(.int 0)] (.int 0) := (Arv.new A1 (by decide)).pad (pad_rep [] (.int 0) 1)
  refine ov (B := T1.setTop (mkF m 3 #[rv aC, iv 0, iv 1, uu, uu, uu] [(.ref b1)])) (fun t k => st1 t k) ?_
  refine ov (B := T1.setTop (mkF m 4 #[rv aC, iv 0, iv 1, rv b1, uu, uu] [])) (fun t k => XS.astoreN X1.here hx rfl (hb hby own_d18_3) rfl rfl (l' := #[rv aC, iv 0, iv 1, rv b1, uu, uu]) rfl k) ?_
  refine oALN (n := 5) X1 hx (hb hby own_d18_4) rfl rfl rfl ?_
  refine oILN (n := 6) X1 hx (hb hby own_d18_5) rfl rfl ?_
  refine oALN (n := 7) X1 hx (hb hby own_d18_6) rfl rfl rfl ?_
  refine oIC (n := 8) X1 hx (0 : Int32) (hb hby own_d18_7) (by decide) rfl ?_
  refine oILN (n := 9) X1 hx (hb hby own_d18_8) rfl rfl ?_
  have hbA := hB
  obtain ⟨_, _, ⟨T2, L2, k2, n2⟩, -, X2, ⟨Lc2, hQ2, l2, y2, z2⟩, st2⟩ := Jvm.LawKit.callS X1 hx (y := (⟨sAB, "compress", "([CI[BII)I"⟩ : MethodName)) hown (mvT hZ (oW hw 135 rfl)) (mvT hZ (oW hw 136 rfl)) (mvT hZ (oW hw 133 rfl)) (mvT hZ (oW hw 137 rfl)) (by decide) (backOf (W := 0) (rmCA10 l Z a0 hw [] aC b1 kc kc1 xA h1 n0 (Nat.le_trans Z0 E1.1) (Vc.ext E1) V1 (Nat.ne_of_lt (Nat.lt_of_lt_of_le Vc.lt (Nat.le_of_eq g1.symm))) g_b1 hbA huA) hZ (oW hw 137 rfl) (oW hw 133 rfl) (by decide) (by decide)) (g := (mkF m 9 #[rv aC, iv 0, iv 1, rv b1, uu, uu] [(.int 1), (.int 0), (.ref b1), (.int 0), (.ref aC)])) rfl (by rw [hml]; rfl) (argsL := [(.ref aC), (.int 0), (.ref b1), (.int 0), (.int 1)]) (rest := []) (lenOf own_pd3 rfl) rfl (by show 2 * 0 + _ ≤ _; exact Nat.le_of_eq rfl) (hb hby own_d18_9) (fun _ _ => ⟨rfl, e1, (by decide : (0 + 1) + 0 ≤ _), (by decide : (0 + 1) + 0 ≤ _)⟩)
  dsimp only [Pt.U, Pt.locs, Pt.cells, Pt.slots] at X2 l2 y2 z2 st2 hQ2
  subst l2 y2 z2
  obtain ⟨rfl, Nq2, Kq2, f2_0⟩ := hQ2
  have N2 := Fr.app N0 Nq2
  refine ov (B := T2.setTop (mkF m 12 #[rv aC, iv 0, iv 1, rv b1, uu, uu] [(.int 0)])) (fun t k => st2 t k) ?_
  refine ov (B := T2.setTop (mkF m 14 #[rv aC, iv 0, iv 1, rv b1, iv 0, uu] [])) (fun t k => XS.istore X2.here hx rfl (hb hby own_d18_12) rfl (l' := #[rv aC, iv 0, iv 1, rv b1, iv 0, uu]) rfl k) ?_
  refine oIL (n := 16) X2 hx (hb hby own_d18_14) rfl rfl ?_
  refine oILN (n := 17) X2 hx (hb hby own_d18_16) rfl rfl ?_
  have hc17 : ¬ ((0 : Int32) = (1 : Int32)) := by decide
  refine ov (B := T2.setTop (mkF m 20 #[rv aC, iv 0, iv 1, rv b1, iv 0, uu] [])) (fun t k => XS.icmpNo X2.here hx rfl (hb hby own_d18_17) rfl (feq hc17).1 k) ?_
  refine oALN (n := 21) X2 hx (hb hby own_d18_20) rfl rfl rfl ?_
  refine oILN (n := 22) X2 hx (hb hby own_d18_21) rfl rfl ?_
  refine oILN (n := 23) X2 hx (hb hby own_d18_22) rfl rfl ?_
  obtain ⟨_, _, ⟨T3, L3, k3, n3⟩, -, X3, ⟨Lc3, hQ3, l3, y3, z3⟩, st3⟩ := Jvm.LawKit.callS X2 hx (y := (⟨sAB, "toBytes", "([CII)[B"⟩ : MethodName)) hown (mvT hZ (oW hw 141 rfl)) (mvT hZ (oW hw 142 rfl)) (mvT hZ (oW hw 133 rfl)) (mvT hZ (oW hw 143 rfl)) (by decide) (backOf (W := 0) (rmTB1 l Z a0 hw [] aC kc xA T2.heap n0 (Nat.le_trans (Nat.le_trans Z0 E1.1) Kq2.1) ((O0.ext E1).keep Kq2 (allS g_b1 all0)) (by assumption) (by assumption) (by assumption) ((Vc.ext E1).keep Kq2 (ninS (Nat.ne_of_lt (Nat.lt_of_lt_of_le Vc.lt (Nat.le_of_eq g1.symm))) nin0))) hZ (oW hw 143 rfl) (oW hw 133 rfl) (by decide) (by decide)) (g := (mkF m 23 #[rv aC, iv 0, iv 1, rv b1, iv 0, uu] [(.int 1), (.int 0), (.ref aC)])) rfl (by rw [hml]; rfl) (argsL := [(.ref aC), (.int 0), (.int 1)]) (rest := []) (lenOf own_pd4 rfl) rfl (by show 2 * 0 + _ ≤ _; exact Nat.le_of_eq rfl) (hb hby own_d18_23) (fun _ _ => ⟨rfl, rfl, (by decide : ((0 + 1) + 0) + 1 ≤ _), (by decide : ((0 + 1) + 0) + 2 ≤ _)⟩)
  dsimp only [Pt.U, Pt.locs, Pt.cells, Pt.slots] at X3 l3 y3 z3 st3 hQ3
  subst l3 y3 z3
  obtain ⟨r_3, kr_3, rfl, Nq3, Kq3, hr_3, f3_0⟩ := hQ3
  have N3 := Fr.app N2 Nq3
  have g_r_3 : n0 ≤ r_3 := Nat.le_trans (Nat.le_trans (Nat.le_trans Z0 E1.1) Kq2.1) hr_3
  refine ov (B := T3.setTop (mkF m 26 #[rv aC, iv 0, iv 1, rv b1, iv 0, uu] [(.ref r_3)])) (fun t k => st3 t k) ?_
  refine ov (B := T3.setTop (mkF m 28 #[rv aC, iv 0, iv 1, rv b1, iv 0, rv r_3] [])) (fun t k => XS.astore X3.here hx rfl (hb hby own_d18_26) rfl rfl (l' := #[rv aC, iv 0, iv 1, rv b1, iv 0, rv r_3]) rfl k) ?_
  refine oAL (n := 30) X3 hx (hb hby own_d18_28) rfl rfl rfl ?_
  refine oIL (n := 32) X3 hx (hb hby own_d18_30) rfl rfl ?_
  obtain ⟨_, _, ⟨T4, L4, k4, n4⟩, -, X4, ⟨Lc4, hQ4, l4, y4, z4⟩, st4⟩ := Jvm.LawKit.callS X3 hx (y := (⟨sAB, "getChar", "([BI)C"⟩ : MethodName)) hown (mvT hZ (oW hw 157 rfl)) (mvT hZ (oW hw 158 rfl)) (mvT hZ (oW hw 133 rfl)) (mvT hZ (oW hw 159 rfl)) (by decide) (backOf (W := 0) (rmGC10 l Z a0 hw [] r_3 kr_3 xA (xA >>> ((0 : Int32) &&& 31)).toInt8.toInt32.toInt8.toInt32 (xA >>> ((8 : Int32) &&& 31)).toInt8.toInt32.toInt8.toInt32 T3.heap n0 (Nat.le_trans (Nat.le_trans (Nat.le_trans Z0 E1.1) Kq2.1) Kq3.1) (((O0.ext E1).keep Kq2 (allS g_b1 all0)).keep Kq3 all0) (by assumption) (by assumption) (by assumption) f3_0) hZ (oW hw 159 rfl) (oW hw 133 rfl) (by decide) (by decide)) (g := (mkF m 32 #[rv aC, iv 0, iv 1, rv b1, iv 0, rv r_3] [(.int 0), (.ref r_3)])) rfl (by rw [hml]; rfl) (argsL := [(.ref r_3), (.int 0)]) (rest := []) (lenOf own_pd5 rfl) rfl (by show 2 * 0 + _ ≤ _; exact Nat.le_of_eq rfl) (hb hby own_d18_32) (fun _ _ => ⟨rfl, rfl, (by decide : (((0 + 1) + 0) + 1) + 0 ≤ _), (by decide : (((0 + 1) + 0) + 2) + 0 ≤ _)⟩)
  dsimp only [Pt.U, Pt.locs, Pt.cells, Pt.slots] at X4 l4 y4 z4 st4 hQ4
  subst l4 y4 z4
  obtain ⟨rfl, Nq4, eq4⟩ := hQ4
  have N4 := Fr.app N3 Nq4
  refine ov (B := T4.setTop (mkF m 35 #[rv aC, iv 0, iv 1, rv b1, iv 0, rv r_3] [(.int (own_gc xA))])) (fun t k => st4 t k) ?_
  refine oSP (n := 38) X4 hx (255 : Int32) (hb hby own_d18_35) (by decide) rfl ?_
  have hc38 : (255 : Int32) < (own_gc xA) := by rw [own_gcx huA]; exact hbA
  refine ov (B := T4.setTop (mkF m 54 #[rv aC, iv 0, iv 1, rv b1, iv 0, rv r_3] [])) (fun t k => XS.icmpYes X4.here hx rfl (pc0 := 38) (pc' := 54) rfl (hb hby own_d18_38) rfl (tlt hc38).2.2.1 (by decide) (by decide) k) ?_
  refine oAL (n := 56) X4 hx (hb hby own_d18_54) rfl rfl rfl ?_
  refine own_leaf X4 hx hlk (t := (.array .byte)) Bd.returns rfl (Or.inr (Or.inr (Or.inr (Or.inr ⟨rfl, rfl, rfl⟩)))) (hb hby own_d18_56) (by decide) (by decide) ?_
  show QCB11 Z aC kc xA h0 n0 _ T4.heap _
  rw [eq4]
  refine ⟨r_3, kr_3, ?_, N4, ((((Keep.refl h0 []).ext E1).trans Kq2 (allS (Or.inr (Nat.le_of_eq g1.symm)) all0)).trans Kq3 all0), ?_, f3_0⟩
  · rfl
  · exact (Nat.le_trans (Nat.le_trans (Nat.le_trans (Nat.le_refl _) E1.1) Kq2.1) hr_3)
theorem own_efCB20 (m : MethodId) (x0 : Addr) (x1 : Int32) (x2 : Int32) : entryFrame m #[(.ref x0), (.int x1), (.int x2)] 6 = mkF m 0 #[rv x0, iv x1, iv x2, uu, uu, uu] [] := by first | (simp [entryFrame, mkF, argsToLocals, Value.category]; done) | rfl
def QCB20 (Z : State) (aC : Addr) (kc : ClassId) (xA : Int32) (xB : Int32) (h0 : Heap) (n0 : Nat) (v : Option Value) (h : Heap) (L : List Loc) : Prop := ∃ (r : Addr) (kr : ClassId), v = some (.ref r) ∧ Fr n0 L ∧ Keep h0 h [] ∧ (h0.size ≤ r) ∧ (Arv Z h r kr .byte (2 : Int32) [(.int xA.toInt8.toInt32.toInt8.toInt32), (.int xB.toInt8.toInt32.toInt8.toInt32)] (.int (0 : Int32)))
set_option maxRecDepth 65536 in
set_option maxHeartbeats 40000000 in
theorem rmCB20 (l : Launch) (Z : State) (a0 : Array Value) (hw : ∀ d ∈ tables_1, d.before a0 Z = true) (ws : List Jvm.Cond) (aC : Addr) (kc : ClassId) (xA : Int32) (xB : Int32) (h0 : Heap) (n0 : Nat) (Z0 : n0 ≤ h0.size) (Vc : Arv Z h0 aC kc .char (2 : Int32) [(.int xA), (.int xB)] (.int (0 : Int32))) (hsA : ¬ (255 : Int32) < xA) (hsB : ¬ (255 : Int32) < xB) :
    MetFree l (⟨sAB, "compress", "([CII)[B"⟩ : MethodName) (head1 (Jvm.Cond.code (⟨sAB, "compress", "([CII)[B"⟩ : MethodName) jdk_52_method_16_code 6 (some (.array .byte)) :: ws) (oR 3 2 6 56)) (fun a U => a = #[(.ref aC), (.int 0), (.int 2)] ∧ Z.Warmed39 U.vm ∧ U.heap = h0) (fun _ _ _ _ _ => True) (fun _ U o U' => ∃ v L, o = .returned v ∧ QCB20 Z aC kc xA xB h0 n0 v U'.heap L ∧ FrameEnd U o U' L (oR 3 2 6 56).cells (oR 3 2 6 56).slots) := by
  refine MetFree.of_bodySF (plainFor_of_name own_pn0) hisR ?_
  intro p e s m args below meth c s₁ Bd hml0 hP hK
  obtain ⟨rfl, hZ, hh⟩ := hP
  have hx := Bd.exec
  have hby := Bd.bytes
  have hlk : meth.locks = false := Bd.notSynchronized
  have hml : c.maxLocals = 6 := hml0
  have hown : s.vm.findClass sAB = some m.cls := findClass_of_methodNamed Bd.named
  have hnm := (name_of_methodNamed Bd.named Bd.method).1
  have X0 : Stand p l e (oR 3 2 6 56) s m #[(.ref aC), (.int 0), (.int 2)] below meth c s₁ [] 0 0 := Stand.of_body Bd
  have e0 : s₁.heap = h0 := by rw [← hh, Bd.state]; rfl
  have N0 := Fr.nil n0
  refine own_body (A := s₁.setTop (mkF m 0 #[rv aC, iv 0, iv 2, uu, uu, uu] [])) (Q := QCB20 Z aC kc xA xB h0 n0) (fun t k => castTop (own_efCB20 m aC (0 : Int32) (2 : Int32)) k) ?_
  refine oILN (n := 1) X0 hx (hb hby own_d18_0) rfl rfl ?_
  obtain ⟨T1, h1, kc1, X1, e1, E1, A1, st1⟩ := newP X0 hx hZ (oW hw 20 rfl) e0 (g := (mkF m 1 #[rv aC, iv 0, iv 2, uu, uu, uu] [(.int 2)])) rfl (hb hby own_d18_1) rfl (by decide) (cap := 2) (by decide) (by decide) (by decide) (by decide)
  obtain ⟨b1, g1⟩ : ∃ z, z = h0.size := ⟨_, rfl⟩
  rw [← g1] at A1 st1
  have g_b1 : n0 ≤ b1 := Nat.le_trans Z0 (Nat.le_of_eq g1.symm)
  have V1 : Arv Z h1 b1 kc1 .byte (2 : Int32) [(.int 0), (.int 0)] (.int 0) := (Arv.new A1 (by decide)).pad (pad_rep [] (.int 0) 2)
  refine ov (B := T1.setTop (mkF m 3 #[rv aC, iv 0, iv 2, uu, uu, uu] [(.ref b1)])) (fun t k => st1 t k) ?_
  refine ov (B := T1.setTop (mkF m 4 #[rv aC, iv 0, iv 2, rv b1, uu, uu] [])) (fun t k => XS.astoreN X1.here hx rfl (hb hby own_d18_3) rfl rfl (l' := #[rv aC, iv 0, iv 2, rv b1, uu, uu]) rfl k) ?_
  refine oALN (n := 5) X1 hx (hb hby own_d18_4) rfl rfl rfl ?_
  refine oILN (n := 6) X1 hx (hb hby own_d18_5) rfl rfl ?_
  refine oALN (n := 7) X1 hx (hb hby own_d18_6) rfl rfl rfl ?_
  refine oIC (n := 8) X1 hx (0 : Int32) (hb hby own_d18_7) (by decide) rfl ?_
  refine oILN (n := 9) X1 hx (hb hby own_d18_8) rfl rfl ?_
  obtain ⟨_, _, ⟨T2, L2, k2, n2⟩, -, X2, ⟨Lc2, hQ2, l2, y2, z2⟩, st2⟩ := Jvm.LawKit.callS X1 hx (y := (⟨sAB, "compress", "([CI[BII)I"⟩ : MethodName)) hown (mvT hZ (oW hw 135 rfl)) (mvT hZ (oW hw 136 rfl)) (mvT hZ (oW hw 133 rfl)) (mvT hZ (oW hw 137 rfl)) (by decide) (backOf (W := 0) (rmCA22 l Z a0 hw [] aC b1 kc kc1 xA xB h1 n0 (Nat.le_trans Z0 E1.1) (Vc.ext E1) V1 (Nat.ne_of_lt (Nat.lt_of_lt_of_le Vc.lt (Nat.le_of_eq g1.symm))) g_b1 hsA hsB) hZ (oW hw 137 rfl) (oW hw 133 rfl) (by decide) (by decide)) (g := (mkF m 9 #[rv aC, iv 0, iv 2, rv b1, uu, uu] [(.int 2), (.int 0), (.ref b1), (.int 0), (.ref aC)])) rfl (by rw [hml]; rfl) (argsL := [(.ref aC), (.int 0), (.ref b1), (.int 0), (.int 2)]) (rest := []) (lenOf own_pd3 rfl) rfl (by show 2 * 0 + _ ≤ _; exact Nat.le_of_eq rfl) (hb hby own_d18_9) (fun _ _ => ⟨rfl, e1, (by decide : (0 + 1) + 0 ≤ _), (by decide : (0 + 2) + 0 ≤ _)⟩)
  dsimp only [Pt.U, Pt.locs, Pt.cells, Pt.slots] at X2 l2 y2 z2 st2 hQ2
  subst l2 y2 z2
  obtain ⟨rfl, Nq2, Kq2, f2_0⟩ := hQ2
  have N2 := Fr.app N0 Nq2
  refine ov (B := T2.setTop (mkF m 12 #[rv aC, iv 0, iv 2, rv b1, uu, uu] [(.int 2)])) (fun t k => st2 t k) ?_
  refine ov (B := T2.setTop (mkF m 14 #[rv aC, iv 0, iv 2, rv b1, iv 2, uu] [])) (fun t k => XS.istore X2.here hx rfl (hb hby own_d18_12) rfl (l' := #[rv aC, iv 0, iv 2, rv b1, iv 2, uu]) rfl k) ?_
  refine oIL (n := 16) X2 hx (hb hby own_d18_14) rfl rfl ?_
  refine oILN (n := 17) X2 hx (hb hby own_d18_16) rfl rfl ?_
  have hc17 : (2 : Int32) = (2 : Int32) := by decide
  refine ov (B := T2.setTop (mkF m 57 #[rv aC, iv 0, iv 2, rv b1, iv 2, uu] [])) (fun t k => XS.icmpYes X2.here hx rfl (pc0 := 17) (pc' := 57) rfl (hb hby own_d18_17) rfl (teq hc17).1 (by decide) (by decide) k) ?_
  refine oALN (n := 58) X2 hx (hb hby own_d18_57) rfl rfl rfl ?_
  refine own_leaf X2 hx hlk (t := (.array .byte)) Bd.returns rfl (Or.inr (Or.inr (Or.inr (Or.inr ⟨rfl, rfl, rfl⟩)))) (hb hby own_d18_58) (by decide) (by decide) ?_
  show QCB20 Z aC kc xA xB h0 n0 _ T2.heap _
  refine ⟨b1, kc1, ?_, N2, (((Keep.refl h0 []).ext E1).trans Kq2 (allS (Or.inr (Nat.le_of_eq g1.symm)) all0)), ?_, f2_0⟩
  · rfl
  · exact (Nat.le_of_eq g1.symm)
theorem own_efCB21 (m : MethodId) (x0 : Addr) (x1 : Int32) (x2 : Int32) : entryFrame m #[(.ref x0), (.int x1), (.int x2)] 6 = mkF m 0 #[rv x0, iv x1, iv x2, uu, uu, uu] [] := by first | (simp [entryFrame, mkF, argsToLocals, Value.category]; done) | rfl
def QCB21 (Z : State) (aC : Addr) (kc : ClassId) (xA : Int32) (xB : Int32) (h0 : Heap) (n0 : Nat) (v : Option Value) (h : Heap) (L : List Loc) : Prop := ∃ (r : Addr) (kr : ClassId), v = some (.ref r) ∧ Fr n0 L ∧ Keep h0 h [] ∧ (h0.size ≤ r) ∧ (Arv Z h r kr .byte (4 : Int32) [(.int (xA >>> ((0 : Int32) &&& 31)).toInt8.toInt32.toInt8.toInt32), (.int (xA >>> ((8 : Int32) &&& 31)).toInt8.toInt32.toInt8.toInt32), (.int (xB >>> ((0 : Int32) &&& 31)).toInt8.toInt32.toInt8.toInt32), (.int (xB >>> ((8 : Int32) &&& 31)).toInt8.toInt32.toInt8.toInt32)] (.int (0 : Int32)))
set_option maxRecDepth 65536 in
set_option maxHeartbeats 40000000 in
theorem rmCB21 (l : Launch) (Z : State) (a0 : Array Value) (hw : ∀ d ∈ tables_1, d.before a0 Z = true) (ws : List Jvm.Cond) (aC : Addr) (kc : ClassId) (xA : Int32) (xB : Int32) (h0 : Heap) (n0 : Nat) (Z0 : n0 ≤ h0.size) (O0 : Old Z n0 h0) (SA : Sta Z Z.heap sAB sAH "Z" (.int (1 : Int32))) (SH : Sta Z Z.heap sAB "HI_BYTE_SHIFT" "I" (.int (0 : Int32))) (SL : Sta Z Z.heap sAB "LO_BYTE_SHIFT" "I" (.int (8 : Int32))) (Vc : Arv Z h0 aC kc .char (2 : Int32) [(.int xA), (.int xB)] (.int (0 : Int32))) (hB : own_B2 xA xB) (huA : own_U xA) (huB : own_U xB) :
    MetFree l (⟨sAB, "compress", "([CII)[B"⟩ : MethodName) (head1 (Jvm.Cond.code (⟨sAB, "compress", "([CII)[B"⟩ : MethodName) jdk_52_method_16_code 6 (some (.array .byte)) :: ws) (oR 3 2 6 56)) (fun a U => a = #[(.ref aC), (.int 0), (.int 2)] ∧ Z.Warmed39 U.vm ∧ U.heap = h0) (fun _ _ _ _ _ => True) (fun _ U o U' => ∃ v L, o = .returned v ∧ QCB21 Z aC kc xA xB h0 n0 v U'.heap L ∧ FrameEnd U o U' L (oR 3 2 6 56).cells (oR 3 2 6 56).slots) := by
  refine MetFree.of_bodySF (plainFor_of_name own_pn0) hisR ?_
  intro p e s m args below meth c s₁ Bd hml0 hP hK
  obtain ⟨rfl, hZ, hh⟩ := hP
  have hx := Bd.exec
  have hby := Bd.bytes
  have hlk : meth.locks = false := Bd.notSynchronized
  have hml : c.maxLocals = 6 := hml0
  have hown : s.vm.findClass sAB = some m.cls := findClass_of_methodNamed Bd.named
  have hnm := (name_of_methodNamed Bd.named Bd.method).1
  have X0 : Stand p l e (oR 3 2 6 56) s m #[(.ref aC), (.int 0), (.int 2)] below meth c s₁ [] 0 0 := Stand.of_body Bd
  have e0 : s₁.heap = h0 := by rw [← hh, Bd.state]; rfl
  have N0 := Fr.nil n0
  refine own_body (A := s₁.setTop (mkF m 0 #[rv aC, iv 0, iv 2, uu, uu, uu] [])) (Q := QCB21 Z aC kc xA xB h0 n0) (fun t k => castTop (own_efCB21 m aC (0 : Int32) (2 : Int32)) k) ?_
  refine oILN (n := 1) X0 hx (hb hby own_d18_0) rfl rfl ?_
  obtain ⟨T1, h1, kc1, X1, e1, E1, A1, st1⟩ := newP X0 hx hZ (oW hw 20 rfl) e0 (g := (mkF m 1 #[rv aC, iv 0, iv 2, uu, uu, uu] [(.int 2)])) rfl (hb hby own_d18_1) rfl (by decide) (cap := 2) (by decide) (by decide) (by decide) (by decide)
  obtain ⟨b1, g1⟩ : ∃ z, z = h0.size := ⟨_, rfl⟩
  rw [← g1] at A1 st1
  have g_b1 : n0 ≤ b1 := Nat.le_trans Z0 (Nat.le_of_eq g1.symm)
  have V1 : Arv Z h1 b1 kc1 .byte (2 : Int32) [(.int 0), (.int 0)] (.int 0) := (Arv.new A1 (by decide)).pad (pad_rep [] (.int 0) 2)
  refine ov (B := T1.setTop (mkF m 3 #[rv aC, iv 0, iv 2, uu, uu, uu] [(.ref b1)])) (fun t k => st1 t k) ?_
  refine ov (B := T1.setTop (mkF m 4 #[rv aC, iv 0, iv 2, rv b1, uu, uu] [])) (fun t k => XS.astoreN X1.here hx rfl (hb hby own_d18_3) rfl rfl (l' := #[rv aC, iv 0, iv 2, rv b1, uu, uu]) rfl k) ?_
  refine oALN (n := 5) X1 hx (hb hby own_d18_4) rfl rfl rfl ?_
  refine oILN (n := 6) X1 hx (hb hby own_d18_5) rfl rfl ?_
  refine oALN (n := 7) X1 hx (hb hby own_d18_6) rfl rfl rfl ?_
  refine oIC (n := 8) X1 hx (0 : Int32) (hb hby own_d18_7) (by decide) rfl ?_
  refine oILN (n := 9) X1 hx (hb hby own_d18_8) rfl rfl ?_
  rcases hB with hbA | ⟨hsA, hbB⟩
  · obtain ⟨_, _, ⟨T2, L2, k2, n2⟩, -, X2, ⟨Lc2, hQ2, l2, y2, z2⟩, st2⟩ := Jvm.LawKit.callS X1 hx (y := (⟨sAB, "compress", "([CI[BII)I"⟩ : MethodName)) hown (mvT hZ (oW hw 135 rfl)) (mvT hZ (oW hw 136 rfl)) (mvT hZ (oW hw 133 rfl)) (mvT hZ (oW hw 137 rfl)) (by decide) (backOf (W := 0) (rmCA20 l Z a0 hw [] aC b1 kc kc1 xA xB h1 n0 (Nat.le_trans Z0 E1.1) (Vc.ext E1) V1 (Nat.ne_of_lt (Nat.lt_of_lt_of_le Vc.lt (Nat.le_of_eq g1.symm))) g_b1 hbA huA) hZ (oW hw 137 rfl) (oW hw 133 rfl) (by decide) (by decide)) (g := (mkF m 9 #[rv aC, iv 0, iv 2, rv b1, uu, uu] [(.int 2), (.int 0), (.ref b1), (.int 0), (.ref aC)])) rfl (by rw [hml]; rfl) (argsL := [(.ref aC), (.int 0), (.ref b1), (.int 0), (.int 2)]) (rest := []) (lenOf own_pd3 rfl) rfl (by show 2 * 0 + _ ≤ _; exact Nat.le_of_eq rfl) (hb hby own_d18_9) (fun _ _ => ⟨rfl, e1, (by decide : (0 + 1) + 0 ≤ _), (by decide : (0 + 2) + 0 ≤ _)⟩)
    dsimp only [Pt.U, Pt.locs, Pt.cells, Pt.slots] at X2 l2 y2 z2 st2 hQ2
    subst l2 y2 z2
    obtain ⟨rfl, Nq2, Kq2, f2_0⟩ := hQ2
    have N2 := Fr.app N0 Nq2
    refine ov (B := T2.setTop (mkF m 12 #[rv aC, iv 0, iv 2, rv b1, uu, uu] [(.int 0)])) (fun t k => st2 t k) ?_
    refine ov (B := T2.setTop (mkF m 14 #[rv aC, iv 0, iv 2, rv b1, iv 0, uu] [])) (fun t k => XS.istore X2.here hx rfl (hb hby own_d18_12) rfl (l' := #[rv aC, iv 0, iv 2, rv b1, iv 0, uu]) rfl k) ?_
    refine oIL (n := 16) X2 hx (hb hby own_d18_14) rfl rfl ?_
    refine oILN (n := 17) X2 hx (hb hby own_d18_16) rfl rfl ?_
    have hc17 : ¬ ((0 : Int32) = (2 : Int32)) := by decide
    refine ov (B := T2.setTop (mkF m 20 #[rv aC, iv 0, iv 2, rv b1, iv 0, uu] [])) (fun t k => XS.icmpNo X2.here hx rfl (hb hby own_d18_17) rfl (feq hc17).1 k) ?_
    refine oALN (n := 21) X2 hx (hb hby own_d18_20) rfl rfl rfl ?_
    refine oILN (n := 22) X2 hx (hb hby own_d18_21) rfl rfl ?_
    refine oILN (n := 23) X2 hx (hb hby own_d18_22) rfl rfl ?_
    obtain ⟨_, _, ⟨T3, L3, k3, n3⟩, -, X3, ⟨Lc3, hQ3, l3, y3, z3⟩, st3⟩ := Jvm.LawKit.callS X2 hx (y := (⟨sAB, "toBytes", "([CII)[B"⟩ : MethodName)) hown (mvT hZ (oW hw 141 rfl)) (mvT hZ (oW hw 142 rfl)) (mvT hZ (oW hw 133 rfl)) (mvT hZ (oW hw 143 rfl)) (by decide) (backOf (W := 0) (rmTB2 l Z a0 hw [] aC kc xA xB T2.heap n0 (Nat.le_trans (Nat.le_trans Z0 E1.1) Kq2.1) ((O0.ext E1).keep Kq2 (allS g_b1 all0)) (by assumption) (by assumption) (by assumption) ((Vc.ext E1).keep Kq2 (ninS (Nat.ne_of_lt (Nat.lt_of_lt_of_le Vc.lt (Nat.le_of_eq g1.symm))) nin0))) hZ (oW hw 143 rfl) (oW hw 133 rfl) (by decide) (by decide)) (g := (mkF m 23 #[rv aC, iv 0, iv 2, rv b1, iv 0, uu] [(.int 2), (.int 0), (.ref aC)])) rfl (by rw [hml]; rfl) (argsL := [(.ref aC), (.int 0), (.int 2)]) (rest := []) (lenOf own_pd4 rfl) rfl (by show 2 * 0 + _ ≤ _; exact Nat.le_of_eq rfl) (hb hby own_d18_23) (fun _ _ => ⟨rfl, rfl, (by decide : ((0 + 1) + 0) + 1 ≤ _), (by decide : ((0 + 2) + 0) + 4 ≤ _)⟩)
    dsimp only [Pt.U, Pt.locs, Pt.cells, Pt.slots] at X3 l3 y3 z3 st3 hQ3
    subst l3 y3 z3
    obtain ⟨r_3, kr_3, rfl, Nq3, Kq3, hr_3, f3_0⟩ := hQ3
    have N3 := Fr.app N2 Nq3
    have g_r_3 : n0 ≤ r_3 := Nat.le_trans (Nat.le_trans (Nat.le_trans Z0 E1.1) Kq2.1) hr_3
    refine ov (B := T3.setTop (mkF m 26 #[rv aC, iv 0, iv 2, rv b1, iv 0, uu] [(.ref r_3)])) (fun t k => st3 t k) ?_
    refine ov (B := T3.setTop (mkF m 28 #[rv aC, iv 0, iv 2, rv b1, iv 0, rv r_3] [])) (fun t k => XS.astore X3.here hx rfl (hb hby own_d18_26) rfl rfl (l' := #[rv aC, iv 0, iv 2, rv b1, iv 0, rv r_3]) rfl k) ?_
    refine oAL (n := 30) X3 hx (hb hby own_d18_28) rfl rfl rfl ?_
    refine oIL (n := 32) X3 hx (hb hby own_d18_30) rfl rfl ?_
    obtain ⟨_, _, ⟨T4, L4, k4, n4⟩, -, X4, ⟨Lc4, hQ4, l4, y4, z4⟩, st4⟩ := Jvm.LawKit.callS X3 hx (y := (⟨sAB, "getChar", "([BI)C"⟩ : MethodName)) hown (mvT hZ (oW hw 157 rfl)) (mvT hZ (oW hw 158 rfl)) (mvT hZ (oW hw 133 rfl)) (mvT hZ (oW hw 159 rfl)) (by decide) (backOf (W := 0) (rmGC20 l Z a0 hw [] r_3 kr_3 xA (xA >>> ((0 : Int32) &&& 31)).toInt8.toInt32.toInt8.toInt32 (xA >>> ((8 : Int32) &&& 31)).toInt8.toInt32.toInt8.toInt32 (xB >>> ((0 : Int32) &&& 31)).toInt8.toInt32.toInt8.toInt32 (xB >>> ((8 : Int32) &&& 31)).toInt8.toInt32.toInt8.toInt32 T3.heap n0 (Nat.le_trans (Nat.le_trans (Nat.le_trans Z0 E1.1) Kq2.1) Kq3.1) (((O0.ext E1).keep Kq2 (allS g_b1 all0)).keep Kq3 all0) (by assumption) (by assumption) (by assumption) f3_0) hZ (oW hw 159 rfl) (oW hw 133 rfl) (by decide) (by decide)) (g := (mkF m 32 #[rv aC, iv 0, iv 2, rv b1, iv 0, rv r_3] [(.int 0), (.ref r_3)])) rfl (by rw [hml]; rfl) (argsL := [(.ref r_3), (.int 0)]) (rest := []) (lenOf own_pd5 rfl) rfl (by show 2 * 0 + _ ≤ _; exact Nat.le_of_eq rfl) (hb hby own_d18_32) (fun _ _ => ⟨rfl, rfl, (by decide : (((0 + 1) + 0) + 1) + 0 ≤ _), (by decide : (((0 + 2) + 0) + 4) + 0 ≤ _)⟩)
    dsimp only [Pt.U, Pt.locs, Pt.cells, Pt.slots] at X4 l4 y4 z4 st4 hQ4
    subst l4 y4 z4
    obtain ⟨rfl, Nq4, eq4⟩ := hQ4
    have N4 := Fr.app N3 Nq4
    refine ov (B := T4.setTop (mkF m 35 #[rv aC, iv 0, iv 2, rv b1, iv 0, rv r_3] [(.int (own_gc xA))])) (fun t k => st4 t k) ?_
    refine oSP (n := 38) X4 hx (255 : Int32) (hb hby own_d18_35) (by decide) rfl ?_
    have hc38 : (255 : Int32) < (own_gc xA) := by rw [own_gcx huA]; exact hbA
    refine ov (B := T4.setTop (mkF m 54 #[rv aC, iv 0, iv 2, rv b1, iv 0, rv r_3] [])) (fun t k => XS.icmpYes X4.here hx rfl (pc0 := 38) (pc' := 54) rfl (hb hby own_d18_38) rfl (tlt hc38).2.2.1 (by decide) (by decide) k) ?_
    refine oAL (n := 56) X4 hx (hb hby own_d18_54) rfl rfl rfl ?_
    refine own_leaf X4 hx hlk (t := (.array .byte)) Bd.returns rfl (Or.inr (Or.inr (Or.inr (Or.inr ⟨rfl, rfl, rfl⟩)))) (hb hby own_d18_56) (by decide) (by decide) ?_
    show QCB21 Z aC kc xA xB h0 n0 _ T4.heap _
    rw [eq4]
    refine ⟨r_3, kr_3, ?_, N4, ((((Keep.refl h0 []).ext E1).trans Kq2 (allS (Or.inr (Nat.le_of_eq g1.symm)) all0)).trans Kq3 all0), ?_, f3_0⟩
    · rfl
    · exact (Nat.le_trans (Nat.le_trans (Nat.le_trans (Nat.le_refl _) E1.1) Kq2.1) hr_3)
  · obtain ⟨_, _, ⟨T5, L5, k5, n5⟩, -, X5, ⟨Lc5, hQ5, l5, y5, z5⟩, st5⟩ := Jvm.LawKit.callS X1 hx (y := (⟨sAB, "compress", "([CI[BII)I"⟩ : MethodName)) hown (mvT hZ (oW hw 135 rfl)) (mvT hZ (oW hw 136 rfl)) (mvT hZ (oW hw 133 rfl)) (mvT hZ (oW hw 137 rfl)) (by decide) (backOf (W := 0) (rmCA21 l Z a0 hw [] aC b1 kc kc1 xA xB h1 n0 (Nat.le_trans Z0 E1.1) (Vc.ext E1) V1 (Nat.ne_of_lt (Nat.lt_of_lt_of_le Vc.lt (Nat.le_of_eq g1.symm))) g_b1 hsA hbB huB) hZ (oW hw 137 rfl) (oW hw 133 rfl) (by decide) (by decide)) (g := (mkF m 9 #[rv aC, iv 0, iv 2, rv b1, uu, uu] [(.int 2), (.int 0), (.ref b1), (.int 0), (.ref aC)])) rfl (by rw [hml]; rfl) (argsL := [(.ref aC), (.int 0), (.ref b1), (.int 0), (.int 2)]) (rest := []) (lenOf own_pd3 rfl) rfl (by show 2 * 0 + _ ≤ _; exact Nat.le_of_eq rfl) (hb hby own_d18_9) (fun _ _ => ⟨rfl, e1, (by decide : (0 + 1) + 0 ≤ _), (by decide : (0 + 2) + 0 ≤ _)⟩)
    dsimp only [Pt.U, Pt.locs, Pt.cells, Pt.slots] at X5 l5 y5 z5 st5 hQ5
    subst l5 y5 z5
    obtain ⟨rfl, Nq5, Kq5, f5_0⟩ := hQ5
    have N5 := Fr.app N0 Nq5
    refine ov (B := T5.setTop (mkF m 12 #[rv aC, iv 0, iv 2, rv b1, uu, uu] [(.int 1)])) (fun t k => st5 t k) ?_
    refine ov (B := T5.setTop (mkF m 14 #[rv aC, iv 0, iv 2, rv b1, iv 1, uu] [])) (fun t k => XS.istore X5.here hx rfl (hb hby own_d18_12) rfl (l' := #[rv aC, iv 0, iv 2, rv b1, iv 1, uu]) rfl k) ?_
    refine oIL (n := 16) X5 hx (hb hby own_d18_14) rfl rfl ?_
    refine oILN (n := 17) X5 hx (hb hby own_d18_16) rfl rfl ?_
    have hc17 : ¬ ((1 : Int32) = (2 : Int32)) := by decide
    refine ov (B := T5.setTop (mkF m 20 #[rv aC, iv 0, iv 2, rv b1, iv 1, uu] [])) (fun t k => XS.icmpNo X5.here hx rfl (hb hby own_d18_17) rfl (feq hc17).1 k) ?_
    refine oALN (n := 21) X5 hx (hb hby own_d18_20) rfl rfl rfl ?_
    refine oILN (n := 22) X5 hx (hb hby own_d18_21) rfl rfl ?_
    refine oILN (n := 23) X5 hx (hb hby own_d18_22) rfl rfl ?_
    obtain ⟨_, _, ⟨T6, L6, k6, n6⟩, -, X6, ⟨Lc6, hQ6, l6, y6, z6⟩, st6⟩ := Jvm.LawKit.callS X5 hx (y := (⟨sAB, "toBytes", "([CII)[B"⟩ : MethodName)) hown (mvT hZ (oW hw 141 rfl)) (mvT hZ (oW hw 142 rfl)) (mvT hZ (oW hw 133 rfl)) (mvT hZ (oW hw 143 rfl)) (by decide) (backOf (W := 0) (rmTB2 l Z a0 hw [] aC kc xA xB T5.heap n0 (Nat.le_trans (Nat.le_trans Z0 E1.1) Kq5.1) ((O0.ext E1).keep Kq5 (allS g_b1 all0)) (by assumption) (by assumption) (by assumption) ((Vc.ext E1).keep Kq5 (ninS (Nat.ne_of_lt (Nat.lt_of_lt_of_le Vc.lt (Nat.le_of_eq g1.symm))) nin0))) hZ (oW hw 143 rfl) (oW hw 133 rfl) (by decide) (by decide)) (g := (mkF m 23 #[rv aC, iv 0, iv 2, rv b1, iv 1, uu] [(.int 2), (.int 0), (.ref aC)])) rfl (by rw [hml]; rfl) (argsL := [(.ref aC), (.int 0), (.int 2)]) (rest := []) (lenOf own_pd4 rfl) rfl (by show 2 * 0 + _ ≤ _; exact Nat.le_of_eq rfl) (hb hby own_d18_23) (fun _ _ => ⟨rfl, rfl, (by decide : ((0 + 1) + 0) + 1 ≤ _), (by decide : ((0 + 2) + 0) + 4 ≤ _)⟩)
    dsimp only [Pt.U, Pt.locs, Pt.cells, Pt.slots] at X6 l6 y6 z6 st6 hQ6
    subst l6 y6 z6
    obtain ⟨r_6, kr_6, rfl, Nq6, Kq6, hr_6, f6_0⟩ := hQ6
    have N6 := Fr.app N5 Nq6
    have g_r_6 : n0 ≤ r_6 := Nat.le_trans (Nat.le_trans (Nat.le_trans Z0 E1.1) Kq5.1) hr_6
    refine ov (B := T6.setTop (mkF m 26 #[rv aC, iv 0, iv 2, rv b1, iv 1, uu] [(.ref r_6)])) (fun t k => st6 t k) ?_
    refine ov (B := T6.setTop (mkF m 28 #[rv aC, iv 0, iv 2, rv b1, iv 1, rv r_6] [])) (fun t k => XS.astore X6.here hx rfl (hb hby own_d18_26) rfl rfl (l' := #[rv aC, iv 0, iv 2, rv b1, iv 1, rv r_6]) rfl k) ?_
    refine oAL (n := 30) X6 hx (hb hby own_d18_28) rfl rfl rfl ?_
    refine oIL (n := 32) X6 hx (hb hby own_d18_30) rfl rfl ?_
    obtain ⟨_, _, ⟨T7, L7, k7, n7⟩, -, X7, ⟨Lc7, hQ7, l7, y7, z7⟩, st7⟩ := Jvm.LawKit.callS X6 hx (y := (⟨sAB, "getChar", "([BI)C"⟩ : MethodName)) hown (mvT hZ (oW hw 157 rfl)) (mvT hZ (oW hw 158 rfl)) (mvT hZ (oW hw 133 rfl)) (mvT hZ (oW hw 159 rfl)) (by decide) (backOf (W := 0) (rmGC21 l Z a0 hw [] r_6 kr_6 xB (xA >>> ((0 : Int32) &&& 31)).toInt8.toInt32.toInt8.toInt32 (xA >>> ((8 : Int32) &&& 31)).toInt8.toInt32.toInt8.toInt32 (xB >>> ((0 : Int32) &&& 31)).toInt8.toInt32.toInt8.toInt32 (xB >>> ((8 : Int32) &&& 31)).toInt8.toInt32.toInt8.toInt32 T6.heap n0 (Nat.le_trans (Nat.le_trans (Nat.le_trans Z0 E1.1) Kq5.1) Kq6.1) (((O0.ext E1).keep Kq5 (allS g_b1 all0)).keep Kq6 all0) (by assumption) (by assumption) (by assumption) f6_0) hZ (oW hw 159 rfl) (oW hw 133 rfl) (by decide) (by decide)) (g := (mkF m 32 #[rv aC, iv 0, iv 2, rv b1, iv 1, rv r_6] [(.int 1), (.ref r_6)])) rfl (by rw [hml]; rfl) (argsL := [(.ref r_6), (.int 1)]) (rest := []) (lenOf own_pd5 rfl) rfl (by show 2 * 0 + _ ≤ _; exact Nat.le_of_eq rfl) (hb hby own_d18_32) (fun _ _ => ⟨rfl, rfl, (by decide : (((0 + 1) + 0) + 1) + 0 ≤ _), (by decide : (((0 + 2) + 0) + 4) + 0 ≤ _)⟩)
    dsimp only [Pt.U, Pt.locs, Pt.cells, Pt.slots] at X7 l7 y7 z7 st7 hQ7
    subst l7 y7 z7
    obtain ⟨rfl, Nq7, eq7⟩ := hQ7
    have N7 := Fr.app N6 Nq7
    refine ov (B := T7.setTop (mkF m 35 #[rv aC, iv 0, iv 2, rv b1, iv 1, rv r_6] [(.int (own_gc xB))])) (fun t k => st7 t k) ?_
    refine oSP (n := 38) X7 hx (255 : Int32) (hb hby own_d18_35) (by decide) rfl ?_
    have hc38 : (255 : Int32) < (own_gc xB) := by rw [own_gcx huB]; exact hbB
    refine ov (B := T7.setTop (mkF m 54 #[rv aC, iv 0, iv 2, rv b1, iv 1, rv r_6] [])) (fun t k => XS.icmpYes X7.here hx rfl (pc0 := 38) (pc' := 54) rfl (hb hby own_d18_38) rfl (tlt hc38).2.2.1 (by decide) (by decide) k) ?_
    refine oAL (n := 56) X7 hx (hb hby own_d18_54) rfl rfl rfl ?_
    refine own_leaf X7 hx hlk (t := (.array .byte)) Bd.returns rfl (Or.inr (Or.inr (Or.inr (Or.inr ⟨rfl, rfl, rfl⟩)))) (hb hby own_d18_56) (by decide) (by decide) ?_
    show QCB21 Z aC kc xA xB h0 n0 _ T7.heap _
    rw [eq7]
    refine ⟨r_6, kr_6, ?_, N7, ((((Keep.refl h0 []).ext E1).trans Kq5 (allS (Or.inr (Nat.le_of_eq g1.symm)) all0)).trans Kq6 all0), ?_, f6_0⟩
    · rfl
    · exact (Nat.le_trans (Nat.le_trans (Nat.le_trans (Nat.le_refl _) E1.1) Kq5.1) hr_6)
theorem own_efCB30 (m : MethodId) (x0 : Addr) (x1 : Int32) (x2 : Int32) : entryFrame m #[(.ref x0), (.int x1), (.int x2)] 6 = mkF m 0 #[rv x0, iv x1, iv x2, uu, uu, uu] [] := by first | (simp [entryFrame, mkF, argsToLocals, Value.category]; done) | rfl
def QCB30 (Z : State) (aC : Addr) (kc : ClassId) (xA : Int32) (xB : Int32) (xC : Int32) (h0 : Heap) (n0 : Nat) (v : Option Value) (h : Heap) (L : List Loc) : Prop := ∃ (r : Addr) (kr : ClassId), v = some (.ref r) ∧ Fr n0 L ∧ Keep h0 h [] ∧ (h0.size ≤ r) ∧ (Arv Z h r kr .byte (3 : Int32) [(.int xA.toInt8.toInt32.toInt8.toInt32), (.int xB.toInt8.toInt32.toInt8.toInt32), (.int xC.toInt8.toInt32.toInt8.toInt32)] (.int (0 : Int32)))
set_option maxRecDepth 65536 in
set_option maxHeartbeats 40000000 in
theorem rmCB30 (l : Launch) (Z : State) (a0 : Array Value) (hw : ∀ d ∈ tables_1, d.before a0 Z = true) (ws : List Jvm.Cond) (aC : Addr) (kc : ClassId) (xA : Int32) (xB : Int32) (xC : Int32) (h0 : Heap) (n0 : Nat) (Z0 : n0 ≤ h0.size) (Vc : Arv Z h0 aC kc .char (3 : Int32) [(.int xA), (.int xB), (.int xC)] (.int (0 : Int32))) (hsA : ¬ (255 : Int32) < xA) (hsB : ¬ (255 : Int32) < xB) (hsC : ¬ (255 : Int32) < xC) :
    MetFree l (⟨sAB, "compress", "([CII)[B"⟩ : MethodName) (head1 (Jvm.Cond.code (⟨sAB, "compress", "([CII)[B"⟩ : MethodName) jdk_52_method_16_code 6 (some (.array .byte)) :: ws) (oR 3 2 9 56)) (fun a U => a = #[(.ref aC), (.int 0), (.int 3)] ∧ Z.Warmed39 U.vm ∧ U.heap = h0) (fun _ _ _ _ _ => True) (fun _ U o U' => ∃ v L, o = .returned v ∧ QCB30 Z aC kc xA xB xC h0 n0 v U'.heap L ∧ FrameEnd U o U' L (oR 3 2 9 56).cells (oR 3 2 9 56).slots) := by
  refine MetFree.of_bodySF (plainFor_of_name own_pn0) hisR ?_
  intro p e s m args below meth c s₁ Bd hml0 hP hK
  obtain ⟨rfl, hZ, hh⟩ := hP
  have hx := Bd.exec
  have hby := Bd.bytes
  have hlk : meth.locks = false := Bd.notSynchronized
  have hml : c.maxLocals = 6 := hml0
  have hown : s.vm.findClass sAB = some m.cls := findClass_of_methodNamed Bd.named
  have hnm := (name_of_methodNamed Bd.named Bd.method).1
  have X0 : Stand p l e (oR 3 2 9 56) s m #[(.ref aC), (.int 0), (.int 3)] below meth c s₁ [] 0 0 := Stand.of_body Bd
  have e0 : s₁.heap = h0 := by rw [← hh, Bd.state]; rfl
  have N0 := Fr.nil n0
  refine own_body (A := s₁.setTop (mkF m 0 #[rv aC, iv 0, iv 3, uu, uu, uu] [])) (Q := QCB30 Z aC kc xA xB xC h0 n0) (fun t k => castTop (own_efCB30 m aC (0 : Int32) (3 : Int32)) k) ?_
  refine oILN (n := 1) X0 hx (hb hby own_d18_0) rfl rfl ?_
  obtain ⟨T1, h1, kc1, X1, e1, E1, A1, st1⟩ := newP X0 hx hZ (oW hw 20 rfl) e0 (g := (mkF m 1 #[rv aC, iv 0, iv 3, uu, uu, uu] [(.int 3)])) rfl (hb hby own_d18_1) rfl (by decide) (cap := 3) (by decide) (by decide) (by decide) (by decide)
  obtain ⟨b1, g1⟩ : ∃ z, z = h0.size := ⟨_, rfl⟩
  rw [← g1] at A1 st1
  have g_b1 : n0 ≤ b1 := Nat.le_trans Z0 (Nat.le_of_eq g1.symm)
  have V1 : Arv Z h1 b1 kc1 .byte (3 : Int32) [(.int 0), (.int 0), (.int 0)] (.int 0) := (Arv.new A1 (by decide)).pad (pad_rep [] (.int 0) 3)
  refine ov (B := T1.setTop (mkF m 3 #[rv aC, iv 0, iv 3, uu, uu, uu] [(.ref b1)])) (fun t k => st1 t k) ?_
  refine ov (B := T1.setTop (mkF m 4 #[rv aC, iv 0, iv 3, rv b1, uu, uu] [])) (fun t k => XS.astoreN X1.here hx rfl (hb hby own_d18_3) rfl rfl (l' := #[rv aC, iv 0, iv 3, rv b1, uu, uu]) rfl k) ?_
  refine oALN (n := 5) X1 hx (hb hby own_d18_4) rfl rfl rfl ?_
  refine oILN (n := 6) X1 hx (hb hby own_d18_5) rfl rfl ?_
  refine oALN (n := 7) X1 hx (hb hby own_d18_6) rfl rfl rfl ?_
  refine oIC (n := 8) X1 hx (0 : Int32) (hb hby own_d18_7) (by decide) rfl ?_
  refine oILN (n := 9) X1 hx (hb hby own_d18_8) rfl rfl ?_
  obtain ⟨_, _, ⟨T2, L2, k2, n2⟩, -, X2, ⟨Lc2, hQ2, l2, y2, z2⟩, st2⟩ := Jvm.LawKit.callS X1 hx (y := (⟨sAB, "compress", "([CI[BII)I"⟩ : MethodName)) hown (mvT hZ (oW hw 135 rfl)) (mvT hZ (oW hw 136 rfl)) (mvT hZ (oW hw 133 rfl)) (mvT hZ (oW hw 137 rfl)) (by decide) (backOf (W := 0) (rmCA33 l Z a0 hw [] aC b1 kc kc1 xA xB xC h1 n0 (Nat.le_trans Z0 E1.1) (Vc.ext E1) V1 (Nat.ne_of_lt (Nat.lt_of_lt_of_le Vc.lt (Nat.le_of_eq g1.symm))) g_b1 hsA hsB hsC) hZ (oW hw 137 rfl) (oW hw 133 rfl) (by decide) (by decide)) (g := (mkF m 9 #[rv aC, iv 0, iv 3, rv b1, uu, uu] [(.int 3), (.int 0), (.ref b1), (.int 0), (.ref aC)])) rfl (by rw [hml]; rfl) (argsL := [(.ref aC), (.int 0), (.ref b1), (.int 0), (.int 3)]) (rest := []) (lenOf own_pd3 rfl) rfl (by show 2 * 0 + _ ≤ _; exact Nat.le_of_eq rfl) (hb hby own_d18_9) (fun _ _ => ⟨rfl, e1, (by decide : (0 + 1) + 0 ≤ _), (by decide : (0 + 3) + 0 ≤ _)⟩)
  dsimp only [Pt.U, Pt.locs, Pt.cells, Pt.slots] at X2 l2 y2 z2 st2 hQ2
  subst l2 y2 z2
  obtain ⟨rfl, Nq2, Kq2, f2_0⟩ := hQ2
  have N2 := Fr.app N0 Nq2
  refine ov (B := T2.setTop (mkF m 12 #[rv aC, iv 0, iv 3, rv b1, uu, uu] [(.int 3)])) (fun t k => st2 t k) ?_
  refine ov (B := T2.setTop (mkF m 14 #[rv aC, iv 0, iv 3, rv b1, iv 3, uu] [])) (fun t k => XS.istore X2.here hx rfl (hb hby own_d18_12) rfl (l' := #[rv aC, iv 0, iv 3, rv b1, iv 3, uu]) rfl k) ?_
  refine oIL (n := 16) X2 hx (hb hby own_d18_14) rfl rfl ?_
  refine oILN (n := 17) X2 hx (hb hby own_d18_16) rfl rfl ?_
  have hc17 : (3 : Int32) = (3 : Int32) := by decide
  refine ov (B := T2.setTop (mkF m 57 #[rv aC, iv 0, iv 3, rv b1, iv 3, uu] [])) (fun t k => XS.icmpYes X2.here hx rfl (pc0 := 17) (pc' := 57) rfl (hb hby own_d18_17) rfl (teq hc17).1 (by decide) (by decide) k) ?_
  refine oALN (n := 58) X2 hx (hb hby own_d18_57) rfl rfl rfl ?_
  refine own_leaf X2 hx hlk (t := (.array .byte)) Bd.returns rfl (Or.inr (Or.inr (Or.inr (Or.inr ⟨rfl, rfl, rfl⟩)))) (hb hby own_d18_58) (by decide) (by decide) ?_
  show QCB30 Z aC kc xA xB xC h0 n0 _ T2.heap _
  refine ⟨b1, kc1, ?_, N2, (((Keep.refl h0 []).ext E1).trans Kq2 (allS (Or.inr (Nat.le_of_eq g1.symm)) all0)), ?_, f2_0⟩
  · rfl
  · exact (Nat.le_of_eq g1.symm)
theorem own_efCB31 (m : MethodId) (x0 : Addr) (x1 : Int32) (x2 : Int32) : entryFrame m #[(.ref x0), (.int x1), (.int x2)] 6 = mkF m 0 #[rv x0, iv x1, iv x2, uu, uu, uu] [] := by first | (simp [entryFrame, mkF, argsToLocals, Value.category]; done) | rfl
def QCB31 (Z : State) (aC : Addr) (kc : ClassId) (xA : Int32) (xB : Int32) (xC : Int32) (h0 : Heap) (n0 : Nat) (v : Option Value) (h : Heap) (L : List Loc) : Prop := ∃ (r : Addr) (kr : ClassId), v = some (.ref r) ∧ Fr n0 L ∧ Keep h0 h [] ∧ (h0.size ≤ r) ∧ (Arv Z h r kr .byte (6 : Int32) [(.int (xA >>> ((0 : Int32) &&& 31)).toInt8.toInt32.toInt8.toInt32), (.int (xA >>> ((8 : Int32) &&& 31)).toInt8.toInt32.toInt8.toInt32), (.int (xB >>> ((0 : Int32) &&& 31)).toInt8.toInt32.toInt8.toInt32), (.int (xB >>> ((8 : Int32) &&& 31)).toInt8.toInt32.toInt8.toInt32), (.int (xC >>> ((0 : Int32) &&& 31)).toInt8.toInt32.toInt8.toInt32), (.int (xC >>> ((8 : Int32) &&& 31)).toInt8.toInt32.toInt8.toInt32)] (.int (0 : Int32)))
set_option maxRecDepth 65536 in
set_option maxHeartbeats 40000000 in
theorem rmCB31 (l : Launch) (Z : State) (a0 : Array Value) (hw : ∀ d ∈ tables_1, d.before a0 Z = true) (ws : List Jvm.Cond) (aC : Addr) (kc : ClassId) (xA : Int32) (xB : Int32) (xC : Int32) (h0 : Heap) (n0 : Nat) (Z0 : n0 ≤ h0.size) (O0 : Old Z n0 h0) (SA : Sta Z Z.heap sAB sAH "Z" (.int (1 : Int32))) (SH : Sta Z Z.heap sAB "HI_BYTE_SHIFT" "I" (.int (0 : Int32))) (SL : Sta Z Z.heap sAB "LO_BYTE_SHIFT" "I" (.int (8 : Int32))) (Vc : Arv Z h0 aC kc .char (3 : Int32) [(.int xA), (.int xB), (.int xC)] (.int (0 : Int32))) (hB : own_B3 xA xB xC) (huA : own_U xA) (huB : own_U xB) (huC : own_U xC) :
    MetFree l (⟨sAB, "compress", "([CII)[B"⟩ : MethodName) (head1 (Jvm.Cond.code (⟨sAB, "compress", "([CII)[B"⟩ : MethodName) jdk_52_method_16_code 6 (some (.array .byte)) :: ws) (oR 3 2 9 56)) (fun a U => a = #[(.ref aC), (.int 0), (.int 3)] ∧ Z.Warmed39 U.vm ∧ U.heap = h0) (fun _ _ _ _ _ => True) (fun _ U o U' => ∃ v L, o = .returned v ∧ QCB31 Z aC kc xA xB xC h0 n0 v U'.heap L ∧ FrameEnd U o U' L (oR 3 2 9 56).cells (oR 3 2 9 56).slots) := by
  refine MetFree.of_bodySF (plainFor_of_name own_pn0) hisR ?_
  intro p e s m args below meth c s₁ Bd hml0 hP hK
  obtain ⟨rfl, hZ, hh⟩ := hP
  have hx := Bd.exec
  have hby := Bd.bytes
  have hlk : meth.locks = false := Bd.notSynchronized
  have hml : c.maxLocals = 6 := hml0
  have hown : s.vm.findClass sAB = some m.cls := findClass_of_methodNamed Bd.named
  have hnm := (name_of_methodNamed Bd.named Bd.method).1
  have X0 : Stand p l e (oR 3 2 9 56) s m #[(.ref aC), (.int 0), (.int 3)] below meth c s₁ [] 0 0 := Stand.of_body Bd
  have e0 : s₁.heap = h0 := by rw [← hh, Bd.state]; rfl
  have N0 := Fr.nil n0
  refine own_body (A := s₁.setTop (mkF m 0 #[rv aC, iv 0, iv 3, uu, uu, uu] [])) (Q := QCB31 Z aC kc xA xB xC h0 n0) (fun t k => castTop (own_efCB31 m aC (0 : Int32) (3 : Int32)) k) ?_
  refine oILN (n := 1) X0 hx (hb hby own_d18_0) rfl rfl ?_
  obtain ⟨T1, h1, kc1, X1, e1, E1, A1, st1⟩ := newP X0 hx hZ (oW hw 20 rfl) e0 (g := (mkF m 1 #[rv aC, iv 0, iv 3, uu, uu, uu] [(.int 3)])) rfl (hb hby own_d18_1) rfl (by decide) (cap := 3) (by decide) (by decide) (by decide) (by decide)
  obtain ⟨b1, g1⟩ : ∃ z, z = h0.size := ⟨_, rfl⟩
  rw [← g1] at A1 st1
  have g_b1 : n0 ≤ b1 := Nat.le_trans Z0 (Nat.le_of_eq g1.symm)
  have V1 : Arv Z h1 b1 kc1 .byte (3 : Int32) [(.int 0), (.int 0), (.int 0)] (.int 0) := (Arv.new A1 (by decide)).pad (pad_rep [] (.int 0) 3)
  refine ov (B := T1.setTop (mkF m 3 #[rv aC, iv 0, iv 3, uu, uu, uu] [(.ref b1)])) (fun t k => st1 t k) ?_
  refine ov (B := T1.setTop (mkF m 4 #[rv aC, iv 0, iv 3, rv b1, uu, uu] [])) (fun t k => XS.astoreN X1.here hx rfl (hb hby own_d18_3) rfl rfl (l' := #[rv aC, iv 0, iv 3, rv b1, uu, uu]) rfl k) ?_
  refine oALN (n := 5) X1 hx (hb hby own_d18_4) rfl rfl rfl ?_
  refine oILN (n := 6) X1 hx (hb hby own_d18_5) rfl rfl ?_
  refine oALN (n := 7) X1 hx (hb hby own_d18_6) rfl rfl rfl ?_
  refine oIC (n := 8) X1 hx (0 : Int32) (hb hby own_d18_7) (by decide) rfl ?_
  refine oILN (n := 9) X1 hx (hb hby own_d18_8) rfl rfl ?_
  rcases hB with hbA | ⟨hsA, hbB⟩ | ⟨hsA, hsB, hbC⟩
  · obtain ⟨_, _, ⟨T2, L2, k2, n2⟩, -, X2, ⟨Lc2, hQ2, l2, y2, z2⟩, st2⟩ := Jvm.LawKit.callS X1 hx (y := (⟨sAB, "compress", "([CI[BII)I"⟩ : MethodName)) hown (mvT hZ (oW hw 135 rfl)) (mvT hZ (oW hw 136 rfl)) (mvT hZ (oW hw 133 rfl)) (mvT hZ (oW hw 137 rfl)) (by decide) (backOf (W := 0) (rmCA30 l Z a0 hw [] aC b1 kc kc1 xA xB xC h1 n0 (Nat.le_trans Z0 E1.1) (Vc.ext E1) V1 (Nat.ne_of_lt (Nat.lt_of_lt_of_le Vc.lt (Nat.le_of_eq g1.symm))) g_b1 hbA huA) hZ (oW hw 137 rfl) (oW hw 133 rfl) (by decide) (by decide)) (g := (mkF m 9 #[rv aC, iv 0, iv 3, rv b1, uu, uu] [(.int 3), (.int 0), (.ref b1), (.int 0), (.ref aC)])) rfl (by rw [hml]; rfl) (argsL := [(.ref aC), (.int 0), (.ref b1), (.int 0), (.int 3)]) (rest := []) (lenOf own_pd3 rfl) rfl (by show 2 * 0 + _ ≤ _; exact Nat.le_of_eq rfl) (hb hby own_d18_9) (fun _ _ => ⟨rfl, e1, (by decide : (0 + 1) + 0 ≤ _), (by decide : (0 + 3) + 0 ≤ _)⟩)
    dsimp only [Pt.U, Pt.locs, Pt.cells, Pt.slots] at X2 l2 y2 z2 st2 hQ2
    subst l2 y2 z2
    obtain ⟨rfl, Nq2, Kq2, f2_0⟩ := hQ2
    have N2 := Fr.app N0 Nq2
    refine ov (B := T2.setTop (mkF m 12 #[rv aC, iv 0, iv 3, rv b1, uu, uu] [(.int 0)])) (fun t k => st2 t k) ?_
    refine ov (B := T2.setTop (mkF m 14 #[rv aC, iv 0, iv 3, rv b1, iv 0, uu] [])) (fun t k => XS.istore X2.here hx rfl (hb hby own_d18_12) rfl (l' := #[rv aC, iv 0, iv 3, rv b1, iv 0, uu]) rfl k) ?_
    refine oIL (n := 16) X2 hx (hb hby own_d18_14) rfl rfl ?_
    refine oILN (n := 17) X2 hx (hb hby own_d18_16) rfl rfl ?_
    have hc17 : ¬ ((0 : Int32) = (3 : Int32)) := by decide
    refine ov (B := T2.setTop (mkF m 20 #[rv aC, iv 0, iv 3, rv b1, iv 0, uu] [])) (fun t k => XS.icmpNo X2.here hx rfl (hb hby own_d18_17) rfl (feq hc17).1 k) ?_
    refine oALN (n := 21) X2 hx (hb hby own_d18_20) rfl rfl rfl ?_
    refine oILN (n := 22) X2 hx (hb hby own_d18_21) rfl rfl ?_
    refine oILN (n := 23) X2 hx (hb hby own_d18_22) rfl rfl ?_
    obtain ⟨_, _, ⟨T3, L3, k3, n3⟩, -, X3, ⟨Lc3, hQ3, l3, y3, z3⟩, st3⟩ := Jvm.LawKit.callS X2 hx (y := (⟨sAB, "toBytes", "([CII)[B"⟩ : MethodName)) hown (mvT hZ (oW hw 141 rfl)) (mvT hZ (oW hw 142 rfl)) (mvT hZ (oW hw 133 rfl)) (mvT hZ (oW hw 143 rfl)) (by decide) (backOf (W := 0) (rmTB3 l Z a0 hw [] aC kc xA xB xC T2.heap n0 (Nat.le_trans (Nat.le_trans Z0 E1.1) Kq2.1) ((O0.ext E1).keep Kq2 (allS g_b1 all0)) (by assumption) (by assumption) (by assumption) ((Vc.ext E1).keep Kq2 (ninS (Nat.ne_of_lt (Nat.lt_of_lt_of_le Vc.lt (Nat.le_of_eq g1.symm))) nin0))) hZ (oW hw 143 rfl) (oW hw 133 rfl) (by decide) (by decide)) (g := (mkF m 23 #[rv aC, iv 0, iv 3, rv b1, iv 0, uu] [(.int 3), (.int 0), (.ref aC)])) rfl (by rw [hml]; rfl) (argsL := [(.ref aC), (.int 0), (.int 3)]) (rest := []) (lenOf own_pd4 rfl) rfl (by show 2 * 0 + _ ≤ _; exact Nat.le_of_eq rfl) (hb hby own_d18_23) (fun _ _ => ⟨rfl, rfl, (by decide : ((0 + 1) + 0) + 1 ≤ _), (by decide : ((0 + 3) + 0) + 6 ≤ _)⟩)
    dsimp only [Pt.U, Pt.locs, Pt.cells, Pt.slots] at X3 l3 y3 z3 st3 hQ3
    subst l3 y3 z3
    obtain ⟨r_3, kr_3, rfl, Nq3, Kq3, hr_3, f3_0⟩ := hQ3
    have N3 := Fr.app N2 Nq3
    have g_r_3 : n0 ≤ r_3 := Nat.le_trans (Nat.le_trans (Nat.le_trans Z0 E1.1) Kq2.1) hr_3
    refine ov (B := T3.setTop (mkF m 26 #[rv aC, iv 0, iv 3, rv b1, iv 0, uu] [(.ref r_3)])) (fun t k => st3 t k) ?_
    refine ov (B := T3.setTop (mkF m 28 #[rv aC, iv 0, iv 3, rv b1, iv 0, rv r_3] [])) (fun t k => XS.astore X3.here hx rfl (hb hby own_d18_26) rfl rfl (l' := #[rv aC, iv 0, iv 3, rv b1, iv 0, rv r_3]) rfl k) ?_
    refine oAL (n := 30) X3 hx (hb hby own_d18_28) rfl rfl rfl ?_
    refine oIL (n := 32) X3 hx (hb hby own_d18_30) rfl rfl ?_
    obtain ⟨_, _, ⟨T4, L4, k4, n4⟩, -, X4, ⟨Lc4, hQ4, l4, y4, z4⟩, st4⟩ := Jvm.LawKit.callS X3 hx (y := (⟨sAB, "getChar", "([BI)C"⟩ : MethodName)) hown (mvT hZ (oW hw 157 rfl)) (mvT hZ (oW hw 158 rfl)) (mvT hZ (oW hw 133 rfl)) (mvT hZ (oW hw 159 rfl)) (by decide) (backOf (W := 0) (rmGC30 l Z a0 hw [] r_3 kr_3 xA (xA >>> ((0 : Int32) &&& 31)).toInt8.toInt32.toInt8.toInt32 (xA >>> ((8 : Int32) &&& 31)).toInt8.toInt32.toInt8.toInt32 (xB >>> ((0 : Int32) &&& 31)).toInt8.toInt32.toInt8.toInt32 (xB >>> ((8 : Int32) &&& 31)).toInt8.toInt32.toInt8.toInt32 (xC >>> ((0 : Int32) &&& 31)).toInt8.toInt32.toInt8.toInt32 (xC >>> ((8 : Int32) &&& 31)).toInt8.toInt32.toInt8.toInt32 T3.heap n0 (Nat.le_trans (Nat.le_trans (Nat.le_trans Z0 E1.1) Kq2.1) Kq3.1) (((O0.ext E1).keep Kq2 (allS g_b1 all0)).keep Kq3 all0) (by assumption) (by assumption) (by assumption) f3_0) hZ (oW hw 159 rfl) (oW hw 133 rfl) (by decide) (by decide)) (g := (mkF m 32 #[rv aC, iv 0, iv 3, rv b1, iv 0, rv r_3] [(.int 0), (.ref r_3)])) rfl (by rw [hml]; rfl) (argsL := [(.ref r_3), (.int 0)]) (rest := []) (lenOf own_pd5 rfl) rfl (by show 2 * 0 + _ ≤ _; exact Nat.le_of_eq rfl) (hb hby own_d18_32) (fun _ _ => ⟨rfl, rfl, (by decide : (((0 + 1) + 0) + 1) + 0 ≤ _), (by decide : (((0 + 3) + 0) + 6) + 0 ≤ _)⟩)
    dsimp only [Pt.U, Pt.locs, Pt.cells, Pt.slots] at X4 l4 y4 z4 st4 hQ4
    subst l4 y4 z4
    obtain ⟨rfl, Nq4, eq4⟩ := hQ4
    have N4 := Fr.app N3 Nq4
    refine ov (B := T4.setTop (mkF m 35 #[rv aC, iv 0, iv 3, rv b1, iv 0, rv r_3] [(.int (own_gc xA))])) (fun t k => st4 t k) ?_
    refine oSP (n := 38) X4 hx (255 : Int32) (hb hby own_d18_35) (by decide) rfl ?_
    have hc38 : (255 : Int32) < (own_gc xA) := by rw [own_gcx huA]; exact hbA
    refine ov (B := T4.setTop (mkF m 54 #[rv aC, iv 0, iv 3, rv b1, iv 0, rv r_3] [])) (fun t k => XS.icmpYes X4.here hx rfl (pc0 := 38) (pc' := 54) rfl (hb hby own_d18_38) rfl (tlt hc38).2.2.1 (by decide) (by decide) k) ?_
    refine oAL (n := 56) X4 hx (hb hby own_d18_54) rfl rfl rfl ?_
    refine own_leaf X4 hx hlk (t := (.array .byte)) Bd.returns rfl (Or.inr (Or.inr (Or.inr (Or.inr ⟨rfl, rfl, rfl⟩)))) (hb hby own_d18_56) (by decide) (by decide) ?_
    show QCB31 Z aC kc xA xB xC h0 n0 _ T4.heap _
    rw [eq4]
    refine ⟨r_3, kr_3, ?_, N4, ((((Keep.refl h0 []).ext E1).trans Kq2 (allS (Or.inr (Nat.le_of_eq g1.symm)) all0)).trans Kq3 all0), ?_, f3_0⟩
    · rfl
    · exact (Nat.le_trans (Nat.le_trans (Nat.le_trans (Nat.le_refl _) E1.1) Kq2.1) hr_3)
  · obtain ⟨_, _, ⟨T5, L5, k5, n5⟩, -, X5, ⟨Lc5, hQ5, l5, y5, z5⟩, st5⟩ := Jvm.LawKit.callS X1 hx (y := (⟨sAB, "compress", "([CI[BII)I"⟩ : MethodName)) hown (mvT hZ (oW hw 135 rfl)) (mvT hZ (oW hw 136 rfl)) (mvT hZ (oW hw 133 rfl)) (mvT hZ (oW hw 137 rfl)) (by decide) (backOf (W := 0) (rmCA31 l Z a0 hw [] aC b1 kc kc1 xA xB xC h1 n0 (Nat.le_trans Z0 E1.1) (Vc.ext E1) V1 (Nat.ne_of_lt (Nat.lt_of_lt_of_le Vc.lt (Nat.le_of_eq g1.symm))) g_b1 hsA hbB huB) hZ (oW hw 137 rfl) (oW hw 133 rfl) (by decide) (by decide)) (g := (mkF m 9 #[rv aC, iv 0, iv 3, rv b1, uu, uu] [(.int 3), (.int 0), (.ref b1), (.int 0), (.ref aC)])) rfl (by rw [hml]; rfl) (argsL := [(.ref aC), (.int 0), (.ref b1), (.int 0), (.int 3)]) (rest := []) (lenOf own_pd3 rfl) rfl (by show 2 * 0 + _ ≤ _; exact Nat.le_of_eq rfl) (hb hby own_d18_9) (fun _ _ => ⟨rfl, e1, (by decide : (0 + 1) + 0 ≤ _), (by decide : (0 + 3) + 0 ≤ _)⟩)
    dsimp only [Pt.U, Pt.locs, Pt.cells, Pt.slots] at X5 l5 y5 z5 st5 hQ5
    subst l5 y5 z5
    obtain ⟨rfl, Nq5, Kq5, f5_0⟩ := hQ5
    have N5 := Fr.app N0 Nq5
    refine ov (B := T5.setTop (mkF m 12 #[rv aC, iv 0, iv 3, rv b1, uu, uu] [(.int 1)])) (fun t k => st5 t k) ?_
    refine ov (B := T5.setTop (mkF m 14 #[rv aC, iv 0, iv 3, rv b1, iv 1, uu] [])) (fun t k => XS.istore X5.here hx rfl (hb hby own_d18_12) rfl (l' := #[rv aC, iv 0, iv 3, rv b1, iv 1, uu]) rfl k) ?_
    refine oIL (n := 16) X5 hx (hb hby own_d18_14) rfl rfl ?_
    refine oILN (n := 17) X5 hx (hb hby own_d18_16) rfl rfl ?_
    have hc17 : ¬ ((1 : Int32) = (3 : Int32)) := by decide
    refine ov (B := T5.setTop (mkF m 20 #[rv aC, iv 0, iv 3, rv b1, iv 1, uu] [])) (fun t k => XS.icmpNo X5.here hx rfl (hb hby own_d18_17) rfl (feq hc17).1 k) ?_
    refine oALN (n := 21) X5 hx (hb hby own_d18_20) rfl rfl rfl ?_
    refine oILN (n := 22) X5 hx (hb hby own_d18_21) rfl rfl ?_
    refine oILN (n := 23) X5 hx (hb hby own_d18_22) rfl rfl ?_
    obtain ⟨_, _, ⟨T6, L6, k6, n6⟩, -, X6, ⟨Lc6, hQ6, l6, y6, z6⟩, st6⟩ := Jvm.LawKit.callS X5 hx (y := (⟨sAB, "toBytes", "([CII)[B"⟩ : MethodName)) hown (mvT hZ (oW hw 141 rfl)) (mvT hZ (oW hw 142 rfl)) (mvT hZ (oW hw 133 rfl)) (mvT hZ (oW hw 143 rfl)) (by decide) (backOf (W := 0) (rmTB3 l Z a0 hw [] aC kc xA xB xC T5.heap n0 (Nat.le_trans (Nat.le_trans Z0 E1.1) Kq5.1) ((O0.ext E1).keep Kq5 (allS g_b1 all0)) (by assumption) (by assumption) (by assumption) ((Vc.ext E1).keep Kq5 (ninS (Nat.ne_of_lt (Nat.lt_of_lt_of_le Vc.lt (Nat.le_of_eq g1.symm))) nin0))) hZ (oW hw 143 rfl) (oW hw 133 rfl) (by decide) (by decide)) (g := (mkF m 23 #[rv aC, iv 0, iv 3, rv b1, iv 1, uu] [(.int 3), (.int 0), (.ref aC)])) rfl (by rw [hml]; rfl) (argsL := [(.ref aC), (.int 0), (.int 3)]) (rest := []) (lenOf own_pd4 rfl) rfl (by show 2 * 0 + _ ≤ _; exact Nat.le_of_eq rfl) (hb hby own_d18_23) (fun _ _ => ⟨rfl, rfl, (by decide : ((0 + 1) + 0) + 1 ≤ _), (by decide : ((0 + 3) + 0) + 6 ≤ _)⟩)
    dsimp only [Pt.U, Pt.locs, Pt.cells, Pt.slots] at X6 l6 y6 z6 st6 hQ6
    subst l6 y6 z6
    obtain ⟨r_6, kr_6, rfl, Nq6, Kq6, hr_6, f6_0⟩ := hQ6
    have N6 := Fr.app N5 Nq6
    have g_r_6 : n0 ≤ r_6 := Nat.le_trans (Nat.le_trans (Nat.le_trans Z0 E1.1) Kq5.1) hr_6
    refine ov (B := T6.setTop (mkF m 26 #[rv aC, iv 0, iv 3, rv b1, iv 1, uu] [(.ref r_6)])) (fun t k => st6 t k) ?_
    refine ov (B := T6.setTop (mkF m 28 #[rv aC, iv 0, iv 3, rv b1, iv 1, rv r_6] [])) (fun t k => XS.astore X6.here hx rfl (hb hby own_d18_26) rfl rfl (l' := #[rv aC, iv 0, iv 3, rv b1, iv 1, rv r_6]) rfl k) ?_
    refine oAL (n := 30) X6 hx (hb hby own_d18_28) rfl rfl rfl ?_
    refine oIL (n := 32) X6 hx (hb hby own_d18_30) rfl rfl ?_
    obtain ⟨_, _, ⟨T7, L7, k7, n7⟩, -, X7, ⟨Lc7, hQ7, l7, y7, z7⟩, st7⟩ := Jvm.LawKit.callS X6 hx (y := (⟨sAB, "getChar", "([BI)C"⟩ : MethodName)) hown (mvT hZ (oW hw 157 rfl)) (mvT hZ (oW hw 158 rfl)) (mvT hZ (oW hw 133 rfl)) (mvT hZ (oW hw 159 rfl)) (by decide) (backOf (W := 0) (rmGC31 l Z a0 hw [] r_6 kr_6 xB (xA >>> ((0 : Int32) &&& 31)).toInt8.toInt32.toInt8.toInt32 (xA >>> ((8 : Int32) &&& 31)).toInt8.toInt32.toInt8.toInt32 (xB >>> ((0 : Int32) &&& 31)).toInt8.toInt32.toInt8.toInt32 (xB >>> ((8 : Int32) &&& 31)).toInt8.toInt32.toInt8.toInt32 (xC >>> ((0 : Int32) &&& 31)).toInt8.toInt32.toInt8.toInt32 (xC >>> ((8 : Int32) &&& 31)).toInt8.toInt32.toInt8.toInt32 T6.heap n0 (Nat.le_trans (Nat.le_trans (Nat.le_trans Z0 E1.1) Kq5.1) Kq6.1) (((O0.ext E1).keep Kq5 (allS g_b1 all0)).keep Kq6 all0) (by assumption) (by assumption) (by assumption) f6_0) hZ (oW hw 159 rfl) (oW hw 133 rfl) (by decide) (by decide)) (g := (mkF m 32 #[rv aC, iv 0, iv 3, rv b1, iv 1, rv r_6] [(.int 1), (.ref r_6)])) rfl (by rw [hml]; rfl) (argsL := [(.ref r_6), (.int 1)]) (rest := []) (lenOf own_pd5 rfl) rfl (by show 2 * 0 + _ ≤ _; exact Nat.le_of_eq rfl) (hb hby own_d18_32) (fun _ _ => ⟨rfl, rfl, (by decide : (((0 + 1) + 0) + 1) + 0 ≤ _), (by decide : (((0 + 3) + 0) + 6) + 0 ≤ _)⟩)
    dsimp only [Pt.U, Pt.locs, Pt.cells, Pt.slots] at X7 l7 y7 z7 st7 hQ7
    subst l7 y7 z7
    obtain ⟨rfl, Nq7, eq7⟩ := hQ7
    have N7 := Fr.app N6 Nq7
    refine ov (B := T7.setTop (mkF m 35 #[rv aC, iv 0, iv 3, rv b1, iv 1, rv r_6] [(.int (own_gc xB))])) (fun t k => st7 t k) ?_
    refine oSP (n := 38) X7 hx (255 : Int32) (hb hby own_d18_35) (by decide) rfl ?_
    have hc38 : (255 : Int32) < (own_gc xB) := by rw [own_gcx huB]; exact hbB
    refine ov (B := T7.setTop (mkF m 54 #[rv aC, iv 0, iv 3, rv b1, iv 1, rv r_6] [])) (fun t k => XS.icmpYes X7.here hx rfl (pc0 := 38) (pc' := 54) rfl (hb hby own_d18_38) rfl (tlt hc38).2.2.1 (by decide) (by decide) k) ?_
    refine oAL (n := 56) X7 hx (hb hby own_d18_54) rfl rfl rfl ?_
    refine own_leaf X7 hx hlk (t := (.array .byte)) Bd.returns rfl (Or.inr (Or.inr (Or.inr (Or.inr ⟨rfl, rfl, rfl⟩)))) (hb hby own_d18_56) (by decide) (by decide) ?_
    show QCB31 Z aC kc xA xB xC h0 n0 _ T7.heap _
    rw [eq7]
    refine ⟨r_6, kr_6, ?_, N7, ((((Keep.refl h0 []).ext E1).trans Kq5 (allS (Or.inr (Nat.le_of_eq g1.symm)) all0)).trans Kq6 all0), ?_, f6_0⟩
    · rfl
    · exact (Nat.le_trans (Nat.le_trans (Nat.le_trans (Nat.le_refl _) E1.1) Kq5.1) hr_6)
  · obtain ⟨_, _, ⟨T8, L8, k8, n8⟩, -, X8, ⟨Lc8, hQ8, l8, y8, z8⟩, st8⟩ := Jvm.LawKit.callS X1 hx (y := (⟨sAB, "compress", "([CI[BII)I"⟩ : MethodName)) hown (mvT hZ (oW hw 135 rfl)) (mvT hZ (oW hw 136 rfl)) (mvT hZ (oW hw 133 rfl)) (mvT hZ (oW hw 137 rfl)) (by decide) (backOf (W := 0) (rmCA32 l Z a0 hw [] aC b1 kc kc1 xA xB xC h1 n0 (Nat.le_trans Z0 E1.1) (Vc.ext E1) V1 (Nat.ne_of_lt (Nat.lt_of_lt_of_le Vc.lt (Nat.le_of_eq g1.symm))) g_b1 hsA hsB hbC huC) hZ (oW hw 137 rfl) (oW hw 133 rfl) (by decide) (by decide)) (g := (mkF m 9 #[rv aC, iv 0, iv 3, rv b1, uu, uu] [(.int 3), (.int 0), (.ref b1), (.int 0), (.ref aC)])) rfl (by rw [hml]; rfl) (argsL := [(.ref aC), (.int 0), (.ref b1), (.int 0), (.int 3)]) (rest := []) (lenOf own_pd3 rfl) rfl (by show 2 * 0 + _ ≤ _; exact Nat.le_of_eq rfl) (hb hby own_d18_9) (fun _ _ => ⟨rfl, e1, (by decide : (0 + 1) + 0 ≤ _), (by decide : (0 + 3) + 0 ≤ _)⟩)
    dsimp only [Pt.U, Pt.locs, Pt.cells, Pt.slots] at X8 l8 y8 z8 st8 hQ8
    subst l8 y8 z8
    obtain ⟨rfl, Nq8, Kq8, f8_0⟩ := hQ8
    have N8 := Fr.app N0 Nq8
    refine ov (B := T8.setTop (mkF m 12 #[rv aC, iv 0, iv 3, rv b1, uu, uu] [(.int 2)])) (fun t k => st8 t k) ?_
    refine ov (B := T8.setTop (mkF m 14 #[rv aC, iv 0, iv 3, rv b1, iv 2, uu] [])) (fun t k => XS.istore X8.here hx rfl (hb hby own_d18_12) rfl (l' := #[rv aC, iv 0, iv 3, rv b1, iv 2, uu]) rfl k) ?_
    refine oIL (n := 16) X8 hx (hb hby own_d18_14) rfl rfl ?_
    refine oILN (n := 17) X8 hx (hb hby own_d18_16) rfl rfl ?_
    have hc17 : ¬ ((2 : Int32) = (3 : Int32)) := by decide
    refine ov (B := T8.setTop (mkF m 20 #[rv aC, iv 0, iv 3, rv b1, iv 2, uu] [])) (fun t k => XS.icmpNo X8.here hx rfl (hb hby own_d18_17) rfl (feq hc17).1 k) ?_
    refine oALN (n := 21) X8 hx (hb hby own_d18_20) rfl rfl rfl ?_
    refine oILN (n := 22) X8 hx (hb hby own_d18_21) rfl rfl ?_
    refine oILN (n := 23) X8 hx (hb hby own_d18_22) rfl rfl ?_
    obtain ⟨_, _, ⟨T9, L9, k9, n9⟩, -, X9, ⟨Lc9, hQ9, l9, y9, z9⟩, st9⟩ := Jvm.LawKit.callS X8 hx (y := (⟨sAB, "toBytes", "([CII)[B"⟩ : MethodName)) hown (mvT hZ (oW hw 141 rfl)) (mvT hZ (oW hw 142 rfl)) (mvT hZ (oW hw 133 rfl)) (mvT hZ (oW hw 143 rfl)) (by decide) (backOf (W := 0) (rmTB3 l Z a0 hw [] aC kc xA xB xC T8.heap n0 (Nat.le_trans (Nat.le_trans Z0 E1.1) Kq8.1) ((O0.ext E1).keep Kq8 (allS g_b1 all0)) (by assumption) (by assumption) (by assumption) ((Vc.ext E1).keep Kq8 (ninS (Nat.ne_of_lt (Nat.lt_of_lt_of_le Vc.lt (Nat.le_of_eq g1.symm))) nin0))) hZ (oW hw 143 rfl) (oW hw 133 rfl) (by decide) (by decide)) (g := (mkF m 23 #[rv aC, iv 0, iv 3, rv b1, iv 2, uu] [(.int 3), (.int 0), (.ref aC)])) rfl (by rw [hml]; rfl) (argsL := [(.ref aC), (.int 0), (.int 3)]) (rest := []) (lenOf own_pd4 rfl) rfl (by show 2 * 0 + _ ≤ _; exact Nat.le_of_eq rfl) (hb hby own_d18_23) (fun _ _ => ⟨rfl, rfl, (by decide : ((0 + 1) + 0) + 1 ≤ _), (by decide : ((0 + 3) + 0) + 6 ≤ _)⟩)
    dsimp only [Pt.U, Pt.locs, Pt.cells, Pt.slots] at X9 l9 y9 z9 st9 hQ9
    subst l9 y9 z9
    obtain ⟨r_9, kr_9, rfl, Nq9, Kq9, hr_9, f9_0⟩ := hQ9
    have N9 := Fr.app N8 Nq9
    have g_r_9 : n0 ≤ r_9 := Nat.le_trans (Nat.le_trans (Nat.le_trans Z0 E1.1) Kq8.1) hr_9
    refine ov (B := T9.setTop (mkF m 26 #[rv aC, iv 0, iv 3, rv b1, iv 2, uu] [(.ref r_9)])) (fun t k => st9 t k) ?_
    refine ov (B := T9.setTop (mkF m 28 #[rv aC, iv 0, iv 3, rv b1, iv 2, rv r_9] [])) (fun t k => XS.astore X9.here hx rfl (hb hby own_d18_26) rfl rfl (l' := #[rv aC, iv 0, iv 3, rv b1, iv 2, rv r_9]) rfl k) ?_
    refine oAL (n := 30) X9 hx (hb hby own_d18_28) rfl rfl rfl ?_
    refine oIL (n := 32) X9 hx (hb hby own_d18_30) rfl rfl ?_
    obtain ⟨_, _, ⟨T10, L10, k10, n10⟩, -, X10, ⟨Lc10, hQ10, l10, y10, z10⟩, st10⟩ := Jvm.LawKit.callS X9 hx (y := (⟨sAB, "getChar", "([BI)C"⟩ : MethodName)) hown (mvT hZ (oW hw 157 rfl)) (mvT hZ (oW hw 158 rfl)) (mvT hZ (oW hw 133 rfl)) (mvT hZ (oW hw 159 rfl)) (by decide) (backOf (W := 0) (rmGC32 l Z a0 hw [] r_9 kr_9 xC (xA >>> ((0 : Int32) &&& 31)).toInt8.toInt32.toInt8.toInt32 (xA >>> ((8 : Int32) &&& 31)).toInt8.toInt32.toInt8.toInt32 (xB >>> ((0 : Int32) &&& 31)).toInt8.toInt32.toInt8.toInt32 (xB >>> ((8 : Int32) &&& 31)).toInt8.toInt32.toInt8.toInt32 (xC >>> ((0 : Int32) &&& 31)).toInt8.toInt32.toInt8.toInt32 (xC >>> ((8 : Int32) &&& 31)).toInt8.toInt32.toInt8.toInt32 T9.heap n0 (Nat.le_trans (Nat.le_trans (Nat.le_trans Z0 E1.1) Kq8.1) Kq9.1) (((O0.ext E1).keep Kq8 (allS g_b1 all0)).keep Kq9 all0) (by assumption) (by assumption) (by assumption) f9_0) hZ (oW hw 159 rfl) (oW hw 133 rfl) (by decide) (by decide)) (g := (mkF m 32 #[rv aC, iv 0, iv 3, rv b1, iv 2, rv r_9] [(.int 2), (.ref r_9)])) rfl (by rw [hml]; rfl) (argsL := [(.ref r_9), (.int 2)]) (rest := []) (lenOf own_pd5 rfl) rfl (by show 2 * 0 + _ ≤ _; exact Nat.le_of_eq rfl) (hb hby own_d18_32) (fun _ _ => ⟨rfl, rfl, (by decide : (((0 + 1) + 0) + 1) + 0 ≤ _), (by decide : (((0 + 3) + 0) + 6) + 0 ≤ _)⟩)
    dsimp only [Pt.U, Pt.locs, Pt.cells, Pt.slots] at X10 l10 y10 z10 st10 hQ10
    subst l10 y10 z10
    obtain ⟨rfl, Nq10, eq10⟩ := hQ10
    have N10 := Fr.app N9 Nq10
    refine ov (B := T10.setTop (mkF m 35 #[rv aC, iv 0, iv 3, rv b1, iv 2, rv r_9] [(.int (own_gc xC))])) (fun t k => st10 t k) ?_
    refine oSP (n := 38) X10 hx (255 : Int32) (hb hby own_d18_35) (by decide) rfl ?_
    have hc38 : (255 : Int32) < (own_gc xC) := by rw [own_gcx huC]; exact hbC
    refine ov (B := T10.setTop (mkF m 54 #[rv aC, iv 0, iv 3, rv b1, iv 2, rv r_9] [])) (fun t k => XS.icmpYes X10.here hx rfl (pc0 := 38) (pc' := 54) rfl (hb hby own_d18_38) rfl (tlt hc38).2.2.1 (by decide) (by decide) k) ?_
    refine oAL (n := 56) X10 hx (hb hby own_d18_54) rfl rfl rfl ?_
    refine own_leaf X10 hx hlk (t := (.array .byte)) Bd.returns rfl (Or.inr (Or.inr (Or.inr (Or.inr ⟨rfl, rfl, rfl⟩)))) (hb hby own_d18_56) (by decide) (by decide) ?_
    show QCB31 Z aC kc xA xB xC h0 n0 _ T10.heap _
    rw [eq10]
    refine ⟨r_9, kr_9, ?_, N10, ((((Keep.refl h0 []).ext E1).trans Kq8 (allS (Or.inr (Nat.le_of_eq g1.symm)) all0)).trans Kq9 all0), ?_, f9_0⟩
    · rfl
    · exact (Nat.le_trans (Nat.le_trans (Nat.le_trans (Nat.le_refl _) E1.1) Kq8.1) hr_9)
theorem own_pn1 : plainName "java/lang/String" = true := by first | (simp [plainName, overriddenIn]; done) | decide +kernel
theorem own_pd6 : parseMethodDescriptor "([BI)B" = some ⟨[(.array .byte), .int], some .byte⟩ := by decide +kernel
theorem own_d3_0 : decode jdk_42_method_149_code 0 = .ok (.aload_n 0, 1) := by decide +kernel
theorem own_d3_1 : decode jdk_42_method_149_code 1 = .ok (.invokespecial 1, 3) := by decide +kernel
theorem own_d3_4 : decode jdk_42_method_149_code 4 = .ok (.iload_n 3, 1) := by decide +kernel
theorem own_d3_5 : decode jdk_42_method_149_code 5 = .ok (.ifCond .ne 22, 3) := by decide +kernel
theorem own_d3_27 : decode jdk_42_method_149_code 27 = .ok (.getstatic 38, 3) := by decide +kernel
theorem own_d3_30 : decode jdk_42_method_149_code 30 = .ok (.ifCond .eq 28, 3) := by decide +kernel
theorem own_d3_33 : decode jdk_42_method_149_code 33 = .ok (.aload_n 1, 1) := by decide +kernel
theorem own_d3_34 : decode jdk_42_method_149_code 34 = .ok (.iload_n 2, 1) := by decide +kernel
theorem own_d3_35 : decode jdk_42_method_149_code 35 = .ok (.iload_n 3, 1) := by decide +kernel
theorem own_d3_36 : decode jdk_42_method_149_code 36 = .ok (.invokestatic 177, 3) := by decide +kernel
theorem own_d3_39 : decode jdk_42_method_149_code 39 = .ok (.astore 5, 2) := by decide +kernel
theorem own_d3_41 : decode jdk_42_method_149_code 41 = .ok (.aload_n 0, 1) := by decide +kernel
theorem own_d3_42 : decode jdk_42_method_149_code 42 = .ok (.aload 5, 2) := by decide +kernel
theorem own_d3_44 : decode jdk_42_method_149_code 44 = .ok (.iload_n 3, 1) := by decide +kernel
theorem own_d3_45 : decode jdk_42_method_149_code 45 = .ok (.invokestatic 47, 3) := by decide +kernel
theorem own_d3_48 : decode jdk_42_method_149_code 48 = .ok (.putfield 15, 3) := by decide +kernel
theorem own_d3_51 : decode jdk_42_method_149_code 51 = .ok (.aload_n 0, 1) := by decide +kernel
theorem own_d3_52 : decode jdk_42_method_149_code 52 = .ok (.aload 5, 2) := by decide +kernel
theorem own_d3_54 : decode jdk_42_method_149_code 54 = .ok (.putfield 9, 3) := by decide +kernel
theorem own_d3_57 : decode jdk_42_method_149_code 57 = .ok (.return_, 1) := by decide +kernel
theorem own_efSA10 (m : MethodId) (x0 : Addr) (x1 : Addr) (x2 : Int32) (x3 : Int32) : entryFrame m #[(.ref x0), (.ref x1), (.int x2), (.int x3), .null] 6 = mkF m 0 #[rv x0, rv x1, iv x2, iv x3, .val .null, uu] [] := by first | (simp [entryFrame, mkF, argsToLocals, Value.category]; done) | rfl
def QSA10 (Z : State) (x1 : Addr) (b1 : Addr) (zc : Int32) (u1 : Value) (u2 : Value) (kc : ClassId) (xA : Int32) (h0 : Heap) (n0 : Nat) (v : Option Value) (h : Heap) (L : List Loc) : Prop := ∃ (t : Addr) (kt : ClassId), v = none ∧ Fr n0 L ∧ Keep h0 h [x1] ∧ (h0.size ≤ t) ∧ (Fld Z h x1 sAA "coder" "B" (.int (0 : Int32))) ∧ (Fld Z h x1 sAA "value" "[B" (.ref t)) ∧ (Arv Z h t kt .byte (1 : Int32) [(.int xA.toInt8.toInt32.toInt8.toInt32)] (.int (0 : Int32)))
set_option maxRecDepth 65536 in
set_option maxHeartbeats 40000000 in
theorem rmSA10 (l : Launch) (Z : State) (a0 : Array Value) (hw : ∀ d ∈ tables_1, d.before a0 Z = true) (ws : List Jvm.Cond) (x1 : Addr) (b1 : Addr) (zc : Int32) (u1 : Value) (u2 : Value) (kc : ClassId) (xA : Int32) (h0 : Heap) (n0 : Nat) (Z0 : n0 ≤ h0.size) (O0 : Old Z n0 h0) (Scz : Sta Z Z.heap sAA "COMPACT_STRINGS" "Z" (.int zc)) (hcz : ¬ zc = 0) (Ei : Exa Z h0 x1 sAA) (Fv : Fld Z h0 x1 sAA "value" "[B" u1) (Fc : Fld Z h0 x1 sAA "coder" "B" u2) (g_x1 : n0 ≤ x1) (Vc : Arv Z h0 b1 kc .char (1 : Int32) [(.int xA)] (.int (0 : Int32))) (hsA : ¬ (255 : Int32) < xA) :
    MetFree l (⟨sAA, "<init>", sAG⟩ : MethodName) (head1 (Jvm.Cond.code (⟨sAA, "<init>", sAG⟩ : MethodName) jdk_42_method_149_code 6 none :: ws) (oR 4 2 3 80)) (fun a U => a = #[(.ref x1), (.ref b1), (.int 0), (.int 1), .null] ∧ Z.Warmed39 U.vm ∧ U.heap = h0) (fun _ _ _ _ _ => True) (fun _ U o U' => ∃ v L, o = .returned v ∧ QSA10 Z x1 b1 zc u1 u2 kc xA h0 n0 v U'.heap L ∧ FrameEnd U o U' L (oR 4 2 3 80).cells (oR 4 2 3 80).slots) := by
  refine MetFree.of_bodySF (plainFor_of_name own_pn1) hisR ?_
  intro p e s m args below meth c s₁ Bd hml0 hP hK
  obtain ⟨rfl, hZ, hh⟩ := hP
  have hx := Bd.exec
  have hby := Bd.bytes
  have hlk : meth.locks = false := Bd.notSynchronized
  have hml : c.maxLocals = 6 := hml0
  have hown : s.vm.findClass sAA = some m.cls := findClass_of_methodNamed Bd.named
  have hnm := (name_of_methodNamed Bd.named Bd.method).1
  have X0 : Stand p l e (oR 4 2 3 80) s m #[(.ref x1), (.ref b1), (.int 0), (.int 1), .null] below meth c s₁ [] 0 0 := Stand.of_body Bd
  have e0 : s₁.heap = h0 := by rw [← hh, Bd.state]; rfl
  have N0 := Fr.nil n0
  refine own_body (A := s₁.setTop (mkF m 0 #[rv x1, rv b1, iv 0, iv 1, .val .null, uu] [])) (Q := QSA10 Z x1 b1 zc u1 u2 kc xA h0 n0) (fun t k => castTop (own_efSA10 m x1 b1 (0 : Int32) (1 : Int32)) k) ?_
  refine oALN (n := 1) X0 hx (hb hby own_d3_0) rfl rfl rfl ?_
  obtain ⟨T1, X1, e1, st1⟩ := initO X0 hx hZ hown (oW hw 16 rfl) (oW hw 17 rfl) (oW hw 18 rfl) e0 (g := (mkF m 1 #[rv x1, rv b1, iv 0, iv 1, .val .null, uu] [(.ref x1)])) rfl (by rw [hml]; rfl) rfl (hb hby own_d3_1) (by decide) (W := 0) (by show 2 * 0 + _ ≤ _; exact Nat.le_of_eq rfl) (by decide)
  refine ov (B := T1.setTop (mkF m 4 #[rv x1, rv b1, iv 0, iv 1, .val .null, uu] [])) (fun t k => st1 t k) ?_
  refine oILN (n := 5) X1 hx (hb hby own_d3_4) rfl rfl ?_
  have hc5 : ¬ ((1 : Int32) = (0 : Int32)) := by decide
  refine ov (B := T1.setTop (mkF m 27 #[rv x1, rv b1, iv 0, iv 1, .val .null, uu] [])) (fun t k => XS.ifYes X1.here hx rfl (pc0 := 5) (pc' := 27) rfl (hb hby own_d3_5) rfl ((if0 _ _).trans (feq hc5).2) (by decide) (by decide) k) ?_
  obtain ⟨T2, X2, e2, st2⟩ := getS2 X1 hx hZ hown (host := "") (Or.inl (oW hw 121 rfl)) Via.refl e1 (Scz.ext O0.2) (g := (mkF m 27 #[rv x1, rv b1, iv 0, iv 1, .val .null, uu] [])) rfl (hb hby own_d3_27)
  refine ov (B := T2.setTop (mkF m 30 #[rv x1, rv b1, iv 0, iv 1, .val .null, uu] [(.int zc)])) (fun t k => st2 t k) ?_
  have hc30 : ¬ (zc = (0 : Int32)) := hcz
  refine ov (B := T2.setTop (mkF m 33 #[rv x1, rv b1, iv 0, iv 1, .val .null, uu] [])) (fun t k => XS.ifNo X2.here hx rfl (hb hby own_d3_30) rfl ((if0 _ _).trans (feq hc30).1) k) ?_
  refine oALN (n := 34) X2 hx (hb hby own_d3_33) rfl rfl rfl ?_
  refine oILN (n := 35) X2 hx (hb hby own_d3_34) rfl rfl ?_
  refine oILN (n := 36) X2 hx (hb hby own_d3_35) rfl rfl ?_
  obtain ⟨_, _, ⟨T3, L3, k3, n3⟩, -, X3, ⟨Lc3, hQ3, l3, y3, z3⟩, st3⟩ := Jvm.LawKit.callS X2 hx (y := (⟨sAB, "compress", "([CII)[B"⟩ : MethodName)) hown (mvT hZ (oW hw 131 rfl)) (mvT hZ (oW hw 132 rfl)) (mvT hZ (oW hw 133 rfl)) (mvT hZ (oW hw 134 rfl)) (by decide) (backOf (W := 0) (rmCB10 l Z a0 hw [] b1 kc xA h0 n0 Z0 Vc hsA) hZ (oW hw 134 rfl) (oW hw 133 rfl) (by decide) (by decide)) (g := (mkF m 36 #[rv x1, rv b1, iv 0, iv 1, .val .null, uu] [(.int 1), (.int 0), (.ref b1)])) rfl (by rw [hml]; rfl) (argsL := [(.ref b1), (.int 0), (.int 1)]) (rest := []) (lenOf own_pd4 rfl) rfl (by show 2 * 0 + _ ≤ _; exact Nat.le_of_eq rfl) (hb hby own_d3_36) (fun _ _ => ⟨rfl, e2, (by decide : 0 + 2 ≤ _), (by decide : 0 + 3 ≤ _)⟩)
  dsimp only [Pt.U, Pt.locs, Pt.cells, Pt.slots] at X3 l3 y3 z3 st3 hQ3
  subst l3 y3 z3
  obtain ⟨r_3, kr_3, rfl, Nq3, Kq3, hr_3, f3_0⟩ := hQ3
  have N3 := Fr.app N0 Nq3
  have g_r_3 : n0 ≤ r_3 := Nat.le_trans Z0 hr_3
  refine ov (B := T3.setTop (mkF m 39 #[rv x1, rv b1, iv 0, iv 1, .val .null, uu] [(.ref r_3)])) (fun t k => st3 t k) ?_
  refine ov (B := T3.setTop (mkF m 41 #[rv x1, rv b1, iv 0, iv 1, .val .null, rv r_3] [])) (fun t k => XS.astore X3.here hx rfl (hb hby own_d3_39) rfl rfl (l' := #[rv x1, rv b1, iv 0, iv 1, .val .null, rv r_3]) rfl k) ?_
  refine oALN (n := 42) X3 hx (hb hby own_d3_41) rfl rfl rfl ?_
  refine oAL (n := 44) X3 hx (hb hby own_d3_42) rfl rfl rfl ?_
  refine oILN (n := 45) X3 hx (hb hby own_d3_44) rfl rfl ?_
  obtain ⟨_, _, ⟨T4, L4, k4, n4⟩, -, X4, ⟨Lc4, hQ4, l4, y4, z4⟩, st4⟩ := Jvm.LawKit.callS X3 hx (y := (⟨sAB, sAN, "([BI)B"⟩ : MethodName)) hown (mvT hZ (oW hw 138 rfl)) (mvT hZ (oW hw 139 rfl)) (mvT hZ (oW hw 133 rfl)) (mvT hZ (oW hw 140 rfl)) (by decide) (backOf (W := 1) (rmCF11 l Z a0 hw [] r_3 kr_3 xA.toInt8.toInt32.toInt8.toInt32 T3.heap n0 (Nat.le_trans Z0 Kq3.1) f3_0) hZ (oW hw 140 rfl) (oW hw 133 rfl) (by decide) (by decide)) (g := (mkF m 45 #[rv x1, rv b1, iv 0, iv 1, .val .null, rv r_3] [(.int 1), (.ref r_3), (.ref x1)])) rfl (by rw [hml]; rfl) (argsL := [(.ref r_3), (.int 1)]) (rest := [(.ref x1)]) (lenOf own_pd6 rfl) rfl (by show 2 * 0 + _ ≤ _; exact Nat.le_of_eq rfl) (hb hby own_d3_45) (fun _ _ => ⟨rfl, rfl, (by decide : (0 + 2) + 0 ≤ _), (by decide : (0 + 3) + 0 ≤ _)⟩)
  dsimp only [Pt.U, Pt.locs, Pt.cells, Pt.slots] at X4 l4 y4 z4 st4 hQ4
  subst l4 y4 z4
  obtain ⟨rfl, Nq4, eq4⟩ := hQ4
  have N4 := Fr.app N3 Nq4
  refine ov (B := T4.setTop (mkF m 48 #[rv x1, rv b1, iv 0, iv 1, .val .null, rv r_3] [(.int 0), (.ref x1)])) (fun t k => st4 t k) ?_
  obtain ⟨T5, h5, X5, e5, W5, st5⟩ := putFN X4 hx hZ hown (oW hw 26 rfl) Via.refl eq4 (Fc.keep Kq3 nin0) (Ei.keep Kq3) (Or.inr ⟨(oW hw 22 rfl), rfl, hnm⟩) (oW hw 6 rfl) (ty := .byte) (v' := (.int 0)) (by decide) (by decide) (by decide) (g := (mkF m 48 #[rv x1, rv b1, iv 0, iv 1, .val .null, rv r_3] [(.int 0), (.ref x1)])) rfl rfl (hb hby own_d3_48)
  have Fw5 := (Fc.keep Kq3 nin0).same W5
  have N5 := Fr.snoc X5 N4 g_x1
  refine ov (B := T5.setTop (mkF m 51 #[rv x1, rv b1, iv 0, iv 1, .val .null, rv r_3] [])) (fun t k => st5 t k) ?_
  refine oALN (n := 52) X5 hx (hb hby own_d3_51) rfl rfl rfl ?_
  refine oAL (n := 54) X5 hx (hb hby own_d3_52) rfl rfl rfl ?_
  obtain ⟨T6, h6, X6, e6, W6, st6⟩ := putF X5 hx hZ hown (host := "") (Or.inl (oW hw 25 rfl)) Via.refl e5 ((Fv.keep Kq3 nin0).other W5 (Or.inr (slot_ne (Or.inr (oW hw 21 rfl)) (Or.inr (oW hw 22 rfl)) (by decide +kernel) (t := (.array .byte)) (t' := .byte) (by decide +kernel) (by decide +kernel)))) ((Ei.keep Kq3).wr W5) (Or.inr ⟨(oW hw 21 rfl), rfl, hnm⟩) (oW hw 6 rfl) (ty := (.array .byte)) (by decide) rfl rfl (g := (mkF m 54 #[rv x1, rv b1, iv 0, iv 1, .val .null, rv r_3] [(.ref r_3), (.ref x1)])) rfl rfl (hb hby own_d3_54)
  have Fw6 := ((Fv.keep Kq3 nin0).other W5 (Or.inr (slot_ne (Or.inr (oW hw 21 rfl)) (Or.inr (oW hw 22 rfl)) (by decide +kernel) (t := (.array .byte)) (t' := .byte) (by decide +kernel) (by decide +kernel)))).same W6
  have N6 := Fr.snoc X6 N5 g_x1
  refine ov (B := T6.setTop (mkF m 57 #[rv x1, rv b1, iv 0, iv 1, .val .null, rv r_3] [])) (fun t k => st6 t k) ?_
  refine own_leafV X6 hx hlk Bd.returns (hb hby own_d3_57) (by decide) (by decide) ?_
  show QSA10 Z x1 b1 zc u1 u2 kc xA h0 n0 _ T6.heap _
  rw [e6]
  refine ⟨r_3, kr_3, ?_, N6, ((((Keep.refl h0 [x1]).trans Kq3 all0).wr W5 (Or.inl (List.mem_of_getElem? (i := 0) rfl))).wr W6 (Or.inl (List.mem_of_getElem? (i := 0) rfl))), ?_, (Fw5.other W6 (Or.inr (slot_ne (Or.inr (oW hw 22 rfl)) (Or.inr (oW hw 21 rfl)) (by decide +kernel) (t := .byte) (t' := (.array .byte)) (by decide +kernel) (by decide +kernel)))), Fw6, ((f3_0.other W5 (Ne.symm (Nat.ne_of_lt (Nat.lt_of_lt_of_le Ei.lt hr_3)))).other W6 (Ne.symm (Nat.ne_of_lt (Nat.lt_of_lt_of_le Ei.lt hr_3))))⟩
  · rfl
  · exact hr_3
theorem own_pd7 : parseMethodDescriptor sAG = some ⟨[(.array .char), .int, .int, (.object "java/lang/Void")], none⟩ := by decide +kernel
theorem own_d2_0 : decode jdk_42_method_3_code 0 = .ok (.aload_n 0, 1) := by decide +kernel
theorem own_d2_1 : decode jdk_42_method_3_code 1 = .ok (.aload_n 1, 1) := by decide +kernel
theorem own_d2_2 : decode jdk_42_method_3_code 2 = .ok (.iconst 0, 1) := by decide +kernel
theorem own_d2_3 : decode jdk_42_method_3_code 3 = .ok (.aload_n 1, 1) := by decide +kernel
theorem own_d2_4 : decode jdk_42_method_3_code 4 = .ok (.arraylength, 1) := by decide +kernel
theorem own_d2_5 : decode jdk_42_method_3_code 5 = .ok (.aconst_null, 1) := by decide +kernel
theorem own_d2_6 : decode jdk_42_method_3_code 6 = .ok (.invokespecial 27, 3) := by decide +kernel
theorem own_d2_9 : decode jdk_42_method_3_code 9 = .ok (.return_, 1) := by decide +kernel
theorem own_efSB10 (m : MethodId) (x0 : Addr) (x1 : Addr) : entryFrame m #[(.ref x0), (.ref x1)] 2 = mkF m 0 #[rv x0, rv x1] [] := by first | (simp [entryFrame, mkF, argsToLocals, Value.category]; done) | rfl
def QSB10 (Z : State) (x1 : Addr) (b1 : Addr) (zc : Int32) (u1 : Value) (u2 : Value) (kc : ClassId) (xA : Int32) (h0 : Heap) (n0 : Nat) (v : Option Value) (h : Heap) (L : List Loc) : Prop := ∃ (t : Addr) (kt : ClassId), v = none ∧ Fr n0 L ∧ Keep h0 h [x1] ∧ (h0.size ≤ t) ∧ (Fld Z h x1 sAA "coder" "B" (.int (0 : Int32))) ∧ (Fld Z h x1 sAA "value" "[B" (.ref t)) ∧ (Arv Z h t kt .byte (1 : Int32) [(.int xA.toInt8.toInt32.toInt8.toInt32)] (.int (0 : Int32)))
set_option maxRecDepth 65536 in
set_option maxHeartbeats 40000000 in
theorem rmSB10 (l : Launch) (Z : State) (a0 : Array Value) (hw : ∀ d ∈ tables_1, d.before a0 Z = true) (ws : List Jvm.Cond) (x1 : Addr) (b1 : Addr) (zc : Int32) (u1 : Value) (u2 : Value) (kc : ClassId) (xA : Int32) (h0 : Heap) (n0 : Nat) (Z0 : n0 ≤ h0.size) (O0 : Old Z n0 h0) (Scz : Sta Z Z.heap sAA "COMPACT_STRINGS" "Z" (.int zc)) (hcz : ¬ zc = 0) (Ei : Exa Z h0 x1 sAA) (Fv : Fld Z h0 x1 sAA "value" "[B" u1) (Fc : Fld Z h0 x1 sAA "coder" "B" u2) (g_x1 : n0 ≤ x1) (Vc : Arv Z h0 b1 kc .char (1 : Int32) [(.int xA)] (.int (0 : Int32))) (hsA : ¬ (255 : Int32) < xA) :
    MetFree l (⟨sAA, "<init>", "([C)V"⟩ : MethodName) (head1 (Jvm.Cond.code (⟨sAA, "<init>", "([C)V"⟩ : MethodName) jdk_42_method_3_code 2 none :: ws) (oR 5 2 3 104)) (fun a U => a = #[(.ref x1), (.ref b1)] ∧ Z.Warmed39 U.vm ∧ U.heap = h0) (fun _ _ _ _ _ => True) (fun _ U o U' => ∃ v L, o = .returned v ∧ QSB10 Z x1 b1 zc u1 u2 kc xA h0 n0 v U'.heap L ∧ FrameEnd U o U' L (oR 5 2 3 104).cells (oR 5 2 3 104).slots) := by
  refine MetFree.of_bodySF (plainFor_of_name own_pn1) hisR ?_
  intro p e s m args below meth c s₁ Bd hml0 hP hK
  obtain ⟨rfl, hZ, hh⟩ := hP
  have hx := Bd.exec
  have hby := Bd.bytes
  have hlk : meth.locks = false := Bd.notSynchronized
  have hml : c.maxLocals = 2 := hml0
  have hown : s.vm.findClass sAA = some m.cls := findClass_of_methodNamed Bd.named
  have hnm := (name_of_methodNamed Bd.named Bd.method).1
  have X0 : Stand p l e (oR 5 2 3 104) s m #[(.ref x1), (.ref b1)] below meth c s₁ [] 0 0 := Stand.of_body Bd
  have e0 : s₁.heap = h0 := by rw [← hh, Bd.state]; rfl
  have N0 := Fr.nil n0
  refine own_body (A := s₁.setTop (mkF m 0 #[rv x1, rv b1] [])) (Q := QSB10 Z x1 b1 zc u1 u2 kc xA h0 n0) (fun t k => castTop (own_efSB10 m x1 b1) k) ?_
  refine oALN (n := 1) X0 hx (hb hby own_d2_0) rfl rfl rfl ?_
  refine oALN (n := 2) X0 hx (hb hby own_d2_1) rfl rfl rfl ?_
  refine oIC (n := 3) X0 hx (0 : Int32) (hb hby own_d2_2) (by decide) rfl ?_
  refine oALN (n := 4) X0 hx (hb hby own_d2_3) rfl rfl rfl ?_
  obtain ⟨cl1, Ar1, q1, S1, M1, H1, G1⟩ := id Vc
  refine ov (B := s₁.setTop (mkF m 5 #[rv x1, rv b1] [(.int 1), (.int 0), (.ref b1), (.ref x1)])) (fun t k => X0.arraylength hx (by rw [e0]; exact Ar1.1) (State.isArrayOf_alike hZ.alike Ar1.2.1) (g := (mkF m 4 #[rv x1, rv b1] [(.ref b1), (.int 0), (.ref b1), (.ref x1)])) rfl rfl (hb hby own_d2_4) _ (by rw [len_of S1 M1]; exact k)) ?_
  refine oNU (n := 6) X0 hx (hb hby own_d2_5) rfl ?_
  obtain ⟨_, _, ⟨T2, L2, k2, n2⟩, -, X2, ⟨Lc2, hQ2, l2, y2, z2⟩, st2⟩ := X0.specialBack hx (y := (⟨sAA, "<init>", sAG⟩ : MethodName)) rfl hown (mvT hZ (oW hw 12 rfl)) (mvT hZ (oW hw 13 rfl)) (mvT hZ (oW hw 15 rfl)) (by decide) (backOf (W := 0) (rmSA10 l Z a0 hw [] x1 b1 zc u1 u2 kc xA h0 n0 Z0 O0 (by assumption) (by assumption) Ei Fv Fc g_x1 Vc hsA) hZ (oW hw 15 rfl) (oW hw 7 rfl) (by decide) (by decide)) (g := (mkF m 6 #[rv x1, rv b1] [.null, (.int 1), (.int 0), (.ref b1), (.ref x1)])) rfl (by rw [hml]; rfl) (Steps.refl _) (a := x1) (argsL := [(.ref b1), (.int 0), (.int 1), .null]) (rest := []) (lenOf own_pd7 rfl) rfl (by show 2 * 0 + _ ≤ _; exact Nat.le_of_eq rfl) (hb hby own_d2_6) (fun _ _ => ⟨rfl, e0, (by decide : 0 + 2 ≤ _), (by decide : 0 + 3 ≤ _)⟩)
  dsimp only [Pt.U, Pt.locs, Pt.cells, Pt.slots] at X2 l2 y2 z2 st2 hQ2
  subst l2 y2 z2
  obtain ⟨t_2, kt_2, rfl, Nq2, Kq2, ht_2, f2_0, f2_1, f2_2⟩ := hQ2
  have N2 := Fr.app N0 Nq2
  have g_t_2 : n0 ≤ t_2 := Nat.le_trans Z0 ht_2
  refine ov (B := T2.setTop (mkF m 9 #[rv x1, rv b1] [])) (fun t k => st2.trans k) ?_
  refine own_leafV X2 hx hlk Bd.returns (hb hby own_d2_9) (by decide) (by decide) ?_
  show QSB10 Z x1 b1 zc u1 u2 kc xA h0 n0 _ T2.heap _
  refine ⟨t_2, kt_2, ?_, N2, ((Keep.refl h0 [x1]).trans Kq2 (allS (Or.inl (List.mem_of_getElem? (i := 0) rfl)) all0)), ?_, f2_0, f2_1, f2_2⟩
  · rfl
  · exact ht_2
theorem own_pn2 : plainName "portcullis/xml/XmlElementRequireNamePinLaw" = true := by first | (simp [plainName, overriddenIn]; done) | decide +kernel
theorem own_pd8 : parseMethodDescriptor "([C)V" = some ⟨[(.array .char)], none⟩ := by decide +kernel
theorem own_d1_0 : decode method_2_code 0 = .ok (.iload_n 1, 1) := by decide +kernel
theorem own_d1_1 : decode method_2_code 1 = .ok (.ldc 7, 2) := by decide +kernel
theorem own_d1_3 : decode method_2_code 3 = .ok (.iand, 1) := by decide +kernel
theorem own_d1_4 : decode method_2_code 4 = .ok (.i2c, 1) := by decide +kernel
theorem own_d1_5 : decode method_2_code 5 = .ok (.istore 4, 2) := by decide +kernel
theorem own_d1_7 : decode method_2_code 7 = .ok (.iload_n 2, 1) := by decide +kernel
theorem own_d1_8 : decode method_2_code 8 = .ok (.ldc 7, 2) := by decide +kernel
theorem own_d1_10 : decode method_2_code 10 = .ok (.iand, 1) := by decide +kernel
theorem own_d1_11 : decode method_2_code 11 = .ok (.i2c, 1) := by decide +kernel
theorem own_d1_12 : decode method_2_code 12 = .ok (.istore 5, 2) := by decide +kernel
theorem own_d1_14 : decode method_2_code 14 = .ok (.iload_n 3, 1) := by decide +kernel
theorem own_d1_15 : decode method_2_code 15 = .ok (.ldc 7, 2) := by decide +kernel
theorem own_d1_17 : decode method_2_code 17 = .ok (.iand, 1) := by decide +kernel
theorem own_d1_18 : decode method_2_code 18 = .ok (.i2c, 1) := by decide +kernel
theorem own_d1_19 : decode method_2_code 19 = .ok (.istore 6, 2) := by decide +kernel
theorem own_d1_21 : decode method_2_code 21 = .ok (.iload_n 0, 1) := by decide +kernel
theorem own_d1_22 : decode method_2_code 22 = .ok (.ifCond .ne 14, 3) := by decide +kernel
theorem own_d1_36 : decode method_2_code 36 = .ok (.iload_n 0, 1) := by decide +kernel
theorem own_d1_37 : decode method_2_code 37 = .ok (.iconst 1, 1) := by decide +kernel
theorem own_d1_38 : decode method_2_code 38 = .ok (.if_icmp .ne 19, 3) := by decide +kernel
theorem own_d1_41 : decode method_2_code 41 = .ok (.new 8, 3) := by decide +kernel
theorem own_d1_44 : decode method_2_code 44 = .ok (.dup, 1) := by decide +kernel
theorem own_d1_45 : decode method_2_code 45 = .ok (.iconst 1, 1) := by decide +kernel
theorem own_d1_46 : decode method_2_code 46 = .ok (.newarray .char, 2) := by decide +kernel
theorem own_d1_48 : decode method_2_code 48 = .ok (.dup, 1) := by decide +kernel
theorem own_d1_49 : decode method_2_code 49 = .ok (.iconst 0, 1) := by decide +kernel
theorem own_d1_50 : decode method_2_code 50 = .ok (.iload 4, 2) := by decide +kernel
theorem own_d1_52 : decode method_2_code 52 = .ok (.castore, 1) := by decide +kernel
theorem own_d1_53 : decode method_2_code 53 = .ok (.invokespecial 10, 3) := by decide +kernel
theorem own_d1_56 : decode method_2_code 56 = .ok (.areturn, 1) := by decide +kernel
theorem own_efKM10 (m : MethodId) (x0 : Int32) (x1 : Int32) (x2 : Int32) (x3 : Int32) : entryFrame m #[(.int x0), (.int x1), (.int x2), (.int x3)] 7 = mkF m 0 #[iv x0, iv x1, iv x2, iv x3, uu, uu, uu] [] := by first | (simp [entryFrame, mkF, argsToLocals, Value.category]; done) | rfl
def QKM10 (Z : State) (xK : Int32) (yK : Int32) (zK : Int32) (zc : Int32) (h0 : Heap) (n0 : Nat) (v : Option Value) (h : Heap) (L : List Loc) : Prop := ∃ (r : Addr) (t : Addr) (kt : ClassId), v = some (.ref r) ∧ Fr n0 L ∧ Keep h0 h [] ∧ (h0.size ≤ r) ∧ (h0.size ≤ t) ∧ (Exa Z h r sAA) ∧ (Fld Z h r sAA "coder" "B" (.int (0 : Int32))) ∧ (Fld Z h r sAA "value" "[B" (.ref t)) ∧ (Arv Z h t kt .byte (1 : Int32) [(.int (own_ch xK).toInt8.toInt32.toInt8.toInt32)] (.int (0 : Int32)))
set_option maxRecDepth 65536 in
set_option maxHeartbeats 40000000 in
theorem rmKM10 (l : Launch) (Z : State) (a0 : Array Value) (hw : ∀ d ∈ tables_1, d.before a0 Z = true) (ws : List Jvm.Cond) (xK : Int32) (yK : Int32) (zK : Int32) (zc : Int32) (h0 : Heap) (n0 : Nat) (Z0 : n0 ≤ h0.size) (O0 : Old Z n0 h0) (Scz : Sta Z Z.heap sAA "COMPACT_STRINGS" "Z" (.int zc)) (hcz : ¬ zc = 0) (hsA : ¬ (255 : Int32) < (own_ch xK)) :
    MetFree l (⟨sAD, "make", sAF⟩ : MethodName) (head1 (Jvm.Cond.code (⟨sAD, "make", sAF⟩ : MethodName) method_2_code 7 (some (.object sAA)) :: ws) (oR 6 4 8 128)) (fun a U => a = #[(.int 1), (.int xK), (.int yK), (.int zK)] ∧ Z.Warmed39 U.vm ∧ U.heap = h0) (fun _ _ _ _ _ => True) (fun _ U o U' => ∃ v L, o = .returned v ∧ QKM10 Z xK yK zK zc h0 n0 v U'.heap L ∧ FrameEnd U o U' L (oR 6 4 8 128).cells (oR 6 4 8 128).slots) := by
  refine MetFree.of_bodySF (plainFor_of_name own_pn2) hisR ?_
  intro p e s m args below meth c s₁ Bd hml0 hP hK
  obtain ⟨rfl, hZ, hh⟩ := hP
  have hx := Bd.exec
  have hby := Bd.bytes
  have hlk : meth.locks = false := Bd.notSynchronized
  have hml : c.maxLocals = 7 := hml0
  have hown : s.vm.findClass sAD = some m.cls := findClass_of_methodNamed Bd.named
  have hnm := (name_of_methodNamed Bd.named Bd.method).1
  have X0 : Stand p l e (oR 6 4 8 128) s m #[(.int 1), (.int xK), (.int yK), (.int zK)] below meth c s₁ [] 0 0 := Stand.of_body Bd
  have e0 : s₁.heap = h0 := by rw [← hh, Bd.state]; rfl
  have N0 := Fr.nil n0
  refine own_body (A := s₁.setTop (mkF m 0 #[iv 1, iv xK, iv yK, iv zK, uu, uu, uu] [])) (Q := QKM10 Z xK yK zK zc h0 n0) (fun t k => castTop (own_efKM10 m (1 : Int32) xK yK zK) k) ?_
  refine oILN (n := 1) X0 hx (hb hby own_d1_0) rfl rfl ?_
  refine ov (B := s₁.setTop (mkF m 3 #[iv 1, iv xK, iv yK, iv zK, uu, uu, uu] [(.int 65535), (.int xK)])) (fun t k => X0.ldcInt hx hown (mvT hZ (oW hw 4 rfl)) (g := (mkF m 1 #[iv 1, iv xK, iv yK, iv zK, uu, uu, uu] [(.int xK)])) rfl (hb hby own_d1_1) _ k) ?_
  refine ov (B := s₁.setTop (mkF m 4 #[iv 1, iv xK, iv yK, iv zK, uu, uu, uu] [(.int (xK &&& (65535 : Int32)))])) (fun t k => XS.iand X0.here hx rfl (hb hby own_d1_3) rfl k) ?_
  refine ov (B := s₁.setTop (mkF m 5 #[iv 1, iv xK, iv yK, iv zK, uu, uu, uu] [(.int ((xK &&& (65535 : Int32)).toUInt32.toUInt16.toUInt32.toInt32))])) (fun t k => XS.i2c X0.here hx rfl (hb hby own_d1_4) rfl k) ?_
  refine ov (B := s₁.setTop (mkF m 7 #[iv 1, iv xK, iv yK, iv zK, iv ((xK &&& (65535 : Int32)).toUInt32.toUInt16.toUInt32.toInt32), uu, uu] [])) (fun t k => XS.istore X0.here hx rfl (hb hby own_d1_5) rfl (l' := #[iv 1, iv xK, iv yK, iv zK, iv ((xK &&& (65535 : Int32)).toUInt32.toUInt16.toUInt32.toInt32), uu, uu]) rfl k) ?_
  refine oILN (n := 8) X0 hx (hb hby own_d1_7) rfl rfl ?_
  refine ov (B := s₁.setTop (mkF m 10 #[iv 1, iv xK, iv yK, iv zK, iv ((xK &&& (65535 : Int32)).toUInt32.toUInt16.toUInt32.toInt32), uu, uu] [(.int 65535), (.int yK)])) (fun t k => X0.ldcInt hx hown (mvT hZ (oW hw 4 rfl)) (g := (mkF m 8 #[iv 1, iv xK, iv yK, iv zK, iv ((xK &&& (65535 : Int32)).toUInt32.toUInt16.toUInt32.toInt32), uu, uu] [(.int yK)])) rfl (hb hby own_d1_8) _ k) ?_
  refine ov (B := s₁.setTop (mkF m 11 #[iv 1, iv xK, iv yK, iv zK, iv ((xK &&& (65535 : Int32)).toUInt32.toUInt16.toUInt32.toInt32), uu, uu] [(.int (yK &&& (65535 : Int32)))])) (fun t k => XS.iand X0.here hx rfl (hb hby own_d1_10) rfl k) ?_
  refine ov (B := s₁.setTop (mkF m 12 #[iv 1, iv xK, iv yK, iv zK, iv ((xK &&& (65535 : Int32)).toUInt32.toUInt16.toUInt32.toInt32), uu, uu] [(.int ((yK &&& (65535 : Int32)).toUInt32.toUInt16.toUInt32.toInt32))])) (fun t k => XS.i2c X0.here hx rfl (hb hby own_d1_11) rfl k) ?_
  refine ov (B := s₁.setTop (mkF m 14 #[iv 1, iv xK, iv yK, iv zK, iv ((xK &&& (65535 : Int32)).toUInt32.toUInt16.toUInt32.toInt32), iv ((yK &&& (65535 : Int32)).toUInt32.toUInt16.toUInt32.toInt32), uu] [])) (fun t k => XS.istore X0.here hx rfl (hb hby own_d1_12) rfl (l' := #[iv 1, iv xK, iv yK, iv zK, iv ((xK &&& (65535 : Int32)).toUInt32.toUInt16.toUInt32.toInt32), iv ((yK &&& (65535 : Int32)).toUInt32.toUInt16.toUInt32.toInt32), uu]) rfl k) ?_
  refine oILN (n := 15) X0 hx (hb hby own_d1_14) rfl rfl ?_
  refine ov (B := s₁.setTop (mkF m 17 #[iv 1, iv xK, iv yK, iv zK, iv ((xK &&& (65535 : Int32)).toUInt32.toUInt16.toUInt32.toInt32), iv ((yK &&& (65535 : Int32)).toUInt32.toUInt16.toUInt32.toInt32), uu] [(.int 65535), (.int zK)])) (fun t k => X0.ldcInt hx hown (mvT hZ (oW hw 4 rfl)) (g := (mkF m 15 #[iv 1, iv xK, iv yK, iv zK, iv ((xK &&& (65535 : Int32)).toUInt32.toUInt16.toUInt32.toInt32), iv ((yK &&& (65535 : Int32)).toUInt32.toUInt16.toUInt32.toInt32), uu] [(.int zK)])) rfl (hb hby own_d1_15) _ k) ?_
  refine ov (B := s₁.setTop (mkF m 18 #[iv 1, iv xK, iv yK, iv zK, iv ((xK &&& (65535 : Int32)).toUInt32.toUInt16.toUInt32.toInt32), iv ((yK &&& (65535 : Int32)).toUInt32.toUInt16.toUInt32.toInt32), uu] [(.int (zK &&& (65535 : Int32)))])) (fun t k => XS.iand X0.here hx rfl (hb hby own_d1_17) rfl k) ?_
  refine ov (B := s₁.setTop (mkF m 19 #[iv 1, iv xK, iv yK, iv zK, iv ((xK &&& (65535 : Int32)).toUInt32.toUInt16.toUInt32.toInt32), iv ((yK &&& (65535 : Int32)).toUInt32.toUInt16.toUInt32.toInt32), uu] [(.int ((zK &&& (65535 : Int32)).toUInt32.toUInt16.toUInt32.toInt32))])) (fun t k => XS.i2c X0.here hx rfl (hb hby own_d1_18) rfl k) ?_
  refine ov (B := s₁.setTop (mkF m 21 #[iv 1, iv xK, iv yK, iv zK, iv ((xK &&& (65535 : Int32)).toUInt32.toUInt16.toUInt32.toInt32), iv ((yK &&& (65535 : Int32)).toUInt32.toUInt16.toUInt32.toInt32), iv ((zK &&& (65535 : Int32)).toUInt32.toUInt16.toUInt32.toInt32)] [])) (fun t k => XS.istore X0.here hx rfl (hb hby own_d1_19) rfl (l' := #[iv 1, iv xK, iv yK, iv zK, iv ((xK &&& (65535 : Int32)).toUInt32.toUInt16.toUInt32.toInt32), iv ((yK &&& (65535 : Int32)).toUInt32.toUInt16.toUInt32.toInt32), iv ((zK &&& (65535 : Int32)).toUInt32.toUInt16.toUInt32.toInt32)]) rfl k) ?_
  show own_Go p e below (s₁.setTop (mkF m 21 #[iv 1, iv xK, iv yK, iv zK, iv (own_m xK), iv (own_m yK), iv (own_m zK)] [])) _
  refine oILN (n := 22) X0 hx (hb hby own_d1_21) rfl rfl ?_
  have hc22 : ¬ ((1 : Int32) = (0 : Int32)) := by decide
  refine ov (B := s₁.setTop (mkF m 36 #[iv 1, iv xK, iv yK, iv zK, iv (own_m xK), iv (own_m yK), iv (own_m zK)] [])) (fun t k => XS.ifYes X0.here hx rfl (pc0 := 22) (pc' := 36) rfl (hb hby own_d1_22) rfl ((if0 _ _).trans (feq hc22).2) (by decide) (by decide) k) ?_
  refine oILN (n := 37) X0 hx (hb hby own_d1_36) rfl rfl ?_
  refine oIC (n := 38) X0 hx (1 : Int32) (hb hby own_d1_37) (by decide) rfl ?_
  have hc38 : (1 : Int32) = (1 : Int32) := by decide
  refine ov (B := s₁.setTop (mkF m 41 #[iv 1, iv xK, iv yK, iv zK, iv (own_m xK), iv (own_m yK), iv (own_m zK)] [])) (fun t k => XS.icmpNo X0.here hx rfl (hb hby own_d1_38) rfl (teq hc38).2 k) ?_
  obtain ⟨T1, h1, X1, e1, E1, A1, D1, -, st1⟩ := newO X0 hx hZ hown (oW hw 5 rfl) (oW hw 6 rfl) (oW hw 7 rfl) e0 (g := (mkF m 41 #[iv 1, iv xK, iv yK, iv zK, iv (own_m xK), iv (own_m yK), iv (own_m zK)] [])) rfl (hb hby own_d1_41) (by decide) (by decide)
  obtain ⟨b1, g1⟩ : ∃ z, z = h0.size := ⟨_, rfl⟩
  rw [← g1] at A1 D1 st1
  have g_b1 : n0 ≤ b1 := Nat.le_trans Z0 (Nat.le_of_eq g1.symm)
  have F1_value : Fld Z h1 b1 sAA "value" "[B" .null := D1 (Or.inr (oW hw 21 rfl)) (ty := (.array .byte)) (by decide)
  have F1_coder : Fld Z h1 b1 sAA "coder" "B" (.int 0) := D1 (Or.inr (oW hw 22 rfl)) (ty := .byte) (by decide)
  refine ov (B := T1.setTop (mkF m 44 #[iv 1, iv xK, iv yK, iv zK, iv (own_m xK), iv (own_m yK), iv (own_m zK)] [(.ref b1)])) (fun t k => st1 t k) ?_
  refine oDU (n := 45) X1 hx (hb hby own_d1_44) rfl rfl ?_
  refine oIC (n := 46) X1 hx (1 : Int32) (hb hby own_d1_45) (by decide) rfl ?_
  obtain ⟨T2, h2, kc2, X2, e2, E2, A2, st2⟩ := newP X1 hx hZ (oW hw 8 rfl) e1 (g := (mkF m 46 #[iv 1, iv xK, iv yK, iv zK, iv (own_m xK), iv (own_m yK), iv (own_m zK)] [(.int 1), (.ref b1), (.ref b1)])) rfl (hb hby own_d1_46) rfl (by decide) (cap := 1) (by decide) (by decide) (by decide) (by decide)
  obtain ⟨b2, g2⟩ : ∃ z, z = h1.size := ⟨_, rfl⟩
  rw [← g2] at A2 st2
  have g_b2 : n0 ≤ b2 := Nat.le_trans (Nat.le_trans Z0 E1.1) (Nat.le_of_eq g2.symm)
  have V2 : Arv Z h2 b2 kc2 .char (1 : Int32) [(.int 0)] (.int 0) := (Arv.new A2 (by decide)).pad (pad_rep [] (.int 0) 1)
  refine ov (B := T2.setTop (mkF m 48 #[iv 1, iv xK, iv yK, iv zK, iv (own_m xK), iv (own_m yK), iv (own_m zK)] [(.ref b2), (.ref b1), (.ref b1)])) (fun t k => st2 t k) ?_
  refine oDU (n := 49) X2 hx (hb hby own_d1_48) rfl rfl ?_
  refine oIC (n := 50) X2 hx (0 : Int32) (hb hby own_d1_49) (by decide) rfl ?_
  refine oIL (n := 52) X2 hx (hb hby own_d1_50) rfl rfl ?_
  obtain ⟨cl3, Ar3, q3, S3, M3, H3, G3⟩ := id V2
  obtain ⟨T4, h4, X4, e4, W4, st4⟩ := stC X2 hx hZ e2 Ar3 (j := (0 : Int32)) (inb_of S3 ⟨by decide, by decide⟩) (g := (mkF m 52 #[iv 1, iv xK, iv yK, iv zK, iv (own_m xK), iv (own_m yK), iv (own_m zK)] [(.int (own_m xK)), (.int 0), (.ref b2), (.ref b2), (.ref b1), (.ref b1)])) rfl rfl (hb hby own_d1_52)
  have V4 : Arv Z h4 b2 kc2 .char (1 : Int32) [(.int (nar .char (own_m xK)))] (.int 0) := Arv.set Ar3 q3 S3 M3 H3 G3 (fits_nar_char _) W4 0 rfl (Nat.le_of_ble_eq_true rfl)
  have N4 := Fr.snoc X4 N0 g_b2
  refine ov (B := T4.setTop (mkF m 53 #[iv 1, iv xK, iv yK, iv zK, iv (own_m xK), iv (own_m yK), iv (own_m zK)] [(.ref b2), (.ref b1), (.ref b1)])) (fun t k => st4 t k) ?_
  obtain ⟨_, _, ⟨T5, L5, k5, n5⟩, -, X5, ⟨Lc5, hQ5, l5, y5, z5⟩, st5⟩ := X4.specialBack hx (y := (⟨sAA, "<init>", "([C)V"⟩ : MethodName)) rfl hown (mvT hZ (oW hw 9 rfl)) (mvT hZ (oW hw 10 rfl)) (mvT hZ (oW hw 11 rfl)) (by decide) (backOf (W := 1) (rmSB10 l Z a0 hw [] b1 b2 zc .null (.int 0) kc2 (nar .char (own_m xK)) h4 n0 (Nat.le_trans (Nat.le_trans (Nat.le_trans Z0 E1.1) E2.1) (Keep.of_wr W4).1) (((O0.ext E1).ext E2).wr W4 g_b2) (by assumption) (by assumption) ((A1.ext E2).wr W4) ((F1_value.ext E2).other W4 (Or.inl (Nat.ne_of_lt (Nat.lt_of_lt_of_le A1.lt (Nat.le_of_eq g2.symm))))) ((F1_coder.ext E2).other W4 (Or.inl (Nat.ne_of_lt (Nat.lt_of_lt_of_le A1.lt (Nat.le_of_eq g2.symm))))) g_b1 V4 hsA) hZ (oW hw 11 rfl) (oW hw 7 rfl) (by decide) (by decide)) (g := (mkF m 53 #[iv 1, iv xK, iv yK, iv zK, iv (own_m xK), iv (own_m yK), iv (own_m zK)] [(.ref b2), (.ref b1), (.ref b1)])) rfl (by rw [hml]; rfl) (Steps.refl _) (a := b1) (argsL := [(.ref b2)]) (rest := [(.ref b1)]) (lenOf own_pd8 rfl) rfl (by show 2 * 0 + _ ≤ _; exact Nat.le_of_eq rfl) (hb hby own_d1_53) (fun _ _ => ⟨rfl, e4, (by decide : ((0 + 1) + 1) + 2 ≤ _), (by decide : ((0 + 4) + 1) + 3 ≤ _)⟩)
  dsimp only [Pt.U, Pt.locs, Pt.cells, Pt.slots] at X5 l5 y5 z5 st5 hQ5
  subst l5 y5 z5
  obtain ⟨t_5, kt_5, rfl, Nq5, Kq5, ht_5, f5_0, f5_1, f5_2⟩ := hQ5
  have N5 := Fr.app N4 Nq5
  have g_t_5 : n0 ≤ t_5 := Nat.le_trans (Nat.le_trans (Nat.le_trans (Nat.le_trans Z0 E1.1) E2.1) (Keep.of_wr W4).1) ht_5
  refine ov (B := T5.setTop (mkF m 56 #[iv 1, iv xK, iv yK, iv zK, iv (own_m xK), iv (own_m yK), iv (own_m zK)] [(.ref b1)])) (fun t k => st5.trans k) ?_
  refine own_leaf X5 hx hlk (t := (.object sAA)) Bd.returns rfl (Or.inr (Or.inr (Or.inr (Or.inr ⟨rfl, rfl, rfl⟩)))) (hb hby own_d1_56) (by decide) (by decide) ?_
  show QKM10 Z xK yK zK zc h0 n0 _ T5.heap _
  refine ⟨b1, t_5, kt_5, ?_, N5, (((((Keep.refl h0 []).ext E1).ext E2).wr W4 (Or.inr (Nat.le_trans (Nat.le_trans (Nat.le_refl _) E1.1) (Nat.le_of_eq g2.symm)))).trans Kq5 (allS (Or.inr (Nat.le_of_eq g1.symm)) all0)), ?_, ?_, (((A1.ext E2).wr W4).keep Kq5), f5_0, f5_1, f5_2⟩
  · rfl
  · exact (Nat.le_of_eq g1.symm)
  · exact (Nat.le_trans (Nat.le_trans (Nat.le_trans (Nat.le_trans (Nat.le_refl _) E1.1) E2.1) (Keep.of_wr W4).1) ht_5)
theorem own_efSA11 (m : MethodId) (x0 : Addr) (x1 : Addr) (x2 : Int32) (x3 : Int32) : entryFrame m #[(.ref x0), (.ref x1), (.int x2), (.int x3), .null] 6 = mkF m 0 #[rv x0, rv x1, iv x2, iv x3, .val .null, uu] [] := by first | (simp [entryFrame, mkF, argsToLocals, Value.category]; done) | rfl
def QSA11 (Z : State) (x1 : Addr) (b1 : Addr) (zc : Int32) (u1 : Value) (u2 : Value) (kc : ClassId) (xA : Int32) (h0 : Heap) (n0 : Nat) (v : Option Value) (h : Heap) (L : List Loc) : Prop := ∃ (t : Addr) (kt : ClassId), v = none ∧ Fr n0 L ∧ Keep h0 h [x1] ∧ (h0.size ≤ t) ∧ (Fld Z h x1 sAA "coder" "B" (.int (1 : Int32))) ∧ (Fld Z h x1 sAA "value" "[B" (.ref t)) ∧ (Arv Z h t kt .byte (2 : Int32) [(.int (xA >>> ((0 : Int32) &&& 31)).toInt8.toInt32.toInt8.toInt32), (.int (xA >>> ((8 : Int32) &&& 31)).toInt8.toInt32.toInt8.toInt32)] (.int (0 : Int32)))
set_option maxRecDepth 65536 in
set_option maxHeartbeats 40000000 in
theorem rmSA11 (l : Launch) (Z : State) (a0 : Array Value) (hw : ∀ d ∈ tables_1, d.before a0 Z = true) (ws : List Jvm.Cond) (x1 : Addr) (b1 : Addr) (zc : Int32) (u1 : Value) (u2 : Value) (kc : ClassId) (xA : Int32) (h0 : Heap) (n0 : Nat) (Z0 : n0 ≤ h0.size) (O0 : Old Z n0 h0) (Scz : Sta Z Z.heap sAA "COMPACT_STRINGS" "Z" (.int zc)) (hcz : ¬ zc = 0) (SA : Sta Z Z.heap sAB sAH "Z" (.int (1 : Int32))) (SH : Sta Z Z.heap sAB "HI_BYTE_SHIFT" "I" (.int (0 : Int32))) (SL : Sta Z Z.heap sAB "LO_BYTE_SHIFT" "I" (.int (8 : Int32))) (Ei : Exa Z h0 x1 sAA) (Fv : Fld Z h0 x1 sAA "value" "[B" u1) (Fc : Fld Z h0 x1 sAA "coder" "B" u2) (g_x1 : n0 ≤ x1) (Vc : Arv Z h0 b1 kc .char (1 : Int32) [(.int xA)] (.int (0 : Int32))) (hB : own_B1 xA) (huA : own_U xA) :
    MetFree l (⟨sAA, "<init>", sAG⟩ : MethodName) (head1 (Jvm.Cond.code (⟨sAA, "<init>", sAG⟩ : MethodName) jdk_42_method_149_code 6 none :: ws) (oR 4 2 3 80)) (fun a U => a = #[(.ref x1), (.ref b1), (.int 0), (.int 1), .null] ∧ Z.Warmed39 U.vm ∧ U.heap = h0) (fun _ _ _ _ _ => True) (fun _ U o U' => ∃ v L, o = .returned v ∧ QSA11 Z x1 b1 zc u1 u2 kc xA h0 n0 v U'.heap L ∧ FrameEnd U o U' L (oR 4 2 3 80).cells (oR 4 2 3 80).slots) := by
  refine MetFree.of_bodySF (plainFor_of_name own_pn1) hisR ?_
  intro p e s m args below meth c s₁ Bd hml0 hP hK
  obtain ⟨rfl, hZ, hh⟩ := hP
  have hx := Bd.exec
  have hby := Bd.bytes
  have hlk : meth.locks = false := Bd.notSynchronized
  have hml : c.maxLocals = 6 := hml0
  have hown : s.vm.findClass sAA = some m.cls := findClass_of_methodNamed Bd.named
  have hnm := (name_of_methodNamed Bd.named Bd.method).1
  have X0 : Stand p l e (oR 4 2 3 80) s m #[(.ref x1), (.ref b1), (.int 0), (.int 1), .null] below meth c s₁ [] 0 0 := Stand.of_body Bd
  have e0 : s₁.heap = h0 := by rw [← hh, Bd.state]; rfl
  have N0 := Fr.nil n0
  refine own_body (A := s₁.setTop (mkF m 0 #[rv x1, rv b1, iv 0, iv 1, .val .null, uu] [])) (Q := QSA11 Z x1 b1 zc u1 u2 kc xA h0 n0) (fun t k => castTop (own_efSA11 m x1 b1 (0 : Int32) (1 : Int32)) k) ?_
  refine oALN (n := 1) X0 hx (hb hby own_d3_0) rfl rfl rfl ?_
  obtain ⟨T1, X1, e1, st1⟩ := initO X0 hx hZ hown (oW hw 16 rfl) (oW hw 17 rfl) (oW hw 18 rfl) e0 (g := (mkF m 1 #[rv x1, rv b1, iv 0, iv 1, .val .null, uu] [(.ref x1)])) rfl (by rw [hml]; rfl) rfl (hb hby own_d3_1) (by decide) (W := 0) (by show 2 * 0 + _ ≤ _; exact Nat.le_of_eq rfl) (by decide)
  refine ov (B := T1.setTop (mkF m 4 #[rv x1, rv b1, iv 0, iv 1, .val .null, uu] [])) (fun t k => st1 t k) ?_
  refine oILN (n := 5) X1 hx (hb hby own_d3_4) rfl rfl ?_
  have hc5 : ¬ ((1 : Int32) = (0 : Int32)) := by decide
  refine ov (B := T1.setTop (mkF m 27 #[rv x1, rv b1, iv 0, iv 1, .val .null, uu] [])) (fun t k => XS.ifYes X1.here hx rfl (pc0 := 5) (pc' := 27) rfl (hb hby own_d3_5) rfl ((if0 _ _).trans (feq hc5).2) (by decide) (by decide) k) ?_
  obtain ⟨T2, X2, e2, st2⟩ := getS2 X1 hx hZ hown (host := "") (Or.inl (oW hw 121 rfl)) Via.refl e1 (Scz.ext O0.2) (g := (mkF m 27 #[rv x1, rv b1, iv 0, iv 1, .val .null, uu] [])) rfl (hb hby own_d3_27)
  refine ov (B := T2.setTop (mkF m 30 #[rv x1, rv b1, iv 0, iv 1, .val .null, uu] [(.int zc)])) (fun t k => st2 t k) ?_
  have hc30 : ¬ (zc = (0 : Int32)) := hcz
  refine ov (B := T2.setTop (mkF m 33 #[rv x1, rv b1, iv 0, iv 1, .val .null, uu] [])) (fun t k => XS.ifNo X2.here hx rfl (hb hby own_d3_30) rfl ((if0 _ _).trans (feq hc30).1) k) ?_
  refine oALN (n := 34) X2 hx (hb hby own_d3_33) rfl rfl rfl ?_
  refine oILN (n := 35) X2 hx (hb hby own_d3_34) rfl rfl ?_
  refine oILN (n := 36) X2 hx (hb hby own_d3_35) rfl rfl ?_
  obtain ⟨_, _, ⟨T3, L3, k3, n3⟩, -, X3, ⟨Lc3, hQ3, l3, y3, z3⟩, st3⟩ := Jvm.LawKit.callS X2 hx (y := (⟨sAB, "compress", "([CII)[B"⟩ : MethodName)) hown (mvT hZ (oW hw 131 rfl)) (mvT hZ (oW hw 132 rfl)) (mvT hZ (oW hw 133 rfl)) (mvT hZ (oW hw 134 rfl)) (by decide) (backOf (W := 0) (rmCB11 l Z a0 hw [] b1 kc xA h0 n0 Z0 O0 (by assumption) (by assumption) (by assumption) Vc hB huA) hZ (oW hw 134 rfl) (oW hw 133 rfl) (by decide) (by decide)) (g := (mkF m 36 #[rv x1, rv b1, iv 0, iv 1, .val .null, uu] [(.int 1), (.int 0), (.ref b1)])) rfl (by rw [hml]; rfl) (argsL := [(.ref b1), (.int 0), (.int 1)]) (rest := []) (lenOf own_pd4 rfl) rfl (by show 2 * 0 + _ ≤ _; exact Nat.le_of_eq rfl) (hb hby own_d3_36) (fun _ _ => ⟨rfl, e2, (by decide : 0 + 2 ≤ _), (by decide : 0 + 3 ≤ _)⟩)
  dsimp only [Pt.U, Pt.locs, Pt.cells, Pt.slots] at X3 l3 y3 z3 st3 hQ3
  subst l3 y3 z3
  obtain ⟨r_3, kr_3, rfl, Nq3, Kq3, hr_3, f3_0⟩ := hQ3
  have N3 := Fr.app N0 Nq3
  have g_r_3 : n0 ≤ r_3 := Nat.le_trans Z0 hr_3
  refine ov (B := T3.setTop (mkF m 39 #[rv x1, rv b1, iv 0, iv 1, .val .null, uu] [(.ref r_3)])) (fun t k => st3 t k) ?_
  refine ov (B := T3.setTop (mkF m 41 #[rv x1, rv b1, iv 0, iv 1, .val .null, rv r_3] [])) (fun t k => XS.astore X3.here hx rfl (hb hby own_d3_39) rfl rfl (l' := #[rv x1, rv b1, iv 0, iv 1, .val .null, rv r_3]) rfl k) ?_
  refine oALN (n := 42) X3 hx (hb hby own_d3_41) rfl rfl rfl ?_
  refine oAL (n := 44) X3 hx (hb hby own_d3_42) rfl rfl rfl ?_
  refine oILN (n := 45) X3 hx (hb hby own_d3_44) rfl rfl ?_
  obtain ⟨_, _, ⟨T4, L4, k4, n4⟩, -, X4, ⟨Lc4, hQ4, l4, y4, z4⟩, st4⟩ := Jvm.LawKit.callS X3 hx (y := (⟨sAB, sAN, "([BI)B"⟩ : MethodName)) hown (mvT hZ (oW hw 138 rfl)) (mvT hZ (oW hw 139 rfl)) (mvT hZ (oW hw 133 rfl)) (mvT hZ (oW hw 140 rfl)) (by decide) (backOf (W := 1) (rmCF12 l Z a0 hw [] r_3 kr_3 (xA >>> ((0 : Int32) &&& 31)).toInt8.toInt32.toInt8.toInt32 (xA >>> ((8 : Int32) &&& 31)).toInt8.toInt32.toInt8.toInt32 T3.heap n0 (Nat.le_trans Z0 Kq3.1) f3_0) hZ (oW hw 140 rfl) (oW hw 133 rfl) (by decide) (by decide)) (g := (mkF m 45 #[rv x1, rv b1, iv 0, iv 1, .val .null, rv r_3] [(.int 1), (.ref r_3), (.ref x1)])) rfl (by rw [hml]; rfl) (argsL := [(.ref r_3), (.int 1)]) (rest := [(.ref x1)]) (lenOf own_pd6 rfl) rfl (by show 2 * 0 + _ ≤ _; exact Nat.le_of_eq rfl) (hb hby own_d3_45) (fun _ _ => ⟨rfl, rfl, (by decide : (0 + 2) + 0 ≤ _), (by decide : (0 + 3) + 0 ≤ _)⟩)
  dsimp only [Pt.U, Pt.locs, Pt.cells, Pt.slots] at X4 l4 y4 z4 st4 hQ4
  subst l4 y4 z4
  obtain ⟨rfl, Nq4, eq4⟩ := hQ4
  have N4 := Fr.app N3 Nq4
  refine ov (B := T4.setTop (mkF m 48 #[rv x1, rv b1, iv 0, iv 1, .val .null, rv r_3] [(.int 1), (.ref x1)])) (fun t k => st4 t k) ?_
  obtain ⟨T5, h5, X5, e5, W5, st5⟩ := putFN X4 hx hZ hown (oW hw 26 rfl) Via.refl eq4 (Fc.keep Kq3 nin0) (Ei.keep Kq3) (Or.inr ⟨(oW hw 22 rfl), rfl, hnm⟩) (oW hw 6 rfl) (ty := .byte) (v' := (.int 1)) (by decide) (by decide) (by decide) (g := (mkF m 48 #[rv x1, rv b1, iv 0, iv 1, .val .null, rv r_3] [(.int 1), (.ref x1)])) rfl rfl (hb hby own_d3_48)
  have Fw5 := (Fc.keep Kq3 nin0).same W5
  have N5 := Fr.snoc X5 N4 g_x1
  refine ov (B := T5.setTop (mkF m 51 #[rv x1, rv b1, iv 0, iv 1, .val .null, rv r_3] [])) (fun t k => st5 t k) ?_
  refine oALN (n := 52) X5 hx (hb hby own_d3_51) rfl rfl rfl ?_
  refine oAL (n := 54) X5 hx (hb hby own_d3_52) rfl rfl rfl ?_
  obtain ⟨T6, h6, X6, e6, W6, st6⟩ := putF X5 hx hZ hown (host := "") (Or.inl (oW hw 25 rfl)) Via.refl e5 ((Fv.keep Kq3 nin0).other W5 (Or.inr (slot_ne (Or.inr (oW hw 21 rfl)) (Or.inr (oW hw 22 rfl)) (by decide +kernel) (t := (.array .byte)) (t' := .byte) (by decide +kernel) (by decide +kernel)))) ((Ei.keep Kq3).wr W5) (Or.inr ⟨(oW hw 21 rfl), rfl, hnm⟩) (oW hw 6 rfl) (ty := (.array .byte)) (by decide) rfl rfl (g := (mkF m 54 #[rv x1, rv b1, iv 0, iv 1, .val .null, rv r_3] [(.ref r_3), (.ref x1)])) rfl rfl (hb hby own_d3_54)
  have Fw6 := ((Fv.keep Kq3 nin0).other W5 (Or.inr (slot_ne (Or.inr (oW hw 21 rfl)) (Or.inr (oW hw 22 rfl)) (by decide +kernel) (t := (.array .byte)) (t' := .byte) (by decide +kernel) (by decide +kernel)))).same W6
  have N6 := Fr.snoc X6 N5 g_x1
  refine ov (B := T6.setTop (mkF m 57 #[rv x1, rv b1, iv 0, iv 1, .val .null, rv r_3] [])) (fun t k => st6 t k) ?_
  refine own_leafV X6 hx hlk Bd.returns (hb hby own_d3_57) (by decide) (by decide) ?_
  show QSA11 Z x1 b1 zc u1 u2 kc xA h0 n0 _ T6.heap _
  rw [e6]
  refine ⟨r_3, kr_3, ?_, N6, ((((Keep.refl h0 [x1]).trans Kq3 all0).wr W5 (Or.inl (List.mem_of_getElem? (i := 0) rfl))).wr W6 (Or.inl (List.mem_of_getElem? (i := 0) rfl))), ?_, (Fw5.other W6 (Or.inr (slot_ne (Or.inr (oW hw 22 rfl)) (Or.inr (oW hw 21 rfl)) (by decide +kernel) (t := .byte) (t' := (.array .byte)) (by decide +kernel) (by decide +kernel)))), Fw6, ((f3_0.other W5 (Ne.symm (Nat.ne_of_lt (Nat.lt_of_lt_of_le Ei.lt hr_3)))).other W6 (Ne.symm (Nat.ne_of_lt (Nat.lt_of_lt_of_le Ei.lt hr_3))))⟩
  · rfl
  · exact hr_3
theorem own_efSB11 (m : MethodId) (x0 : Addr) (x1 : Addr) : entryFrame m #[(.ref x0), (.ref x1)] 2 = mkF m 0 #[rv x0, rv x1] [] := by first | (simp [entryFrame, mkF, argsToLocals, Value.category]; done) | rfl
def QSB11 (Z : State) (x1 : Addr) (b1 : Addr) (zc : Int32) (u1 : Value) (u2 : Value) (kc : ClassId) (xA : Int32) (h0 : Heap) (n0 : Nat) (v : Option Value) (h : Heap) (L : List Loc) : Prop := ∃ (t : Addr) (kt : ClassId), v = none ∧ Fr n0 L ∧ Keep h0 h [x1] ∧ (h0.size ≤ t) ∧ (Fld Z h x1 sAA "coder" "B" (.int (1 : Int32))) ∧ (Fld Z h x1 sAA "value" "[B" (.ref t)) ∧ (Arv Z h t kt .byte (2 : Int32) [(.int (xA >>> ((0 : Int32) &&& 31)).toInt8.toInt32.toInt8.toInt32), (.int (xA >>> ((8 : Int32) &&& 31)).toInt8.toInt32.toInt8.toInt32)] (.int (0 : Int32)))
set_option maxRecDepth 65536 in
set_option maxHeartbeats 40000000 in
theorem rmSB11 (l : Launch) (Z : State) (a0 : Array Value) (hw : ∀ d ∈ tables_1, d.before a0 Z = true) (ws : List Jvm.Cond) (x1 : Addr) (b1 : Addr) (zc : Int32) (u1 : Value) (u2 : Value) (kc : ClassId) (xA : Int32) (h0 : Heap) (n0 : Nat) (Z0 : n0 ≤ h0.size) (O0 : Old Z n0 h0) (Scz : Sta Z Z.heap sAA "COMPACT_STRINGS" "Z" (.int zc)) (hcz : ¬ zc = 0) (SA : Sta Z Z.heap sAB sAH "Z" (.int (1 : Int32))) (SH : Sta Z Z.heap sAB "HI_BYTE_SHIFT" "I" (.int (0 : Int32))) (SL : Sta Z Z.heap sAB "LO_BYTE_SHIFT" "I" (.int (8 : Int32))) (Ei : Exa Z h0 x1 sAA) (Fv : Fld Z h0 x1 sAA "value" "[B" u1) (Fc : Fld Z h0 x1 sAA "coder" "B" u2) (g_x1 : n0 ≤ x1) (Vc : Arv Z h0 b1 kc .char (1 : Int32) [(.int xA)] (.int (0 : Int32))) (hB : own_B1 xA) (huA : own_U xA) :
    MetFree l (⟨sAA, "<init>", "([C)V"⟩ : MethodName) (head1 (Jvm.Cond.code (⟨sAA, "<init>", "([C)V"⟩ : MethodName) jdk_42_method_3_code 2 none :: ws) (oR 5 2 3 104)) (fun a U => a = #[(.ref x1), (.ref b1)] ∧ Z.Warmed39 U.vm ∧ U.heap = h0) (fun _ _ _ _ _ => True) (fun _ U o U' => ∃ v L, o = .returned v ∧ QSB11 Z x1 b1 zc u1 u2 kc xA h0 n0 v U'.heap L ∧ FrameEnd U o U' L (oR 5 2 3 104).cells (oR 5 2 3 104).slots) := by
  refine MetFree.of_bodySF (plainFor_of_name own_pn1) hisR ?_
  intro p e s m args below meth c s₁ Bd hml0 hP hK
  obtain ⟨rfl, hZ, hh⟩ := hP
  have hx := Bd.exec
  have hby := Bd.bytes
  have hlk : meth.locks = false := Bd.notSynchronized
  have hml : c.maxLocals = 2 := hml0
  have hown : s.vm.findClass sAA = some m.cls := findClass_of_methodNamed Bd.named
  have hnm := (name_of_methodNamed Bd.named Bd.method).1
  have X0 : Stand p l e (oR 5 2 3 104) s m #[(.ref x1), (.ref b1)] below meth c s₁ [] 0 0 := Stand.of_body Bd
  have e0 : s₁.heap = h0 := by rw [← hh, Bd.state]; rfl
  have N0 := Fr.nil n0
  refine own_body (A := s₁.setTop (mkF m 0 #[rv x1, rv b1] [])) (Q := QSB11 Z x1 b1 zc u1 u2 kc xA h0 n0) (fun t k => castTop (own_efSB11 m x1 b1) k) ?_
  refine oALN (n := 1) X0 hx (hb hby own_d2_0) rfl rfl rfl ?_
  refine oALN (n := 2) X0 hx (hb hby own_d2_1) rfl rfl rfl ?_
  refine oIC (n := 3) X0 hx (0 : Int32) (hb hby own_d2_2) (by decide) rfl ?_
  refine oALN (n := 4) X0 hx (hb hby own_d2_3) rfl rfl rfl ?_
  obtain ⟨cl1, Ar1, q1, S1, M1, H1, G1⟩ := id Vc
  refine ov (B := s₁.setTop (mkF m 5 #[rv x1, rv b1] [(.int 1), (.int 0), (.ref b1), (.ref x1)])) (fun t k => X0.arraylength hx (by rw [e0]; exact Ar1.1) (State.isArrayOf_alike hZ.alike Ar1.2.1) (g := (mkF m 4 #[rv x1, rv b1] [(.ref b1), (.int 0), (.ref b1), (.ref x1)])) rfl rfl (hb hby own_d2_4) _ (by rw [len_of S1 M1]; exact k)) ?_
  refine oNU (n := 6) X0 hx (hb hby own_d2_5) rfl ?_
  obtain ⟨_, _, ⟨T2, L2, k2, n2⟩, -, X2, ⟨Lc2, hQ2, l2, y2, z2⟩, st2⟩ := X0.specialBack hx (y := (⟨sAA, "<init>", sAG⟩ : MethodName)) rfl hown (mvT hZ (oW hw 12 rfl)) (mvT hZ (oW hw 13 rfl)) (mvT hZ (oW hw 15 rfl)) (by decide) (backOf (W := 0) (rmSA11 l Z a0 hw [] x1 b1 zc u1 u2 kc xA h0 n0 Z0 O0 (by assumption) (by assumption) (by assumption) (by assumption) (by assumption) Ei Fv Fc g_x1 Vc hB huA) hZ (oW hw 15 rfl) (oW hw 7 rfl) (by decide) (by decide)) (g := (mkF m 6 #[rv x1, rv b1] [.null, (.int 1), (.int 0), (.ref b1), (.ref x1)])) rfl (by rw [hml]; rfl) (Steps.refl _) (a := x1) (argsL := [(.ref b1), (.int 0), (.int 1), .null]) (rest := []) (lenOf own_pd7 rfl) rfl (by show 2 * 0 + _ ≤ _; exact Nat.le_of_eq rfl) (hb hby own_d2_6) (fun _ _ => ⟨rfl, e0, (by decide : 0 + 2 ≤ _), (by decide : 0 + 3 ≤ _)⟩)
  dsimp only [Pt.U, Pt.locs, Pt.cells, Pt.slots] at X2 l2 y2 z2 st2 hQ2
  subst l2 y2 z2
  obtain ⟨t_2, kt_2, rfl, Nq2, Kq2, ht_2, f2_0, f2_1, f2_2⟩ := hQ2
  have N2 := Fr.app N0 Nq2
  have g_t_2 : n0 ≤ t_2 := Nat.le_trans Z0 ht_2
  refine ov (B := T2.setTop (mkF m 9 #[rv x1, rv b1] [])) (fun t k => st2.trans k) ?_
  refine own_leafV X2 hx hlk Bd.returns (hb hby own_d2_9) (by decide) (by decide) ?_
  show QSB11 Z x1 b1 zc u1 u2 kc xA h0 n0 _ T2.heap _
  refine ⟨t_2, kt_2, ?_, N2, ((Keep.refl h0 [x1]).trans Kq2 (allS (Or.inl (List.mem_of_getElem? (i := 0) rfl)) all0)), ?_, f2_0, f2_1, f2_2⟩
  · rfl
  · exact ht_2
theorem own_efKM11 (m : MethodId) (x0 : Int32) (x1 : Int32) (x2 : Int32) (x3 : Int32) : entryFrame m #[(.int x0), (.int x1), (.int x2), (.int x3)] 7 = mkF m 0 #[iv x0, iv x1, iv x2, iv x3, uu, uu, uu] [] := by first | (simp [entryFrame, mkF, argsToLocals, Value.category]; done) | rfl
def QKM11 (Z : State) (xK : Int32) (yK : Int32) (zK : Int32) (zc : Int32) (h0 : Heap) (n0 : Nat) (v : Option Value) (h : Heap) (L : List Loc) : Prop := ∃ (r : Addr) (t : Addr) (kt : ClassId), v = some (.ref r) ∧ Fr n0 L ∧ Keep h0 h [] ∧ (h0.size ≤ r) ∧ (h0.size ≤ t) ∧ (Exa Z h r sAA) ∧ (Fld Z h r sAA "coder" "B" (.int (1 : Int32))) ∧ (Fld Z h r sAA "value" "[B" (.ref t)) ∧ (Arv Z h t kt .byte (2 : Int32) [(.int ((own_ch xK) >>> ((0 : Int32) &&& 31)).toInt8.toInt32.toInt8.toInt32), (.int ((own_ch xK) >>> ((8 : Int32) &&& 31)).toInt8.toInt32.toInt8.toInt32)] (.int (0 : Int32)))
set_option maxRecDepth 65536 in
set_option maxHeartbeats 40000000 in
theorem rmKM11 (l : Launch) (Z : State) (a0 : Array Value) (hw : ∀ d ∈ tables_1, d.before a0 Z = true) (ws : List Jvm.Cond) (xK : Int32) (yK : Int32) (zK : Int32) (zc : Int32) (h0 : Heap) (n0 : Nat) (Z0 : n0 ≤ h0.size) (O0 : Old Z n0 h0) (Scz : Sta Z Z.heap sAA "COMPACT_STRINGS" "Z" (.int zc)) (hcz : ¬ zc = 0) (SA : Sta Z Z.heap sAB sAH "Z" (.int (1 : Int32))) (SH : Sta Z Z.heap sAB "HI_BYTE_SHIFT" "I" (.int (0 : Int32))) (SL : Sta Z Z.heap sAB "LO_BYTE_SHIFT" "I" (.int (8 : Int32))) (hB : own_B1 (own_ch xK)) (huA : own_U (own_ch xK)) :
    MetFree l (⟨sAD, "make", sAF⟩ : MethodName) (head1 (Jvm.Cond.code (⟨sAD, "make", sAF⟩ : MethodName) method_2_code 7 (some (.object sAA)) :: ws) (oR 6 4 8 128)) (fun a U => a = #[(.int 1), (.int xK), (.int yK), (.int zK)] ∧ Z.Warmed39 U.vm ∧ U.heap = h0) (fun _ _ _ _ _ => True) (fun _ U o U' => ∃ v L, o = .returned v ∧ QKM11 Z xK yK zK zc h0 n0 v U'.heap L ∧ FrameEnd U o U' L (oR 6 4 8 128).cells (oR 6 4 8 128).slots) := by
  refine MetFree.of_bodySF (plainFor_of_name own_pn2) hisR ?_
  intro p e s m args below meth c s₁ Bd hml0 hP hK
  obtain ⟨rfl, hZ, hh⟩ := hP
  have hx := Bd.exec
  have hby := Bd.bytes
  have hlk : meth.locks = false := Bd.notSynchronized
  have hml : c.maxLocals = 7 := hml0
  have hown : s.vm.findClass sAD = some m.cls := findClass_of_methodNamed Bd.named
  have hnm := (name_of_methodNamed Bd.named Bd.method).1
  have X0 : Stand p l e (oR 6 4 8 128) s m #[(.int 1), (.int xK), (.int yK), (.int zK)] below meth c s₁ [] 0 0 := Stand.of_body Bd
  have e0 : s₁.heap = h0 := by rw [← hh, Bd.state]; rfl
  have N0 := Fr.nil n0
  refine own_body (A := s₁.setTop (mkF m 0 #[iv 1, iv xK, iv yK, iv zK, uu, uu, uu] [])) (Q := QKM11 Z xK yK zK zc h0 n0) (fun t k => castTop (own_efKM11 m (1 : Int32) xK yK zK) k) ?_
  refine oILN (n := 1) X0 hx (hb hby own_d1_0) rfl rfl ?_
  refine ov (B := s₁.setTop (mkF m 3 #[iv 1, iv xK, iv yK, iv zK, uu, uu, uu] [(.int 65535), (.int xK)])) (fun t k => X0.ldcInt hx hown (mvT hZ (oW hw 4 rfl)) (g := (mkF m 1 #[iv 1, iv xK, iv yK, iv zK, uu, uu, uu] [(.int xK)])) rfl (hb hby own_d1_1) _ k) ?_
  refine ov (B := s₁.setTop (mkF m 4 #[iv 1, iv xK, iv yK, iv zK, uu, uu, uu] [(.int (xK &&& (65535 : Int32)))])) (fun t k => XS.iand X0.here hx rfl (hb hby own_d1_3) rfl k) ?_
  refine ov (B := s₁.setTop (mkF m 5 #[iv 1, iv xK, iv yK, iv zK, uu, uu, uu] [(.int ((xK &&& (65535 : Int32)).toUInt32.toUInt16.toUInt32.toInt32))])) (fun t k => XS.i2c X0.here hx rfl (hb hby own_d1_4) rfl k) ?_
  refine ov (B := s₁.setTop (mkF m 7 #[iv 1, iv xK, iv yK, iv zK, iv ((xK &&& (65535 : Int32)).toUInt32.toUInt16.toUInt32.toInt32), uu, uu] [])) (fun t k => XS.istore X0.here hx rfl (hb hby own_d1_5) rfl (l' := #[iv 1, iv xK, iv yK, iv zK, iv ((xK &&& (65535 : Int32)).toUInt32.toUInt16.toUInt32.toInt32), uu, uu]) rfl k) ?_
  refine oILN (n := 8) X0 hx (hb hby own_d1_7) rfl rfl ?_
  refine ov (B := s₁.setTop (mkF m 10 #[iv 1, iv xK, iv yK, iv zK, iv ((xK &&& (65535 : Int32)).toUInt32.toUInt16.toUInt32.toInt32), uu, uu] [(.int 65535), (.int yK)])) (fun t k => X0.ldcInt hx hown (mvT hZ (oW hw 4 rfl)) (g := (mkF m 8 #[iv 1, iv xK, iv yK, iv zK, iv ((xK &&& (65535 : Int32)).toUInt32.toUInt16.toUInt32.toInt32), uu, uu] [(.int yK)])) rfl (hb hby own_d1_8) _ k) ?_
  refine ov (B := s₁.setTop (mkF m 11 #[iv 1, iv xK, iv yK, iv zK, iv ((xK &&& (65535 : Int32)).toUInt32.toUInt16.toUInt32.toInt32), uu, uu] [(.int (yK &&& (65535 : Int32)))])) (fun t k => XS.iand X0.here hx rfl (hb hby own_d1_10) rfl k) ?_
  refine ov (B := s₁.setTop (mkF m 12 #[iv 1, iv xK, iv yK, iv zK, iv ((xK &&& (65535 : Int32)).toUInt32.toUInt16.toUInt32.toInt32), uu, uu] [(.int ((yK &&& (65535 : Int32)).toUInt32.toUInt16.toUInt32.toInt32))])) (fun t k => XS.i2c X0.here hx rfl (hb hby own_d1_11) rfl k) ?_
  refine ov (B := s₁.setTop (mkF m 14 #[iv 1, iv xK, iv yK, iv zK, iv ((xK &&& (65535 : Int32)).toUInt32.toUInt16.toUInt32.toInt32), iv ((yK &&& (65535 : Int32)).toUInt32.toUInt16.toUInt32.toInt32), uu] [])) (fun t k => XS.istore X0.here hx rfl (hb hby own_d1_12) rfl (l' := #[iv 1, iv xK, iv yK, iv zK, iv ((xK &&& (65535 : Int32)).toUInt32.toUInt16.toUInt32.toInt32), iv ((yK &&& (65535 : Int32)).toUInt32.toUInt16.toUInt32.toInt32), uu]) rfl k) ?_
  refine oILN (n := 15) X0 hx (hb hby own_d1_14) rfl rfl ?_
  refine ov (B := s₁.setTop (mkF m 17 #[iv 1, iv xK, iv yK, iv zK, iv ((xK &&& (65535 : Int32)).toUInt32.toUInt16.toUInt32.toInt32), iv ((yK &&& (65535 : Int32)).toUInt32.toUInt16.toUInt32.toInt32), uu] [(.int 65535), (.int zK)])) (fun t k => X0.ldcInt hx hown (mvT hZ (oW hw 4 rfl)) (g := (mkF m 15 #[iv 1, iv xK, iv yK, iv zK, iv ((xK &&& (65535 : Int32)).toUInt32.toUInt16.toUInt32.toInt32), iv ((yK &&& (65535 : Int32)).toUInt32.toUInt16.toUInt32.toInt32), uu] [(.int zK)])) rfl (hb hby own_d1_15) _ k) ?_
  refine ov (B := s₁.setTop (mkF m 18 #[iv 1, iv xK, iv yK, iv zK, iv ((xK &&& (65535 : Int32)).toUInt32.toUInt16.toUInt32.toInt32), iv ((yK &&& (65535 : Int32)).toUInt32.toUInt16.toUInt32.toInt32), uu] [(.int (zK &&& (65535 : Int32)))])) (fun t k => XS.iand X0.here hx rfl (hb hby own_d1_17) rfl k) ?_
  refine ov (B := s₁.setTop (mkF m 19 #[iv 1, iv xK, iv yK, iv zK, iv ((xK &&& (65535 : Int32)).toUInt32.toUInt16.toUInt32.toInt32), iv ((yK &&& (65535 : Int32)).toUInt32.toUInt16.toUInt32.toInt32), uu] [(.int ((zK &&& (65535 : Int32)).toUInt32.toUInt16.toUInt32.toInt32))])) (fun t k => XS.i2c X0.here hx rfl (hb hby own_d1_18) rfl k) ?_
  refine ov (B := s₁.setTop (mkF m 21 #[iv 1, iv xK, iv yK, iv zK, iv ((xK &&& (65535 : Int32)).toUInt32.toUInt16.toUInt32.toInt32), iv ((yK &&& (65535 : Int32)).toUInt32.toUInt16.toUInt32.toInt32), iv ((zK &&& (65535 : Int32)).toUInt32.toUInt16.toUInt32.toInt32)] [])) (fun t k => XS.istore X0.here hx rfl (hb hby own_d1_19) rfl (l' := #[iv 1, iv xK, iv yK, iv zK, iv ((xK &&& (65535 : Int32)).toUInt32.toUInt16.toUInt32.toInt32), iv ((yK &&& (65535 : Int32)).toUInt32.toUInt16.toUInt32.toInt32), iv ((zK &&& (65535 : Int32)).toUInt32.toUInt16.toUInt32.toInt32)]) rfl k) ?_
  show own_Go p e below (s₁.setTop (mkF m 21 #[iv 1, iv xK, iv yK, iv zK, iv (own_m xK), iv (own_m yK), iv (own_m zK)] [])) _
  refine oILN (n := 22) X0 hx (hb hby own_d1_21) rfl rfl ?_
  have hc22 : ¬ ((1 : Int32) = (0 : Int32)) := by decide
  refine ov (B := s₁.setTop (mkF m 36 #[iv 1, iv xK, iv yK, iv zK, iv (own_m xK), iv (own_m yK), iv (own_m zK)] [])) (fun t k => XS.ifYes X0.here hx rfl (pc0 := 22) (pc' := 36) rfl (hb hby own_d1_22) rfl ((if0 _ _).trans (feq hc22).2) (by decide) (by decide) k) ?_
  refine oILN (n := 37) X0 hx (hb hby own_d1_36) rfl rfl ?_
  refine oIC (n := 38) X0 hx (1 : Int32) (hb hby own_d1_37) (by decide) rfl ?_
  have hc38 : (1 : Int32) = (1 : Int32) := by decide
  refine ov (B := s₁.setTop (mkF m 41 #[iv 1, iv xK, iv yK, iv zK, iv (own_m xK), iv (own_m yK), iv (own_m zK)] [])) (fun t k => XS.icmpNo X0.here hx rfl (hb hby own_d1_38) rfl (teq hc38).2 k) ?_
  obtain ⟨T1, h1, X1, e1, E1, A1, D1, -, st1⟩ := newO X0 hx hZ hown (oW hw 5 rfl) (oW hw 6 rfl) (oW hw 7 rfl) e0 (g := (mkF m 41 #[iv 1, iv xK, iv yK, iv zK, iv (own_m xK), iv (own_m yK), iv (own_m zK)] [])) rfl (hb hby own_d1_41) (by decide) (by decide)
  obtain ⟨b1, g1⟩ : ∃ z, z = h0.size := ⟨_, rfl⟩
  rw [← g1] at A1 D1 st1
  have g_b1 : n0 ≤ b1 := Nat.le_trans Z0 (Nat.le_of_eq g1.symm)
  have F1_value : Fld Z h1 b1 sAA "value" "[B" .null := D1 (Or.inr (oW hw 21 rfl)) (ty := (.array .byte)) (by decide)
  have F1_coder : Fld Z h1 b1 sAA "coder" "B" (.int 0) := D1 (Or.inr (oW hw 22 rfl)) (ty := .byte) (by decide)
  refine ov (B := T1.setTop (mkF m 44 #[iv 1, iv xK, iv yK, iv zK, iv (own_m xK), iv (own_m yK), iv (own_m zK)] [(.ref b1)])) (fun t k => st1 t k) ?_
  refine oDU (n := 45) X1 hx (hb hby own_d1_44) rfl rfl ?_
  refine oIC (n := 46) X1 hx (1 : Int32) (hb hby own_d1_45) (by decide) rfl ?_
  obtain ⟨T2, h2, kc2, X2, e2, E2, A2, st2⟩ := newP X1 hx hZ (oW hw 8 rfl) e1 (g := (mkF m 46 #[iv 1, iv xK, iv yK, iv zK, iv (own_m xK), iv (own_m yK), iv (own_m zK)] [(.int 1), (.ref b1), (.ref b1)])) rfl (hb hby own_d1_46) rfl (by decide) (cap := 1) (by decide) (by decide) (by decide) (by decide)
  obtain ⟨b2, g2⟩ : ∃ z, z = h1.size := ⟨_, rfl⟩
  rw [← g2] at A2 st2
  have g_b2 : n0 ≤ b2 := Nat.le_trans (Nat.le_trans Z0 E1.1) (Nat.le_of_eq g2.symm)
  have V2 : Arv Z h2 b2 kc2 .char (1 : Int32) [(.int 0)] (.int 0) := (Arv.new A2 (by decide)).pad (pad_rep [] (.int 0) 1)
  refine ov (B := T2.setTop (mkF m 48 #[iv 1, iv xK, iv yK, iv zK, iv (own_m xK), iv (own_m yK), iv (own_m zK)] [(.ref b2), (.ref b1), (.ref b1)])) (fun t k => st2 t k) ?_
  refine oDU (n := 49) X2 hx (hb hby own_d1_48) rfl rfl ?_
  refine oIC (n := 50) X2 hx (0 : Int32) (hb hby own_d1_49) (by decide) rfl ?_
  refine oIL (n := 52) X2 hx (hb hby own_d1_50) rfl rfl ?_
  obtain ⟨cl3, Ar3, q3, S3, M3, H3, G3⟩ := id V2
  obtain ⟨T4, h4, X4, e4, W4, st4⟩ := stC X2 hx hZ e2 Ar3 (j := (0 : Int32)) (inb_of S3 ⟨by decide, by decide⟩) (g := (mkF m 52 #[iv 1, iv xK, iv yK, iv zK, iv (own_m xK), iv (own_m yK), iv (own_m zK)] [(.int (own_m xK)), (.int 0), (.ref b2), (.ref b2), (.ref b1), (.ref b1)])) rfl rfl (hb hby own_d1_52)
  have V4 : Arv Z h4 b2 kc2 .char (1 : Int32) [(.int (nar .char (own_m xK)))] (.int 0) := Arv.set Ar3 q3 S3 M3 H3 G3 (fits_nar_char _) W4 0 rfl (Nat.le_of_ble_eq_true rfl)
  have N4 := Fr.snoc X4 N0 g_b2
  refine ov (B := T4.setTop (mkF m 53 #[iv 1, iv xK, iv yK, iv zK, iv (own_m xK), iv (own_m yK), iv (own_m zK)] [(.ref b2), (.ref b1), (.ref b1)])) (fun t k => st4 t k) ?_
  obtain ⟨_, _, ⟨T5, L5, k5, n5⟩, -, X5, ⟨Lc5, hQ5, l5, y5, z5⟩, st5⟩ := X4.specialBack hx (y := (⟨sAA, "<init>", "([C)V"⟩ : MethodName)) rfl hown (mvT hZ (oW hw 9 rfl)) (mvT hZ (oW hw 10 rfl)) (mvT hZ (oW hw 11 rfl)) (by decide) (backOf (W := 1) (rmSB11 l Z a0 hw [] b1 b2 zc .null (.int 0) kc2 (nar .char (own_m xK)) h4 n0 (Nat.le_trans (Nat.le_trans (Nat.le_trans Z0 E1.1) E2.1) (Keep.of_wr W4).1) (((O0.ext E1).ext E2).wr W4 g_b2) (by assumption) (by assumption) (by assumption) (by assumption) (by assumption) ((A1.ext E2).wr W4) ((F1_value.ext E2).other W4 (Or.inl (Nat.ne_of_lt (Nat.lt_of_lt_of_le A1.lt (Nat.le_of_eq g2.symm))))) ((F1_coder.ext E2).other W4 (Or.inl (Nat.ne_of_lt (Nat.lt_of_lt_of_le A1.lt (Nat.le_of_eq g2.symm))))) g_b1 V4 hB huA) hZ (oW hw 11 rfl) (oW hw 7 rfl) (by decide) (by decide)) (g := (mkF m 53 #[iv 1, iv xK, iv yK, iv zK, iv (own_m xK), iv (own_m yK), iv (own_m zK)] [(.ref b2), (.ref b1), (.ref b1)])) rfl (by rw [hml]; rfl) (Steps.refl _) (a := b1) (argsL := [(.ref b2)]) (rest := [(.ref b1)]) (lenOf own_pd8 rfl) rfl (by show 2 * 0 + _ ≤ _; exact Nat.le_of_eq rfl) (hb hby own_d1_53) (fun _ _ => ⟨rfl, e4, (by decide : ((0 + 1) + 1) + 2 ≤ _), (by decide : ((0 + 4) + 1) + 3 ≤ _)⟩)
  dsimp only [Pt.U, Pt.locs, Pt.cells, Pt.slots] at X5 l5 y5 z5 st5 hQ5
  subst l5 y5 z5
  obtain ⟨t_5, kt_5, rfl, Nq5, Kq5, ht_5, f5_0, f5_1, f5_2⟩ := hQ5
  have N5 := Fr.app N4 Nq5
  have g_t_5 : n0 ≤ t_5 := Nat.le_trans (Nat.le_trans (Nat.le_trans (Nat.le_trans Z0 E1.1) E2.1) (Keep.of_wr W4).1) ht_5
  refine ov (B := T5.setTop (mkF m 56 #[iv 1, iv xK, iv yK, iv zK, iv (own_m xK), iv (own_m yK), iv (own_m zK)] [(.ref b1)])) (fun t k => st5.trans k) ?_
  refine own_leaf X5 hx hlk (t := (.object sAA)) Bd.returns rfl (Or.inr (Or.inr (Or.inr (Or.inr ⟨rfl, rfl, rfl⟩)))) (hb hby own_d1_56) (by decide) (by decide) ?_
  show QKM11 Z xK yK zK zc h0 n0 _ T5.heap _
  refine ⟨b1, t_5, kt_5, ?_, N5, (((((Keep.refl h0 []).ext E1).ext E2).wr W4 (Or.inr (Nat.le_trans (Nat.le_trans (Nat.le_refl _) E1.1) (Nat.le_of_eq g2.symm)))).trans Kq5 (allS (Or.inr (Nat.le_of_eq g1.symm)) all0)), ?_, ?_, (((A1.ext E2).wr W4).keep Kq5), f5_0, f5_1, f5_2⟩
  · rfl
  · exact (Nat.le_of_eq g1.symm)
  · exact (Nat.le_trans (Nat.le_trans (Nat.le_trans (Nat.le_trans (Nat.le_refl _) E1.1) E2.1) (Keep.of_wr W4).1) ht_5)
theorem own_efSA20 (m : MethodId) (x0 : Addr) (x1 : Addr) (x2 : Int32) (x3 : Int32) : entryFrame m #[(.ref x0), (.ref x1), (.int x2), (.int x3), .null] 6 = mkF m 0 #[rv x0, rv x1, iv x2, iv x3, .val .null, uu] [] := by first | (simp [entryFrame, mkF, argsToLocals, Value.category]; done) | rfl
def QSA20 (Z : State) (x1 : Addr) (b1 : Addr) (zc : Int32) (u1 : Value) (u2 : Value) (kc : ClassId) (xA : Int32) (xB : Int32) (h0 : Heap) (n0 : Nat) (v : Option Value) (h : Heap) (L : List Loc) : Prop := ∃ (t : Addr) (kt : ClassId), v = none ∧ Fr n0 L ∧ Keep h0 h [x1] ∧ (h0.size ≤ t) ∧ (Fld Z h x1 sAA "coder" "B" (.int (0 : Int32))) ∧ (Fld Z h x1 sAA "value" "[B" (.ref t)) ∧ (Arv Z h t kt .byte (2 : Int32) [(.int xA.toInt8.toInt32.toInt8.toInt32), (.int xB.toInt8.toInt32.toInt8.toInt32)] (.int (0 : Int32)))
set_option maxRecDepth 65536 in
set_option maxHeartbeats 40000000 in
theorem rmSA20 (l : Launch) (Z : State) (a0 : Array Value) (hw : ∀ d ∈ tables_1, d.before a0 Z = true) (ws : List Jvm.Cond) (x1 : Addr) (b1 : Addr) (zc : Int32) (u1 : Value) (u2 : Value) (kc : ClassId) (xA : Int32) (xB : Int32) (h0 : Heap) (n0 : Nat) (Z0 : n0 ≤ h0.size) (O0 : Old Z n0 h0) (Scz : Sta Z Z.heap sAA "COMPACT_STRINGS" "Z" (.int zc)) (hcz : ¬ zc = 0) (Ei : Exa Z h0 x1 sAA) (Fv : Fld Z h0 x1 sAA "value" "[B" u1) (Fc : Fld Z h0 x1 sAA "coder" "B" u2) (g_x1 : n0 ≤ x1) (Vc : Arv Z h0 b1 kc .char (2 : Int32) [(.int xA), (.int xB)] (.int (0 : Int32))) (hsA : ¬ (255 : Int32) < xA) (hsB : ¬ (255 : Int32) < xB) :
    MetFree l (⟨sAA, "<init>", sAG⟩ : MethodName) (head1 (Jvm.Cond.code (⟨sAA, "<init>", sAG⟩ : MethodName) jdk_42_method_149_code 6 none :: ws) (oR 4 2 6 80)) (fun a U => a = #[(.ref x1), (.ref b1), (.int 0), (.int 2), .null] ∧ Z.Warmed39 U.vm ∧ U.heap = h0) (fun _ _ _ _ _ => True) (fun _ U o U' => ∃ v L, o = .returned v ∧ QSA20 Z x1 b1 zc u1 u2 kc xA xB h0 n0 v U'.heap L ∧ FrameEnd U o U' L (oR 4 2 6 80).cells (oR 4 2 6 80).slots) := by
  refine MetFree.of_bodySF (plainFor_of_name own_pn1) hisR ?_
  intro p e s m args below meth c s₁ Bd hml0 hP hK
  obtain ⟨rfl, hZ, hh⟩ := hP
  have hx := Bd.exec
  have hby := Bd.bytes
  have hlk : meth.locks = false := Bd.notSynchronized
  have hml : c.maxLocals = 6 := hml0
  have hown : s.vm.findClass sAA = some m.cls := findClass_of_methodNamed Bd.named
  have hnm := (name_of_methodNamed Bd.named Bd.method).1
  have X0 : Stand p l e (oR 4 2 6 80) s m #[(.ref x1), (.ref b1), (.int 0), (.int 2), .null] below meth c s₁ [] 0 0 := Stand.of_body Bd
  have e0 : s₁.heap = h0 := by rw [← hh, Bd.state]; rfl
  have N0 := Fr.nil n0
  refine own_body (A := s₁.setTop (mkF m 0 #[rv x1, rv b1, iv 0, iv 2, .val .null, uu] [])) (Q := QSA20 Z x1 b1 zc u1 u2 kc xA xB h0 n0) (fun t k => castTop (own_efSA20 m x1 b1 (0 : Int32) (2 : Int32)) k) ?_
  refine oALN (n := 1) X0 hx (hb hby own_d3_0) rfl rfl rfl ?_
  obtain ⟨T1, X1, e1, st1⟩ := initO X0 hx hZ hown (oW hw 16 rfl) (oW hw 17 rfl) (oW hw 18 rfl) e0 (g := (mkF m 1 #[rv x1, rv b1, iv 0, iv 2, .val .null, uu] [(.ref x1)])) rfl (by rw [hml]; rfl) rfl (hb hby own_d3_1) (by decide) (W := 0) (by show 2 * 0 + _ ≤ _; exact Nat.le_of_eq rfl) (by decide)
  refine ov (B := T1.setTop (mkF m 4 #[rv x1, rv b1, iv 0, iv 2, .val .null, uu] [])) (fun t k => st1 t k) ?_
  refine oILN (n := 5) X1 hx (hb hby own_d3_4) rfl rfl ?_
  have hc5 : ¬ ((2 : Int32) = (0 : Int32)) := by decide
  refine ov (B := T1.setTop (mkF m 27 #[rv x1, rv b1, iv 0, iv 2, .val .null, uu] [])) (fun t k => XS.ifYes X1.here hx rfl (pc0 := 5) (pc' := 27) rfl (hb hby own_d3_5) rfl ((if0 _ _).trans (feq hc5).2) (by decide) (by decide) k) ?_
  obtain ⟨T2, X2, e2, st2⟩ := getS2 X1 hx hZ hown (host := "") (Or.inl (oW hw 121 rfl)) Via.refl e1 (Scz.ext O0.2) (g := (mkF m 27 #[rv x1, rv b1, iv 0, iv 2, .val .null, uu] [])) rfl (hb hby own_d3_27)
  refine ov (B := T2.setTop (mkF m 30 #[rv x1, rv b1, iv 0, iv 2, .val .null, uu] [(.int zc)])) (fun t k => st2 t k) ?_
  have hc30 : ¬ (zc = (0 : Int32)) := hcz
  refine ov (B := T2.setTop (mkF m 33 #[rv x1, rv b1, iv 0, iv 2, .val .null, uu] [])) (fun t k => XS.ifNo X2.here hx rfl (hb hby own_d3_30) rfl ((if0 _ _).trans (feq hc30).1) k) ?_
  refine oALN (n := 34) X2 hx (hb hby own_d3_33) rfl rfl rfl ?_
  refine oILN (n := 35) X2 hx (hb hby own_d3_34) rfl rfl ?_
  refine oILN (n := 36) X2 hx (hb hby own_d3_35) rfl rfl ?_
  obtain ⟨_, _, ⟨T3, L3, k3, n3⟩, -, X3, ⟨Lc3, hQ3, l3, y3, z3⟩, st3⟩ := Jvm.LawKit.callS X2 hx (y := (⟨sAB, "compress", "([CII)[B"⟩ : MethodName)) hown (mvT hZ (oW hw 131 rfl)) (mvT hZ (oW hw 132 rfl)) (mvT hZ (oW hw 133 rfl)) (mvT hZ (oW hw 134 rfl)) (by decide) (backOf (W := 0) (rmCB20 l Z a0 hw [] b1 kc xA xB h0 n0 Z0 Vc hsA hsB) hZ (oW hw 134 rfl) (oW hw 133 rfl) (by decide) (by decide)) (g := (mkF m 36 #[rv x1, rv b1, iv 0, iv 2, .val .null, uu] [(.int 2), (.int 0), (.ref b1)])) rfl (by rw [hml]; rfl) (argsL := [(.ref b1), (.int 0), (.int 2)]) (rest := []) (lenOf own_pd4 rfl) rfl (by show 2 * 0 + _ ≤ _; exact Nat.le_of_eq rfl) (hb hby own_d3_36) (fun _ _ => ⟨rfl, e2, (by decide : 0 + 2 ≤ _), (by decide : 0 + 6 ≤ _)⟩)
  dsimp only [Pt.U, Pt.locs, Pt.cells, Pt.slots] at X3 l3 y3 z3 st3 hQ3
  subst l3 y3 z3
  obtain ⟨r_3, kr_3, rfl, Nq3, Kq3, hr_3, f3_0⟩ := hQ3
  have N3 := Fr.app N0 Nq3
  have g_r_3 : n0 ≤ r_3 := Nat.le_trans Z0 hr_3
  refine ov (B := T3.setTop (mkF m 39 #[rv x1, rv b1, iv 0, iv 2, .val .null, uu] [(.ref r_3)])) (fun t k => st3 t k) ?_
  refine ov (B := T3.setTop (mkF m 41 #[rv x1, rv b1, iv 0, iv 2, .val .null, rv r_3] [])) (fun t k => XS.astore X3.here hx rfl (hb hby own_d3_39) rfl rfl (l' := #[rv x1, rv b1, iv 0, iv 2, .val .null, rv r_3]) rfl k) ?_
  refine oALN (n := 42) X3 hx (hb hby own_d3_41) rfl rfl rfl ?_
  refine oAL (n := 44) X3 hx (hb hby own_d3_42) rfl rfl rfl ?_
  refine oILN (n := 45) X3 hx (hb hby own_d3_44) rfl rfl ?_
  obtain ⟨_, _, ⟨T4, L4, k4, n4⟩, -, X4, ⟨Lc4, hQ4, l4, y4, z4⟩, st4⟩ := Jvm.LawKit.callS X3 hx (y := (⟨sAB, sAN, "([BI)B"⟩ : MethodName)) hown (mvT hZ (oW hw 138 rfl)) (mvT hZ (oW hw 139 rfl)) (mvT hZ (oW hw 133 rfl)) (mvT hZ (oW hw 140 rfl)) (by decide) (backOf (W := 1) (rmCF22 l Z a0 hw [] r_3 kr_3 xA.toInt8.toInt32.toInt8.toInt32 xB.toInt8.toInt32.toInt8.toInt32 T3.heap n0 (Nat.le_trans Z0 Kq3.1) f3_0) hZ (oW hw 140 rfl) (oW hw 133 rfl) (by decide) (by decide)) (g := (mkF m 45 #[rv x1, rv b1, iv 0, iv 2, .val .null, rv r_3] [(.int 2), (.ref r_3), (.ref x1)])) rfl (by rw [hml]; rfl) (argsL := [(.ref r_3), (.int 2)]) (rest := [(.ref x1)]) (lenOf own_pd6 rfl) rfl (by show 2 * 0 + _ ≤ _; exact Nat.le_of_eq rfl) (hb hby own_d3_45) (fun _ _ => ⟨rfl, rfl, (by decide : (0 + 2) + 0 ≤ _), (by decide : (0 + 6) + 0 ≤ _)⟩)
  dsimp only [Pt.U, Pt.locs, Pt.cells, Pt.slots] at X4 l4 y4 z4 st4 hQ4
  subst l4 y4 z4
  obtain ⟨rfl, Nq4, eq4⟩ := hQ4
  have N4 := Fr.app N3 Nq4
  refine ov (B := T4.setTop (mkF m 48 #[rv x1, rv b1, iv 0, iv 2, .val .null, rv r_3] [(.int 0), (.ref x1)])) (fun t k => st4 t k) ?_
  obtain ⟨T5, h5, X5, e5, W5, st5⟩ := putFN X4 hx hZ hown (oW hw 26 rfl) Via.refl eq4 (Fc.keep Kq3 nin0) (Ei.keep Kq3) (Or.inr ⟨(oW hw 22 rfl), rfl, hnm⟩) (oW hw 6 rfl) (ty := .byte) (v' := (.int 0)) (by decide) (by decide) (by decide) (g := (mkF m 48 #[rv x1, rv b1, iv 0, iv 2, .val .null, rv r_3] [(.int 0), (.ref x1)])) rfl rfl (hb hby own_d3_48)
  have Fw5 := (Fc.keep Kq3 nin0).same W5
  have N5 := Fr.snoc X5 N4 g_x1
  refine ov (B := T5.setTop (mkF m 51 #[rv x1, rv b1, iv 0, iv 2, .val .null, rv r_3] [])) (fun t k => st5 t k) ?_
  refine oALN (n := 52) X5 hx (hb hby own_d3_51) rfl rfl rfl ?_
  refine oAL (n := 54) X5 hx (hb hby own_d3_52) rfl rfl rfl ?_
  obtain ⟨T6, h6, X6, e6, W6, st6⟩ := putF X5 hx hZ hown (host := "") (Or.inl (oW hw 25 rfl)) Via.refl e5 ((Fv.keep Kq3 nin0).other W5 (Or.inr (slot_ne (Or.inr (oW hw 21 rfl)) (Or.inr (oW hw 22 rfl)) (by decide +kernel) (t := (.array .byte)) (t' := .byte) (by decide +kernel) (by decide +kernel)))) ((Ei.keep Kq3).wr W5) (Or.inr ⟨(oW hw 21 rfl), rfl, hnm⟩) (oW hw 6 rfl) (ty := (.array .byte)) (by decide) rfl rfl (g := (mkF m 54 #[rv x1, rv b1, iv 0, iv 2, .val .null, rv r_3] [(.ref r_3), (.ref x1)])) rfl rfl (hb hby own_d3_54)
  have Fw6 := ((Fv.keep Kq3 nin0).other W5 (Or.inr (slot_ne (Or.inr (oW hw 21 rfl)) (Or.inr (oW hw 22 rfl)) (by decide +kernel) (t := (.array .byte)) (t' := .byte) (by decide +kernel) (by decide +kernel)))).same W6
  have N6 := Fr.snoc X6 N5 g_x1
  refine ov (B := T6.setTop (mkF m 57 #[rv x1, rv b1, iv 0, iv 2, .val .null, rv r_3] [])) (fun t k => st6 t k) ?_
  refine own_leafV X6 hx hlk Bd.returns (hb hby own_d3_57) (by decide) (by decide) ?_
  show QSA20 Z x1 b1 zc u1 u2 kc xA xB h0 n0 _ T6.heap _
  rw [e6]
  refine ⟨r_3, kr_3, ?_, N6, ((((Keep.refl h0 [x1]).trans Kq3 all0).wr W5 (Or.inl (List.mem_of_getElem? (i := 0) rfl))).wr W6 (Or.inl (List.mem_of_getElem? (i := 0) rfl))), ?_, (Fw5.other W6 (Or.inr (slot_ne (Or.inr (oW hw 22 rfl)) (Or.inr (oW hw 21 rfl)) (by decide +kernel) (t := .byte) (t' := (.array .byte)) (by decide +kernel) (by decide +kernel)))), Fw6, ((f3_0.other W5 (Ne.symm (Nat.ne_of_lt (Nat.lt_of_lt_of_le Ei.lt hr_3)))).other W6 (Ne.symm (Nat.ne_of_lt (Nat.lt_of_lt_of_le Ei.lt hr_3))))⟩
  · rfl
  · exact hr_3
theorem own_efSB20 (m : MethodId) (x0 : Addr) (x1 : Addr) : entryFrame m #[(.ref x0), (.ref x1)] 2 = mkF m 0 #[rv x0, rv x1] [] := by first | (simp [entryFrame, mkF, argsToLocals, Value.category]; done) | rfl
def QSB20 (Z : State) (x1 : Addr) (b1 : Addr) (zc : Int32) (u1 : Value) (u2 : Value) (kc : ClassId) (xA : Int32) (xB : Int32) (h0 : Heap) (n0 : Nat) (v : Option Value) (h : Heap) (L : List Loc) : Prop := ∃ (t : Addr) (kt : ClassId), v = none ∧ Fr n0 L ∧ Keep h0 h [x1] ∧ (h0.size ≤ t) ∧ (Fld Z h x1 sAA "coder" "B" (.int (0 : Int32))) ∧ (Fld Z h x1 sAA "value" "[B" (.ref t)) ∧ (Arv Z h t kt .byte (2 : Int32) [(.int xA.toInt8.toInt32.toInt8.toInt32), (.int xB.toInt8.toInt32.toInt8.toInt32)] (.int (0 : Int32)))
set_option maxRecDepth 65536 in
set_option maxHeartbeats 40000000 in
theorem rmSB20 (l : Launch) (Z : State) (a0 : Array Value) (hw : ∀ d ∈ tables_1, d.before a0 Z = true) (ws : List Jvm.Cond) (x1 : Addr) (b1 : Addr) (zc : Int32) (u1 : Value) (u2 : Value) (kc : ClassId) (xA : Int32) (xB : Int32) (h0 : Heap) (n0 : Nat) (Z0 : n0 ≤ h0.size) (O0 : Old Z n0 h0) (Scz : Sta Z Z.heap sAA "COMPACT_STRINGS" "Z" (.int zc)) (hcz : ¬ zc = 0) (Ei : Exa Z h0 x1 sAA) (Fv : Fld Z h0 x1 sAA "value" "[B" u1) (Fc : Fld Z h0 x1 sAA "coder" "B" u2) (g_x1 : n0 ≤ x1) (Vc : Arv Z h0 b1 kc .char (2 : Int32) [(.int xA), (.int xB)] (.int (0 : Int32))) (hsA : ¬ (255 : Int32) < xA) (hsB : ¬ (255 : Int32) < xB) :
    MetFree l (⟨sAA, "<init>", "([C)V"⟩ : MethodName) (head1 (Jvm.Cond.code (⟨sAA, "<init>", "([C)V"⟩ : MethodName) jdk_42_method_3_code 2 none :: ws) (oR 5 2 6 104)) (fun a U => a = #[(.ref x1), (.ref b1)] ∧ Z.Warmed39 U.vm ∧ U.heap = h0) (fun _ _ _ _ _ => True) (fun _ U o U' => ∃ v L, o = .returned v ∧ QSB20 Z x1 b1 zc u1 u2 kc xA xB h0 n0 v U'.heap L ∧ FrameEnd U o U' L (oR 5 2 6 104).cells (oR 5 2 6 104).slots) := by
  refine MetFree.of_bodySF (plainFor_of_name own_pn1) hisR ?_
  intro p e s m args below meth c s₁ Bd hml0 hP hK
  obtain ⟨rfl, hZ, hh⟩ := hP
  have hx := Bd.exec
  have hby := Bd.bytes
  have hlk : meth.locks = false := Bd.notSynchronized
  have hml : c.maxLocals = 2 := hml0
  have hown : s.vm.findClass sAA = some m.cls := findClass_of_methodNamed Bd.named
  have hnm := (name_of_methodNamed Bd.named Bd.method).1
  have X0 : Stand p l e (oR 5 2 6 104) s m #[(.ref x1), (.ref b1)] below meth c s₁ [] 0 0 := Stand.of_body Bd
  have e0 : s₁.heap = h0 := by rw [← hh, Bd.state]; rfl
  have N0 := Fr.nil n0
  refine own_body (A := s₁.setTop (mkF m 0 #[rv x1, rv b1] [])) (Q := QSB20 Z x1 b1 zc u1 u2 kc xA xB h0 n0) (fun t k => castTop (own_efSB20 m x1 b1) k) ?_
  refine oALN (n := 1) X0 hx (hb hby own_d2_0) rfl rfl rfl ?_
  refine oALN (n := 2) X0 hx (hb hby own_d2_1) rfl rfl rfl ?_
  refine oIC (n := 3) X0 hx (0 : Int32) (hb hby own_d2_2) (by decide) rfl ?_
  refine oALN (n := 4) X0 hx (hb hby own_d2_3) rfl rfl rfl ?_
  obtain ⟨cl1, Ar1, q1, S1, M1, H1, G1⟩ := id Vc
  refine ov (B := s₁.setTop (mkF m 5 #[rv x1, rv b1] [(.int 2), (.int 0), (.ref b1), (.ref x1)])) (fun t k => X0.arraylength hx (by rw [e0]; exact Ar1.1) (State.isArrayOf_alike hZ.alike Ar1.2.1) (g := (mkF m 4 #[rv x1, rv b1] [(.ref b1), (.int 0), (.ref b1), (.ref x1)])) rfl rfl (hb hby own_d2_4) _ (by rw [len_of S1 M1]; exact k)) ?_
  refine oNU (n := 6) X0 hx (hb hby own_d2_5) rfl ?_
  obtain ⟨_, _, ⟨T2, L2, k2, n2⟩, -, X2, ⟨Lc2, hQ2, l2, y2, z2⟩, st2⟩ := X0.specialBack hx (y := (⟨sAA, "<init>", sAG⟩ : MethodName)) rfl hown (mvT hZ (oW hw 12 rfl)) (mvT hZ (oW hw 13 rfl)) (mvT hZ (oW hw 15 rfl)) (by decide) (backOf (W := 0) (rmSA20 l Z a0 hw [] x1 b1 zc u1 u2 kc xA xB h0 n0 Z0 O0 (by assumption) (by assumption) Ei Fv Fc g_x1 Vc hsA hsB) hZ (oW hw 15 rfl) (oW hw 7 rfl) (by decide) (by decide)) (g := (mkF m 6 #[rv x1, rv b1] [.null, (.int 2), (.int 0), (.ref b1), (.ref x1)])) rfl (by rw [hml]; rfl) (Steps.refl _) (a := x1) (argsL := [(.ref b1), (.int 0), (.int 2), .null]) (rest := []) (lenOf own_pd7 rfl) rfl (by show 2 * 0 + _ ≤ _; exact Nat.le_of_eq rfl) (hb hby own_d2_6) (fun _ _ => ⟨rfl, e0, (by decide : 0 + 2 ≤ _), (by decide : 0 + 6 ≤ _)⟩)
  dsimp only [Pt.U, Pt.locs, Pt.cells, Pt.slots] at X2 l2 y2 z2 st2 hQ2
  subst l2 y2 z2
  obtain ⟨t_2, kt_2, rfl, Nq2, Kq2, ht_2, f2_0, f2_1, f2_2⟩ := hQ2
  have N2 := Fr.app N0 Nq2
  have g_t_2 : n0 ≤ t_2 := Nat.le_trans Z0 ht_2
  refine ov (B := T2.setTop (mkF m 9 #[rv x1, rv b1] [])) (fun t k => st2.trans k) ?_
  refine own_leafV X2 hx hlk Bd.returns (hb hby own_d2_9) (by decide) (by decide) ?_
  show QSB20 Z x1 b1 zc u1 u2 kc xA xB h0 n0 _ T2.heap _
  refine ⟨t_2, kt_2, ?_, N2, ((Keep.refl h0 [x1]).trans Kq2 (allS (Or.inl (List.mem_of_getElem? (i := 0) rfl)) all0)), ?_, f2_0, f2_1, f2_2⟩
  · rfl
  · exact ht_2
theorem own_d1_57 : decode method_2_code 57 = .ok (.iload_n 0, 1) := by decide +kernel
theorem own_d1_58 : decode method_2_code 58 = .ok (.iconst 2, 1) := by decide +kernel
theorem own_d1_59 : decode method_2_code 59 = .ok (.if_icmp .ne 24, 3) := by decide +kernel
theorem own_d1_62 : decode method_2_code 62 = .ok (.new 8, 3) := by decide +kernel
theorem own_d1_65 : decode method_2_code 65 = .ok (.dup, 1) := by decide +kernel
theorem own_d1_66 : decode method_2_code 66 = .ok (.iconst 2, 1) := by decide +kernel
theorem own_d1_67 : decode method_2_code 67 = .ok (.newarray .char, 2) := by decide +kernel
theorem own_d1_69 : decode method_2_code 69 = .ok (.dup, 1) := by decide +kernel
theorem own_d1_70 : decode method_2_code 70 = .ok (.iconst 0, 1) := by decide +kernel
theorem own_d1_71 : decode method_2_code 71 = .ok (.iload 4, 2) := by decide +kernel
theorem own_d1_73 : decode method_2_code 73 = .ok (.castore, 1) := by decide +kernel
theorem own_d1_74 : decode method_2_code 74 = .ok (.dup, 1) := by decide +kernel
theorem own_d1_75 : decode method_2_code 75 = .ok (.iconst 1, 1) := by decide +kernel
theorem own_d1_76 : decode method_2_code 76 = .ok (.iload 5, 2) := by decide +kernel
theorem own_d1_78 : decode method_2_code 78 = .ok (.castore, 1) := by decide +kernel
theorem own_d1_79 : decode method_2_code 79 = .ok (.invokespecial 10, 3) := by decide +kernel
theorem own_d1_82 : decode method_2_code 82 = .ok (.areturn, 1) := by decide +kernel
theorem own_efKM20 (m : MethodId) (x0 : Int32) (x1 : Int32) (x2 : Int32) (x3 : Int32) : entryFrame m #[(.int x0), (.int x1), (.int x2), (.int x3)] 7 = mkF m 0 #[iv x0, iv x1, iv x2, iv x3, uu, uu, uu] [] := by first | (simp [entryFrame, mkF, argsToLocals, Value.category]; done) | rfl
def QKM20 (Z : State) (xK : Int32) (yK : Int32) (zK : Int32) (zc : Int32) (h0 : Heap) (n0 : Nat) (v : Option Value) (h : Heap) (L : List Loc) : Prop := ∃ (r : Addr) (t : Addr) (kt : ClassId), v = some (.ref r) ∧ Fr n0 L ∧ Keep h0 h [] ∧ (h0.size ≤ r) ∧ (h0.size ≤ t) ∧ (Exa Z h r sAA) ∧ (Fld Z h r sAA "coder" "B" (.int (0 : Int32))) ∧ (Fld Z h r sAA "value" "[B" (.ref t)) ∧ (Arv Z h t kt .byte (2 : Int32) [(.int (own_ch xK).toInt8.toInt32.toInt8.toInt32), (.int (own_ch yK).toInt8.toInt32.toInt8.toInt32)] (.int (0 : Int32)))
set_option maxRecDepth 65536 in
set_option maxHeartbeats 40000000 in
theorem rmKM20 (l : Launch) (Z : State) (a0 : Array Value) (hw : ∀ d ∈ tables_1, d.before a0 Z = true) (ws : List Jvm.Cond) (xK : Int32) (yK : Int32) (zK : Int32) (zc : Int32) (h0 : Heap) (n0 : Nat) (Z0 : n0 ≤ h0.size) (O0 : Old Z n0 h0) (Scz : Sta Z Z.heap sAA "COMPACT_STRINGS" "Z" (.int zc)) (hcz : ¬ zc = 0) (hsA : ¬ (255 : Int32) < (own_ch xK)) (hsB : ¬ (255 : Int32) < (own_ch yK)) :
    MetFree l (⟨sAD, "make", sAF⟩ : MethodName) (head1 (Jvm.Cond.code (⟨sAD, "make", sAF⟩ : MethodName) method_2_code 7 (some (.object sAA)) :: ws) (oR 6 4 12 128)) (fun a U => a = #[(.int 2), (.int xK), (.int yK), (.int zK)] ∧ Z.Warmed39 U.vm ∧ U.heap = h0) (fun _ _ _ _ _ => True) (fun _ U o U' => ∃ v L, o = .returned v ∧ QKM20 Z xK yK zK zc h0 n0 v U'.heap L ∧ FrameEnd U o U' L (oR 6 4 12 128).cells (oR 6 4 12 128).slots) := by
  refine MetFree.of_bodySF (plainFor_of_name own_pn2) hisR ?_
  intro p e s m args below meth c s₁ Bd hml0 hP hK
  obtain ⟨rfl, hZ, hh⟩ := hP
  have hx := Bd.exec
  have hby := Bd.bytes
  have hlk : meth.locks = false := Bd.notSynchronized
  have hml : c.maxLocals = 7 := hml0
  have hown : s.vm.findClass sAD = some m.cls := findClass_of_methodNamed Bd.named
  have hnm := (name_of_methodNamed Bd.named Bd.method).1
  have X0 : Stand p l e (oR 6 4 12 128) s m #[(.int 2), (.int xK), (.int yK), (.int zK)] below meth c s₁ [] 0 0 := Stand.of_body Bd
  have e0 : s₁.heap = h0 := by rw [← hh, Bd.state]; rfl
  have N0 := Fr.nil n0
  refine own_body (A := s₁.setTop (mkF m 0 #[iv 2, iv xK, iv yK, iv zK, uu, uu, uu] [])) (Q := QKM20 Z xK yK zK zc h0 n0) (fun t k => castTop (own_efKM20 m (2 : Int32) xK yK zK) k) ?_
  refine oILN (n := 1) X0 hx (hb hby own_d1_0) rfl rfl ?_
  refine ov (B := s₁.setTop (mkF m 3 #[iv 2, iv xK, iv yK, iv zK, uu, uu, uu] [(.int 65535), (.int xK)])) (fun t k => X0.ldcInt hx hown (mvT hZ (oW hw 4 rfl)) (g := (mkF m 1 #[iv 2, iv xK, iv yK, iv zK, uu, uu, uu] [(.int xK)])) rfl (hb hby own_d1_1) _ k) ?_
  refine ov (B := s₁.setTop (mkF m 4 #[iv 2, iv xK, iv yK, iv zK, uu, uu, uu] [(.int (xK &&& (65535 : Int32)))])) (fun t k => XS.iand X0.here hx rfl (hb hby own_d1_3) rfl k) ?_
  refine ov (B := s₁.setTop (mkF m 5 #[iv 2, iv xK, iv yK, iv zK, uu, uu, uu] [(.int ((xK &&& (65535 : Int32)).toUInt32.toUInt16.toUInt32.toInt32))])) (fun t k => XS.i2c X0.here hx rfl (hb hby own_d1_4) rfl k) ?_
  refine ov (B := s₁.setTop (mkF m 7 #[iv 2, iv xK, iv yK, iv zK, iv ((xK &&& (65535 : Int32)).toUInt32.toUInt16.toUInt32.toInt32), uu, uu] [])) (fun t k => XS.istore X0.here hx rfl (hb hby own_d1_5) rfl (l' := #[iv 2, iv xK, iv yK, iv zK, iv ((xK &&& (65535 : Int32)).toUInt32.toUInt16.toUInt32.toInt32), uu, uu]) rfl k) ?_
  refine oILN (n := 8) X0 hx (hb hby own_d1_7) rfl rfl ?_
  refine ov (B := s₁.setTop (mkF m 10 #[iv 2, iv xK, iv yK, iv zK, iv ((xK &&& (65535 : Int32)).toUInt32.toUInt16.toUInt32.toInt32), uu, uu] [(.int 65535), (.int yK)])) (fun t k => X0.ldcInt hx hown (mvT hZ (oW hw 4 rfl)) (g := (mkF m 8 #[iv 2, iv xK, iv yK, iv zK, iv ((xK &&& (65535 : Int32)).toUInt32.toUInt16.toUInt32.toInt32), uu, uu] [(.int yK)])) rfl (hb hby own_d1_8) _ k) ?_
  refine ov (B := s₁.setTop (mkF m 11 #[iv 2, iv xK, iv yK, iv zK, iv ((xK &&& (65535 : Int32)).toUInt32.toUInt16.toUInt32.toInt32), uu, uu] [(.int (yK &&& (65535 : Int32)))])) (fun t k => XS.iand X0.here hx rfl (hb hby own_d1_10) rfl k) ?_
  refine ov (B := s₁.setTop (mkF m 12 #[iv 2, iv xK, iv yK, iv zK, iv ((xK &&& (65535 : Int32)).toUInt32.toUInt16.toUInt32.toInt32), uu, uu] [(.int ((yK &&& (65535 : Int32)).toUInt32.toUInt16.toUInt32.toInt32))])) (fun t k => XS.i2c X0.here hx rfl (hb hby own_d1_11) rfl k) ?_
  refine ov (B := s₁.setTop (mkF m 14 #[iv 2, iv xK, iv yK, iv zK, iv ((xK &&& (65535 : Int32)).toUInt32.toUInt16.toUInt32.toInt32), iv ((yK &&& (65535 : Int32)).toUInt32.toUInt16.toUInt32.toInt32), uu] [])) (fun t k => XS.istore X0.here hx rfl (hb hby own_d1_12) rfl (l' := #[iv 2, iv xK, iv yK, iv zK, iv ((xK &&& (65535 : Int32)).toUInt32.toUInt16.toUInt32.toInt32), iv ((yK &&& (65535 : Int32)).toUInt32.toUInt16.toUInt32.toInt32), uu]) rfl k) ?_
  refine oILN (n := 15) X0 hx (hb hby own_d1_14) rfl rfl ?_
  refine ov (B := s₁.setTop (mkF m 17 #[iv 2, iv xK, iv yK, iv zK, iv ((xK &&& (65535 : Int32)).toUInt32.toUInt16.toUInt32.toInt32), iv ((yK &&& (65535 : Int32)).toUInt32.toUInt16.toUInt32.toInt32), uu] [(.int 65535), (.int zK)])) (fun t k => X0.ldcInt hx hown (mvT hZ (oW hw 4 rfl)) (g := (mkF m 15 #[iv 2, iv xK, iv yK, iv zK, iv ((xK &&& (65535 : Int32)).toUInt32.toUInt16.toUInt32.toInt32), iv ((yK &&& (65535 : Int32)).toUInt32.toUInt16.toUInt32.toInt32), uu] [(.int zK)])) rfl (hb hby own_d1_15) _ k) ?_
  refine ov (B := s₁.setTop (mkF m 18 #[iv 2, iv xK, iv yK, iv zK, iv ((xK &&& (65535 : Int32)).toUInt32.toUInt16.toUInt32.toInt32), iv ((yK &&& (65535 : Int32)).toUInt32.toUInt16.toUInt32.toInt32), uu] [(.int (zK &&& (65535 : Int32)))])) (fun t k => XS.iand X0.here hx rfl (hb hby own_d1_17) rfl k) ?_
  refine ov (B := s₁.setTop (mkF m 19 #[iv 2, iv xK, iv yK, iv zK, iv ((xK &&& (65535 : Int32)).toUInt32.toUInt16.toUInt32.toInt32), iv ((yK &&& (65535 : Int32)).toUInt32.toUInt16.toUInt32.toInt32), uu] [(.int ((zK &&& (65535 : Int32)).toUInt32.toUInt16.toUInt32.toInt32))])) (fun t k => XS.i2c X0.here hx rfl (hb hby own_d1_18) rfl k) ?_
  refine ov (B := s₁.setTop (mkF m 21 #[iv 2, iv xK, iv yK, iv zK, iv ((xK &&& (65535 : Int32)).toUInt32.toUInt16.toUInt32.toInt32), iv ((yK &&& (65535 : Int32)).toUInt32.toUInt16.toUInt32.toInt32), iv ((zK &&& (65535 : Int32)).toUInt32.toUInt16.toUInt32.toInt32)] [])) (fun t k => XS.istore X0.here hx rfl (hb hby own_d1_19) rfl (l' := #[iv 2, iv xK, iv yK, iv zK, iv ((xK &&& (65535 : Int32)).toUInt32.toUInt16.toUInt32.toInt32), iv ((yK &&& (65535 : Int32)).toUInt32.toUInt16.toUInt32.toInt32), iv ((zK &&& (65535 : Int32)).toUInt32.toUInt16.toUInt32.toInt32)]) rfl k) ?_
  show own_Go p e below (s₁.setTop (mkF m 21 #[iv 2, iv xK, iv yK, iv zK, iv (own_m xK), iv (own_m yK), iv (own_m zK)] [])) _
  refine oILN (n := 22) X0 hx (hb hby own_d1_21) rfl rfl ?_
  have hc22 : ¬ ((2 : Int32) = (0 : Int32)) := by decide
  refine ov (B := s₁.setTop (mkF m 36 #[iv 2, iv xK, iv yK, iv zK, iv (own_m xK), iv (own_m yK), iv (own_m zK)] [])) (fun t k => XS.ifYes X0.here hx rfl (pc0 := 22) (pc' := 36) rfl (hb hby own_d1_22) rfl ((if0 _ _).trans (feq hc22).2) (by decide) (by decide) k) ?_
  refine oILN (n := 37) X0 hx (hb hby own_d1_36) rfl rfl ?_
  refine oIC (n := 38) X0 hx (1 : Int32) (hb hby own_d1_37) (by decide) rfl ?_
  have hc38 : ¬ ((2 : Int32) = (1 : Int32)) := by decide
  refine ov (B := s₁.setTop (mkF m 57 #[iv 2, iv xK, iv yK, iv zK, iv (own_m xK), iv (own_m yK), iv (own_m zK)] [])) (fun t k => XS.icmpYes X0.here hx rfl (pc0 := 38) (pc' := 57) rfl (hb hby own_d1_38) rfl (feq hc38).2 (by decide) (by decide) k) ?_
  refine oILN (n := 58) X0 hx (hb hby own_d1_57) rfl rfl ?_
  refine oIC (n := 59) X0 hx (2 : Int32) (hb hby own_d1_58) (by decide) rfl ?_
  have hc59 : (2 : Int32) = (2 : Int32) := by decide
  refine ov (B := s₁.setTop (mkF m 62 #[iv 2, iv xK, iv yK, iv zK, iv (own_m xK), iv (own_m yK), iv (own_m zK)] [])) (fun t k => XS.icmpNo X0.here hx rfl (hb hby own_d1_59) rfl (teq hc59).2 k) ?_
  obtain ⟨T1, h1, X1, e1, E1, A1, D1, -, st1⟩ := newO X0 hx hZ hown (oW hw 5 rfl) (oW hw 6 rfl) (oW hw 7 rfl) e0 (g := (mkF m 62 #[iv 2, iv xK, iv yK, iv zK, iv (own_m xK), iv (own_m yK), iv (own_m zK)] [])) rfl (hb hby own_d1_62) (by decide) (by decide)
  obtain ⟨b1, g1⟩ : ∃ z, z = h0.size := ⟨_, rfl⟩
  rw [← g1] at A1 D1 st1
  have g_b1 : n0 ≤ b1 := Nat.le_trans Z0 (Nat.le_of_eq g1.symm)
  have F1_value : Fld Z h1 b1 sAA "value" "[B" .null := D1 (Or.inr (oW hw 21 rfl)) (ty := (.array .byte)) (by decide)
  have F1_coder : Fld Z h1 b1 sAA "coder" "B" (.int 0) := D1 (Or.inr (oW hw 22 rfl)) (ty := .byte) (by decide)
  refine ov (B := T1.setTop (mkF m 65 #[iv 2, iv xK, iv yK, iv zK, iv (own_m xK), iv (own_m yK), iv (own_m zK)] [(.ref b1)])) (fun t k => st1 t k) ?_
  refine oDU (n := 66) X1 hx (hb hby own_d1_65) rfl rfl ?_
  refine oIC (n := 67) X1 hx (2 : Int32) (hb hby own_d1_66) (by decide) rfl ?_
  obtain ⟨T2, h2, kc2, X2, e2, E2, A2, st2⟩ := newP X1 hx hZ (oW hw 8 rfl) e1 (g := (mkF m 67 #[iv 2, iv xK, iv yK, iv zK, iv (own_m xK), iv (own_m yK), iv (own_m zK)] [(.int 2), (.ref b1), (.ref b1)])) rfl (hb hby own_d1_67) rfl (by decide) (cap := 2) (by decide) (by decide) (by decide) (by decide)
  obtain ⟨b2, g2⟩ : ∃ z, z = h1.size := ⟨_, rfl⟩
  rw [← g2] at A2 st2
  have g_b2 : n0 ≤ b2 := Nat.le_trans (Nat.le_trans Z0 E1.1) (Nat.le_of_eq g2.symm)
  have V2 : Arv Z h2 b2 kc2 .char (2 : Int32) [(.int 0), (.int 0)] (.int 0) := (Arv.new A2 (by decide)).pad (pad_rep [] (.int 0) 2)
  refine ov (B := T2.setTop (mkF m 69 #[iv 2, iv xK, iv yK, iv zK, iv (own_m xK), iv (own_m yK), iv (own_m zK)] [(.ref b2), (.ref b1), (.ref b1)])) (fun t k => st2 t k) ?_
  refine oDU (n := 70) X2 hx (hb hby own_d1_69) rfl rfl ?_
  refine oIC (n := 71) X2 hx (0 : Int32) (hb hby own_d1_70) (by decide) rfl ?_
  refine oIL (n := 73) X2 hx (hb hby own_d1_71) rfl rfl ?_
  obtain ⟨cl3, Ar3, q3, S3, M3, H3, G3⟩ := id V2
  obtain ⟨T4, h4, X4, e4, W4, st4⟩ := stC X2 hx hZ e2 Ar3 (j := (0 : Int32)) (inb_of S3 ⟨by decide, by decide⟩) (g := (mkF m 73 #[iv 2, iv xK, iv yK, iv zK, iv (own_m xK), iv (own_m yK), iv (own_m zK)] [(.int (own_m xK)), (.int 0), (.ref b2), (.ref b2), (.ref b1), (.ref b1)])) rfl rfl (hb hby own_d1_73)
  have V4 : Arv Z h4 b2 kc2 .char (2 : Int32) [(.int (nar .char (own_m xK))), (.int 0)] (.int 0) := Arv.set Ar3 q3 S3 M3 H3 G3 (fits_nar_char _) W4 0 rfl (Nat.le_of_ble_eq_true rfl)
  have N4 := Fr.snoc X4 N0 g_b2
  refine ov (B := T4.setTop (mkF m 74 #[iv 2, iv xK, iv yK, iv zK, iv (own_m xK), iv (own_m yK), iv (own_m zK)] [(.ref b2), (.ref b1), (.ref b1)])) (fun t k => st4 t k) ?_
  refine oDU (n := 75) X4 hx (hb hby own_d1_74) rfl rfl ?_
  refine oIC (n := 76) X4 hx (1 : Int32) (hb hby own_d1_75) (by decide) rfl ?_
  refine oIL (n := 78) X4 hx (hb hby own_d1_76) rfl rfl ?_
  obtain ⟨cl5, Ar5, q5, S5, M5, H5, G5⟩ := id V4
  obtain ⟨T6, h6, X6, e6, W6, st6⟩ := stC X4 hx hZ e4 Ar5 (j := (1 : Int32)) (inb_of S5 ⟨by decide, by decide⟩) (g := (mkF m 78 #[iv 2, iv xK, iv yK, iv zK, iv (own_m xK), iv (own_m yK), iv (own_m zK)] [(.int (own_m yK)), (.int 1), (.ref b2), (.ref b2), (.ref b1), (.ref b1)])) rfl rfl (hb hby own_d1_78)
  have V6 : Arv Z h6 b2 kc2 .char (2 : Int32) [(.int (nar .char (own_m xK))), (.int (nar .char (own_m yK)))] (.int 0) := Arv.set Ar5 q5 S5 M5 H5 G5 (fits_nar_char _) W6 1 rfl (Nat.le_of_ble_eq_true rfl)
  have N6 := Fr.snoc X6 N4 g_b2
  refine ov (B := T6.setTop (mkF m 79 #[iv 2, iv xK, iv yK, iv zK, iv (own_m xK), iv (own_m yK), iv (own_m zK)] [(.ref b2), (.ref b1), (.ref b1)])) (fun t k => st6 t k) ?_
  obtain ⟨_, _, ⟨T7, L7, k7, n7⟩, -, X7, ⟨Lc7, hQ7, l7, y7, z7⟩, st7⟩ := X6.specialBack hx (y := (⟨sAA, "<init>", "([C)V"⟩ : MethodName)) rfl hown (mvT hZ (oW hw 9 rfl)) (mvT hZ (oW hw 10 rfl)) (mvT hZ (oW hw 11 rfl)) (by decide) (backOf (W := 1) (rmSB20 l Z a0 hw [] b1 b2 zc .null (.int 0) kc2 (nar .char (own_m xK)) (nar .char (own_m yK)) h6 n0 (Nat.le_trans (Nat.le_trans (Nat.le_trans (Nat.le_trans Z0 E1.1) E2.1) (Keep.of_wr W4).1) (Keep.of_wr W6).1) ((((O0.ext E1).ext E2).wr W4 g_b2).wr W6 g_b2) (by assumption) (by assumption) (((A1.ext E2).wr W4).wr W6) (((F1_value.ext E2).other W4 (Or.inl (Nat.ne_of_lt (Nat.lt_of_lt_of_le A1.lt (Nat.le_of_eq g2.symm))))).other W6 (Or.inl (Nat.ne_of_lt (Nat.lt_of_lt_of_le A1.lt (Nat.le_of_eq g2.symm))))) (((F1_coder.ext E2).other W4 (Or.inl (Nat.ne_of_lt (Nat.lt_of_lt_of_le A1.lt (Nat.le_of_eq g2.symm))))).other W6 (Or.inl (Nat.ne_of_lt (Nat.lt_of_lt_of_le A1.lt (Nat.le_of_eq g2.symm))))) g_b1 V6 hsA hsB) hZ (oW hw 11 rfl) (oW hw 7 rfl) (by decide) (by decide)) (g := (mkF m 79 #[iv 2, iv xK, iv yK, iv zK, iv (own_m xK), iv (own_m yK), iv (own_m zK)] [(.ref b2), (.ref b1), (.ref b1)])) rfl (by rw [hml]; rfl) (Steps.refl _) (a := b1) (argsL := [(.ref b2)]) (rest := [(.ref b1)]) (lenOf own_pd8 rfl) rfl (by show 2 * 0 + _ ≤ _; exact Nat.le_of_eq rfl) (hb hby own_d1_79) (fun _ _ => ⟨rfl, e6, (by decide : ((0 + 1) + 1) + 2 ≤ _), (by decide : ((0 + 4) + 2) + 6 ≤ _)⟩)
  dsimp only [Pt.U, Pt.locs, Pt.cells, Pt.slots] at X7 l7 y7 z7 st7 hQ7
  subst l7 y7 z7
  obtain ⟨t_7, kt_7, rfl, Nq7, Kq7, ht_7, f7_0, f7_1, f7_2⟩ := hQ7
  have N7 := Fr.app N6 Nq7
  have g_t_7 : n0 ≤ t_7 := Nat.le_trans (Nat.le_trans (Nat.le_trans (Nat.le_trans (Nat.le_trans Z0 E1.1) E2.1) (Keep.of_wr W4).1) (Keep.of_wr W6).1) ht_7
  refine ov (B := T7.setTop (mkF m 82 #[iv 2, iv xK, iv yK, iv zK, iv (own_m xK), iv (own_m yK), iv (own_m zK)] [(.ref b1)])) (fun t k => st7.trans k) ?_
  refine own_leaf X7 hx hlk (t := (.object sAA)) Bd.returns rfl (Or.inr (Or.inr (Or.inr (Or.inr ⟨rfl, rfl, rfl⟩)))) (hb hby own_d1_82) (by decide) (by decide) ?_
  show QKM20 Z xK yK zK zc h0 n0 _ T7.heap _
  refine ⟨b1, t_7, kt_7, ?_, N7, ((((((Keep.refl h0 []).ext E1).ext E2).wr W4 (Or.inr (Nat.le_trans (Nat.le_trans (Nat.le_refl _) E1.1) (Nat.le_of_eq g2.symm)))).wr W6 (Or.inr (Nat.le_trans (Nat.le_trans (Nat.le_refl _) E1.1) (Nat.le_of_eq g2.symm)))).trans Kq7 (allS (Or.inr (Nat.le_of_eq g1.symm)) all0)), ?_, ?_, ((((A1.ext E2).wr W4).wr W6).keep Kq7), f7_0, f7_1, f7_2⟩
  · rfl
  · exact (Nat.le_of_eq g1.symm)
  · exact (Nat.le_trans (Nat.le_trans (Nat.le_trans (Nat.le_trans (Nat.le_trans (Nat.le_refl _) E1.1) E2.1) (Keep.of_wr W4).1) (Keep.of_wr W6).1) ht_7)
theorem own_efSA21 (m : MethodId) (x0 : Addr) (x1 : Addr) (x2 : Int32) (x3 : Int32) : entryFrame m #[(.ref x0), (.ref x1), (.int x2), (.int x3), .null] 6 = mkF m 0 #[rv x0, rv x1, iv x2, iv x3, .val .null, uu] [] := by first | (simp [entryFrame, mkF, argsToLocals, Value.category]; done) | rfl
def QSA21 (Z : State) (x1 : Addr) (b1 : Addr) (zc : Int32) (u1 : Value) (u2 : Value) (kc : ClassId) (xA : Int32) (xB : Int32) (h0 : Heap) (n0 : Nat) (v : Option Value) (h : Heap) (L : List Loc) : Prop := ∃ (t : Addr) (kt : ClassId), v = none ∧ Fr n0 L ∧ Keep h0 h [x1] ∧ (h0.size ≤ t) ∧ (Fld Z h x1 sAA "coder" "B" (.int (1 : Int32))) ∧ (Fld Z h x1 sAA "value" "[B" (.ref t)) ∧ (Arv Z h t kt .byte (4 : Int32) [(.int (xA >>> ((0 : Int32) &&& 31)).toInt8.toInt32.toInt8.toInt32), (.int (xA >>> ((8 : Int32) &&& 31)).toInt8.toInt32.toInt8.toInt32), (.int (xB >>> ((0 : Int32) &&& 31)).toInt8.toInt32.toInt8.toInt32), (.int (xB >>> ((8 : Int32) &&& 31)).toInt8.toInt32.toInt8.toInt32)] (.int (0 : Int32)))
set_option maxRecDepth 65536 in
set_option maxHeartbeats 40000000 in
theorem rmSA21 (l : Launch) (Z : State) (a0 : Array Value) (hw : ∀ d ∈ tables_1, d.before a0 Z = true) (ws : List Jvm.Cond) (x1 : Addr) (b1 : Addr) (zc : Int32) (u1 : Value) (u2 : Value) (kc : ClassId) (xA : Int32) (xB : Int32) (h0 : Heap) (n0 : Nat) (Z0 : n0 ≤ h0.size) (O0 : Old Z n0 h0) (Scz : Sta Z Z.heap sAA "COMPACT_STRINGS" "Z" (.int zc)) (hcz : ¬ zc = 0) (SA : Sta Z Z.heap sAB sAH "Z" (.int (1 : Int32))) (SH : Sta Z Z.heap sAB "HI_BYTE_SHIFT" "I" (.int (0 : Int32))) (SL : Sta Z Z.heap sAB "LO_BYTE_SHIFT" "I" (.int (8 : Int32))) (Ei : Exa Z h0 x1 sAA) (Fv : Fld Z h0 x1 sAA "value" "[B" u1) (Fc : Fld Z h0 x1 sAA "coder" "B" u2) (g_x1 : n0 ≤ x1) (Vc : Arv Z h0 b1 kc .char (2 : Int32) [(.int xA), (.int xB)] (.int (0 : Int32))) (hB : own_B2 xA xB) (huA : own_U xA) (huB : own_U xB) :
    MetFree l (⟨sAA, "<init>", sAG⟩ : MethodName) (head1 (Jvm.Cond.code (⟨sAA, "<init>", sAG⟩ : MethodName) jdk_42_method_149_code 6 none :: ws) (oR 4 2 6 80)) (fun a U => a = #[(.ref x1), (.ref b1), (.int 0), (.int 2), .null] ∧ Z.Warmed39 U.vm ∧ U.heap = h0) (fun _ _ _ _ _ => True) (fun _ U o U' => ∃ v L, o = .returned v ∧ QSA21 Z x1 b1 zc u1 u2 kc xA xB h0 n0 v U'.heap L ∧ FrameEnd U o U' L (oR 4 2 6 80).cells (oR 4 2 6 80).slots) := by
  refine MetFree.of_bodySF (plainFor_of_name own_pn1) hisR ?_
  intro p e s m args below meth c s₁ Bd hml0 hP hK
  obtain ⟨rfl, hZ, hh⟩ := hP
  have hx := Bd.exec
  have hby := Bd.bytes
  have hlk : meth.locks = false := Bd.notSynchronized
  have hml : c.maxLocals = 6 := hml0
  have hown : s.vm.findClass sAA = some m.cls := findClass_of_methodNamed Bd.named
  have hnm := (name_of_methodNamed Bd.named Bd.method).1
  have X0 : Stand p l e (oR 4 2 6 80) s m #[(.ref x1), (.ref b1), (.int 0), (.int 2), .null] below meth c s₁ [] 0 0 := Stand.of_body Bd
  have e0 : s₁.heap = h0 := by rw [← hh, Bd.state]; rfl
  have N0 := Fr.nil n0
  refine own_body (A := s₁.setTop (mkF m 0 #[rv x1, rv b1, iv 0, iv 2, .val .null, uu] [])) (Q := QSA21 Z x1 b1 zc u1 u2 kc xA xB h0 n0) (fun t k => castTop (own_efSA21 m x1 b1 (0 : Int32) (2 : Int32)) k) ?_
  refine oALN (n := 1) X0 hx (hb hby own_d3_0) rfl rfl rfl ?_
  obtain ⟨T1, X1, e1, st1⟩ := initO X0 hx hZ hown (oW hw 16 rfl) (oW hw 17 rfl) (oW hw 18 rfl) e0 (g := (mkF m 1 #[rv x1, rv b1, iv 0, iv 2, .val .null, uu] [(.ref x1)])) rfl (by rw [hml]; rfl) rfl (hb hby own_d3_1) (by decide) (W := 0) (by show 2 * 0 + _ ≤ _; exact Nat.le_of_eq rfl) (by decide)
  refine ov (B := T1.setTop (mkF m 4 #[rv x1, rv b1, iv 0, iv 2, .val .null, uu] [])) (fun t k => st1 t k) ?_
  refine oILN (n := 5) X1 hx (hb hby own_d3_4) rfl rfl ?_
  have hc5 : ¬ ((2 : Int32) = (0 : Int32)) := by decide
  refine ov (B := T1.setTop (mkF m 27 #[rv x1, rv b1, iv 0, iv 2, .val .null, uu] [])) (fun t k => XS.ifYes X1.here hx rfl (pc0 := 5) (pc' := 27) rfl (hb hby own_d3_5) rfl ((if0 _ _).trans (feq hc5).2) (by decide) (by decide) k) ?_
  obtain ⟨T2, X2, e2, st2⟩ := getS2 X1 hx hZ hown (host := "") (Or.inl (oW hw 121 rfl)) Via.refl e1 (Scz.ext O0.2) (g := (mkF m 27 #[rv x1, rv b1, iv 0, iv 2, .val .null, uu] [])) rfl (hb hby own_d3_27)
  refine ov (B := T2.setTop (mkF m 30 #[rv x1, rv b1, iv 0, iv 2, .val .null, uu] [(.int zc)])) (fun t k => st2 t k) ?_
  have hc30 : ¬ (zc = (0 : Int32)) := hcz
  refine ov (B := T2.setTop (mkF m 33 #[rv x1, rv b1, iv 0, iv 2, .val .null, uu] [])) (fun t k => XS.ifNo X2.here hx rfl (hb hby own_d3_30) rfl ((if0 _ _).trans (feq hc30).1) k) ?_
  refine oALN (n := 34) X2 hx (hb hby own_d3_33) rfl rfl rfl ?_
  refine oILN (n := 35) X2 hx (hb hby own_d3_34) rfl rfl ?_
  refine oILN (n := 36) X2 hx (hb hby own_d3_35) rfl rfl ?_
  obtain ⟨_, _, ⟨T3, L3, k3, n3⟩, -, X3, ⟨Lc3, hQ3, l3, y3, z3⟩, st3⟩ := Jvm.LawKit.callS X2 hx (y := (⟨sAB, "compress", "([CII)[B"⟩ : MethodName)) hown (mvT hZ (oW hw 131 rfl)) (mvT hZ (oW hw 132 rfl)) (mvT hZ (oW hw 133 rfl)) (mvT hZ (oW hw 134 rfl)) (by decide) (backOf (W := 0) (rmCB21 l Z a0 hw [] b1 kc xA xB h0 n0 Z0 O0 (by assumption) (by assumption) (by assumption) Vc hB huA huB) hZ (oW hw 134 rfl) (oW hw 133 rfl) (by decide) (by decide)) (g := (mkF m 36 #[rv x1, rv b1, iv 0, iv 2, .val .null, uu] [(.int 2), (.int 0), (.ref b1)])) rfl (by rw [hml]; rfl) (argsL := [(.ref b1), (.int 0), (.int 2)]) (rest := []) (lenOf own_pd4 rfl) rfl (by show 2 * 0 + _ ≤ _; exact Nat.le_of_eq rfl) (hb hby own_d3_36) (fun _ _ => ⟨rfl, e2, (by decide : 0 + 2 ≤ _), (by decide : 0 + 6 ≤ _)⟩)
  dsimp only [Pt.U, Pt.locs, Pt.cells, Pt.slots] at X3 l3 y3 z3 st3 hQ3
  subst l3 y3 z3
  obtain ⟨r_3, kr_3, rfl, Nq3, Kq3, hr_3, f3_0⟩ := hQ3
  have N3 := Fr.app N0 Nq3
  have g_r_3 : n0 ≤ r_3 := Nat.le_trans Z0 hr_3
  refine ov (B := T3.setTop (mkF m 39 #[rv x1, rv b1, iv 0, iv 2, .val .null, uu] [(.ref r_3)])) (fun t k => st3 t k) ?_
  refine ov (B := T3.setTop (mkF m 41 #[rv x1, rv b1, iv 0, iv 2, .val .null, rv r_3] [])) (fun t k => XS.astore X3.here hx rfl (hb hby own_d3_39) rfl rfl (l' := #[rv x1, rv b1, iv 0, iv 2, .val .null, rv r_3]) rfl k) ?_
  refine oALN (n := 42) X3 hx (hb hby own_d3_41) rfl rfl rfl ?_
  refine oAL (n := 44) X3 hx (hb hby own_d3_42) rfl rfl rfl ?_
  refine oILN (n := 45) X3 hx (hb hby own_d3_44) rfl rfl ?_
  obtain ⟨_, _, ⟨T4, L4, k4, n4⟩, -, X4, ⟨Lc4, hQ4, l4, y4, z4⟩, st4⟩ := Jvm.LawKit.callS X3 hx (y := (⟨sAB, sAN, "([BI)B"⟩ : MethodName)) hown (mvT hZ (oW hw 138 rfl)) (mvT hZ (oW hw 139 rfl)) (mvT hZ (oW hw 133 rfl)) (mvT hZ (oW hw 140 rfl)) (by decide) (backOf (W := 1) (rmCF24 l Z a0 hw [] r_3 kr_3 (xA >>> ((0 : Int32) &&& 31)).toInt8.toInt32.toInt8.toInt32 (xA >>> ((8 : Int32) &&& 31)).toInt8.toInt32.toInt8.toInt32 (xB >>> ((0 : Int32) &&& 31)).toInt8.toInt32.toInt8.toInt32 (xB >>> ((8 : Int32) &&& 31)).toInt8.toInt32.toInt8.toInt32 T3.heap n0 (Nat.le_trans Z0 Kq3.1) f3_0) hZ (oW hw 140 rfl) (oW hw 133 rfl) (by decide) (by decide)) (g := (mkF m 45 #[rv x1, rv b1, iv 0, iv 2, .val .null, rv r_3] [(.int 2), (.ref r_3), (.ref x1)])) rfl (by rw [hml]; rfl) (argsL := [(.ref r_3), (.int 2)]) (rest := [(.ref x1)]) (lenOf own_pd6 rfl) rfl (by show 2 * 0 + _ ≤ _; exact Nat.le_of_eq rfl) (hb hby own_d3_45) (fun _ _ => ⟨rfl, rfl, (by decide : (0 + 2) + 0 ≤ _), (by decide : (0 + 6) + 0 ≤ _)⟩)
  dsimp only [Pt.U, Pt.locs, Pt.cells, Pt.slots] at X4 l4 y4 z4 st4 hQ4
  subst l4 y4 z4
  obtain ⟨rfl, Nq4, eq4⟩ := hQ4
  have N4 := Fr.app N3 Nq4
  refine ov (B := T4.setTop (mkF m 48 #[rv x1, rv b1, iv 0, iv 2, .val .null, rv r_3] [(.int 1), (.ref x1)])) (fun t k => st4 t k) ?_
  obtain ⟨T5, h5, X5, e5, W5, st5⟩ := putFN X4 hx hZ hown (oW hw 26 rfl) Via.refl eq4 (Fc.keep Kq3 nin0) (Ei.keep Kq3) (Or.inr ⟨(oW hw 22 rfl), rfl, hnm⟩) (oW hw 6 rfl) (ty := .byte) (v' := (.int 1)) (by decide) (by decide) (by decide) (g := (mkF m 48 #[rv x1, rv b1, iv 0, iv 2, .val .null, rv r_3] [(.int 1), (.ref x1)])) rfl rfl (hb hby own_d3_48)
  have Fw5 := (Fc.keep Kq3 nin0).same W5
  have N5 := Fr.snoc X5 N4 g_x1
  refine ov (B := T5.setTop (mkF m 51 #[rv x1, rv b1, iv 0, iv 2, .val .null, rv r_3] [])) (fun t k => st5 t k) ?_
  refine oALN (n := 52) X5 hx (hb hby own_d3_51) rfl rfl rfl ?_
  refine oAL (n := 54) X5 hx (hb hby own_d3_52) rfl rfl rfl ?_
  obtain ⟨T6, h6, X6, e6, W6, st6⟩ := putF X5 hx hZ hown (host := "") (Or.inl (oW hw 25 rfl)) Via.refl e5 ((Fv.keep Kq3 nin0).other W5 (Or.inr (slot_ne (Or.inr (oW hw 21 rfl)) (Or.inr (oW hw 22 rfl)) (by decide +kernel) (t := (.array .byte)) (t' := .byte) (by decide +kernel) (by decide +kernel)))) ((Ei.keep Kq3).wr W5) (Or.inr ⟨(oW hw 21 rfl), rfl, hnm⟩) (oW hw 6 rfl) (ty := (.array .byte)) (by decide) rfl rfl (g := (mkF m 54 #[rv x1, rv b1, iv 0, iv 2, .val .null, rv r_3] [(.ref r_3), (.ref x1)])) rfl rfl (hb hby own_d3_54)
  have Fw6 := ((Fv.keep Kq3 nin0).other W5 (Or.inr (slot_ne (Or.inr (oW hw 21 rfl)) (Or.inr (oW hw 22 rfl)) (by decide +kernel) (t := (.array .byte)) (t' := .byte) (by decide +kernel) (by decide +kernel)))).same W6
  have N6 := Fr.snoc X6 N5 g_x1
  refine ov (B := T6.setTop (mkF m 57 #[rv x1, rv b1, iv 0, iv 2, .val .null, rv r_3] [])) (fun t k => st6 t k) ?_
  refine own_leafV X6 hx hlk Bd.returns (hb hby own_d3_57) (by decide) (by decide) ?_
  show QSA21 Z x1 b1 zc u1 u2 kc xA xB h0 n0 _ T6.heap _
  rw [e6]
  refine ⟨r_3, kr_3, ?_, N6, ((((Keep.refl h0 [x1]).trans Kq3 all0).wr W5 (Or.inl (List.mem_of_getElem? (i := 0) rfl))).wr W6 (Or.inl (List.mem_of_getElem? (i := 0) rfl))), ?_, (Fw5.other W6 (Or.inr (slot_ne (Or.inr (oW hw 22 rfl)) (Or.inr (oW hw 21 rfl)) (by decide +kernel) (t := .byte) (t' := (.array .byte)) (by decide +kernel) (by decide +kernel)))), Fw6, ((f3_0.other W5 (Ne.symm (Nat.ne_of_lt (Nat.lt_of_lt_of_le Ei.lt hr_3)))).other W6 (Ne.symm (Nat.ne_of_lt (Nat.lt_of_lt_of_le Ei.lt hr_3))))⟩
  · rfl
  · exact hr_3
theorem own_efSB21 (m : MethodId) (x0 : Addr) (x1 : Addr) : entryFrame m #[(.ref x0), (.ref x1)] 2 = mkF m 0 #[rv x0, rv x1] [] := by first | (simp [entryFrame, mkF, argsToLocals, Value.category]; done) | rfl
def QSB21 (Z : State) (x1 : Addr) (b1 : Addr) (zc : Int32) (u1 : Value) (u2 : Value) (kc : ClassId) (xA : Int32) (xB : Int32) (h0 : Heap) (n0 : Nat) (v : Option Value) (h : Heap) (L : List Loc) : Prop := ∃ (t : Addr) (kt : ClassId), v = none ∧ Fr n0 L ∧ Keep h0 h [x1] ∧ (h0.size ≤ t) ∧ (Fld Z h x1 sAA "coder" "B" (.int (1 : Int32))) ∧ (Fld Z h x1 sAA "value" "[B" (.ref t)) ∧ (Arv Z h t kt .byte (4 : Int32) [(.int (xA >>> ((0 : Int32) &&& 31)).toInt8.toInt32.toInt8.toInt32), (.int (xA >>> ((8 : Int32) &&& 31)).toInt8.toInt32.toInt8.toInt32), (.int (xB >>> ((0 : Int32) &&& 31)).toInt8.toInt32.toInt8.toInt32), (.int (xB >>> ((8 : Int32) &&& 31)).toInt8.toInt32.toInt8.toInt32)] (.int (0 : Int32)))
set_option maxRecDepth 65536 in
set_option maxHeartbeats 40000000 in
theorem rmSB21 (l : Launch) (Z : State) (a0 : Array Value) (hw : ∀ d ∈ tables_1, d.before a0 Z = true) (ws : List Jvm.Cond) (x1 : Addr) (b1 : Addr) (zc : Int32) (u1 : Value) (u2 : Value) (kc : ClassId) (xA : Int32) (xB : Int32) (h0 : Heap) (n0 : Nat) (Z0 : n0 ≤ h0.size) (O0 : Old Z n0 h0) (Scz : Sta Z Z.heap sAA "COMPACT_STRINGS" "Z" (.int zc)) (hcz : ¬ zc = 0) (SA : Sta Z Z.heap sAB sAH "Z" (.int (1 : Int32))) (SH : Sta Z Z.heap sAB "HI_BYTE_SHIFT" "I" (.int (0 : Int32))) (SL : Sta Z Z.heap sAB "LO_BYTE_SHIFT" "I" (.int (8 : Int32))) (Ei : Exa Z h0 x1 sAA) (Fv : Fld Z h0 x1 sAA "value" "[B" u1) (Fc : Fld Z h0 x1 sAA "coder" "B" u2) (g_x1 : n0 ≤ x1) (Vc : Arv Z h0 b1 kc .char (2 : Int32) [(.int xA), (.int xB)] (.int (0 : Int32))) (hB : own_B2 xA xB) (huA : own_U xA) (huB : own_U xB) :
    MetFree l (⟨sAA, "<init>", "([C)V"⟩ : MethodName) (head1 (Jvm.Cond.code (⟨sAA, "<init>", "([C)V"⟩ : MethodName) jdk_42_method_3_code 2 none :: ws) (oR 5 2 6 104)) (fun a U => a = #[(.ref x1), (.ref b1)] ∧ Z.Warmed39 U.vm ∧ U.heap = h0) (fun _ _ _ _ _ => True) (fun _ U o U' => ∃ v L, o = .returned v ∧ QSB21 Z x1 b1 zc u1 u2 kc xA xB h0 n0 v U'.heap L ∧ FrameEnd U o U' L (oR 5 2 6 104).cells (oR 5 2 6 104).slots) := by
  refine MetFree.of_bodySF (plainFor_of_name own_pn1) hisR ?_
  intro p e s m args below meth c s₁ Bd hml0 hP hK
  obtain ⟨rfl, hZ, hh⟩ := hP
  have hx := Bd.exec
  have hby := Bd.bytes
  have hlk : meth.locks = false := Bd.notSynchronized
  have hml : c.maxLocals = 2 := hml0
  have hown : s.vm.findClass sAA = some m.cls := findClass_of_methodNamed Bd.named
  have hnm := (name_of_methodNamed Bd.named Bd.method).1
  have X0 : Stand p l e (oR 5 2 6 104) s m #[(.ref x1), (.ref b1)] below meth c s₁ [] 0 0 := Stand.of_body Bd
  have e0 : s₁.heap = h0 := by rw [← hh, Bd.state]; rfl
  have N0 := Fr.nil n0
  refine own_body (A := s₁.setTop (mkF m 0 #[rv x1, rv b1] [])) (Q := QSB21 Z x1 b1 zc u1 u2 kc xA xB h0 n0) (fun t k => castTop (own_efSB21 m x1 b1) k) ?_
  refine oALN (n := 1) X0 hx (hb hby own_d2_0) rfl rfl rfl ?_
  refine oALN (n := 2) X0 hx (hb hby own_d2_1) rfl rfl rfl ?_
  refine oIC (n := 3) X0 hx (0 : Int32) (hb hby own_d2_2) (by decide) rfl ?_
  refine oALN (n := 4) X0 hx (hb hby own_d2_3) rfl rfl rfl ?_
  obtain ⟨cl1, Ar1, q1, S1, M1, H1, G1⟩ := id Vc
  refine ov (B := s₁.setTop (mkF m 5 #[rv x1, rv b1] [(.int 2), (.int 0), (.ref b1), (.ref x1)])) (fun t k => X0.arraylength hx (by rw [e0]; exact Ar1.1) (State.isArrayOf_alike hZ.alike Ar1.2.1) (g := (mkF m 4 #[rv x1, rv b1] [(.ref b1), (.int 0), (.ref b1), (.ref x1)])) rfl rfl (hb hby own_d2_4) _ (by rw [len_of S1 M1]; exact k)) ?_
  refine oNU (n := 6) X0 hx (hb hby own_d2_5) rfl ?_
  obtain ⟨_, _, ⟨T2, L2, k2, n2⟩, -, X2, ⟨Lc2, hQ2, l2, y2, z2⟩, st2⟩ := X0.specialBack hx (y := (⟨sAA, "<init>", sAG⟩ : MethodName)) rfl hown (mvT hZ (oW hw 12 rfl)) (mvT hZ (oW hw 13 rfl)) (mvT hZ (oW hw 15 rfl)) (by decide) (backOf (W := 0) (rmSA21 l Z a0 hw [] x1 b1 zc u1 u2 kc xA xB h0 n0 Z0 O0 (by assumption) (by assumption) (by assumption) (by assumption) (by assumption) Ei Fv Fc g_x1 Vc hB huA huB) hZ (oW hw 15 rfl) (oW hw 7 rfl) (by decide) (by decide)) (g := (mkF m 6 #[rv x1, rv b1] [.null, (.int 2), (.int 0), (.ref b1), (.ref x1)])) rfl (by rw [hml]; rfl) (Steps.refl _) (a := x1) (argsL := [(.ref b1), (.int 0), (.int 2), .null]) (rest := []) (lenOf own_pd7 rfl) rfl (by show 2 * 0 + _ ≤ _; exact Nat.le_of_eq rfl) (hb hby own_d2_6) (fun _ _ => ⟨rfl, e0, (by decide : 0 + 2 ≤ _), (by decide : 0 + 6 ≤ _)⟩)
  dsimp only [Pt.U, Pt.locs, Pt.cells, Pt.slots] at X2 l2 y2 z2 st2 hQ2
  subst l2 y2 z2
  obtain ⟨t_2, kt_2, rfl, Nq2, Kq2, ht_2, f2_0, f2_1, f2_2⟩ := hQ2
  have N2 := Fr.app N0 Nq2
  have g_t_2 : n0 ≤ t_2 := Nat.le_trans Z0 ht_2
  refine ov (B := T2.setTop (mkF m 9 #[rv x1, rv b1] [])) (fun t k => st2.trans k) ?_
  refine own_leafV X2 hx hlk Bd.returns (hb hby own_d2_9) (by decide) (by decide) ?_
  show QSB21 Z x1 b1 zc u1 u2 kc xA xB h0 n0 _ T2.heap _
  refine ⟨t_2, kt_2, ?_, N2, ((Keep.refl h0 [x1]).trans Kq2 (allS (Or.inl (List.mem_of_getElem? (i := 0) rfl)) all0)), ?_, f2_0, f2_1, f2_2⟩
  · rfl
  · exact ht_2
theorem own_efKM21 (m : MethodId) (x0 : Int32) (x1 : Int32) (x2 : Int32) (x3 : Int32) : entryFrame m #[(.int x0), (.int x1), (.int x2), (.int x3)] 7 = mkF m 0 #[iv x0, iv x1, iv x2, iv x3, uu, uu, uu] [] := by first | (simp [entryFrame, mkF, argsToLocals, Value.category]; done) | rfl
def QKM21 (Z : State) (xK : Int32) (yK : Int32) (zK : Int32) (zc : Int32) (h0 : Heap) (n0 : Nat) (v : Option Value) (h : Heap) (L : List Loc) : Prop := ∃ (r : Addr) (t : Addr) (kt : ClassId), v = some (.ref r) ∧ Fr n0 L ∧ Keep h0 h [] ∧ (h0.size ≤ r) ∧ (h0.size ≤ t) ∧ (Exa Z h r sAA) ∧ (Fld Z h r sAA "coder" "B" (.int (1 : Int32))) ∧ (Fld Z h r sAA "value" "[B" (.ref t)) ∧ (Arv Z h t kt .byte (4 : Int32) [(.int ((own_ch xK) >>> ((0 : Int32) &&& 31)).toInt8.toInt32.toInt8.toInt32), (.int ((own_ch xK) >>> ((8 : Int32) &&& 31)).toInt8.toInt32.toInt8.toInt32), (.int ((own_ch yK) >>> ((0 : Int32) &&& 31)).toInt8.toInt32.toInt8.toInt32), (.int ((own_ch yK) >>> ((8 : Int32) &&& 31)).toInt8.toInt32.toInt8.toInt32)] (.int (0 : Int32)))
set_option maxRecDepth 65536 in
set_option maxHeartbeats 40000000 in
theorem rmKM21 (l : Launch) (Z : State) (a0 : Array Value) (hw : ∀ d ∈ tables_1, d.before a0 Z = true) (ws : List Jvm.Cond) (xK : Int32) (yK : Int32) (zK : Int32) (zc : Int32) (h0 : Heap) (n0 : Nat) (Z0 : n0 ≤ h0.size) (O0 : Old Z n0 h0) (Scz : Sta Z Z.heap sAA "COMPACT_STRINGS" "Z" (.int zc)) (hcz : ¬ zc = 0) (SA : Sta Z Z.heap sAB sAH "Z" (.int (1 : Int32))) (SH : Sta Z Z.heap sAB "HI_BYTE_SHIFT" "I" (.int (0 : Int32))) (SL : Sta Z Z.heap sAB "LO_BYTE_SHIFT" "I" (.int (8 : Int32))) (hB : own_B2 (own_ch xK) (own_ch yK)) (huA : own_U (own_ch xK)) (huB : own_U (own_ch yK)) :
    MetFree l (⟨sAD, "make", sAF⟩ : MethodName) (head1 (Jvm.Cond.code (⟨sAD, "make", sAF⟩ : MethodName) method_2_code 7 (some (.object sAA)) :: ws) (oR 6 4 12 128)) (fun a U => a = #[(.int 2), (.int xK), (.int yK), (.int zK)] ∧ Z.Warmed39 U.vm ∧ U.heap = h0) (fun _ _ _ _ _ => True) (fun _ U o U' => ∃ v L, o = .returned v ∧ QKM21 Z xK yK zK zc h0 n0 v U'.heap L ∧ FrameEnd U o U' L (oR 6 4 12 128).cells (oR 6 4 12 128).slots) := by
  refine MetFree.of_bodySF (plainFor_of_name own_pn2) hisR ?_
  intro p e s m args below meth c s₁ Bd hml0 hP hK
  obtain ⟨rfl, hZ, hh⟩ := hP
  have hx := Bd.exec
  have hby := Bd.bytes
  have hlk : meth.locks = false := Bd.notSynchronized
  have hml : c.maxLocals = 7 := hml0
  have hown : s.vm.findClass sAD = some m.cls := findClass_of_methodNamed Bd.named
  have hnm := (name_of_methodNamed Bd.named Bd.method).1
  have X0 : Stand p l e (oR 6 4 12 128) s m #[(.int 2), (.int xK), (.int yK), (.int zK)] below meth c s₁ [] 0 0 := Stand.of_body Bd
  have e0 : s₁.heap = h0 := by rw [← hh, Bd.state]; rfl
  have N0 := Fr.nil n0
  refine own_body (A := s₁.setTop (mkF m 0 #[iv 2, iv xK, iv yK, iv zK, uu, uu, uu] [])) (Q := QKM21 Z xK yK zK zc h0 n0) (fun t k => castTop (own_efKM21 m (2 : Int32) xK yK zK) k) ?_
  refine oILN (n := 1) X0 hx (hb hby own_d1_0) rfl rfl ?_
  refine ov (B := s₁.setTop (mkF m 3 #[iv 2, iv xK, iv yK, iv zK, uu, uu, uu] [(.int 65535), (.int xK)])) (fun t k => X0.ldcInt hx hown (mvT hZ (oW hw 4 rfl)) (g := (mkF m 1 #[iv 2, iv xK, iv yK, iv zK, uu, uu, uu] [(.int xK)])) rfl (hb hby own_d1_1) _ k) ?_
  refine ov (B := s₁.setTop (mkF m 4 #[iv 2, iv xK, iv yK, iv zK, uu, uu, uu] [(.int (xK &&& (65535 : Int32)))])) (fun t k => XS.iand X0.here hx rfl (hb hby own_d1_3) rfl k) ?_
  refine ov (B := s₁.setTop (mkF m 5 #[iv 2, iv xK, iv yK, iv zK, uu, uu, uu] [(.int ((xK &&& (65535 : Int32)).toUInt32.toUInt16.toUInt32.toInt32))])) (fun t k => XS.i2c X0.here hx rfl (hb hby own_d1_4) rfl k) ?_
  refine ov (B := s₁.setTop (mkF m 7 #[iv 2, iv xK, iv yK, iv zK, iv ((xK &&& (65535 : Int32)).toUInt32.toUInt16.toUInt32.toInt32), uu, uu] [])) (fun t k => XS.istore X0.here hx rfl (hb hby own_d1_5) rfl (l' := #[iv 2, iv xK, iv yK, iv zK, iv ((xK &&& (65535 : Int32)).toUInt32.toUInt16.toUInt32.toInt32), uu, uu]) rfl k) ?_
  refine oILN (n := 8) X0 hx (hb hby own_d1_7) rfl rfl ?_
  refine ov (B := s₁.setTop (mkF m 10 #[iv 2, iv xK, iv yK, iv zK, iv ((xK &&& (65535 : Int32)).toUInt32.toUInt16.toUInt32.toInt32), uu, uu] [(.int 65535), (.int yK)])) (fun t k => X0.ldcInt hx hown (mvT hZ (oW hw 4 rfl)) (g := (mkF m 8 #[iv 2, iv xK, iv yK, iv zK, iv ((xK &&& (65535 : Int32)).toUInt32.toUInt16.toUInt32.toInt32), uu, uu] [(.int yK)])) rfl (hb hby own_d1_8) _ k) ?_
  refine ov (B := s₁.setTop (mkF m 11 #[iv 2, iv xK, iv yK, iv zK, iv ((xK &&& (65535 : Int32)).toUInt32.toUInt16.toUInt32.toInt32), uu, uu] [(.int (yK &&& (65535 : Int32)))])) (fun t k => XS.iand X0.here hx rfl (hb hby own_d1_10) rfl k) ?_
  refine ov (B := s₁.setTop (mkF m 12 #[iv 2, iv xK, iv yK, iv zK, iv ((xK &&& (65535 : Int32)).toUInt32.toUInt16.toUInt32.toInt32), uu, uu] [(.int ((yK &&& (65535 : Int32)).toUInt32.toUInt16.toUInt32.toInt32))])) (fun t k => XS.i2c X0.here hx rfl (hb hby own_d1_11) rfl k) ?_
  refine ov (B := s₁.setTop (mkF m 14 #[iv 2, iv xK, iv yK, iv zK, iv ((xK &&& (65535 : Int32)).toUInt32.toUInt16.toUInt32.toInt32), iv ((yK &&& (65535 : Int32)).toUInt32.toUInt16.toUInt32.toInt32), uu] [])) (fun t k => XS.istore X0.here hx rfl (hb hby own_d1_12) rfl (l' := #[iv 2, iv xK, iv yK, iv zK, iv ((xK &&& (65535 : Int32)).toUInt32.toUInt16.toUInt32.toInt32), iv ((yK &&& (65535 : Int32)).toUInt32.toUInt16.toUInt32.toInt32), uu]) rfl k) ?_
  refine oILN (n := 15) X0 hx (hb hby own_d1_14) rfl rfl ?_
  refine ov (B := s₁.setTop (mkF m 17 #[iv 2, iv xK, iv yK, iv zK, iv ((xK &&& (65535 : Int32)).toUInt32.toUInt16.toUInt32.toInt32), iv ((yK &&& (65535 : Int32)).toUInt32.toUInt16.toUInt32.toInt32), uu] [(.int 65535), (.int zK)])) (fun t k => X0.ldcInt hx hown (mvT hZ (oW hw 4 rfl)) (g := (mkF m 15 #[iv 2, iv xK, iv yK, iv zK, iv ((xK &&& (65535 : Int32)).toUInt32.toUInt16.toUInt32.toInt32), iv ((yK &&& (65535 : Int32)).toUInt32.toUInt16.toUInt32.toInt32), uu] [(.int zK)])) rfl (hb hby own_d1_15) _ k) ?_
  refine ov (B := s₁.setTop (mkF m 18 #[iv 2, iv xK, iv yK, iv zK, iv ((xK &&& (65535 : Int32)).toUInt32.toUInt16.toUInt32.toInt32), iv ((yK &&& (65535 : Int32)).toUInt32.toUInt16.toUInt32.toInt32), uu] [(.int (zK &&& (65535 : Int32)))])) (fun t k => XS.iand X0.here hx rfl (hb hby own_d1_17) rfl k) ?_
  refine ov (B := s₁.setTop (mkF m 19 #[iv 2, iv xK, iv yK, iv zK, iv ((xK &&& (65535 : Int32)).toUInt32.toUInt16.toUInt32.toInt32), iv ((yK &&& (65535 : Int32)).toUInt32.toUInt16.toUInt32.toInt32), uu] [(.int ((zK &&& (65535 : Int32)).toUInt32.toUInt16.toUInt32.toInt32))])) (fun t k => XS.i2c X0.here hx rfl (hb hby own_d1_18) rfl k) ?_
  refine ov (B := s₁.setTop (mkF m 21 #[iv 2, iv xK, iv yK, iv zK, iv ((xK &&& (65535 : Int32)).toUInt32.toUInt16.toUInt32.toInt32), iv ((yK &&& (65535 : Int32)).toUInt32.toUInt16.toUInt32.toInt32), iv ((zK &&& (65535 : Int32)).toUInt32.toUInt16.toUInt32.toInt32)] [])) (fun t k => XS.istore X0.here hx rfl (hb hby own_d1_19) rfl (l' := #[iv 2, iv xK, iv yK, iv zK, iv ((xK &&& (65535 : Int32)).toUInt32.toUInt16.toUInt32.toInt32), iv ((yK &&& (65535 : Int32)).toUInt32.toUInt16.toUInt32.toInt32), iv ((zK &&& (65535 : Int32)).toUInt32.toUInt16.toUInt32.toInt32)]) rfl k) ?_
  show own_Go p e below (s₁.setTop (mkF m 21 #[iv 2, iv xK, iv yK, iv zK, iv (own_m xK), iv (own_m yK), iv (own_m zK)] [])) _
  refine oILN (n := 22) X0 hx (hb hby own_d1_21) rfl rfl ?_
  have hc22 : ¬ ((2 : Int32) = (0 : Int32)) := by decide
  refine ov (B := s₁.setTop (mkF m 36 #[iv 2, iv xK, iv yK, iv zK, iv (own_m xK), iv (own_m yK), iv (own_m zK)] [])) (fun t k => XS.ifYes X0.here hx rfl (pc0 := 22) (pc' := 36) rfl (hb hby own_d1_22) rfl ((if0 _ _).trans (feq hc22).2) (by decide) (by decide) k) ?_
  refine oILN (n := 37) X0 hx (hb hby own_d1_36) rfl rfl ?_
  refine oIC (n := 38) X0 hx (1 : Int32) (hb hby own_d1_37) (by decide) rfl ?_
  have hc38 : ¬ ((2 : Int32) = (1 : Int32)) := by decide
  refine ov (B := s₁.setTop (mkF m 57 #[iv 2, iv xK, iv yK, iv zK, iv (own_m xK), iv (own_m yK), iv (own_m zK)] [])) (fun t k => XS.icmpYes X0.here hx rfl (pc0 := 38) (pc' := 57) rfl (hb hby own_d1_38) rfl (feq hc38).2 (by decide) (by decide) k) ?_
  refine oILN (n := 58) X0 hx (hb hby own_d1_57) rfl rfl ?_
  refine oIC (n := 59) X0 hx (2 : Int32) (hb hby own_d1_58) (by decide) rfl ?_
  have hc59 : (2 : Int32) = (2 : Int32) := by decide
  refine ov (B := s₁.setTop (mkF m 62 #[iv 2, iv xK, iv yK, iv zK, iv (own_m xK), iv (own_m yK), iv (own_m zK)] [])) (fun t k => XS.icmpNo X0.here hx rfl (hb hby own_d1_59) rfl (teq hc59).2 k) ?_
  obtain ⟨T1, h1, X1, e1, E1, A1, D1, -, st1⟩ := newO X0 hx hZ hown (oW hw 5 rfl) (oW hw 6 rfl) (oW hw 7 rfl) e0 (g := (mkF m 62 #[iv 2, iv xK, iv yK, iv zK, iv (own_m xK), iv (own_m yK), iv (own_m zK)] [])) rfl (hb hby own_d1_62) (by decide) (by decide)
  obtain ⟨b1, g1⟩ : ∃ z, z = h0.size := ⟨_, rfl⟩
  rw [← g1] at A1 D1 st1
  have g_b1 : n0 ≤ b1 := Nat.le_trans Z0 (Nat.le_of_eq g1.symm)
  have F1_value : Fld Z h1 b1 sAA "value" "[B" .null := D1 (Or.inr (oW hw 21 rfl)) (ty := (.array .byte)) (by decide)
  have F1_coder : Fld Z h1 b1 sAA "coder" "B" (.int 0) := D1 (Or.inr (oW hw 22 rfl)) (ty := .byte) (by decide)
  refine ov (B := T1.setTop (mkF m 65 #[iv 2, iv xK, iv yK, iv zK, iv (own_m xK), iv (own_m yK), iv (own_m zK)] [(.ref b1)])) (fun t k => st1 t k) ?_
  refine oDU (n := 66) X1 hx (hb hby own_d1_65) rfl rfl ?_
  refine oIC (n := 67) X1 hx (2 : Int32) (hb hby own_d1_66) (by decide) rfl ?_
  obtain ⟨T2, h2, kc2, X2, e2, E2, A2, st2⟩ := newP X1 hx hZ (oW hw 8 rfl) e1 (g := (mkF m 67 #[iv 2, iv xK, iv yK, iv zK, iv (own_m xK), iv (own_m yK), iv (own_m zK)] [(.int 2), (.ref b1), (.ref b1)])) rfl (hb hby own_d1_67) rfl (by decide) (cap := 2) (by decide) (by decide) (by decide) (by decide)
  obtain ⟨b2, g2⟩ : ∃ z, z = h1.size := ⟨_, rfl⟩
  rw [← g2] at A2 st2
  have g_b2 : n0 ≤ b2 := Nat.le_trans (Nat.le_trans Z0 E1.1) (Nat.le_of_eq g2.symm)
  have V2 : Arv Z h2 b2 kc2 .char (2 : Int32) [(.int 0), (.int 0)] (.int 0) := (Arv.new A2 (by decide)).pad (pad_rep [] (.int 0) 2)
  refine ov (B := T2.setTop (mkF m 69 #[iv 2, iv xK, iv yK, iv zK, iv (own_m xK), iv (own_m yK), iv (own_m zK)] [(.ref b2), (.ref b1), (.ref b1)])) (fun t k => st2 t k) ?_
  refine oDU (n := 70) X2 hx (hb hby own_d1_69) rfl rfl ?_
  refine oIC (n := 71) X2 hx (0 : Int32) (hb hby own_d1_70) (by decide) rfl ?_
  refine oIL (n := 73) X2 hx (hb hby own_d1_71) rfl rfl ?_
  obtain ⟨cl3, Ar3, q3, S3, M3, H3, G3⟩ := id V2
  obtain ⟨T4, h4, X4, e4, W4, st4⟩ := stC X2 hx hZ e2 Ar3 (j := (0 : Int32)) (inb_of S3 ⟨by decide, by decide⟩) (g := (mkF m 73 #[iv 2, iv xK, iv yK, iv zK, iv (own_m xK), iv (own_m yK), iv (own_m zK)] [(.int (own_m xK)), (.int 0), (.ref b2), (.ref b2), (.ref b1), (.ref b1)])) rfl rfl (hb hby own_d1_73)
  have V4 : Arv Z h4 b2 kc2 .char (2 : Int32) [(.int (nar .char (own_m xK))), (.int 0)] (.int 0) := Arv.set Ar3 q3 S3 M3 H3 G3 (fits_nar_char _) W4 0 rfl (Nat.le_of_ble_eq_true rfl)
  have N4 := Fr.snoc X4 N0 g_b2
  refine ov (B := T4.setTop (mkF m 74 #[iv 2, iv xK, iv yK, iv zK, iv (own_m xK), iv (own_m yK), iv (own_m zK)] [(.ref b2), (.ref b1), (.ref b1)])) (fun t k => st4 t k) ?_
  refine oDU (n := 75) X4 hx (hb hby own_d1_74) rfl rfl ?_
  refine oIC (n := 76) X4 hx (1 : Int32) (hb hby own_d1_75) (by decide) rfl ?_
  refine oIL (n := 78) X4 hx (hb hby own_d1_76) rfl rfl ?_
  obtain ⟨cl5, Ar5, q5, S5, M5, H5, G5⟩ := id V4
  obtain ⟨T6, h6, X6, e6, W6, st6⟩ := stC X4 hx hZ e4 Ar5 (j := (1 : Int32)) (inb_of S5 ⟨by decide, by decide⟩) (g := (mkF m 78 #[iv 2, iv xK, iv yK, iv zK, iv (own_m xK), iv (own_m yK), iv (own_m zK)] [(.int (own_m yK)), (.int 1), (.ref b2), (.ref b2), (.ref b1), (.ref b1)])) rfl rfl (hb hby own_d1_78)
  have V6 : Arv Z h6 b2 kc2 .char (2 : Int32) [(.int (nar .char (own_m xK))), (.int (nar .char (own_m yK)))] (.int 0) := Arv.set Ar5 q5 S5 M5 H5 G5 (fits_nar_char _) W6 1 rfl (Nat.le_of_ble_eq_true rfl)
  have N6 := Fr.snoc X6 N4 g_b2
  refine ov (B := T6.setTop (mkF m 79 #[iv 2, iv xK, iv yK, iv zK, iv (own_m xK), iv (own_m yK), iv (own_m zK)] [(.ref b2), (.ref b1), (.ref b1)])) (fun t k => st6 t k) ?_
  obtain ⟨_, _, ⟨T7, L7, k7, n7⟩, -, X7, ⟨Lc7, hQ7, l7, y7, z7⟩, st7⟩ := X6.specialBack hx (y := (⟨sAA, "<init>", "([C)V"⟩ : MethodName)) rfl hown (mvT hZ (oW hw 9 rfl)) (mvT hZ (oW hw 10 rfl)) (mvT hZ (oW hw 11 rfl)) (by decide) (backOf (W := 1) (rmSB21 l Z a0 hw [] b1 b2 zc .null (.int 0) kc2 (nar .char (own_m xK)) (nar .char (own_m yK)) h6 n0 (Nat.le_trans (Nat.le_trans (Nat.le_trans (Nat.le_trans Z0 E1.1) E2.1) (Keep.of_wr W4).1) (Keep.of_wr W6).1) ((((O0.ext E1).ext E2).wr W4 g_b2).wr W6 g_b2) (by assumption) (by assumption) (by assumption) (by assumption) (by assumption) (((A1.ext E2).wr W4).wr W6) (((F1_value.ext E2).other W4 (Or.inl (Nat.ne_of_lt (Nat.lt_of_lt_of_le A1.lt (Nat.le_of_eq g2.symm))))).other W6 (Or.inl (Nat.ne_of_lt (Nat.lt_of_lt_of_le A1.lt (Nat.le_of_eq g2.symm))))) (((F1_coder.ext E2).other W4 (Or.inl (Nat.ne_of_lt (Nat.lt_of_lt_of_le A1.lt (Nat.le_of_eq g2.symm))))).other W6 (Or.inl (Nat.ne_of_lt (Nat.lt_of_lt_of_le A1.lt (Nat.le_of_eq g2.symm))))) g_b1 V6 hB huA huB) hZ (oW hw 11 rfl) (oW hw 7 rfl) (by decide) (by decide)) (g := (mkF m 79 #[iv 2, iv xK, iv yK, iv zK, iv (own_m xK), iv (own_m yK), iv (own_m zK)] [(.ref b2), (.ref b1), (.ref b1)])) rfl (by rw [hml]; rfl) (Steps.refl _) (a := b1) (argsL := [(.ref b2)]) (rest := [(.ref b1)]) (lenOf own_pd8 rfl) rfl (by show 2 * 0 + _ ≤ _; exact Nat.le_of_eq rfl) (hb hby own_d1_79) (fun _ _ => ⟨rfl, e6, (by decide : ((0 + 1) + 1) + 2 ≤ _), (by decide : ((0 + 4) + 2) + 6 ≤ _)⟩)
  dsimp only [Pt.U, Pt.locs, Pt.cells, Pt.slots] at X7 l7 y7 z7 st7 hQ7
  subst l7 y7 z7
  obtain ⟨t_7, kt_7, rfl, Nq7, Kq7, ht_7, f7_0, f7_1, f7_2⟩ := hQ7
  have N7 := Fr.app N6 Nq7
  have g_t_7 : n0 ≤ t_7 := Nat.le_trans (Nat.le_trans (Nat.le_trans (Nat.le_trans (Nat.le_trans Z0 E1.1) E2.1) (Keep.of_wr W4).1) (Keep.of_wr W6).1) ht_7
  refine ov (B := T7.setTop (mkF m 82 #[iv 2, iv xK, iv yK, iv zK, iv (own_m xK), iv (own_m yK), iv (own_m zK)] [(.ref b1)])) (fun t k => st7.trans k) ?_
  refine own_leaf X7 hx hlk (t := (.object sAA)) Bd.returns rfl (Or.inr (Or.inr (Or.inr (Or.inr ⟨rfl, rfl, rfl⟩)))) (hb hby own_d1_82) (by decide) (by decide) ?_
  show QKM21 Z xK yK zK zc h0 n0 _ T7.heap _
  refine ⟨b1, t_7, kt_7, ?_, N7, ((((((Keep.refl h0 []).ext E1).ext E2).wr W4 (Or.inr (Nat.le_trans (Nat.le_trans (Nat.le_refl _) E1.1) (Nat.le_of_eq g2.symm)))).wr W6 (Or.inr (Nat.le_trans (Nat.le_trans (Nat.le_refl _) E1.1) (Nat.le_of_eq g2.symm)))).trans Kq7 (allS (Or.inr (Nat.le_of_eq g1.symm)) all0)), ?_, ?_, ((((A1.ext E2).wr W4).wr W6).keep Kq7), f7_0, f7_1, f7_2⟩
  · rfl
  · exact (Nat.le_of_eq g1.symm)
  · exact (Nat.le_trans (Nat.le_trans (Nat.le_trans (Nat.le_trans (Nat.le_trans (Nat.le_refl _) E1.1) E2.1) (Keep.of_wr W4).1) (Keep.of_wr W6).1) ht_7)
theorem own_efSA30 (m : MethodId) (x0 : Addr) (x1 : Addr) (x2 : Int32) (x3 : Int32) : entryFrame m #[(.ref x0), (.ref x1), (.int x2), (.int x3), .null] 6 = mkF m 0 #[rv x0, rv x1, iv x2, iv x3, .val .null, uu] [] := by first | (simp [entryFrame, mkF, argsToLocals, Value.category]; done) | rfl
def QSA30 (Z : State) (x1 : Addr) (b1 : Addr) (zc : Int32) (u1 : Value) (u2 : Value) (kc : ClassId) (xA : Int32) (xB : Int32) (xC : Int32) (h0 : Heap) (n0 : Nat) (v : Option Value) (h : Heap) (L : List Loc) : Prop := ∃ (t : Addr) (kt : ClassId), v = none ∧ Fr n0 L ∧ Keep h0 h [x1] ∧ (h0.size ≤ t) ∧ (Fld Z h x1 sAA "coder" "B" (.int (0 : Int32))) ∧ (Fld Z h x1 sAA "value" "[B" (.ref t)) ∧ (Arv Z h t kt .byte (3 : Int32) [(.int xA.toInt8.toInt32.toInt8.toInt32), (.int xB.toInt8.toInt32.toInt8.toInt32), (.int xC.toInt8.toInt32.toInt8.toInt32)] (.int (0 : Int32)))
set_option maxRecDepth 65536 in
set_option maxHeartbeats 40000000 in
theorem rmSA30 (l : Launch) (Z : State) (a0 : Array Value) (hw : ∀ d ∈ tables_1, d.before a0 Z = true) (ws : List Jvm.Cond) (x1 : Addr) (b1 : Addr) (zc : Int32) (u1 : Value) (u2 : Value) (kc : ClassId) (xA : Int32) (xB : Int32) (xC : Int32) (h0 : Heap) (n0 : Nat) (Z0 : n0 ≤ h0.size) (O0 : Old Z n0 h0) (Scz : Sta Z Z.heap sAA "COMPACT_STRINGS" "Z" (.int zc)) (hcz : ¬ zc = 0) (Ei : Exa Z h0 x1 sAA) (Fv : Fld Z h0 x1 sAA "value" "[B" u1) (Fc : Fld Z h0 x1 sAA "coder" "B" u2) (g_x1 : n0 ≤ x1) (Vc : Arv Z h0 b1 kc .char (3 : Int32) [(.int xA), (.int xB), (.int xC)] (.int (0 : Int32))) (hsA : ¬ (255 : Int32) < xA) (hsB : ¬ (255 : Int32) < xB) (hsC : ¬ (255 : Int32) < xC) :
    MetFree l (⟨sAA, "<init>", sAG⟩ : MethodName) (head1 (Jvm.Cond.code (⟨sAA, "<init>", sAG⟩ : MethodName) jdk_42_method_149_code 6 none :: ws) (oR 4 2 9 80)) (fun a U => a = #[(.ref x1), (.ref b1), (.int 0), (.int 3), .null] ∧ Z.Warmed39 U.vm ∧ U.heap = h0) (fun _ _ _ _ _ => True) (fun _ U o U' => ∃ v L, o = .returned v ∧ QSA30 Z x1 b1 zc u1 u2 kc xA xB xC h0 n0 v U'.heap L ∧ FrameEnd U o U' L (oR 4 2 9 80).cells (oR 4 2 9 80).slots) := by
  refine MetFree.of_bodySF (plainFor_of_name own_pn1) hisR ?_
  intro p e s m args below meth c s₁ Bd hml0 hP hK
  obtain ⟨rfl, hZ, hh⟩ := hP
  have hx := Bd.exec
  have hby := Bd.bytes
  have hlk : meth.locks = false := Bd.notSynchronized
  have hml : c.maxLocals = 6 := hml0
  have hown : s.vm.findClass sAA = some m.cls := findClass_of_methodNamed Bd.named
  have hnm := (name_of_methodNamed Bd.named Bd.method).1
  have X0 : Stand p l e (oR 4 2 9 80) s m #[(.ref x1), (.ref b1), (.int 0), (.int 3), .null] below meth c s₁ [] 0 0 := Stand.of_body Bd
  have e0 : s₁.heap = h0 := by rw [← hh, Bd.state]; rfl
  have N0 := Fr.nil n0
  refine own_body (A := s₁.setTop (mkF m 0 #[rv x1, rv b1, iv 0, iv 3, .val .null, uu] [])) (Q := QSA30 Z x1 b1 zc u1 u2 kc xA xB xC h0 n0) (fun t k => castTop (own_efSA30 m x1 b1 (0 : Int32) (3 : Int32)) k) ?_
  refine oALN (n := 1) X0 hx (hb hby own_d3_0) rfl rfl rfl ?_
  obtain ⟨T1, X1, e1, st1⟩ := initO X0 hx hZ hown (oW hw 16 rfl) (oW hw 17 rfl) (oW hw 18 rfl) e0 (g := (mkF m 1 #[rv x1, rv b1, iv 0, iv 3, .val .null, uu] [(.ref x1)])) rfl (by rw [hml]; rfl) rfl (hb hby own_d3_1) (by decide) (W := 0) (by show 2 * 0 + _ ≤ _; exact Nat.le_of_eq rfl) (by decide)
  refine ov (B := T1.setTop (mkF m 4 #[rv x1, rv b1, iv 0, iv 3, .val .null, uu] [])) (fun t k => st1 t k) ?_
  refine oILN (n := 5) X1 hx (hb hby own_d3_4) rfl rfl ?_
  have hc5 : ¬ ((3 : Int32) = (0 : Int32)) := by decide
  refine ov (B := T1.setTop (mkF m 27 #[rv x1, rv b1, iv 0, iv 3, .val .null, uu] [])) (fun t k => XS.ifYes X1.here hx rfl (pc0 := 5) (pc' := 27) rfl (hb hby own_d3_5) rfl ((if0 _ _).trans (feq hc5).2) (by decide) (by decide) k) ?_
  obtain ⟨T2, X2, e2, st2⟩ := getS2 X1 hx hZ hown (host := "") (Or.inl (oW hw 121 rfl)) Via.refl e1 (Scz.ext O0.2) (g := (mkF m 27 #[rv x1, rv b1, iv 0, iv 3, .val .null, uu] [])) rfl (hb hby own_d3_27)
  refine ov (B := T2.setTop (mkF m 30 #[rv x1, rv b1, iv 0, iv 3, .val .null, uu] [(.int zc)])) (fun t k => st2 t k) ?_
  have hc30 : ¬ (zc = (0 : Int32)) := hcz
  refine ov (B := T2.setTop (mkF m 33 #[rv x1, rv b1, iv 0, iv 3, .val .null, uu] [])) (fun t k => XS.ifNo X2.here hx rfl (hb hby own_d3_30) rfl ((if0 _ _).trans (feq hc30).1) k) ?_
  refine oALN (n := 34) X2 hx (hb hby own_d3_33) rfl rfl rfl ?_
  refine oILN (n := 35) X2 hx (hb hby own_d3_34) rfl rfl ?_
  refine oILN (n := 36) X2 hx (hb hby own_d3_35) rfl rfl ?_
  obtain ⟨_, _, ⟨T3, L3, k3, n3⟩, -, X3, ⟨Lc3, hQ3, l3, y3, z3⟩, st3⟩ := Jvm.LawKit.callS X2 hx (y := (⟨sAB, "compress", "([CII)[B"⟩ : MethodName)) hown (mvT hZ (oW hw 131 rfl)) (mvT hZ (oW hw 132 rfl)) (mvT hZ (oW hw 133 rfl)) (mvT hZ (oW hw 134 rfl)) (by decide) (backOf (W := 0) (rmCB30 l Z a0 hw [] b1 kc xA xB xC h0 n0 Z0 Vc hsA hsB hsC) hZ (oW hw 134 rfl) (oW hw 133 rfl) (by decide) (by decide)) (g := (mkF m 36 #[rv x1, rv b1, iv 0, iv 3, .val .null, uu] [(.int 3), (.int 0), (.ref b1)])) rfl (by rw [hml]; rfl) (argsL := [(.ref b1), (.int 0), (.int 3)]) (rest := []) (lenOf own_pd4 rfl) rfl (by show 2 * 0 + _ ≤ _; exact Nat.le_of_eq rfl) (hb hby own_d3_36) (fun _ _ => ⟨rfl, e2, (by decide : 0 + 2 ≤ _), (by decide : 0 + 9 ≤ _)⟩)
  dsimp only [Pt.U, Pt.locs, Pt.cells, Pt.slots] at X3 l3 y3 z3 st3 hQ3
  subst l3 y3 z3
  obtain ⟨r_3, kr_3, rfl, Nq3, Kq3, hr_3, f3_0⟩ := hQ3
  have N3 := Fr.app N0 Nq3
  have g_r_3 : n0 ≤ r_3 := Nat.le_trans Z0 hr_3
  refine ov (B := T3.setTop (mkF m 39 #[rv x1, rv b1, iv 0, iv 3, .val .null, uu] [(.ref r_3)])) (fun t k => st3 t k) ?_
  refine ov (B := T3.setTop (mkF m 41 #[rv x1, rv b1, iv 0, iv 3, .val .null, rv r_3] [])) (fun t k => XS.astore X3.here hx rfl (hb hby own_d3_39) rfl rfl (l' := #[rv x1, rv b1, iv 0, iv 3, .val .null, rv r_3]) rfl k) ?_
  refine oALN (n := 42) X3 hx (hb hby own_d3_41) rfl rfl rfl ?_
  refine oAL (n := 44) X3 hx (hb hby own_d3_42) rfl rfl rfl ?_
  refine oILN (n := 45) X3 hx (hb hby own_d3_44) rfl rfl ?_
  obtain ⟨_, _, ⟨T4, L4, k4, n4⟩, -, X4, ⟨Lc4, hQ4, l4, y4, z4⟩, st4⟩ := Jvm.LawKit.callS X3 hx (y := (⟨sAB, sAN, "([BI)B"⟩ : MethodName)) hown (mvT hZ (oW hw 138 rfl)) (mvT hZ (oW hw 139 rfl)) (mvT hZ (oW hw 133 rfl)) (mvT hZ (oW hw 140 rfl)) (by decide) (backOf (W := 1) (rmCF33 l Z a0 hw [] r_3 kr_3 xA.toInt8.toInt32.toInt8.toInt32 xB.toInt8.toInt32.toInt8.toInt32 xC.toInt8.toInt32.toInt8.toInt32 T3.heap n0 (Nat.le_trans Z0 Kq3.1) f3_0) hZ (oW hw 140 rfl) (oW hw 133 rfl) (by decide) (by decide)) (g := (mkF m 45 #[rv x1, rv b1, iv 0, iv 3, .val .null, rv r_3] [(.int 3), (.ref r_3), (.ref x1)])) rfl (by rw [hml]; rfl) (argsL := [(.ref r_3), (.int 3)]) (rest := [(.ref x1)]) (lenOf own_pd6 rfl) rfl (by show 2 * 0 + _ ≤ _; exact Nat.le_of_eq rfl) (hb hby own_d3_45) (fun _ _ => ⟨rfl, rfl, (by decide : (0 + 2) + 0 ≤ _), (by decide : (0 + 9) + 0 ≤ _)⟩)
  dsimp only [Pt.U, Pt.locs, Pt.cells, Pt.slots] at X4 l4 y4 z4 st4 hQ4
  subst l4 y4 z4
  obtain ⟨rfl, Nq4, eq4⟩ := hQ4
  have N4 := Fr.app N3 Nq4
  refine ov (B := T4.setTop (mkF m 48 #[rv x1, rv b1, iv 0, iv 3, .val .null, rv r_3] [(.int 0), (.ref x1)])) (fun t k => st4 t k) ?_
  obtain ⟨T5, h5, X5, e5, W5, st5⟩ := putFN X4 hx hZ hown (oW hw 26 rfl) Via.refl eq4 (Fc.keep Kq3 nin0) (Ei.keep Kq3) (Or.inr ⟨(oW hw 22 rfl), rfl, hnm⟩) (oW hw 6 rfl) (ty := .byte) (v' := (.int 0)) (by decide) (by decide) (by decide) (g := (mkF m 48 #[rv x1, rv b1, iv 0, iv 3, .val .null, rv r_3] [(.int 0), (.ref x1)])) rfl rfl (hb hby own_d3_48)
  have Fw5 := (Fc.keep Kq3 nin0).same W5
  have N5 := Fr.snoc X5 N4 g_x1
  refine ov (B := T5.setTop (mkF m 51 #[rv x1, rv b1, iv 0, iv 3, .val .null, rv r_3] [])) (fun t k => st5 t k) ?_
  refine oALN (n := 52) X5 hx (hb hby own_d3_51) rfl rfl rfl ?_
  refine oAL (n := 54) X5 hx (hb hby own_d3_52) rfl rfl rfl ?_
  obtain ⟨T6, h6, X6, e6, W6, st6⟩ := putF X5 hx hZ hown (host := "") (Or.inl (oW hw 25 rfl)) Via.refl e5 ((Fv.keep Kq3 nin0).other W5 (Or.inr (slot_ne (Or.inr (oW hw 21 rfl)) (Or.inr (oW hw 22 rfl)) (by decide +kernel) (t := (.array .byte)) (t' := .byte) (by decide +kernel) (by decide +kernel)))) ((Ei.keep Kq3).wr W5) (Or.inr ⟨(oW hw 21 rfl), rfl, hnm⟩) (oW hw 6 rfl) (ty := (.array .byte)) (by decide) rfl rfl (g := (mkF m 54 #[rv x1, rv b1, iv 0, iv 3, .val .null, rv r_3] [(.ref r_3), (.ref x1)])) rfl rfl (hb hby own_d3_54)
  have Fw6 := ((Fv.keep Kq3 nin0).other W5 (Or.inr (slot_ne (Or.inr (oW hw 21 rfl)) (Or.inr (oW hw 22 rfl)) (by decide +kernel) (t := (.array .byte)) (t' := .byte) (by decide +kernel) (by decide +kernel)))).same W6
  have N6 := Fr.snoc X6 N5 g_x1
  refine ov (B := T6.setTop (mkF m 57 #[rv x1, rv b1, iv 0, iv 3, .val .null, rv r_3] [])) (fun t k => st6 t k) ?_
  refine own_leafV X6 hx hlk Bd.returns (hb hby own_d3_57) (by decide) (by decide) ?_
  show QSA30 Z x1 b1 zc u1 u2 kc xA xB xC h0 n0 _ T6.heap _
  rw [e6]
  refine ⟨r_3, kr_3, ?_, N6, ((((Keep.refl h0 [x1]).trans Kq3 all0).wr W5 (Or.inl (List.mem_of_getElem? (i := 0) rfl))).wr W6 (Or.inl (List.mem_of_getElem? (i := 0) rfl))), ?_, (Fw5.other W6 (Or.inr (slot_ne (Or.inr (oW hw 22 rfl)) (Or.inr (oW hw 21 rfl)) (by decide +kernel) (t := .byte) (t' := (.array .byte)) (by decide +kernel) (by decide +kernel)))), Fw6, ((f3_0.other W5 (Ne.symm (Nat.ne_of_lt (Nat.lt_of_lt_of_le Ei.lt hr_3)))).other W6 (Ne.symm (Nat.ne_of_lt (Nat.lt_of_lt_of_le Ei.lt hr_3))))⟩
  · rfl
  · exact hr_3
theorem own_efSB30 (m : MethodId) (x0 : Addr) (x1 : Addr) : entryFrame m #[(.ref x0), (.ref x1)] 2 = mkF m 0 #[rv x0, rv x1] [] := by first | (simp [entryFrame, mkF, argsToLocals, Value.category]; done) | rfl
def QSB30 (Z : State) (x1 : Addr) (b1 : Addr) (zc : Int32) (u1 : Value) (u2 : Value) (kc : ClassId) (xA : Int32) (xB : Int32) (xC : Int32) (h0 : Heap) (n0 : Nat) (v : Option Value) (h : Heap) (L : List Loc) : Prop := ∃ (t : Addr) (kt : ClassId), v = none ∧ Fr n0 L ∧ Keep h0 h [x1] ∧ (h0.size ≤ t) ∧ (Fld Z h x1 sAA "coder" "B" (.int (0 : Int32))) ∧ (Fld Z h x1 sAA "value" "[B" (.ref t)) ∧ (Arv Z h t kt .byte (3 : Int32) [(.int xA.toInt8.toInt32.toInt8.toInt32), (.int xB.toInt8.toInt32.toInt8.toInt32), (.int xC.toInt8.toInt32.toInt8.toInt32)] (.int (0 : Int32)))
set_option maxRecDepth 65536 in
set_option maxHeartbeats 40000000 in
theorem rmSB30 (l : Launch) (Z : State) (a0 : Array Value) (hw : ∀ d ∈ tables_1, d.before a0 Z = true) (ws : List Jvm.Cond) (x1 : Addr) (b1 : Addr) (zc : Int32) (u1 : Value) (u2 : Value) (kc : ClassId) (xA : Int32) (xB : Int32) (xC : Int32) (h0 : Heap) (n0 : Nat) (Z0 : n0 ≤ h0.size) (O0 : Old Z n0 h0) (Scz : Sta Z Z.heap sAA "COMPACT_STRINGS" "Z" (.int zc)) (hcz : ¬ zc = 0) (Ei : Exa Z h0 x1 sAA) (Fv : Fld Z h0 x1 sAA "value" "[B" u1) (Fc : Fld Z h0 x1 sAA "coder" "B" u2) (g_x1 : n0 ≤ x1) (Vc : Arv Z h0 b1 kc .char (3 : Int32) [(.int xA), (.int xB), (.int xC)] (.int (0 : Int32))) (hsA : ¬ (255 : Int32) < xA) (hsB : ¬ (255 : Int32) < xB) (hsC : ¬ (255 : Int32) < xC) :
    MetFree l (⟨sAA, "<init>", "([C)V"⟩ : MethodName) (head1 (Jvm.Cond.code (⟨sAA, "<init>", "([C)V"⟩ : MethodName) jdk_42_method_3_code 2 none :: ws) (oR 5 2 9 104)) (fun a U => a = #[(.ref x1), (.ref b1)] ∧ Z.Warmed39 U.vm ∧ U.heap = h0) (fun _ _ _ _ _ => True) (fun _ U o U' => ∃ v L, o = .returned v ∧ QSB30 Z x1 b1 zc u1 u2 kc xA xB xC h0 n0 v U'.heap L ∧ FrameEnd U o U' L (oR 5 2 9 104).cells (oR 5 2 9 104).slots) := by
  refine MetFree.of_bodySF (plainFor_of_name own_pn1) hisR ?_
  intro p e s m args below meth c s₁ Bd hml0 hP hK
  obtain ⟨rfl, hZ, hh⟩ := hP
  have hx := Bd.exec
  have hby := Bd.bytes
  have hlk : meth.locks = false := Bd.notSynchronized
  have hml : c.maxLocals = 2 := hml0
  have hown : s.vm.findClass sAA = some m.cls := findClass_of_methodNamed Bd.named
  have hnm := (name_of_methodNamed Bd.named Bd.method).1
  have X0 : Stand p l e (oR 5 2 9 104) s m #[(.ref x1), (.ref b1)] below meth c s₁ [] 0 0 := Stand.of_body Bd
  have e0 : s₁.heap = h0 := by rw [← hh, Bd.state]; rfl
  have N0 := Fr.nil n0
  refine own_body (A := s₁.setTop (mkF m 0 #[rv x1, rv b1] [])) (Q := QSB30 Z x1 b1 zc u1 u2 kc xA xB xC h0 n0) (fun t k => castTop (own_efSB30 m x1 b1) k) ?_
  refine oALN (n := 1) X0 hx (hb hby own_d2_0) rfl rfl rfl ?_
  refine oALN (n := 2) X0 hx (hb hby own_d2_1) rfl rfl rfl ?_
  refine oIC (n := 3) X0 hx (0 : Int32) (hb hby own_d2_2) (by decide) rfl ?_
  refine oALN (n := 4) X0 hx (hb hby own_d2_3) rfl rfl rfl ?_
  obtain ⟨cl1, Ar1, q1, S1, M1, H1, G1⟩ := id Vc
  refine ov (B := s₁.setTop (mkF m 5 #[rv x1, rv b1] [(.int 3), (.int 0), (.ref b1), (.ref x1)])) (fun t k => X0.arraylength hx (by rw [e0]; exact Ar1.1) (State.isArrayOf_alike hZ.alike Ar1.2.1) (g := (mkF m 4 #[rv x1, rv b1] [(.ref b1), (.int 0), (.ref b1), (.ref x1)])) rfl rfl (hb hby own_d2_4) _ (by rw [len_of S1 M1]; exact k)) ?_
  refine oNU (n := 6) X0 hx (hb hby own_d2_5) rfl ?_
  obtain ⟨_, _, ⟨T2, L2, k2, n2⟩, -, X2, ⟨Lc2, hQ2, l2, y2, z2⟩, st2⟩ := X0.specialBack hx (y := (⟨sAA, "<init>", sAG⟩ : MethodName)) rfl hown (mvT hZ (oW hw 12 rfl)) (mvT hZ (oW hw 13 rfl)) (mvT hZ (oW hw 15 rfl)) (by decide) (backOf (W := 0) (rmSA30 l Z a0 hw [] x1 b1 zc u1 u2 kc xA xB xC h0 n0 Z0 O0 (by assumption) (by assumption) Ei Fv Fc g_x1 Vc hsA hsB hsC) hZ (oW hw 15 rfl) (oW hw 7 rfl) (by decide) (by decide)) (g := (mkF m 6 #[rv x1, rv b1] [.null, (.int 3), (.int 0), (.ref b1), (.ref x1)])) rfl (by rw [hml]; rfl) (Steps.refl _) (a := x1) (argsL := [(.ref b1), (.int 0), (.int 3), .null]) (rest := []) (lenOf own_pd7 rfl) rfl (by show 2 * 0 + _ ≤ _; exact Nat.le_of_eq rfl) (hb hby own_d2_6) (fun _ _ => ⟨rfl, e0, (by decide : 0 + 2 ≤ _), (by decide : 0 + 9 ≤ _)⟩)
  dsimp only [Pt.U, Pt.locs, Pt.cells, Pt.slots] at X2 l2 y2 z2 st2 hQ2
  subst l2 y2 z2
  obtain ⟨t_2, kt_2, rfl, Nq2, Kq2, ht_2, f2_0, f2_1, f2_2⟩ := hQ2
  have N2 := Fr.app N0 Nq2
  have g_t_2 : n0 ≤ t_2 := Nat.le_trans Z0 ht_2
  refine ov (B := T2.setTop (mkF m 9 #[rv x1, rv b1] [])) (fun t k => st2.trans k) ?_
  refine own_leafV X2 hx hlk Bd.returns (hb hby own_d2_9) (by decide) (by decide) ?_
  show QSB30 Z x1 b1 zc u1 u2 kc xA xB xC h0 n0 _ T2.heap _
  refine ⟨t_2, kt_2, ?_, N2, ((Keep.refl h0 [x1]).trans Kq2 (allS (Or.inl (List.mem_of_getElem? (i := 0) rfl)) all0)), ?_, f2_0, f2_1, f2_2⟩
  · rfl
  · exact ht_2
theorem own_d1_83 : decode method_2_code 83 = .ok (.new 8, 3) := by decide +kernel
theorem own_d1_86 : decode method_2_code 86 = .ok (.dup, 1) := by decide +kernel
theorem own_d1_87 : decode method_2_code 87 = .ok (.iconst 3, 1) := by decide +kernel
theorem own_d1_88 : decode method_2_code 88 = .ok (.newarray .char, 2) := by decide +kernel
theorem own_d1_90 : decode method_2_code 90 = .ok (.dup, 1) := by decide +kernel
theorem own_d1_91 : decode method_2_code 91 = .ok (.iconst 0, 1) := by decide +kernel
theorem own_d1_92 : decode method_2_code 92 = .ok (.iload 4, 2) := by decide +kernel
theorem own_d1_94 : decode method_2_code 94 = .ok (.castore, 1) := by decide +kernel
theorem own_d1_95 : decode method_2_code 95 = .ok (.dup, 1) := by decide +kernel
theorem own_d1_96 : decode method_2_code 96 = .ok (.iconst 1, 1) := by decide +kernel
theorem own_d1_97 : decode method_2_code 97 = .ok (.iload 5, 2) := by decide +kernel
theorem own_d1_99 : decode method_2_code 99 = .ok (.castore, 1) := by decide +kernel
theorem own_d1_100 : decode method_2_code 100 = .ok (.dup, 1) := by decide +kernel
theorem own_d1_101 : decode method_2_code 101 = .ok (.iconst 2, 1) := by decide +kernel
theorem own_d1_102 : decode method_2_code 102 = .ok (.iload 6, 2) := by decide +kernel
theorem own_d1_104 : decode method_2_code 104 = .ok (.castore, 1) := by decide +kernel
theorem own_d1_105 : decode method_2_code 105 = .ok (.invokespecial 10, 3) := by decide +kernel
theorem own_d1_108 : decode method_2_code 108 = .ok (.areturn, 1) := by decide +kernel
theorem own_efKM30 (m : MethodId) (x0 : Int32) (x1 : Int32) (x2 : Int32) (x3 : Int32) : entryFrame m #[(.int x0), (.int x1), (.int x2), (.int x3)] 7 = mkF m 0 #[iv x0, iv x1, iv x2, iv x3, uu, uu, uu] [] := by first | (simp [entryFrame, mkF, argsToLocals, Value.category]; done) | rfl
def QKM30 (Z : State) (xK : Int32) (yK : Int32) (zK : Int32) (zc : Int32) (h0 : Heap) (n0 : Nat) (v : Option Value) (h : Heap) (L : List Loc) : Prop := ∃ (r : Addr) (t : Addr) (kt : ClassId), v = some (.ref r) ∧ Fr n0 L ∧ Keep h0 h [] ∧ (h0.size ≤ r) ∧ (h0.size ≤ t) ∧ (Exa Z h r sAA) ∧ (Fld Z h r sAA "coder" "B" (.int (0 : Int32))) ∧ (Fld Z h r sAA "value" "[B" (.ref t)) ∧ (Arv Z h t kt .byte (3 : Int32) [(.int (own_ch xK).toInt8.toInt32.toInt8.toInt32), (.int (own_ch yK).toInt8.toInt32.toInt8.toInt32), (.int (own_ch zK).toInt8.toInt32.toInt8.toInt32)] (.int (0 : Int32)))
set_option maxRecDepth 65536 in
set_option maxHeartbeats 40000000 in
theorem rmKM30 (l : Launch) (Z : State) (a0 : Array Value) (hw : ∀ d ∈ tables_1, d.before a0 Z = true) (ws : List Jvm.Cond) (xK : Int32) (yK : Int32) (zK : Int32) (zc : Int32) (h0 : Heap) (n0 : Nat) (Z0 : n0 ≤ h0.size) (O0 : Old Z n0 h0) (Scz : Sta Z Z.heap sAA "COMPACT_STRINGS" "Z" (.int zc)) (hcz : ¬ zc = 0) (hsA : ¬ (255 : Int32) < (own_ch xK)) (hsB : ¬ (255 : Int32) < (own_ch yK)) (hsC : ¬ (255 : Int32) < (own_ch zK)) :
    MetFree l (⟨sAD, "make", sAF⟩ : MethodName) (head1 (Jvm.Cond.code (⟨sAD, "make", sAF⟩ : MethodName) method_2_code 7 (some (.object sAA)) :: ws) (oR 6 4 16 128)) (fun a U => a = #[(.int 3), (.int xK), (.int yK), (.int zK)] ∧ Z.Warmed39 U.vm ∧ U.heap = h0) (fun _ _ _ _ _ => True) (fun _ U o U' => ∃ v L, o = .returned v ∧ QKM30 Z xK yK zK zc h0 n0 v U'.heap L ∧ FrameEnd U o U' L (oR 6 4 16 128).cells (oR 6 4 16 128).slots) := by
  refine MetFree.of_bodySF (plainFor_of_name own_pn2) hisR ?_
  intro p e s m args below meth c s₁ Bd hml0 hP hK
  obtain ⟨rfl, hZ, hh⟩ := hP
  have hx := Bd.exec
  have hby := Bd.bytes
  have hlk : meth.locks = false := Bd.notSynchronized
  have hml : c.maxLocals = 7 := hml0
  have hown : s.vm.findClass sAD = some m.cls := findClass_of_methodNamed Bd.named
  have hnm := (name_of_methodNamed Bd.named Bd.method).1
  have X0 : Stand p l e (oR 6 4 16 128) s m #[(.int 3), (.int xK), (.int yK), (.int zK)] below meth c s₁ [] 0 0 := Stand.of_body Bd
  have e0 : s₁.heap = h0 := by rw [← hh, Bd.state]; rfl
  have N0 := Fr.nil n0
  refine own_body (A := s₁.setTop (mkF m 0 #[iv 3, iv xK, iv yK, iv zK, uu, uu, uu] [])) (Q := QKM30 Z xK yK zK zc h0 n0) (fun t k => castTop (own_efKM30 m (3 : Int32) xK yK zK) k) ?_
  refine oILN (n := 1) X0 hx (hb hby own_d1_0) rfl rfl ?_
  refine ov (B := s₁.setTop (mkF m 3 #[iv 3, iv xK, iv yK, iv zK, uu, uu, uu] [(.int 65535), (.int xK)])) (fun t k => X0.ldcInt hx hown (mvT hZ (oW hw 4 rfl)) (g := (mkF m 1 #[iv 3, iv xK, iv yK, iv zK, uu, uu, uu] [(.int xK)])) rfl (hb hby own_d1_1) _ k) ?_
  refine ov (B := s₁.setTop (mkF m 4 #[iv 3, iv xK, iv yK, iv zK, uu, uu, uu] [(.int (xK &&& (65535 : Int32)))])) (fun t k => XS.iand X0.here hx rfl (hb hby own_d1_3) rfl k) ?_
  refine ov (B := s₁.setTop (mkF m 5 #[iv 3, iv xK, iv yK, iv zK, uu, uu, uu] [(.int ((xK &&& (65535 : Int32)).toUInt32.toUInt16.toUInt32.toInt32))])) (fun t k => XS.i2c X0.here hx rfl (hb hby own_d1_4) rfl k) ?_
  refine ov (B := s₁.setTop (mkF m 7 #[iv 3, iv xK, iv yK, iv zK, iv ((xK &&& (65535 : Int32)).toUInt32.toUInt16.toUInt32.toInt32), uu, uu] [])) (fun t k => XS.istore X0.here hx rfl (hb hby own_d1_5) rfl (l' := #[iv 3, iv xK, iv yK, iv zK, iv ((xK &&& (65535 : Int32)).toUInt32.toUInt16.toUInt32.toInt32), uu, uu]) rfl k) ?_
  refine oILN (n := 8) X0 hx (hb hby own_d1_7) rfl rfl ?_
  refine ov (B := s₁.setTop (mkF m 10 #[iv 3, iv xK, iv yK, iv zK, iv ((xK &&& (65535 : Int32)).toUInt32.toUInt16.toUInt32.toInt32), uu, uu] [(.int 65535), (.int yK)])) (fun t k => X0.ldcInt hx hown (mvT hZ (oW hw 4 rfl)) (g := (mkF m 8 #[iv 3, iv xK, iv yK, iv zK, iv ((xK &&& (65535 : Int32)).toUInt32.toUInt16.toUInt32.toInt32), uu, uu] [(.int yK)])) rfl (hb hby own_d1_8) _ k) ?_
  refine ov (B := s₁.setTop (mkF m 11 #[iv 3, iv xK, iv yK, iv zK, iv ((xK &&& (65535 : Int32)).toUInt32.toUInt16.toUInt32.toInt32), uu, uu] [(.int (yK &&& (65535 : Int32)))])) (fun t k => XS.iand X0.here hx rfl (hb hby own_d1_10) rfl k) ?_
  refine ov (B := s₁.setTop (mkF m 12 #[iv 3, iv xK, iv yK, iv zK, iv ((xK &&& (65535 : Int32)).toUInt32.toUInt16.toUInt32.toInt32), uu, uu] [(.int ((yK &&& (65535 : Int32)).toUInt32.toUInt16.toUInt32.toInt32))])) (fun t k => XS.i2c X0.here hx rfl (hb hby own_d1_11) rfl k) ?_
  refine ov (B := s₁.setTop (mkF m 14 #[iv 3, iv xK, iv yK, iv zK, iv ((xK &&& (65535 : Int32)).toUInt32.toUInt16.toUInt32.toInt32), iv ((yK &&& (65535 : Int32)).toUInt32.toUInt16.toUInt32.toInt32), uu] [])) (fun t k => XS.istore X0.here hx rfl (hb hby own_d1_12) rfl (l' := #[iv 3, iv xK, iv yK, iv zK, iv ((xK &&& (65535 : Int32)).toUInt32.toUInt16.toUInt32.toInt32), iv ((yK &&& (65535 : Int32)).toUInt32.toUInt16.toUInt32.toInt32), uu]) rfl k) ?_
  refine oILN (n := 15) X0 hx (hb hby own_d1_14) rfl rfl ?_
  refine ov (B := s₁.setTop (mkF m 17 #[iv 3, iv xK, iv yK, iv zK, iv ((xK &&& (65535 : Int32)).toUInt32.toUInt16.toUInt32.toInt32), iv ((yK &&& (65535 : Int32)).toUInt32.toUInt16.toUInt32.toInt32), uu] [(.int 65535), (.int zK)])) (fun t k => X0.ldcInt hx hown (mvT hZ (oW hw 4 rfl)) (g := (mkF m 15 #[iv 3, iv xK, iv yK, iv zK, iv ((xK &&& (65535 : Int32)).toUInt32.toUInt16.toUInt32.toInt32), iv ((yK &&& (65535 : Int32)).toUInt32.toUInt16.toUInt32.toInt32), uu] [(.int zK)])) rfl (hb hby own_d1_15) _ k) ?_
  refine ov (B := s₁.setTop (mkF m 18 #[iv 3, iv xK, iv yK, iv zK, iv ((xK &&& (65535 : Int32)).toUInt32.toUInt16.toUInt32.toInt32), iv ((yK &&& (65535 : Int32)).toUInt32.toUInt16.toUInt32.toInt32), uu] [(.int (zK &&& (65535 : Int32)))])) (fun t k => XS.iand X0.here hx rfl (hb hby own_d1_17) rfl k) ?_
  refine ov (B := s₁.setTop (mkF m 19 #[iv 3, iv xK, iv yK, iv zK, iv ((xK &&& (65535 : Int32)).toUInt32.toUInt16.toUInt32.toInt32), iv ((yK &&& (65535 : Int32)).toUInt32.toUInt16.toUInt32.toInt32), uu] [(.int ((zK &&& (65535 : Int32)).toUInt32.toUInt16.toUInt32.toInt32))])) (fun t k => XS.i2c X0.here hx rfl (hb hby own_d1_18) rfl k) ?_
  refine ov (B := s₁.setTop (mkF m 21 #[iv 3, iv xK, iv yK, iv zK, iv ((xK &&& (65535 : Int32)).toUInt32.toUInt16.toUInt32.toInt32), iv ((yK &&& (65535 : Int32)).toUInt32.toUInt16.toUInt32.toInt32), iv ((zK &&& (65535 : Int32)).toUInt32.toUInt16.toUInt32.toInt32)] [])) (fun t k => XS.istore X0.here hx rfl (hb hby own_d1_19) rfl (l' := #[iv 3, iv xK, iv yK, iv zK, iv ((xK &&& (65535 : Int32)).toUInt32.toUInt16.toUInt32.toInt32), iv ((yK &&& (65535 : Int32)).toUInt32.toUInt16.toUInt32.toInt32), iv ((zK &&& (65535 : Int32)).toUInt32.toUInt16.toUInt32.toInt32)]) rfl k) ?_
  show own_Go p e below (s₁.setTop (mkF m 21 #[iv 3, iv xK, iv yK, iv zK, iv (own_m xK), iv (own_m yK), iv (own_m zK)] [])) _
  refine oILN (n := 22) X0 hx (hb hby own_d1_21) rfl rfl ?_
  have hc22 : ¬ ((3 : Int32) = (0 : Int32)) := by decide
  refine ov (B := s₁.setTop (mkF m 36 #[iv 3, iv xK, iv yK, iv zK, iv (own_m xK), iv (own_m yK), iv (own_m zK)] [])) (fun t k => XS.ifYes X0.here hx rfl (pc0 := 22) (pc' := 36) rfl (hb hby own_d1_22) rfl ((if0 _ _).trans (feq hc22).2) (by decide) (by decide) k) ?_
  refine oILN (n := 37) X0 hx (hb hby own_d1_36) rfl rfl ?_
  refine oIC (n := 38) X0 hx (1 : Int32) (hb hby own_d1_37) (by decide) rfl ?_
  have hc38 : ¬ ((3 : Int32) = (1 : Int32)) := by decide
  refine ov (B := s₁.setTop (mkF m 57 #[iv 3, iv xK, iv yK, iv zK, iv (own_m xK), iv (own_m yK), iv (own_m zK)] [])) (fun t k => XS.icmpYes X0.here hx rfl (pc0 := 38) (pc' := 57) rfl (hb hby own_d1_38) rfl (feq hc38).2 (by decide) (by decide) k) ?_
  refine oILN (n := 58) X0 hx (hb hby own_d1_57) rfl rfl ?_
  refine oIC (n := 59) X0 hx (2 : Int32) (hb hby own_d1_58) (by decide) rfl ?_
  have hc59 : ¬ ((3 : Int32) = (2 : Int32)) := by decide
  refine ov (B := s₁.setTop (mkF m 83 #[iv 3, iv xK, iv yK, iv zK, iv (own_m xK), iv (own_m yK), iv (own_m zK)] [])) (fun t k => XS.icmpYes X0.here hx rfl (pc0 := 59) (pc' := 83) rfl (hb hby own_d1_59) rfl (feq hc59).2 (by decide) (by decide) k) ?_
  obtain ⟨T1, h1, X1, e1, E1, A1, D1, -, st1⟩ := newO X0 hx hZ hown (oW hw 5 rfl) (oW hw 6 rfl) (oW hw 7 rfl) e0 (g := (mkF m 83 #[iv 3, iv xK, iv yK, iv zK, iv (own_m xK), iv (own_m yK), iv (own_m zK)] [])) rfl (hb hby own_d1_83) (by decide) (by decide)
  obtain ⟨b1, g1⟩ : ∃ z, z = h0.size := ⟨_, rfl⟩
  rw [← g1] at A1 D1 st1
  have g_b1 : n0 ≤ b1 := Nat.le_trans Z0 (Nat.le_of_eq g1.symm)
  have F1_value : Fld Z h1 b1 sAA "value" "[B" .null := D1 (Or.inr (oW hw 21 rfl)) (ty := (.array .byte)) (by decide)
  have F1_coder : Fld Z h1 b1 sAA "coder" "B" (.int 0) := D1 (Or.inr (oW hw 22 rfl)) (ty := .byte) (by decide)
  refine ov (B := T1.setTop (mkF m 86 #[iv 3, iv xK, iv yK, iv zK, iv (own_m xK), iv (own_m yK), iv (own_m zK)] [(.ref b1)])) (fun t k => st1 t k) ?_
  refine oDU (n := 87) X1 hx (hb hby own_d1_86) rfl rfl ?_
  refine oIC (n := 88) X1 hx (3 : Int32) (hb hby own_d1_87) (by decide) rfl ?_
  obtain ⟨T2, h2, kc2, X2, e2, E2, A2, st2⟩ := newP X1 hx hZ (oW hw 8 rfl) e1 (g := (mkF m 88 #[iv 3, iv xK, iv yK, iv zK, iv (own_m xK), iv (own_m yK), iv (own_m zK)] [(.int 3), (.ref b1), (.ref b1)])) rfl (hb hby own_d1_88) rfl (by decide) (cap := 3) (by decide) (by decide) (by decide) (by decide)
  obtain ⟨b2, g2⟩ : ∃ z, z = h1.size := ⟨_, rfl⟩
  rw [← g2] at A2 st2
  have g_b2 : n0 ≤ b2 := Nat.le_trans (Nat.le_trans Z0 E1.1) (Nat.le_of_eq g2.symm)
  have V2 : Arv Z h2 b2 kc2 .char (3 : Int32) [(.int 0), (.int 0), (.int 0)] (.int 0) := (Arv.new A2 (by decide)).pad (pad_rep [] (.int 0) 3)
  refine ov (B := T2.setTop (mkF m 90 #[iv 3, iv xK, iv yK, iv zK, iv (own_m xK), iv (own_m yK), iv (own_m zK)] [(.ref b2), (.ref b1), (.ref b1)])) (fun t k => st2 t k) ?_
  refine oDU (n := 91) X2 hx (hb hby own_d1_90) rfl rfl ?_
  refine oIC (n := 92) X2 hx (0 : Int32) (hb hby own_d1_91) (by decide) rfl ?_
  refine oIL (n := 94) X2 hx (hb hby own_d1_92) rfl rfl ?_
  obtain ⟨cl3, Ar3, q3, S3, M3, H3, G3⟩ := id V2
  obtain ⟨T4, h4, X4, e4, W4, st4⟩ := stC X2 hx hZ e2 Ar3 (j := (0 : Int32)) (inb_of S3 ⟨by decide, by decide⟩) (g := (mkF m 94 #[iv 3, iv xK, iv yK, iv zK, iv (own_m xK), iv (own_m yK), iv (own_m zK)] [(.int (own_m xK)), (.int 0), (.ref b2), (.ref b2), (.ref b1), (.ref b1)])) rfl rfl (hb hby own_d1_94)
  have V4 : Arv Z h4 b2 kc2 .char (3 : Int32) [(.int (nar .char (own_m xK))), (.int 0), (.int 0)] (.int 0) := Arv.set Ar3 q3 S3 M3 H3 G3 (fits_nar_char _) W4 0 rfl (Nat.le_of_ble_eq_true rfl)
  have N4 := Fr.snoc X4 N0 g_b2
  refine ov (B := T4.setTop (mkF m 95 #[iv 3, iv xK, iv yK, iv zK, iv (own_m xK), iv (own_m yK), iv (own_m zK)] [(.ref b2), (.ref b1), (.ref b1)])) (fun t k => st4 t k) ?_
  refine oDU (n := 96) X4 hx (hb hby own_d1_95) rfl rfl ?_
  refine oIC (n := 97) X4 hx (1 : Int32) (hb hby own_d1_96) (by decide) rfl ?_
  refine oIL (n := 99) X4 hx (hb hby own_d1_97) rfl rfl ?_
  obtain ⟨cl5, Ar5, q5, S5, M5, H5, G5⟩ := id V4
  obtain ⟨T6, h6, X6, e6, W6, st6⟩ := stC X4 hx hZ e4 Ar5 (j := (1 : Int32)) (inb_of S5 ⟨by decide, by decide⟩) (g := (mkF m 99 #[iv 3, iv xK, iv yK, iv zK, iv (own_m xK), iv (own_m yK), iv (own_m zK)] [(.int (own_m yK)), (.int 1), (.ref b2), (.ref b2), (.ref b1), (.ref b1)])) rfl rfl (hb hby own_d1_99)
  have V6 : Arv Z h6 b2 kc2 .char (3 : Int32) [(.int (nar .char (own_m xK))), (.int (nar .char (own_m yK))), (.int 0)] (.int 0) := Arv.set Ar5 q5 S5 M5 H5 G5 (fits_nar_char _) W6 1 rfl (Nat.le_of_ble_eq_true rfl)
  have N6 := Fr.snoc X6 N4 g_b2
  refine ov (B := T6.setTop (mkF m 100 #[iv 3, iv xK, iv yK, iv zK, iv (own_m xK), iv (own_m yK), iv (own_m zK)] [(.ref b2), (.ref b1), (.ref b1)])) (fun t k => st6 t k) ?_
  refine oDU (n := 101) X6 hx (hb hby own_d1_100) rfl rfl ?_
  refine oIC (n := 102) X6 hx (2 : Int32) (hb hby own_d1_101) (by decide) rfl ?_
  refine oIL (n := 104) X6 hx (hb hby own_d1_102) rfl rfl ?_
  obtain ⟨cl7, Ar7, q7, S7, M7, H7, G7⟩ := id V6
  obtain ⟨T8, h8, X8, e8, W8, st8⟩ := stC X6 hx hZ e6 Ar7 (j := (2 : Int32)) (inb_of S7 ⟨by decide, by decide⟩) (g := (mkF m 104 #[iv 3, iv xK, iv yK, iv zK, iv (own_m xK), iv (own_m yK), iv (own_m zK)] [(.int (own_m zK)), (.int 2), (.ref b2), (.ref b2), (.ref b1), (.ref b1)])) rfl rfl (hb hby own_d1_104)
  have V8 : Arv Z h8 b2 kc2 .char (3 : Int32) [(.int (nar .char (own_m xK))), (.int (nar .char (own_m yK))), (.int (nar .char (own_m zK)))] (.int 0) := Arv.set Ar7 q7 S7 M7 H7 G7 (fits_nar_char _) W8 2 rfl (Nat.le_of_ble_eq_true rfl)
  have N8 := Fr.snoc X8 N6 g_b2
  refine ov (B := T8.setTop (mkF m 105 #[iv 3, iv xK, iv yK, iv zK, iv (own_m xK), iv (own_m yK), iv (own_m zK)] [(.ref b2), (.ref b1), (.ref b1)])) (fun t k => st8 t k) ?_
  obtain ⟨_, _, ⟨T9, L9, k9, n9⟩, -, X9, ⟨Lc9, hQ9, l9, y9, z9⟩, st9⟩ := X8.specialBack hx (y := (⟨sAA, "<init>", "([C)V"⟩ : MethodName)) rfl hown (mvT hZ (oW hw 9 rfl)) (mvT hZ (oW hw 10 rfl)) (mvT hZ (oW hw 11 rfl)) (by decide) (backOf (W := 1) (rmSB30 l Z a0 hw [] b1 b2 zc .null (.int 0) kc2 (nar .char (own_m xK)) (nar .char (own_m yK)) (nar .char (own_m zK)) h8 n0 (Nat.le_trans (Nat.le_trans (Nat.le_trans (Nat.le_trans (Nat.le_trans Z0 E1.1) E2.1) (Keep.of_wr W4).1) (Keep.of_wr W6).1) (Keep.of_wr W8).1) (((((O0.ext E1).ext E2).wr W4 g_b2).wr W6 g_b2).wr W8 g_b2) (by assumption) (by assumption) ((((A1.ext E2).wr W4).wr W6).wr W8) ((((F1_value.ext E2).other W4 (Or.inl (Nat.ne_of_lt (Nat.lt_of_lt_of_le A1.lt (Nat.le_of_eq g2.symm))))).other W6 (Or.inl (Nat.ne_of_lt (Nat.lt_of_lt_of_le A1.lt (Nat.le_of_eq g2.symm))))).other W8 (Or.inl (Nat.ne_of_lt (Nat.lt_of_lt_of_le A1.lt (Nat.le_of_eq g2.symm))))) ((((F1_coder.ext E2).other W4 (Or.inl (Nat.ne_of_lt (Nat.lt_of_lt_of_le A1.lt (Nat.le_of_eq g2.symm))))).other W6 (Or.inl (Nat.ne_of_lt (Nat.lt_of_lt_of_le A1.lt (Nat.le_of_eq g2.symm))))).other W8 (Or.inl (Nat.ne_of_lt (Nat.lt_of_lt_of_le A1.lt (Nat.le_of_eq g2.symm))))) g_b1 V8 hsA hsB hsC) hZ (oW hw 11 rfl) (oW hw 7 rfl) (by decide) (by decide)) (g := (mkF m 105 #[iv 3, iv xK, iv yK, iv zK, iv (own_m xK), iv (own_m yK), iv (own_m zK)] [(.ref b2), (.ref b1), (.ref b1)])) rfl (by rw [hml]; rfl) (Steps.refl _) (a := b1) (argsL := [(.ref b2)]) (rest := [(.ref b1)]) (lenOf own_pd8 rfl) rfl (by show 2 * 0 + _ ≤ _; exact Nat.le_of_eq rfl) (hb hby own_d1_105) (fun _ _ => ⟨rfl, e8, (by decide : ((0 + 1) + 1) + 2 ≤ _), (by decide : ((0 + 4) + 3) + 9 ≤ _)⟩)
  dsimp only [Pt.U, Pt.locs, Pt.cells, Pt.slots] at X9 l9 y9 z9 st9 hQ9
  subst l9 y9 z9
  obtain ⟨t_9, kt_9, rfl, Nq9, Kq9, ht_9, f9_0, f9_1, f9_2⟩ := hQ9
  have N9 := Fr.app N8 Nq9
  have g_t_9 : n0 ≤ t_9 := Nat.le_trans (Nat.le_trans (Nat.le_trans (Nat.le_trans (Nat.le_trans (Nat.le_trans Z0 E1.1) E2.1) (Keep.of_wr W4).1) (Keep.of_wr W6).1) (Keep.of_wr W8).1) ht_9
  refine ov (B := T9.setTop (mkF m 108 #[iv 3, iv xK, iv yK, iv zK, iv (own_m xK), iv (own_m yK), iv (own_m zK)] [(.ref b1)])) (fun t k => st9.trans k) ?_
  refine own_leaf X9 hx hlk (t := (.object sAA)) Bd.returns rfl (Or.inr (Or.inr (Or.inr (Or.inr ⟨rfl, rfl, rfl⟩)))) (hb hby own_d1_108) (by decide) (by decide) ?_
  show QKM30 Z xK yK zK zc h0 n0 _ T9.heap _
  refine ⟨b1, t_9, kt_9, ?_, N9, (((((((Keep.refl h0 []).ext E1).ext E2).wr W4 (Or.inr (Nat.le_trans (Nat.le_trans (Nat.le_refl _) E1.1) (Nat.le_of_eq g2.symm)))).wr W6 (Or.inr (Nat.le_trans (Nat.le_trans (Nat.le_refl _) E1.1) (Nat.le_of_eq g2.symm)))).wr W8 (Or.inr (Nat.le_trans (Nat.le_trans (Nat.le_refl _) E1.1) (Nat.le_of_eq g2.symm)))).trans Kq9 (allS (Or.inr (Nat.le_of_eq g1.symm)) all0)), ?_, ?_, (((((A1.ext E2).wr W4).wr W6).wr W8).keep Kq9), f9_0, f9_1, f9_2⟩
  · rfl
  · exact (Nat.le_of_eq g1.symm)
  · exact (Nat.le_trans (Nat.le_trans (Nat.le_trans (Nat.le_trans (Nat.le_trans (Nat.le_trans (Nat.le_refl _) E1.1) E2.1) (Keep.of_wr W4).1) (Keep.of_wr W6).1) (Keep.of_wr W8).1) ht_9)
theorem own_efSA31 (m : MethodId) (x0 : Addr) (x1 : Addr) (x2 : Int32) (x3 : Int32) : entryFrame m #[(.ref x0), (.ref x1), (.int x2), (.int x3), .null] 6 = mkF m 0 #[rv x0, rv x1, iv x2, iv x3, .val .null, uu] [] := by first | (simp [entryFrame, mkF, argsToLocals, Value.category]; done) | rfl
def QSA31 (Z : State) (x1 : Addr) (b1 : Addr) (zc : Int32) (u1 : Value) (u2 : Value) (kc : ClassId) (xA : Int32) (xB : Int32) (xC : Int32) (h0 : Heap) (n0 : Nat) (v : Option Value) (h : Heap) (L : List Loc) : Prop := ∃ (t : Addr) (kt : ClassId), v = none ∧ Fr n0 L ∧ Keep h0 h [x1] ∧ (h0.size ≤ t) ∧ (Fld Z h x1 sAA "coder" "B" (.int (1 : Int32))) ∧ (Fld Z h x1 sAA "value" "[B" (.ref t)) ∧ (Arv Z h t kt .byte (6 : Int32) [(.int (xA >>> ((0 : Int32) &&& 31)).toInt8.toInt32.toInt8.toInt32), (.int (xA >>> ((8 : Int32) &&& 31)).toInt8.toInt32.toInt8.toInt32), (.int (xB >>> ((0 : Int32) &&& 31)).toInt8.toInt32.toInt8.toInt32), (.int (xB >>> ((8 : Int32) &&& 31)).toInt8.toInt32.toInt8.toInt32), (.int (xC >>> ((0 : Int32) &&& 31)).toInt8.toInt32.toInt8.toInt32), (.int (xC >>> ((8 : Int32) &&& 31)).toInt8.toInt32.toInt8.toInt32)] (.int (0 : Int32)))
set_option maxRecDepth 65536 in
set_option maxHeartbeats 40000000 in
theorem rmSA31 (l : Launch) (Z : State) (a0 : Array Value) (hw : ∀ d ∈ tables_1, d.before a0 Z = true) (ws : List Jvm.Cond) (x1 : Addr) (b1 : Addr) (zc : Int32) (u1 : Value) (u2 : Value) (kc : ClassId) (xA : Int32) (xB : Int32) (xC : Int32) (h0 : Heap) (n0 : Nat) (Z0 : n0 ≤ h0.size) (O0 : Old Z n0 h0) (Scz : Sta Z Z.heap sAA "COMPACT_STRINGS" "Z" (.int zc)) (hcz : ¬ zc = 0) (SA : Sta Z Z.heap sAB sAH "Z" (.int (1 : Int32))) (SH : Sta Z Z.heap sAB "HI_BYTE_SHIFT" "I" (.int (0 : Int32))) (SL : Sta Z Z.heap sAB "LO_BYTE_SHIFT" "I" (.int (8 : Int32))) (Ei : Exa Z h0 x1 sAA) (Fv : Fld Z h0 x1 sAA "value" "[B" u1) (Fc : Fld Z h0 x1 sAA "coder" "B" u2) (g_x1 : n0 ≤ x1) (Vc : Arv Z h0 b1 kc .char (3 : Int32) [(.int xA), (.int xB), (.int xC)] (.int (0 : Int32))) (hB : own_B3 xA xB xC) (huA : own_U xA) (huB : own_U xB) (huC : own_U xC) :
    MetFree l (⟨sAA, "<init>", sAG⟩ : MethodName) (head1 (Jvm.Cond.code (⟨sAA, "<init>", sAG⟩ : MethodName) jdk_42_method_149_code 6 none :: ws) (oR 4 2 9 80)) (fun a U => a = #[(.ref x1), (.ref b1), (.int 0), (.int 3), .null] ∧ Z.Warmed39 U.vm ∧ U.heap = h0) (fun _ _ _ _ _ => True) (fun _ U o U' => ∃ v L, o = .returned v ∧ QSA31 Z x1 b1 zc u1 u2 kc xA xB xC h0 n0 v U'.heap L ∧ FrameEnd U o U' L (oR 4 2 9 80).cells (oR 4 2 9 80).slots) := by
  refine MetFree.of_bodySF (plainFor_of_name own_pn1) hisR ?_
  intro p e s m args below meth c s₁ Bd hml0 hP hK
  obtain ⟨rfl, hZ, hh⟩ := hP
  have hx := Bd.exec
  have hby := Bd.bytes
  have hlk : meth.locks = false := Bd.notSynchronized
  have hml : c.maxLocals = 6 := hml0
  have hown : s.vm.findClass sAA = some m.cls := findClass_of_methodNamed Bd.named
  have hnm := (name_of_methodNamed Bd.named Bd.method).1
  have X0 : Stand p l e (oR 4 2 9 80) s m #[(.ref x1), (.ref b1), (.int 0), (.int 3), .null] below meth c s₁ [] 0 0 := Stand.of_body Bd
  have e0 : s₁.heap = h0 := by rw [← hh, Bd.state]; rfl
  have N0 := Fr.nil n0
  refine own_body (A := s₁.setTop (mkF m 0 #[rv x1, rv b1, iv 0, iv 3, .val .null, uu] [])) (Q := QSA31 Z x1 b1 zc u1 u2 kc xA xB xC h0 n0) (fun t k => castTop (own_efSA31 m x1 b1 (0 : Int32) (3 : Int32)) k) ?_
  refine oALN (n := 1) X0 hx (hb hby own_d3_0) rfl rfl rfl ?_
  obtain ⟨T1, X1, e1, st1⟩ := initO X0 hx hZ hown (oW hw 16 rfl) (oW hw 17 rfl) (oW hw 18 rfl) e0 (g := (mkF m 1 #[rv x1, rv b1, iv 0, iv 3, .val .null, uu] [(.ref x1)])) rfl (by rw [hml]; rfl) rfl (hb hby own_d3_1) (by decide) (W := 0) (by show 2 * 0 + _ ≤ _; exact Nat.le_of_eq rfl) (by decide)
  refine ov (B := T1.setTop (mkF m 4 #[rv x1, rv b1, iv 0, iv 3, .val .null, uu] [])) (fun t k => st1 t k) ?_
  refine oILN (n := 5) X1 hx (hb hby own_d3_4) rfl rfl ?_
  have hc5 : ¬ ((3 : Int32) = (0 : Int32)) := by decide
  refine ov (B := T1.setTop (mkF m 27 #[rv x1, rv b1, iv 0, iv 3, .val .null, uu] [])) (fun t k => XS.ifYes X1.here hx rfl (pc0 := 5) (pc' := 27) rfl (hb hby own_d3_5) rfl ((if0 _ _).trans (feq hc5).2) (by decide) (by decide) k) ?_
  obtain ⟨T2, X2, e2, st2⟩ := getS2 X1 hx hZ hown (host := "") (Or.inl (oW hw 121 rfl)) Via.refl e1 (Scz.ext O0.2) (g := (mkF m 27 #[rv x1, rv b1, iv 0, iv 3, .val .null, uu] [])) rfl (hb hby own_d3_27)
  refine ov (B := T2.setTop (mkF m 30 #[rv x1, rv b1, iv 0, iv 3, .val .null, uu] [(.int zc)])) (fun t k => st2 t k) ?_
  have hc30 : ¬ (zc = (0 : Int32)) := hcz
  refine ov (B := T2.setTop (mkF m 33 #[rv x1, rv b1, iv 0, iv 3, .val .null, uu] [])) (fun t k => XS.ifNo X2.here hx rfl (hb hby own_d3_30) rfl ((if0 _ _).trans (feq hc30).1) k) ?_
  refine oALN (n := 34) X2 hx (hb hby own_d3_33) rfl rfl rfl ?_
  refine oILN (n := 35) X2 hx (hb hby own_d3_34) rfl rfl ?_
  refine oILN (n := 36) X2 hx (hb hby own_d3_35) rfl rfl ?_
  obtain ⟨_, _, ⟨T3, L3, k3, n3⟩, -, X3, ⟨Lc3, hQ3, l3, y3, z3⟩, st3⟩ := Jvm.LawKit.callS X2 hx (y := (⟨sAB, "compress", "([CII)[B"⟩ : MethodName)) hown (mvT hZ (oW hw 131 rfl)) (mvT hZ (oW hw 132 rfl)) (mvT hZ (oW hw 133 rfl)) (mvT hZ (oW hw 134 rfl)) (by decide) (backOf (W := 0) (rmCB31 l Z a0 hw [] b1 kc xA xB xC h0 n0 Z0 O0 (by assumption) (by assumption) (by assumption) Vc hB huA huB huC) hZ (oW hw 134 rfl) (oW hw 133 rfl) (by decide) (by decide)) (g := (mkF m 36 #[rv x1, rv b1, iv 0, iv 3, .val .null, uu] [(.int 3), (.int 0), (.ref b1)])) rfl (by rw [hml]; rfl) (argsL := [(.ref b1), (.int 0), (.int 3)]) (rest := []) (lenOf own_pd4 rfl) rfl (by show 2 * 0 + _ ≤ _; exact Nat.le_of_eq rfl) (hb hby own_d3_36) (fun _ _ => ⟨rfl, e2, (by decide : 0 + 2 ≤ _), (by decide : 0 + 9 ≤ _)⟩)
  dsimp only [Pt.U, Pt.locs, Pt.cells, Pt.slots] at X3 l3 y3 z3 st3 hQ3
  subst l3 y3 z3
  obtain ⟨r_3, kr_3, rfl, Nq3, Kq3, hr_3, f3_0⟩ := hQ3
  have N3 := Fr.app N0 Nq3
  have g_r_3 : n0 ≤ r_3 := Nat.le_trans Z0 hr_3
  refine ov (B := T3.setTop (mkF m 39 #[rv x1, rv b1, iv 0, iv 3, .val .null, uu] [(.ref r_3)])) (fun t k => st3 t k) ?_
  refine ov (B := T3.setTop (mkF m 41 #[rv x1, rv b1, iv 0, iv 3, .val .null, rv r_3] [])) (fun t k => XS.astore X3.here hx rfl (hb hby own_d3_39) rfl rfl (l' := #[rv x1, rv b1, iv 0, iv 3, .val .null, rv r_3]) rfl k) ?_
  refine oALN (n := 42) X3 hx (hb hby own_d3_41) rfl rfl rfl ?_
  refine oAL (n := 44) X3 hx (hb hby own_d3_42) rfl rfl rfl ?_
  refine oILN (n := 45) X3 hx (hb hby own_d3_44) rfl rfl ?_
  obtain ⟨_, _, ⟨T4, L4, k4, n4⟩, -, X4, ⟨Lc4, hQ4, l4, y4, z4⟩, st4⟩ := Jvm.LawKit.callS X3 hx (y := (⟨sAB, sAN, "([BI)B"⟩ : MethodName)) hown (mvT hZ (oW hw 138 rfl)) (mvT hZ (oW hw 139 rfl)) (mvT hZ (oW hw 133 rfl)) (mvT hZ (oW hw 140 rfl)) (by decide) (backOf (W := 1) (rmCF36 l Z a0 hw [] r_3 kr_3 (xA >>> ((0 : Int32) &&& 31)).toInt8.toInt32.toInt8.toInt32 (xA >>> ((8 : Int32) &&& 31)).toInt8.toInt32.toInt8.toInt32 (xB >>> ((0 : Int32) &&& 31)).toInt8.toInt32.toInt8.toInt32 (xB >>> ((8 : Int32) &&& 31)).toInt8.toInt32.toInt8.toInt32 (xC >>> ((0 : Int32) &&& 31)).toInt8.toInt32.toInt8.toInt32 (xC >>> ((8 : Int32) &&& 31)).toInt8.toInt32.toInt8.toInt32 T3.heap n0 (Nat.le_trans Z0 Kq3.1) f3_0) hZ (oW hw 140 rfl) (oW hw 133 rfl) (by decide) (by decide)) (g := (mkF m 45 #[rv x1, rv b1, iv 0, iv 3, .val .null, rv r_3] [(.int 3), (.ref r_3), (.ref x1)])) rfl (by rw [hml]; rfl) (argsL := [(.ref r_3), (.int 3)]) (rest := [(.ref x1)]) (lenOf own_pd6 rfl) rfl (by show 2 * 0 + _ ≤ _; exact Nat.le_of_eq rfl) (hb hby own_d3_45) (fun _ _ => ⟨rfl, rfl, (by decide : (0 + 2) + 0 ≤ _), (by decide : (0 + 9) + 0 ≤ _)⟩)
  dsimp only [Pt.U, Pt.locs, Pt.cells, Pt.slots] at X4 l4 y4 z4 st4 hQ4
  subst l4 y4 z4
  obtain ⟨rfl, Nq4, eq4⟩ := hQ4
  have N4 := Fr.app N3 Nq4
  refine ov (B := T4.setTop (mkF m 48 #[rv x1, rv b1, iv 0, iv 3, .val .null, rv r_3] [(.int 1), (.ref x1)])) (fun t k => st4 t k) ?_
  obtain ⟨T5, h5, X5, e5, W5, st5⟩ := putFN X4 hx hZ hown (oW hw 26 rfl) Via.refl eq4 (Fc.keep Kq3 nin0) (Ei.keep Kq3) (Or.inr ⟨(oW hw 22 rfl), rfl, hnm⟩) (oW hw 6 rfl) (ty := .byte) (v' := (.int 1)) (by decide) (by decide) (by decide) (g := (mkF m 48 #[rv x1, rv b1, iv 0, iv 3, .val .null, rv r_3] [(.int 1), (.ref x1)])) rfl rfl (hb hby own_d3_48)
  have Fw5 := (Fc.keep Kq3 nin0).same W5
  have N5 := Fr.snoc X5 N4 g_x1
  refine ov (B := T5.setTop (mkF m 51 #[rv x1, rv b1, iv 0, iv 3, .val .null, rv r_3] [])) (fun t k => st5 t k) ?_
  refine oALN (n := 52) X5 hx (hb hby own_d3_51) rfl rfl rfl ?_
  refine oAL (n := 54) X5 hx (hb hby own_d3_52) rfl rfl rfl ?_
  obtain ⟨T6, h6, X6, e6, W6, st6⟩ := putF X5 hx hZ hown (host := "") (Or.inl (oW hw 25 rfl)) Via.refl e5 ((Fv.keep Kq3 nin0).other W5 (Or.inr (slot_ne (Or.inr (oW hw 21 rfl)) (Or.inr (oW hw 22 rfl)) (by decide +kernel) (t := (.array .byte)) (t' := .byte) (by decide +kernel) (by decide +kernel)))) ((Ei.keep Kq3).wr W5) (Or.inr ⟨(oW hw 21 rfl), rfl, hnm⟩) (oW hw 6 rfl) (ty := (.array .byte)) (by decide) rfl rfl (g := (mkF m 54 #[rv x1, rv b1, iv 0, iv 3, .val .null, rv r_3] [(.ref r_3), (.ref x1)])) rfl rfl (hb hby own_d3_54)
  have Fw6 := ((Fv.keep Kq3 nin0).other W5 (Or.inr (slot_ne (Or.inr (oW hw 21 rfl)) (Or.inr (oW hw 22 rfl)) (by decide +kernel) (t := (.array .byte)) (t' := .byte) (by decide +kernel) (by decide +kernel)))).same W6
  have N6 := Fr.snoc X6 N5 g_x1
  refine ov (B := T6.setTop (mkF m 57 #[rv x1, rv b1, iv 0, iv 3, .val .null, rv r_3] [])) (fun t k => st6 t k) ?_
  refine own_leafV X6 hx hlk Bd.returns (hb hby own_d3_57) (by decide) (by decide) ?_
  show QSA31 Z x1 b1 zc u1 u2 kc xA xB xC h0 n0 _ T6.heap _
  rw [e6]
  refine ⟨r_3, kr_3, ?_, N6, ((((Keep.refl h0 [x1]).trans Kq3 all0).wr W5 (Or.inl (List.mem_of_getElem? (i := 0) rfl))).wr W6 (Or.inl (List.mem_of_getElem? (i := 0) rfl))), ?_, (Fw5.other W6 (Or.inr (slot_ne (Or.inr (oW hw 22 rfl)) (Or.inr (oW hw 21 rfl)) (by decide +kernel) (t := .byte) (t' := (.array .byte)) (by decide +kernel) (by decide +kernel)))), Fw6, ((f3_0.other W5 (Ne.symm (Nat.ne_of_lt (Nat.lt_of_lt_of_le Ei.lt hr_3)))).other W6 (Ne.symm (Nat.ne_of_lt (Nat.lt_of_lt_of_le Ei.lt hr_3))))⟩
  · rfl
  · exact hr_3
theorem own_efSB31 (m : MethodId) (x0 : Addr) (x1 : Addr) : entryFrame m #[(.ref x0), (.ref x1)] 2 = mkF m 0 #[rv x0, rv x1] [] := by first | (simp [entryFrame, mkF, argsToLocals, Value.category]; done) | rfl
def QSB31 (Z : State) (x1 : Addr) (b1 : Addr) (zc : Int32) (u1 : Value) (u2 : Value) (kc : ClassId) (xA : Int32) (xB : Int32) (xC : Int32) (h0 : Heap) (n0 : Nat) (v : Option Value) (h : Heap) (L : List Loc) : Prop := ∃ (t : Addr) (kt : ClassId), v = none ∧ Fr n0 L ∧ Keep h0 h [x1] ∧ (h0.size ≤ t) ∧ (Fld Z h x1 sAA "coder" "B" (.int (1 : Int32))) ∧ (Fld Z h x1 sAA "value" "[B" (.ref t)) ∧ (Arv Z h t kt .byte (6 : Int32) [(.int (xA >>> ((0 : Int32) &&& 31)).toInt8.toInt32.toInt8.toInt32), (.int (xA >>> ((8 : Int32) &&& 31)).toInt8.toInt32.toInt8.toInt32), (.int (xB >>> ((0 : Int32) &&& 31)).toInt8.toInt32.toInt8.toInt32), (.int (xB >>> ((8 : Int32) &&& 31)).toInt8.toInt32.toInt8.toInt32), (.int (xC >>> ((0 : Int32) &&& 31)).toInt8.toInt32.toInt8.toInt32), (.int (xC >>> ((8 : Int32) &&& 31)).toInt8.toInt32.toInt8.toInt32)] (.int (0 : Int32)))
set_option maxRecDepth 65536 in
set_option maxHeartbeats 40000000 in
theorem rmSB31 (l : Launch) (Z : State) (a0 : Array Value) (hw : ∀ d ∈ tables_1, d.before a0 Z = true) (ws : List Jvm.Cond) (x1 : Addr) (b1 : Addr) (zc : Int32) (u1 : Value) (u2 : Value) (kc : ClassId) (xA : Int32) (xB : Int32) (xC : Int32) (h0 : Heap) (n0 : Nat) (Z0 : n0 ≤ h0.size) (O0 : Old Z n0 h0) (Scz : Sta Z Z.heap sAA "COMPACT_STRINGS" "Z" (.int zc)) (hcz : ¬ zc = 0) (SA : Sta Z Z.heap sAB sAH "Z" (.int (1 : Int32))) (SH : Sta Z Z.heap sAB "HI_BYTE_SHIFT" "I" (.int (0 : Int32))) (SL : Sta Z Z.heap sAB "LO_BYTE_SHIFT" "I" (.int (8 : Int32))) (Ei : Exa Z h0 x1 sAA) (Fv : Fld Z h0 x1 sAA "value" "[B" u1) (Fc : Fld Z h0 x1 sAA "coder" "B" u2) (g_x1 : n0 ≤ x1) (Vc : Arv Z h0 b1 kc .char (3 : Int32) [(.int xA), (.int xB), (.int xC)] (.int (0 : Int32))) (hB : own_B3 xA xB xC) (huA : own_U xA) (huB : own_U xB) (huC : own_U xC) :
    MetFree l (⟨sAA, "<init>", "([C)V"⟩ : MethodName) (head1 (Jvm.Cond.code (⟨sAA, "<init>", "([C)V"⟩ : MethodName) jdk_42_method_3_code 2 none :: ws) (oR 5 2 9 104)) (fun a U => a = #[(.ref x1), (.ref b1)] ∧ Z.Warmed39 U.vm ∧ U.heap = h0) (fun _ _ _ _ _ => True) (fun _ U o U' => ∃ v L, o = .returned v ∧ QSB31 Z x1 b1 zc u1 u2 kc xA xB xC h0 n0 v U'.heap L ∧ FrameEnd U o U' L (oR 5 2 9 104).cells (oR 5 2 9 104).slots) := by
  refine MetFree.of_bodySF (plainFor_of_name own_pn1) hisR ?_
  intro p e s m args below meth c s₁ Bd hml0 hP hK
  obtain ⟨rfl, hZ, hh⟩ := hP
  have hx := Bd.exec
  have hby := Bd.bytes
  have hlk : meth.locks = false := Bd.notSynchronized
  have hml : c.maxLocals = 2 := hml0
  have hown : s.vm.findClass sAA = some m.cls := findClass_of_methodNamed Bd.named
  have hnm := (name_of_methodNamed Bd.named Bd.method).1
  have X0 : Stand p l e (oR 5 2 9 104) s m #[(.ref x1), (.ref b1)] below meth c s₁ [] 0 0 := Stand.of_body Bd
  have e0 : s₁.heap = h0 := by rw [← hh, Bd.state]; rfl
  have N0 := Fr.nil n0
  refine own_body (A := s₁.setTop (mkF m 0 #[rv x1, rv b1] [])) (Q := QSB31 Z x1 b1 zc u1 u2 kc xA xB xC h0 n0) (fun t k => castTop (own_efSB31 m x1 b1) k) ?_
  refine oALN (n := 1) X0 hx (hb hby own_d2_0) rfl rfl rfl ?_
  refine oALN (n := 2) X0 hx (hb hby own_d2_1) rfl rfl rfl ?_
  refine oIC (n := 3) X0 hx (0 : Int32) (hb hby own_d2_2) (by decide) rfl ?_
  refine oALN (n := 4) X0 hx (hb hby own_d2_3) rfl rfl rfl ?_
  obtain ⟨cl1, Ar1, q1, S1, M1, H1, G1⟩ := id Vc
  refine ov (B := s₁.setTop (mkF m 5 #[rv x1, rv b1] [(.int 3), (.int 0), (.ref b1), (.ref x1)])) (fun t k => X0.arraylength hx (by rw [e0]; exact Ar1.1) (State.isArrayOf_alike hZ.alike Ar1.2.1) (g := (mkF m 4 #[rv x1, rv b1] [(.ref b1), (.int 0), (.ref b1), (.ref x1)])) rfl rfl (hb hby own_d2_4) _ (by rw [len_of S1 M1]; exact k)) ?_
  refine oNU (n := 6) X0 hx (hb hby own_d2_5) rfl ?_
  obtain ⟨_, _, ⟨T2, L2, k2, n2⟩, -, X2, ⟨Lc2, hQ2, l2, y2, z2⟩, st2⟩ := X0.specialBack hx (y := (⟨sAA, "<init>", sAG⟩ : MethodName)) rfl hown (mvT hZ (oW hw 12 rfl)) (mvT hZ (oW hw 13 rfl)) (mvT hZ (oW hw 15 rfl)) (by decide) (backOf (W := 0) (rmSA31 l Z a0 hw [] x1 b1 zc u1 u2 kc xA xB xC h0 n0 Z0 O0 (by assumption) (by assumption) (by assumption) (by assumption) (by assumption) Ei Fv Fc g_x1 Vc hB huA huB huC) hZ (oW hw 15 rfl) (oW hw 7 rfl) (by decide) (by decide)) (g := (mkF m 6 #[rv x1, rv b1] [.null, (.int 3), (.int 0), (.ref b1), (.ref x1)])) rfl (by rw [hml]; rfl) (Steps.refl _) (a := x1) (argsL := [(.ref b1), (.int 0), (.int 3), .null]) (rest := []) (lenOf own_pd7 rfl) rfl (by show 2 * 0 + _ ≤ _; exact Nat.le_of_eq rfl) (hb hby own_d2_6) (fun _ _ => ⟨rfl, e0, (by decide : 0 + 2 ≤ _), (by decide : 0 + 9 ≤ _)⟩)
  dsimp only [Pt.U, Pt.locs, Pt.cells, Pt.slots] at X2 l2 y2 z2 st2 hQ2
  subst l2 y2 z2
  obtain ⟨t_2, kt_2, rfl, Nq2, Kq2, ht_2, f2_0, f2_1, f2_2⟩ := hQ2
  have N2 := Fr.app N0 Nq2
  have g_t_2 : n0 ≤ t_2 := Nat.le_trans Z0 ht_2
  refine ov (B := T2.setTop (mkF m 9 #[rv x1, rv b1] [])) (fun t k => st2.trans k) ?_
  refine own_leafV X2 hx hlk Bd.returns (hb hby own_d2_9) (by decide) (by decide) ?_
  show QSB31 Z x1 b1 zc u1 u2 kc xA xB xC h0 n0 _ T2.heap _
  refine ⟨t_2, kt_2, ?_, N2, ((Keep.refl h0 [x1]).trans Kq2 (allS (Or.inl (List.mem_of_getElem? (i := 0) rfl)) all0)), ?_, f2_0, f2_1, f2_2⟩
  · rfl
  · exact ht_2
theorem own_efKM31 (m : MethodId) (x0 : Int32) (x1 : Int32) (x2 : Int32) (x3 : Int32) : entryFrame m #[(.int x0), (.int x1), (.int x2), (.int x3)] 7 = mkF m 0 #[iv x0, iv x1, iv x2, iv x3, uu, uu, uu] [] := by first | (simp [entryFrame, mkF, argsToLocals, Value.category]; done) | rfl
def QKM31 (Z : State) (xK : Int32) (yK : Int32) (zK : Int32) (zc : Int32) (h0 : Heap) (n0 : Nat) (v : Option Value) (h : Heap) (L : List Loc) : Prop := ∃ (r : Addr) (t : Addr) (kt : ClassId), v = some (.ref r) ∧ Fr n0 L ∧ Keep h0 h [] ∧ (h0.size ≤ r) ∧ (h0.size ≤ t) ∧ (Exa Z h r sAA) ∧ (Fld Z h r sAA "coder" "B" (.int (1 : Int32))) ∧ (Fld Z h r sAA "value" "[B" (.ref t)) ∧ (Arv Z h t kt .byte (6 : Int32) [(.int ((own_ch xK) >>> ((0 : Int32) &&& 31)).toInt8.toInt32.toInt8.toInt32), (.int ((own_ch xK) >>> ((8 : Int32) &&& 31)).toInt8.toInt32.toInt8.toInt32), (.int ((own_ch yK) >>> ((0 : Int32) &&& 31)).toInt8.toInt32.toInt8.toInt32), (.int ((own_ch yK) >>> ((8 : Int32) &&& 31)).toInt8.toInt32.toInt8.toInt32), (.int ((own_ch zK) >>> ((0 : Int32) &&& 31)).toInt8.toInt32.toInt8.toInt32), (.int ((own_ch zK) >>> ((8 : Int32) &&& 31)).toInt8.toInt32.toInt8.toInt32)] (.int (0 : Int32)))
set_option maxRecDepth 65536 in
set_option maxHeartbeats 40000000 in
theorem rmKM31 (l : Launch) (Z : State) (a0 : Array Value) (hw : ∀ d ∈ tables_1, d.before a0 Z = true) (ws : List Jvm.Cond) (xK : Int32) (yK : Int32) (zK : Int32) (zc : Int32) (h0 : Heap) (n0 : Nat) (Z0 : n0 ≤ h0.size) (O0 : Old Z n0 h0) (Scz : Sta Z Z.heap sAA "COMPACT_STRINGS" "Z" (.int zc)) (hcz : ¬ zc = 0) (SA : Sta Z Z.heap sAB sAH "Z" (.int (1 : Int32))) (SH : Sta Z Z.heap sAB "HI_BYTE_SHIFT" "I" (.int (0 : Int32))) (SL : Sta Z Z.heap sAB "LO_BYTE_SHIFT" "I" (.int (8 : Int32))) (hB : own_B3 (own_ch xK) (own_ch yK) (own_ch zK)) (huA : own_U (own_ch xK)) (huB : own_U (own_ch yK)) (huC : own_U (own_ch zK)) :
    MetFree l (⟨sAD, "make", sAF⟩ : MethodName) (head1 (Jvm.Cond.code (⟨sAD, "make", sAF⟩ : MethodName) method_2_code 7 (some (.object sAA)) :: ws) (oR 6 4 16 128)) (fun a U => a = #[(.int 3), (.int xK), (.int yK), (.int zK)] ∧ Z.Warmed39 U.vm ∧ U.heap = h0) (fun _ _ _ _ _ => True) (fun _ U o U' => ∃ v L, o = .returned v ∧ QKM31 Z xK yK zK zc h0 n0 v U'.heap L ∧ FrameEnd U o U' L (oR 6 4 16 128).cells (oR 6 4 16 128).slots) := by
  refine MetFree.of_bodySF (plainFor_of_name own_pn2) hisR ?_
  intro p e s m args below meth c s₁ Bd hml0 hP hK
  obtain ⟨rfl, hZ, hh⟩ := hP
  have hx := Bd.exec
  have hby := Bd.bytes
  have hlk : meth.locks = false := Bd.notSynchronized
  have hml : c.maxLocals = 7 := hml0
  have hown : s.vm.findClass sAD = some m.cls := findClass_of_methodNamed Bd.named
  have hnm := (name_of_methodNamed Bd.named Bd.method).1
  have X0 : Stand p l e (oR 6 4 16 128) s m #[(.int 3), (.int xK), (.int yK), (.int zK)] below meth c s₁ [] 0 0 := Stand.of_body Bd
  have e0 : s₁.heap = h0 := by rw [← hh, Bd.state]; rfl
  have N0 := Fr.nil n0
  refine own_body (A := s₁.setTop (mkF m 0 #[iv 3, iv xK, iv yK, iv zK, uu, uu, uu] [])) (Q := QKM31 Z xK yK zK zc h0 n0) (fun t k => castTop (own_efKM31 m (3 : Int32) xK yK zK) k) ?_
  refine oILN (n := 1) X0 hx (hb hby own_d1_0) rfl rfl ?_
  refine ov (B := s₁.setTop (mkF m 3 #[iv 3, iv xK, iv yK, iv zK, uu, uu, uu] [(.int 65535), (.int xK)])) (fun t k => X0.ldcInt hx hown (mvT hZ (oW hw 4 rfl)) (g := (mkF m 1 #[iv 3, iv xK, iv yK, iv zK, uu, uu, uu] [(.int xK)])) rfl (hb hby own_d1_1) _ k) ?_
  refine ov (B := s₁.setTop (mkF m 4 #[iv 3, iv xK, iv yK, iv zK, uu, uu, uu] [(.int (xK &&& (65535 : Int32)))])) (fun t k => XS.iand X0.here hx rfl (hb hby own_d1_3) rfl k) ?_
  refine ov (B := s₁.setTop (mkF m 5 #[iv 3, iv xK, iv yK, iv zK, uu, uu, uu] [(.int ((xK &&& (65535 : Int32)).toUInt32.toUInt16.toUInt32.toInt32))])) (fun t k => XS.i2c X0.here hx rfl (hb hby own_d1_4) rfl k) ?_
  refine ov (B := s₁.setTop (mkF m 7 #[iv 3, iv xK, iv yK, iv zK, iv ((xK &&& (65535 : Int32)).toUInt32.toUInt16.toUInt32.toInt32), uu, uu] [])) (fun t k => XS.istore X0.here hx rfl (hb hby own_d1_5) rfl (l' := #[iv 3, iv xK, iv yK, iv zK, iv ((xK &&& (65535 : Int32)).toUInt32.toUInt16.toUInt32.toInt32), uu, uu]) rfl k) ?_
  refine oILN (n := 8) X0 hx (hb hby own_d1_7) rfl rfl ?_
  refine ov (B := s₁.setTop (mkF m 10 #[iv 3, iv xK, iv yK, iv zK, iv ((xK &&& (65535 : Int32)).toUInt32.toUInt16.toUInt32.toInt32), uu, uu] [(.int 65535), (.int yK)])) (fun t k => X0.ldcInt hx hown (mvT hZ (oW hw 4 rfl)) (g := (mkF m 8 #[iv 3, iv xK, iv yK, iv zK, iv ((xK &&& (65535 : Int32)).toUInt32.toUInt16.toUInt32.toInt32), uu, uu] [(.int yK)])) rfl (hb hby own_d1_8) _ k) ?_
  refine ov (B := s₁.setTop (mkF m 11 #[iv 3, iv xK, iv yK, iv zK, iv ((xK &&& (65535 : Int32)).toUInt32.toUInt16.toUInt32.toInt32), uu, uu] [(.int (yK &&& (65535 : Int32)))])) (fun t k => XS.iand X0.here hx rfl (hb hby own_d1_10) rfl k) ?_
  refine ov (B := s₁.setTop (mkF m 12 #[iv 3, iv xK, iv yK, iv zK, iv ((xK &&& (65535 : Int32)).toUInt32.toUInt16.toUInt32.toInt32), uu, uu] [(.int ((yK &&& (65535 : Int32)).toUInt32.toUInt16.toUInt32.toInt32))])) (fun t k => XS.i2c X0.here hx rfl (hb hby own_d1_11) rfl k) ?_
  refine ov (B := s₁.setTop (mkF m 14 #[iv 3, iv xK, iv yK, iv zK, iv ((xK &&& (65535 : Int32)).toUInt32.toUInt16.toUInt32.toInt32), iv ((yK &&& (65535 : Int32)).toUInt32.toUInt16.toUInt32.toInt32), uu] [])) (fun t k => XS.istore X0.here hx rfl (hb hby own_d1_12) rfl (l' := #[iv 3, iv xK, iv yK, iv zK, iv ((xK &&& (65535 : Int32)).toUInt32.toUInt16.toUInt32.toInt32), iv ((yK &&& (65535 : Int32)).toUInt32.toUInt16.toUInt32.toInt32), uu]) rfl k) ?_
  refine oILN (n := 15) X0 hx (hb hby own_d1_14) rfl rfl ?_
  refine ov (B := s₁.setTop (mkF m 17 #[iv 3, iv xK, iv yK, iv zK, iv ((xK &&& (65535 : Int32)).toUInt32.toUInt16.toUInt32.toInt32), iv ((yK &&& (65535 : Int32)).toUInt32.toUInt16.toUInt32.toInt32), uu] [(.int 65535), (.int zK)])) (fun t k => X0.ldcInt hx hown (mvT hZ (oW hw 4 rfl)) (g := (mkF m 15 #[iv 3, iv xK, iv yK, iv zK, iv ((xK &&& (65535 : Int32)).toUInt32.toUInt16.toUInt32.toInt32), iv ((yK &&& (65535 : Int32)).toUInt32.toUInt16.toUInt32.toInt32), uu] [(.int zK)])) rfl (hb hby own_d1_15) _ k) ?_
  refine ov (B := s₁.setTop (mkF m 18 #[iv 3, iv xK, iv yK, iv zK, iv ((xK &&& (65535 : Int32)).toUInt32.toUInt16.toUInt32.toInt32), iv ((yK &&& (65535 : Int32)).toUInt32.toUInt16.toUInt32.toInt32), uu] [(.int (zK &&& (65535 : Int32)))])) (fun t k => XS.iand X0.here hx rfl (hb hby own_d1_17) rfl k) ?_
  refine ov (B := s₁.setTop (mkF m 19 #[iv 3, iv xK, iv yK, iv zK, iv ((xK &&& (65535 : Int32)).toUInt32.toUInt16.toUInt32.toInt32), iv ((yK &&& (65535 : Int32)).toUInt32.toUInt16.toUInt32.toInt32), uu] [(.int ((zK &&& (65535 : Int32)).toUInt32.toUInt16.toUInt32.toInt32))])) (fun t k => XS.i2c X0.here hx rfl (hb hby own_d1_18) rfl k) ?_
  refine ov (B := s₁.setTop (mkF m 21 #[iv 3, iv xK, iv yK, iv zK, iv ((xK &&& (65535 : Int32)).toUInt32.toUInt16.toUInt32.toInt32), iv ((yK &&& (65535 : Int32)).toUInt32.toUInt16.toUInt32.toInt32), iv ((zK &&& (65535 : Int32)).toUInt32.toUInt16.toUInt32.toInt32)] [])) (fun t k => XS.istore X0.here hx rfl (hb hby own_d1_19) rfl (l' := #[iv 3, iv xK, iv yK, iv zK, iv ((xK &&& (65535 : Int32)).toUInt32.toUInt16.toUInt32.toInt32), iv ((yK &&& (65535 : Int32)).toUInt32.toUInt16.toUInt32.toInt32), iv ((zK &&& (65535 : Int32)).toUInt32.toUInt16.toUInt32.toInt32)]) rfl k) ?_
  show own_Go p e below (s₁.setTop (mkF m 21 #[iv 3, iv xK, iv yK, iv zK, iv (own_m xK), iv (own_m yK), iv (own_m zK)] [])) _
  refine oILN (n := 22) X0 hx (hb hby own_d1_21) rfl rfl ?_
  have hc22 : ¬ ((3 : Int32) = (0 : Int32)) := by decide
  refine ov (B := s₁.setTop (mkF m 36 #[iv 3, iv xK, iv yK, iv zK, iv (own_m xK), iv (own_m yK), iv (own_m zK)] [])) (fun t k => XS.ifYes X0.here hx rfl (pc0 := 22) (pc' := 36) rfl (hb hby own_d1_22) rfl ((if0 _ _).trans (feq hc22).2) (by decide) (by decide) k) ?_
  refine oILN (n := 37) X0 hx (hb hby own_d1_36) rfl rfl ?_
  refine oIC (n := 38) X0 hx (1 : Int32) (hb hby own_d1_37) (by decide) rfl ?_
  have hc38 : ¬ ((3 : Int32) = (1 : Int32)) := by decide
  refine ov (B := s₁.setTop (mkF m 57 #[iv 3, iv xK, iv yK, iv zK, iv (own_m xK), iv (own_m yK), iv (own_m zK)] [])) (fun t k => XS.icmpYes X0.here hx rfl (pc0 := 38) (pc' := 57) rfl (hb hby own_d1_38) rfl (feq hc38).2 (by decide) (by decide) k) ?_
  refine oILN (n := 58) X0 hx (hb hby own_d1_57) rfl rfl ?_
  refine oIC (n := 59) X0 hx (2 : Int32) (hb hby own_d1_58) (by decide) rfl ?_
  have hc59 : ¬ ((3 : Int32) = (2 : Int32)) := by decide
  refine ov (B := s₁.setTop (mkF m 83 #[iv 3, iv xK, iv yK, iv zK, iv (own_m xK), iv (own_m yK), iv (own_m zK)] [])) (fun t k => XS.icmpYes X0.here hx rfl (pc0 := 59) (pc' := 83) rfl (hb hby own_d1_59) rfl (feq hc59).2 (by decide) (by decide) k) ?_
  obtain ⟨T1, h1, X1, e1, E1, A1, D1, -, st1⟩ := newO X0 hx hZ hown (oW hw 5 rfl) (oW hw 6 rfl) (oW hw 7 rfl) e0 (g := (mkF m 83 #[iv 3, iv xK, iv yK, iv zK, iv (own_m xK), iv (own_m yK), iv (own_m zK)] [])) rfl (hb hby own_d1_83) (by decide) (by decide)
  obtain ⟨b1, g1⟩ : ∃ z, z = h0.size := ⟨_, rfl⟩
  rw [← g1] at A1 D1 st1
  have g_b1 : n0 ≤ b1 := Nat.le_trans Z0 (Nat.le_of_eq g1.symm)
  have F1_value : Fld Z h1 b1 sAA "value" "[B" .null := D1 (Or.inr (oW hw 21 rfl)) (ty := (.array .byte)) (by decide)
  have F1_coder : Fld Z h1 b1 sAA "coder" "B" (.int 0) := D1 (Or.inr (oW hw 22 rfl)) (ty := .byte) (by decide)
  refine ov (B := T1.setTop (mkF m 86 #[iv 3, iv xK, iv yK, iv zK, iv (own_m xK), iv (own_m yK), iv (own_m zK)] [(.ref b1)])) (fun t k => st1 t k) ?_
  refine oDU (n := 87) X1 hx (hb hby own_d1_86) rfl rfl ?_
  refine oIC (n := 88) X1 hx (3 : Int32) (hb hby own_d1_87) (by decide) rfl ?_
  obtain ⟨T2, h2, kc2, X2, e2, E2, A2, st2⟩ := newP X1 hx hZ (oW hw 8 rfl) e1 (g := (mkF m 88 #[iv 3, iv xK, iv yK, iv zK, iv (own_m xK), iv (own_m yK), iv (own_m zK)] [(.int 3), (.ref b1), (.ref b1)])) rfl (hb hby own_d1_88) rfl (by decide) (cap := 3) (by decide) (by decide) (by decide) (by decide)
  obtain ⟨b2, g2⟩ : ∃ z, z = h1.size := ⟨_, rfl⟩
  rw [← g2] at A2 st2
  have g_b2 : n0 ≤ b2 := Nat.le_trans (Nat.le_trans Z0 E1.1) (Nat.le_of_eq g2.symm)
  have V2 : Arv Z h2 b2 kc2 .char (3 : Int32) [(.int 0), (.int 0), (.int 0)] (.int 0) := (Arv.new A2 (by decide)).pad (pad_rep [] (.int 0) 3)
  refine ov (B := T2.setTop (mkF m 90 #[iv 3, iv xK, iv yK, iv zK, iv (own_m xK), iv (own_m yK), iv (own_m zK)] [(.ref b2), (.ref b1), (.ref b1)])) (fun t k => st2 t k) ?_
  refine oDU (n := 91) X2 hx (hb hby own_d1_90) rfl rfl ?_
  refine oIC (n := 92) X2 hx (0 : Int32) (hb hby own_d1_91) (by decide) rfl ?_
  refine oIL (n := 94) X2 hx (hb hby own_d1_92) rfl rfl ?_
  obtain ⟨cl3, Ar3, q3, S3, M3, H3, G3⟩ := id V2
  obtain ⟨T4, h4, X4, e4, W4, st4⟩ := stC X2 hx hZ e2 Ar3 (j := (0 : Int32)) (inb_of S3 ⟨by decide, by decide⟩) (g := (mkF m 94 #[iv 3, iv xK, iv yK, iv zK, iv (own_m xK), iv (own_m yK), iv (own_m zK)] [(.int (own_m xK)), (.int 0), (.ref b2), (.ref b2), (.ref b1), (.ref b1)])) rfl rfl (hb hby own_d1_94)
  have V4 : Arv Z h4 b2 kc2 .char (3 : Int32) [(.int (nar .char (own_m xK))), (.int 0), (.int 0)] (.int 0) := Arv.set Ar3 q3 S3 M3 H3 G3 (fits_nar_char _) W4 0 rfl (Nat.le_of_ble_eq_true rfl)
  have N4 := Fr.snoc X4 N0 g_b2
  refine ov (B := T4.setTop (mkF m 95 #[iv 3, iv xK, iv yK, iv zK, iv (own_m xK), iv (own_m yK), iv (own_m zK)] [(.ref b2), (.ref b1), (.ref b1)])) (fun t k => st4 t k) ?_
  refine oDU (n := 96) X4 hx (hb hby own_d1_95) rfl rfl ?_
  refine oIC (n := 97) X4 hx (1 : Int32) (hb hby own_d1_96) (by decide) rfl ?_
  refine oIL (n := 99) X4 hx (hb hby own_d1_97) rfl rfl ?_
  obtain ⟨cl5, Ar5, q5, S5, M5, H5, G5⟩ := id V4
  obtain ⟨T6, h6, X6, e6, W6, st6⟩ := stC X4 hx hZ e4 Ar5 (j := (1 : Int32)) (inb_of S5 ⟨by decide, by decide⟩) (g := (mkF m 99 #[iv 3, iv xK, iv yK, iv zK, iv (own_m xK), iv (own_m yK), iv (own_m zK)] [(.int (own_m yK)), (.int 1), (.ref b2), (.ref b2), (.ref b1), (.ref b1)])) rfl rfl (hb hby own_d1_99)
  have V6 : Arv Z h6 b2 kc2 .char (3 : Int32) [(.int (nar .char (own_m xK))), (.int (nar .char (own_m yK))), (.int 0)] (.int 0) := Arv.set Ar5 q5 S5 M5 H5 G5 (fits_nar_char _) W6 1 rfl (Nat.le_of_ble_eq_true rfl)
  have N6 := Fr.snoc X6 N4 g_b2
  refine ov (B := T6.setTop (mkF m 100 #[iv 3, iv xK, iv yK, iv zK, iv (own_m xK), iv (own_m yK), iv (own_m zK)] [(.ref b2), (.ref b1), (.ref b1)])) (fun t k => st6 t k) ?_
  refine oDU (n := 101) X6 hx (hb hby own_d1_100) rfl rfl ?_
  refine oIC (n := 102) X6 hx (2 : Int32) (hb hby own_d1_101) (by decide) rfl ?_
  refine oIL (n := 104) X6 hx (hb hby own_d1_102) rfl rfl ?_
  obtain ⟨cl7, Ar7, q7, S7, M7, H7, G7⟩ := id V6
  obtain ⟨T8, h8, X8, e8, W8, st8⟩ := stC X6 hx hZ e6 Ar7 (j := (2 : Int32)) (inb_of S7 ⟨by decide, by decide⟩) (g := (mkF m 104 #[iv 3, iv xK, iv yK, iv zK, iv (own_m xK), iv (own_m yK), iv (own_m zK)] [(.int (own_m zK)), (.int 2), (.ref b2), (.ref b2), (.ref b1), (.ref b1)])) rfl rfl (hb hby own_d1_104)
  have V8 : Arv Z h8 b2 kc2 .char (3 : Int32) [(.int (nar .char (own_m xK))), (.int (nar .char (own_m yK))), (.int (nar .char (own_m zK)))] (.int 0) := Arv.set Ar7 q7 S7 M7 H7 G7 (fits_nar_char _) W8 2 rfl (Nat.le_of_ble_eq_true rfl)
  have N8 := Fr.snoc X8 N6 g_b2
  refine ov (B := T8.setTop (mkF m 105 #[iv 3, iv xK, iv yK, iv zK, iv (own_m xK), iv (own_m yK), iv (own_m zK)] [(.ref b2), (.ref b1), (.ref b1)])) (fun t k => st8 t k) ?_
  obtain ⟨_, _, ⟨T9, L9, k9, n9⟩, -, X9, ⟨Lc9, hQ9, l9, y9, z9⟩, st9⟩ := X8.specialBack hx (y := (⟨sAA, "<init>", "([C)V"⟩ : MethodName)) rfl hown (mvT hZ (oW hw 9 rfl)) (mvT hZ (oW hw 10 rfl)) (mvT hZ (oW hw 11 rfl)) (by decide) (backOf (W := 1) (rmSB31 l Z a0 hw [] b1 b2 zc .null (.int 0) kc2 (nar .char (own_m xK)) (nar .char (own_m yK)) (nar .char (own_m zK)) h8 n0 (Nat.le_trans (Nat.le_trans (Nat.le_trans (Nat.le_trans (Nat.le_trans Z0 E1.1) E2.1) (Keep.of_wr W4).1) (Keep.of_wr W6).1) (Keep.of_wr W8).1) (((((O0.ext E1).ext E2).wr W4 g_b2).wr W6 g_b2).wr W8 g_b2) (by assumption) (by assumption) (by assumption) (by assumption) (by assumption) ((((A1.ext E2).wr W4).wr W6).wr W8) ((((F1_value.ext E2).other W4 (Or.inl (Nat.ne_of_lt (Nat.lt_of_lt_of_le A1.lt (Nat.le_of_eq g2.symm))))).other W6 (Or.inl (Nat.ne_of_lt (Nat.lt_of_lt_of_le A1.lt (Nat.le_of_eq g2.symm))))).other W8 (Or.inl (Nat.ne_of_lt (Nat.lt_of_lt_of_le A1.lt (Nat.le_of_eq g2.symm))))) ((((F1_coder.ext E2).other W4 (Or.inl (Nat.ne_of_lt (Nat.lt_of_lt_of_le A1.lt (Nat.le_of_eq g2.symm))))).other W6 (Or.inl (Nat.ne_of_lt (Nat.lt_of_lt_of_le A1.lt (Nat.le_of_eq g2.symm))))).other W8 (Or.inl (Nat.ne_of_lt (Nat.lt_of_lt_of_le A1.lt (Nat.le_of_eq g2.symm))))) g_b1 V8 hB huA huB huC) hZ (oW hw 11 rfl) (oW hw 7 rfl) (by decide) (by decide)) (g := (mkF m 105 #[iv 3, iv xK, iv yK, iv zK, iv (own_m xK), iv (own_m yK), iv (own_m zK)] [(.ref b2), (.ref b1), (.ref b1)])) rfl (by rw [hml]; rfl) (Steps.refl _) (a := b1) (argsL := [(.ref b2)]) (rest := [(.ref b1)]) (lenOf own_pd8 rfl) rfl (by show 2 * 0 + _ ≤ _; exact Nat.le_of_eq rfl) (hb hby own_d1_105) (fun _ _ => ⟨rfl, e8, (by decide : ((0 + 1) + 1) + 2 ≤ _), (by decide : ((0 + 4) + 3) + 9 ≤ _)⟩)
  dsimp only [Pt.U, Pt.locs, Pt.cells, Pt.slots] at X9 l9 y9 z9 st9 hQ9
  subst l9 y9 z9
  obtain ⟨t_9, kt_9, rfl, Nq9, Kq9, ht_9, f9_0, f9_1, f9_2⟩ := hQ9
  have N9 := Fr.app N8 Nq9
  have g_t_9 : n0 ≤ t_9 := Nat.le_trans (Nat.le_trans (Nat.le_trans (Nat.le_trans (Nat.le_trans (Nat.le_trans Z0 E1.1) E2.1) (Keep.of_wr W4).1) (Keep.of_wr W6).1) (Keep.of_wr W8).1) ht_9
  refine ov (B := T9.setTop (mkF m 108 #[iv 3, iv xK, iv yK, iv zK, iv (own_m xK), iv (own_m yK), iv (own_m zK)] [(.ref b1)])) (fun t k => st9.trans k) ?_
  refine own_leaf X9 hx hlk (t := (.object sAA)) Bd.returns rfl (Or.inr (Or.inr (Or.inr (Or.inr ⟨rfl, rfl, rfl⟩)))) (hb hby own_d1_108) (by decide) (by decide) ?_
  show QKM31 Z xK yK zK zc h0 n0 _ T9.heap _
  refine ⟨b1, t_9, kt_9, ?_, N9, (((((((Keep.refl h0 []).ext E1).ext E2).wr W4 (Or.inr (Nat.le_trans (Nat.le_trans (Nat.le_refl _) E1.1) (Nat.le_of_eq g2.symm)))).wr W6 (Or.inr (Nat.le_trans (Nat.le_trans (Nat.le_refl _) E1.1) (Nat.le_of_eq g2.symm)))).wr W8 (Or.inr (Nat.le_trans (Nat.le_trans (Nat.le_refl _) E1.1) (Nat.le_of_eq g2.symm)))).trans Kq9 (allS (Or.inr (Nat.le_of_eq g1.symm)) all0)), ?_, ?_, (((((A1.ext E2).wr W4).wr W6).wr W8).keep Kq9), f9_0, f9_1, f9_2⟩
  · rfl
  · exact (Nat.le_of_eq g1.symm)
  · exact (Nat.le_trans (Nat.le_trans (Nat.le_trans (Nat.le_trans (Nat.le_trans (Nat.le_trans (Nat.le_refl _) E1.1) E2.1) (Keep.of_wr W4).1) (Keep.of_wr W6).1) (Keep.of_wr W8).1) ht_9)
theorem own_d3_8 : decode jdk_42_method_149_code 8 = .ok (.aload_n 0, 1) := by decide +kernel
theorem own_d3_9 : decode jdk_42_method_149_code 9 = .ok (.ldc 7, 2) := by decide +kernel
theorem own_d3_11 : decode jdk_42_method_149_code 11 = .ok (.getfield 9, 3) := by decide +kernel
theorem own_d3_14 : decode jdk_42_method_149_code 14 = .ok (.putfield 9, 3) := by decide +kernel
theorem own_d3_17 : decode jdk_42_method_149_code 17 = .ok (.aload_n 0, 1) := by decide +kernel
theorem own_d3_18 : decode jdk_42_method_149_code 18 = .ok (.ldc 7, 2) := by decide +kernel
theorem own_d3_20 : decode jdk_42_method_149_code 20 = .ok (.getfield 15, 3) := by decide +kernel
theorem own_d3_23 : decode jdk_42_method_149_code 23 = .ok (.putfield 15, 3) := by decide +kernel
theorem own_d3_26 : decode jdk_42_method_149_code 26 = .ok (.return_, 1) := by decide +kernel
theorem own_efEA (m : MethodId) (x0 : Addr) (x1 : Addr) (x2 : Int32) (x3 : Int32) : entryFrame m #[(.ref x0), (.ref x1), (.int x2), (.int x3), .null] 6 = mkF m 0 #[rv x0, rv x1, iv x2, iv x3, .val .null, uu] [] := by first | (simp [entryFrame, mkF, argsToLocals, Value.category]; done) | rfl
def QEA (Z : State) (x1 : Addr) (b1 : Addr) (u2 : Value) (h0 : Heap) (n0 : Nat) (v : Option Value) (h : Heap) (L : List Loc) (vm : Vm) : Prop := ∃ (lc : Addr) (lt : Addr) (lk : ClassId), v = none ∧ Fr n0 L ∧ Keep h0 h [x1] ∧ (Lit (Z.setVm vm) sAA 7 lc) ∧ (Fld Z h x1 sAA "coder" "B" (.int (0 : Int32))) ∧ (Fld Z h x1 sAA "value" "[B" (.ref lt)) ∧ (Exa Z h lc sAA) ∧ (Fld Z h lc sAA "coder" "B" (.int (0 : Int32))) ∧ (Fld Z h lc sAA "value" "[B" (.ref lt)) ∧ (Arv Z h lt lk .byte (0 : Int32) [] (.int (0 : Int32)))
set_option maxRecDepth 65536 in
set_option maxHeartbeats 40000000 in
theorem rmEA (l : Launch) (Z : State) (a0 : Array Value) (hw : ∀ d ∈ tables_1, d.before a0 Z = true) (ws : List Jvm.Cond) (x1 : Addr) (b1 : Addr) (u2 : Value) (h0 : Heap) (n0 : Nat) (Z0 : n0 ≤ h0.size) (O0 : Old Z n0 h0) (hch : Jvm.Lit.constHeld Z sAA 7) (hcw : Jvm.Lit.compactW.before a0 Z = true) (Ei : Exa Z h0 x1 sAA) (Fv : Fld Z h0 x1 sAA "value" "[B" .null) (Fc : Fld Z h0 x1 sAA "coder" "B" u2) (g_x1 : n0 ≤ x1) :
    MetFree l (⟨sAA, "<init>", sAG⟩ : MethodName) (head1 (Jvm.Cond.code (⟨sAA, "<init>", sAG⟩ : MethodName) jdk_42_method_149_code 6 none :: ws) (oR 1 2 4 12)) (fun a U => a = #[(.ref x1), (.ref b1), (.int 0), (.int 0), .null] ∧ Z.Warmed39 U.vm ∧ U.heap = h0 ∧ (IB Z U.vm [])) (fun _ _ _ _ _ => True) (fun _ U o U' => ∃ v L, o = .returned v ∧ QEA Z x1 b1 u2 h0 n0 v U'.heap L U'.vm ∧ ReturnedEndW U o U' L (oR 1 2 4 12).cells (oR 1 2 4 12).slots) := by
  refine MetFree.of_bodySF (plainFor_of_name own_pn1) hisR ?_
  intro p e s m args below meth c s₁ Bd hml0 hP hK
  obtain ⟨rfl, hZ, hh, hV⟩ := hP
  have hx := Bd.exec
  have hby := Bd.bytes
  have hlk : meth.locks = false := Bd.notSynchronized
  have hml : c.maxLocals = 6 := hml0
  have hown : s.vm.findClass sAA = some m.cls := findClass_of_methodNamed Bd.named
  have hnm := (name_of_methodNamed Bd.named Bd.method).1
  have X0 : Stand p l e (oR 1 2 4 12) (s.setVm s.vm) m #[(.ref x1), (.ref b1), (.int 0), (.int 0), .null] below meth c s₁ [] 0 0 := Stand.of_body Bd
  have e0 : s₁.heap = h0 := by rw [← hh, Bd.state]; rfl
  have N0 := Fr.nil n0
  have hS0 : s.Since s.vm h0.size := (State.WarmedH.refl s).since _
  have hk0 : h0.size ≤ h0.size := Nat.le_refl _
  have wS : ∀ a ∈ Bundle.stringAtoms, a.before a0 Z = true := by
    intro a ha
    simp only [Bundle.stringAtoms, List.mem_cons, List.not_mem_nil, or_false] at ha
    rcases ha with rfl | rfl | rfl | rfl | rfl | rfl | rfl
    · exact (oW hw 7 rfl)
    · exact (oW hw 6 rfl)
    · exact (oW hw 20 rfl)
    · exact (oW hw 21 rfl)
    · exact (oW hw 22 rfl)
    · exact (oW hw 23 rfl)
    · exact (oW hw 24 rfl)
  refine own_bodyV (A := s₁.setTop (mkF m 0 #[rv x1, rv b1, iv 0, iv 0, .val .null, uu] [])) (Q := QEA Z x1 b1 u2 h0 n0) (fun t k => castTop (own_efEA m x1 b1 (0 : Int32) (0 : Int32)) k) ?_
  refine oALN (n := 1) X0 hx (hb hby own_d3_0) rfl rfl rfl ?_
  obtain ⟨T1, X1, e1, st1⟩ := initO X0 hx hZ hown (oW hw 16 rfl) (oW hw 17 rfl) (oW hw 18 rfl) e0 (g := (mkF m 1 #[rv x1, rv b1, iv 0, iv 0, .val .null, uu] [(.ref x1)])) rfl (by rw [hml]; rfl) rfl (hb hby own_d3_1) (by decide) (W := 0) (by show 2 * 0 + _ ≤ _; exact Nat.le_of_eq rfl) (by decide)
  refine ov (B := T1.setTop (mkF m 4 #[rv x1, rv b1, iv 0, iv 0, .val .null, uu] [])) (fun t k => st1 t k) ?_
  refine oILN (n := 5) X1 hx (hb hby own_d3_4) rfl rfl ?_
  have hc5 : (0 : Int32) = (0 : Int32) := by decide
  refine ov (B := T1.setTop (mkF m 8 #[rv x1, rv b1, iv 0, iv 0, .val .null, uu] [])) (fun t k => XS.ifNo X1.here hx rfl (hb hby own_d3_5) rfl ((if0 _ _).trans (teq hc5).2) k) ?_
  refine oALN (n := 9) X1 hx (hb hby own_d3_8) rfl rfl rfl ?_
  obtain ⟨c2, T2, h2, k2, t2, kt2, X2, e2, E2, hS2, hk2, hZ, hown, gE2, gC2, gV2, gA2, la2, lb2, hI2, hlit_c2, st2⟩ := ldcSVL X1 hx hZ hown (oW hw 19 rfl) wS e1 hS0 hk0 (Fr.nil _) (fun b cl q => by show s.heap[b]? = some cl; rw [hh]; exact O0.2.2 b cl q) hV (by simp) hch hcw (vs := ([] : List Int32).map Value.int) (z := (0 : Int32)) (by decide) (by decide) (by decide) (g := (mkF m 9 #[rv x1, rv b1, iv 0, iv 0, .val .null, uu] [(.ref x1)])) rfl (hb hby own_d3_9) (n := 0) (by decide) (by decide) (by decide) (by decide)
  refine ov (B := T2.setTop (mkF m 11 #[rv x1, rv b1, iv 0, iv 0, .val .null, uu] [(.ref c2), (.ref x1)])) (fun t k => st2 t k) ?_
  obtain ⟨T3, X3, e3, st3⟩ := getF X2 hx hZ hown (host := "") (Or.inl (oW hw 25 rfl)) Via.refl e2 gV2 (g := (mkF m 11 #[rv x1, rv b1, iv 0, iv 0, .val .null, uu] [(.ref c2), (.ref x1)])) rfl rfl (hb hby own_d3_11)
  refine ov (B := T3.setTop (mkF m 14 #[rv x1, rv b1, iv 0, iv 0, .val .null, uu] [(.ref t2), (.ref x1)])) (fun t k => st3 t k) ?_
  obtain ⟨T4, h4, X4, e4, W4, st4⟩ := putF X3 hx hZ hown (host := "") (Or.inl (oW hw 25 rfl)) Via.refl e3 (Fv.ext E2) (Ei.ext E2) (Or.inr ⟨(oW hw 21 rfl), rfl, hnm⟩) (oW hw 6 rfl) (ty := (.array .byte)) (by decide) rfl rfl (g := (mkF m 14 #[rv x1, rv b1, iv 0, iv 0, .val .null, uu] [(.ref t2), (.ref x1)])) rfl rfl (hb hby own_d3_14)
  have Fw4 := (Fv.ext E2).same W4
  have N4 := Fr.snoc X4 N0 g_x1
  refine ov (B := T4.setTop (mkF m 17 #[rv x1, rv b1, iv 0, iv 0, .val .null, uu] [])) (fun t k => st4 t k) ?_
  refine oALN (n := 18) X4 hx (hb hby own_d3_17) rfl rfl rfl ?_
  refine ov (B := T4.setTop (mkF m 20 #[rv x1, rv b1, iv 0, iv 0, .val .null, uu] [(.ref c2), (.ref x1)])) (fun t k => ldcAgain X4 hx hZ hown (oW hw 19 rfl) hlit_c2 (g := (mkF m 18 #[rv x1, rv b1, iv 0, iv 0, .val .null, uu] [(.ref x1)])) rfl (hb hby own_d3_18) t k) ?_
  obtain ⟨T5, X5, e5, st5⟩ := getF X4 hx hZ hown (host := "") (Or.inl (oW hw 26 rfl)) Via.refl e4 (gC2.other W4 (Or.inl (Fld.ne gV2 (Fv.ext E2) nofun))) (g := (mkF m 20 #[rv x1, rv b1, iv 0, iv 0, .val .null, uu] [(.ref c2), (.ref x1)])) rfl rfl (hb hby own_d3_20)
  refine ov (B := T5.setTop (mkF m 23 #[rv x1, rv b1, iv 0, iv 0, .val .null, uu] [(.int 0), (.ref x1)])) (fun t k => st5 t k) ?_
  obtain ⟨T6, h6, X6, e6, W6, st6⟩ := putFN X5 hx hZ hown (oW hw 26 rfl) Via.refl e5 ((Fc.ext E2).other W4 (Or.inr (slot_ne (Or.inr (oW hw 22 rfl)) (Or.inr (oW hw 21 rfl)) (by decide +kernel) (t := .byte) (t' := (.array .byte)) (by decide +kernel) (by decide +kernel)))) ((Ei.ext E2).wr W4) (Or.inr ⟨(oW hw 22 rfl), rfl, hnm⟩) (oW hw 6 rfl) (ty := .byte) (v' := (.int 0)) (by decide) (by decide) (by decide) (g := (mkF m 23 #[rv x1, rv b1, iv 0, iv 0, .val .null, uu] [(.int 0), (.ref x1)])) rfl rfl (hb hby own_d3_23)
  have Fw6 := ((Fc.ext E2).other W4 (Or.inr (slot_ne (Or.inr (oW hw 22 rfl)) (Or.inr (oW hw 21 rfl)) (by decide +kernel) (t := .byte) (t' := (.array .byte)) (by decide +kernel) (by decide +kernel)))).same W6
  have N6 := Fr.snoc X6 N4 g_x1
  refine ov (B := T6.setTop (mkF m 26 #[rv x1, rv b1, iv 0, iv 0, .val .null, uu] [])) (fun t k => st6 t k) ?_
  refine own_leafVV X6 hx hlk hS2 (by rw [e6]; exact (Nat.le_trans (Nat.le_trans hk2 (Keep.of_wr W4).1) (Keep.of_wr W6).1)) Bd.returns (hb hby own_d3_26) (by decide) (by decide) ?_
  show QEA Z x1 b1 u2 h0 n0 _ T6.heap _ T6.vm
  rw [e6]
  refine ⟨c2, t2, kt2, ?_, N6, ((((Keep.refl h0 [x1]).ext E2).wr W4 (Or.inl (List.mem_of_getElem? (i := 0) rfl))).wr W6 (Or.inl (List.mem_of_getElem? (i := 0) rfl))), ?_, Fw6, (Fw4.other W6 (Or.inr (slot_ne (Or.inr (oW hw 21 rfl)) (Or.inr (oW hw 22 rfl)) (by decide +kernel) (t := (.array .byte)) (t' := .byte) (by decide +kernel) (by decide +kernel)))), ((gE2.wr W4).wr W6), ((gC2.other W4 (Or.inl (Fld.ne gV2 (Fv.ext E2) nofun))).other W6 (Or.inl (Fld.ne gV2 (Fv.ext E2) nofun))), ((gV2.other W4 (Or.inl (Fld.ne gV2 (Fv.ext E2) nofun))).other W6 (Or.inl (Fld.ne gV2 (Fv.ext E2) nofun))), ((gA2.other W4 (Ne.symm (Exa.neArv (Ei.ext E2) gA2 (oW hw 6 rfl)))).other W6 (Ne.symm (Exa.neArv (Ei.ext E2) gA2 (oW hw 6 rfl))))⟩
  · rfl
  · exact own_litL (s := s) (vm := T2.vm) hlit_c2 X6.warmed
theorem own_efEB (m : MethodId) (x0 : Addr) (x1 : Addr) (x2 : Int32) (x3 : Int32) : entryFrame m #[(.ref x0), (.ref x1), (.int x2), (.int x3), .null] 6 = mkF m 0 #[rv x0, rv x1, iv x2, iv x3, .val .null, uu] [] := by first | (simp [entryFrame, mkF, argsToLocals, Value.category]; done) | rfl
def QEB (Z : State) (x1 : Addr) (b1 : Addr) (u2 : Value) (lc : Addr) (lt : Addr) (lk : ClassId) (h0 : Heap) (n0 : Nat) (v : Option Value) (h : Heap) (L : List Loc) : Prop := v = none ∧ Fr n0 L ∧ Keep h0 h [x1] ∧ (Fld Z h x1 sAA "coder" "B" (.int (0 : Int32))) ∧ (Fld Z h x1 sAA "value" "[B" (.ref lt))
set_option maxRecDepth 65536 in
set_option maxHeartbeats 40000000 in
theorem rmEB (l : Launch) (Z : State) (a0 : Array Value) (hw : ∀ d ∈ tables_1, d.before a0 Z = true) (ws : List Jvm.Cond) (x1 : Addr) (b1 : Addr) (u2 : Value) (lc : Addr) (lt : Addr) (lk : ClassId) (h0 : Heap) (n0 : Nat) (Z0 : n0 ≤ h0.size) (O0 : Old Z n0 h0) (Ei : Exa Z h0 x1 sAA) (Fv : Fld Z h0 x1 sAA "value" "[B" .null) (Fc : Fld Z h0 x1 sAA "coder" "B" u2) (g_x1 : n0 ≤ x1) (E_lc : Exa Z h0 lc sAA) (C_lc : Fld Z h0 lc sAA "coder" "B" (.int (0 : Int32))) (V_lc : Fld Z h0 lc sAA "value" "[B" (.ref lt)) (A_lc : Arv Z h0 lt lk .byte (0 : Int32) [] (.int (0 : Int32))) (nxl : x1 ≠ lc) :
    MetFree l (⟨sAA, "<init>", sAG⟩ : MethodName) (head1 (Jvm.Cond.code (⟨sAA, "<init>", sAG⟩ : MethodName) jdk_42_method_149_code 6 none :: ws) (oR 1 2 4 12)) (fun a U => a = #[(.ref x1), (.ref b1), (.int 0), (.int 0), .null] ∧ Z.Warmed39 U.vm ∧ U.heap = h0 ∧ (Lit (Z.setVm U.vm) sAA 7 lc)) (fun _ _ _ _ _ => True) (fun _ U o U' => ∃ v L, o = .returned v ∧ QEB Z x1 b1 u2 lc lt lk h0 n0 v U'.heap L ∧ ReturnedEndW U o U' L (oR 1 2 4 12).cells (oR 1 2 4 12).slots) := by
  refine MetFree.of_bodySF (plainFor_of_name own_pn1) hisR ?_
  intro p e s m args below meth c s₁ Bd hml0 hP hK
  obtain ⟨rfl, hZ, hh, hV⟩ := hP
  have hx := Bd.exec
  have hby := Bd.bytes
  have hlk : meth.locks = false := Bd.notSynchronized
  have hml : c.maxLocals = 6 := hml0
  have hown : s.vm.findClass sAA = some m.cls := findClass_of_methodNamed Bd.named
  have hnm := (name_of_methodNamed Bd.named Bd.method).1
  have X0 : Stand p l e (oR 1 2 4 12) (s.setVm s.vm) m #[(.ref x1), (.ref b1), (.int 0), (.int 0), .null] below meth c s₁ [] 0 0 := Stand.of_body Bd
  have e0 : s₁.heap = h0 := by rw [← hh, Bd.state]; rfl
  have N0 := Fr.nil n0
  have hS0 : s.Since s.vm h0.size := (State.WarmedH.refl s).since _
  have hk0 : h0.size ≤ h0.size := Nat.le_refl _
  have wS : ∀ a ∈ Bundle.stringAtoms, a.before a0 Z = true := by
    intro a ha
    simp only [Bundle.stringAtoms, List.mem_cons, List.not_mem_nil, or_false] at ha
    rcases ha with rfl | rfl | rfl | rfl | rfl | rfl | rfl
    · exact (oW hw 7 rfl)
    · exact (oW hw 6 rfl)
    · exact (oW hw 20 rfl)
    · exact (oW hw 21 rfl)
    · exact (oW hw 22 rfl)
    · exact (oW hw 23 rfl)
    · exact (oW hw 24 rfl)
  refine own_bodyW (A := s₁.setTop (mkF m 0 #[rv x1, rv b1, iv 0, iv 0, .val .null, uu] [])) (Q := QEB Z x1 b1 u2 lc lt lk h0 n0) (fun t k => castTop (own_efEB m x1 b1 (0 : Int32) (0 : Int32)) k) ?_
  refine oALN (n := 1) X0 hx (hb hby own_d3_0) rfl rfl rfl ?_
  obtain ⟨T1, X1, e1, st1⟩ := initO X0 hx hZ hown (oW hw 16 rfl) (oW hw 17 rfl) (oW hw 18 rfl) e0 (g := (mkF m 1 #[rv x1, rv b1, iv 0, iv 0, .val .null, uu] [(.ref x1)])) rfl (by rw [hml]; rfl) rfl (hb hby own_d3_1) (by decide) (W := 0) (by show 2 * 0 + _ ≤ _; exact Nat.le_of_eq rfl) (by decide)
  refine ov (B := T1.setTop (mkF m 4 #[rv x1, rv b1, iv 0, iv 0, .val .null, uu] [])) (fun t k => st1 t k) ?_
  refine oILN (n := 5) X1 hx (hb hby own_d3_4) rfl rfl ?_
  have hc5 : (0 : Int32) = (0 : Int32) := by decide
  refine ov (B := T1.setTop (mkF m 8 #[rv x1, rv b1, iv 0, iv 0, .val .null, uu] [])) (fun t k => XS.ifNo X1.here hx rfl (hb hby own_d3_5) rfl ((if0 _ _).trans (teq hc5).2) k) ?_
  refine oALN (n := 9) X1 hx (hb hby own_d3_8) rfl rfl rfl ?_
  refine ov (B := T1.setTop (mkF m 11 #[rv x1, rv b1, iv 0, iv 0, .val .null, uu] [(.ref lc), (.ref x1)])) (fun t k => ldcAgain X1 hx hZ hown (oW hw 19 rfl) hV (g := (mkF m 9 #[rv x1, rv b1, iv 0, iv 0, .val .null, uu] [(.ref x1)])) rfl (hb hby own_d3_9) t k) ?_
  obtain ⟨T2, X2, e2, st2⟩ := getF X1 hx hZ hown (host := "") (Or.inl (oW hw 25 rfl)) Via.refl e1 V_lc (g := (mkF m 11 #[rv x1, rv b1, iv 0, iv 0, .val .null, uu] [(.ref lc), (.ref x1)])) rfl rfl (hb hby own_d3_11)
  refine ov (B := T2.setTop (mkF m 14 #[rv x1, rv b1, iv 0, iv 0, .val .null, uu] [(.ref lt), (.ref x1)])) (fun t k => st2 t k) ?_
  obtain ⟨T3, h3, X3, e3, W3, st3⟩ := putF X2 hx hZ hown (host := "") (Or.inl (oW hw 25 rfl)) Via.refl e2 Fv Ei (Or.inr ⟨(oW hw 21 rfl), rfl, hnm⟩) (oW hw 6 rfl) (ty := (.array .byte)) (by decide) rfl rfl (g := (mkF m 14 #[rv x1, rv b1, iv 0, iv 0, .val .null, uu] [(.ref lt), (.ref x1)])) rfl rfl (hb hby own_d3_14)
  have Fw3 := Fv.same W3
  have N3 := Fr.snoc X3 N0 g_x1
  refine ov (B := T3.setTop (mkF m 17 #[rv x1, rv b1, iv 0, iv 0, .val .null, uu] [])) (fun t k => st3 t k) ?_
  refine oALN (n := 18) X3 hx (hb hby own_d3_17) rfl rfl rfl ?_
  refine ov (B := T3.setTop (mkF m 20 #[rv x1, rv b1, iv 0, iv 0, .val .null, uu] [(.ref lc), (.ref x1)])) (fun t k => ldcAgain X3 hx hZ hown (oW hw 19 rfl) hV (g := (mkF m 18 #[rv x1, rv b1, iv 0, iv 0, .val .null, uu] [(.ref x1)])) rfl (hb hby own_d3_18) t k) ?_
  obtain ⟨T4, X4, e4, st4⟩ := getF X3 hx hZ hown (host := "") (Or.inl (oW hw 26 rfl)) Via.refl e3 (C_lc.other W3 (Or.inl (Ne.symm nxl))) (g := (mkF m 20 #[rv x1, rv b1, iv 0, iv 0, .val .null, uu] [(.ref lc), (.ref x1)])) rfl rfl (hb hby own_d3_20)
  refine ov (B := T4.setTop (mkF m 23 #[rv x1, rv b1, iv 0, iv 0, .val .null, uu] [(.int 0), (.ref x1)])) (fun t k => st4 t k) ?_
  obtain ⟨T5, h5, X5, e5, W5, st5⟩ := putFN X4 hx hZ hown (oW hw 26 rfl) Via.refl e4 (Fc.other W3 (Or.inr (slot_ne (Or.inr (oW hw 22 rfl)) (Or.inr (oW hw 21 rfl)) (by decide +kernel) (t := .byte) (t' := (.array .byte)) (by decide +kernel) (by decide +kernel)))) (Ei.wr W3) (Or.inr ⟨(oW hw 22 rfl), rfl, hnm⟩) (oW hw 6 rfl) (ty := .byte) (v' := (.int 0)) (by decide) (by decide) (by decide) (g := (mkF m 23 #[rv x1, rv b1, iv 0, iv 0, .val .null, uu] [(.int 0), (.ref x1)])) rfl rfl (hb hby own_d3_23)
  have Fw5 := (Fc.other W3 (Or.inr (slot_ne (Or.inr (oW hw 22 rfl)) (Or.inr (oW hw 21 rfl)) (by decide +kernel) (t := .byte) (t' := (.array .byte)) (by decide +kernel) (by decide +kernel)))).same W5
  have N5 := Fr.snoc X5 N3 g_x1
  refine ov (B := T5.setTop (mkF m 26 #[rv x1, rv b1, iv 0, iv 0, .val .null, uu] [])) (fun t k => st5 t k) ?_
  refine own_leafVW X5 hx hlk hS0 (by rw [e5]; exact (Nat.le_trans (Nat.le_trans hk0 (Keep.of_wr W3).1) (Keep.of_wr W5).1)) Bd.returns (hb hby own_d3_26) (by decide) (by decide) ?_
  show QEB Z x1 b1 u2 lc lt lk h0 n0 _ T5.heap _
  rw [e5]
  refine ⟨?_, N5, (((Keep.refl h0 [x1]).wr W3 (Or.inl (List.mem_of_getElem? (i := 0) rfl))).wr W5 (Or.inl (List.mem_of_getElem? (i := 0) rfl))), Fw5, (Fw3.other W5 (Or.inr (slot_ne (Or.inr (oW hw 21 rfl)) (Or.inr (oW hw 22 rfl)) (by decide +kernel) (t := (.array .byte)) (t' := .byte) (by decide +kernel) (by decide +kernel))))⟩
  rfl
theorem own_efFA (m : MethodId) (x0 : Addr) (x1 : Addr) : entryFrame m #[(.ref x0), (.ref x1)] 2 = mkF m 0 #[rv x0, rv x1] [] := by first | (simp [entryFrame, mkF, argsToLocals, Value.category]; done) | rfl
def QFA (Z : State) (x1 : Addr) (b1 : Addr) (u2 : Value) (kc : ClassId) (h0 : Heap) (n0 : Nat) (v : Option Value) (h : Heap) (L : List Loc) (vm : Vm) : Prop := ∃ (lc : Addr) (lt : Addr) (lk : ClassId), v = none ∧ Fr n0 L ∧ Keep h0 h [x1] ∧ (Lit (Z.setVm vm) sAA 7 lc) ∧ (Fld Z h x1 sAA "coder" "B" (.int (0 : Int32))) ∧ (Fld Z h x1 sAA "value" "[B" (.ref lt)) ∧ (Exa Z h lc sAA) ∧ (Fld Z h lc sAA "coder" "B" (.int (0 : Int32))) ∧ (Fld Z h lc sAA "value" "[B" (.ref lt)) ∧ (Arv Z h lt lk .byte (0 : Int32) [] (.int (0 : Int32)))
set_option maxRecDepth 65536 in
set_option maxHeartbeats 40000000 in
theorem rmFA (l : Launch) (Z : State) (a0 : Array Value) (hw : ∀ d ∈ tables_1, d.before a0 Z = true) (ws : List Jvm.Cond) (x1 : Addr) (b1 : Addr) (u2 : Value) (kc : ClassId) (h0 : Heap) (n0 : Nat) (Z0 : n0 ≤ h0.size) (O0 : Old Z n0 h0) (hch : Jvm.Lit.constHeld Z sAA 7) (hcw : Jvm.Lit.compactW.before a0 Z = true) (Ei : Exa Z h0 x1 sAA) (Fv : Fld Z h0 x1 sAA "value" "[B" .null) (Fc : Fld Z h0 x1 sAA "coder" "B" u2) (g_x1 : n0 ≤ x1) (Vc : Arv Z h0 b1 kc .char (0 : Int32) [] (.int (0 : Int32))) :
    MetFree l (⟨sAA, "<init>", "([C)V"⟩ : MethodName) (head1 (Jvm.Cond.code (⟨sAA, "<init>", "([C)V"⟩ : MethodName) jdk_42_method_3_code 2 none :: ws) (oR 2 2 4 36)) (fun a U => a = #[(.ref x1), (.ref b1)] ∧ Z.Warmed39 U.vm ∧ U.heap = h0 ∧ (IB Z U.vm [])) (fun _ _ _ _ _ => True) (fun _ U o U' => ∃ v L, o = .returned v ∧ QFA Z x1 b1 u2 kc h0 n0 v U'.heap L U'.vm ∧ ReturnedEndW U o U' L (oR 2 2 4 36).cells (oR 2 2 4 36).slots) := by
  refine MetFree.of_bodySF (plainFor_of_name own_pn1) hisR ?_
  intro p e s m args below meth c s₁ Bd hml0 hP hK
  obtain ⟨rfl, hZ, hh, hV⟩ := hP
  have hx := Bd.exec
  have hby := Bd.bytes
  have hlk : meth.locks = false := Bd.notSynchronized
  have hml : c.maxLocals = 2 := hml0
  have hown : s.vm.findClass sAA = some m.cls := findClass_of_methodNamed Bd.named
  have hnm := (name_of_methodNamed Bd.named Bd.method).1
  have X0 : Stand p l e (oR 2 2 4 36) (s.setVm s.vm) m #[(.ref x1), (.ref b1)] below meth c s₁ [] 0 0 := Stand.of_body Bd
  have e0 : s₁.heap = h0 := by rw [← hh, Bd.state]; rfl
  have N0 := Fr.nil n0
  have hS0 : s.Since s.vm h0.size := (State.WarmedH.refl s).since _
  have hk0 : h0.size ≤ h0.size := Nat.le_refl _
  have wS : ∀ a ∈ Bundle.stringAtoms, a.before a0 Z = true := by
    intro a ha
    simp only [Bundle.stringAtoms, List.mem_cons, List.not_mem_nil, or_false] at ha
    rcases ha with rfl | rfl | rfl | rfl | rfl | rfl | rfl
    · exact (oW hw 7 rfl)
    · exact (oW hw 6 rfl)
    · exact (oW hw 20 rfl)
    · exact (oW hw 21 rfl)
    · exact (oW hw 22 rfl)
    · exact (oW hw 23 rfl)
    · exact (oW hw 24 rfl)
  refine own_bodyV (A := s₁.setTop (mkF m 0 #[rv x1, rv b1] [])) (Q := QFA Z x1 b1 u2 kc h0 n0) (fun t k => castTop (own_efFA m x1 b1) k) ?_
  refine oALN (n := 1) X0 hx (hb hby own_d2_0) rfl rfl rfl ?_
  refine oALN (n := 2) X0 hx (hb hby own_d2_1) rfl rfl rfl ?_
  refine oIC (n := 3) X0 hx (0 : Int32) (hb hby own_d2_2) (by decide) rfl ?_
  refine oALN (n := 4) X0 hx (hb hby own_d2_3) rfl rfl rfl ?_
  obtain ⟨cl1, Ar1, q1, S1, M1, H1, G1⟩ := id Vc
  refine ov (B := s₁.setTop (mkF m 5 #[rv x1, rv b1] [(.int 0), (.int 0), (.ref b1), (.ref x1)])) (fun t k => X0.arraylength hx (by rw [e0]; exact Ar1.1) (State.isArrayOf_alike hZ.alike Ar1.2.1) (g := (mkF m 4 #[rv x1, rv b1] [(.ref b1), (.int 0), (.ref b1), (.ref x1)])) rfl rfl (hb hby own_d2_4) _ (by rw [len_of S1 M1]; exact k)) ?_
  refine oNU (n := 6) X0 hx (hb hby own_d2_5) rfl ?_
  obtain ⟨_, _, ⟨T2, L2, k2, n2⟩, -, X2, hT2, gT2, ⟨Lc2, hQ2, l2, y2, z2⟩, st2⟩ := X0.specialBackS hx (y := (⟨sAA, "<init>", sAG⟩ : MethodName)) rfl hown (mvT hZ (oW hw 12 rfl)) (mvT hZ (oW hw 13 rfl)) (mvT hZ (oW hw 15 rfl)) (by decide) (own_backV (VP := fun vm'' => IB Z vm'' []) (W := 0) (rmEA l Z a0 hw [] x1 b1 u2 h0 n0 Z0 O0 (by assumption) (by assumption) Ei Fv Fc g_x1) (fun vm'' hW'' => own_ibW (s := (s.setVm s.vm)) hV hW'') hZ (oW hw 15 rfl) (oW hw 7 rfl) (by decide) (by decide)) (g := (mkF m 6 #[rv x1, rv b1] [.null, (.int 0), (.int 0), (.ref b1), (.ref x1)])) rfl (by rw [hml]; rfl) (Steps.refl _) (a := x1) (argsL := [(.ref b1), (.int 0), (.int 0), .null]) (rest := []) (lenOf own_pd7 rfl) rfl (by show 2 * 0 + _ ≤ _; exact Nat.le_of_eq rfl) (hb hby own_d2_6) (fun _ _ => ⟨rfl, e0, (by decide : 0 + 2 ≤ _), (by decide : 0 + 4 ≤ _)⟩)
  dsimp only [Pt.U, Pt.locs, Pt.cells, Pt.slots] at X2 l2 y2 z2 st2 hQ2 hT2 gT2
  subst l2 y2 z2
  obtain ⟨X2, hS2, hZ, hown⟩ := rebS hS0 (by rw [e0]; exact hk0) X2 hT2 gT2 hZ hown
  obtain ⟨lc_2, lt_2, lk_2, rfl, Nq2, Kq2, vL_2, f2_0, f2_1, f2_2, f2_3, f2_4, f2_5⟩ := hQ2
  have N2 := Fr.app N0 Nq2
  refine ov (B := T2.setTop (mkF m 9 #[rv x1, rv b1] [])) (fun t k => st2.trans k) ?_
  refine own_leafVV X2 hx hlk hS2 (Nat.le_refl _) Bd.returns (hb hby own_d2_9) (by decide) (by decide) ?_
  show QFA Z x1 b1 u2 kc h0 n0 _ T2.heap _ T2.vm
  refine ⟨lc_2, lt_2, lk_2, ?_, N2, ((Keep.refl h0 [x1]).trans Kq2 (allS (Or.inl (List.mem_of_getElem? (i := 0) rfl)) all0)), ?_, f2_0, f2_1, f2_2, f2_3, f2_4, f2_5⟩
  · rfl
  · exact own_litL (s := s) (vm := T2.vm) vL_2 X2.warmed
theorem own_efFB (m : MethodId) (x0 : Addr) (x1 : Addr) : entryFrame m #[(.ref x0), (.ref x1)] 2 = mkF m 0 #[rv x0, rv x1] [] := by first | (simp [entryFrame, mkF, argsToLocals, Value.category]; done) | rfl
def QFB (Z : State) (x1 : Addr) (b1 : Addr) (u2 : Value) (kc : ClassId) (lc : Addr) (lt : Addr) (lk : ClassId) (h0 : Heap) (n0 : Nat) (v : Option Value) (h : Heap) (L : List Loc) : Prop := v = none ∧ Fr n0 L ∧ Keep h0 h [x1] ∧ (Fld Z h x1 sAA "coder" "B" (.int (0 : Int32))) ∧ (Fld Z h x1 sAA "value" "[B" (.ref lt))
set_option maxRecDepth 65536 in
set_option maxHeartbeats 40000000 in
theorem rmFB (l : Launch) (Z : State) (a0 : Array Value) (hw : ∀ d ∈ tables_1, d.before a0 Z = true) (ws : List Jvm.Cond) (x1 : Addr) (b1 : Addr) (u2 : Value) (kc : ClassId) (lc : Addr) (lt : Addr) (lk : ClassId) (h0 : Heap) (n0 : Nat) (Z0 : n0 ≤ h0.size) (O0 : Old Z n0 h0) (Ei : Exa Z h0 x1 sAA) (Fv : Fld Z h0 x1 sAA "value" "[B" .null) (Fc : Fld Z h0 x1 sAA "coder" "B" u2) (g_x1 : n0 ≤ x1) (Vc : Arv Z h0 b1 kc .char (0 : Int32) [] (.int (0 : Int32))) (E_lc : Exa Z h0 lc sAA) (C_lc : Fld Z h0 lc sAA "coder" "B" (.int (0 : Int32))) (V_lc : Fld Z h0 lc sAA "value" "[B" (.ref lt)) (A_lc : Arv Z h0 lt lk .byte (0 : Int32) [] (.int (0 : Int32))) (nxl : x1 ≠ lc) :
    MetFree l (⟨sAA, "<init>", "([C)V"⟩ : MethodName) (head1 (Jvm.Cond.code (⟨sAA, "<init>", "([C)V"⟩ : MethodName) jdk_42_method_3_code 2 none :: ws) (oR 2 2 4 36)) (fun a U => a = #[(.ref x1), (.ref b1)] ∧ Z.Warmed39 U.vm ∧ U.heap = h0 ∧ (Lit (Z.setVm U.vm) sAA 7 lc)) (fun _ _ _ _ _ => True) (fun _ U o U' => ∃ v L, o = .returned v ∧ QFB Z x1 b1 u2 kc lc lt lk h0 n0 v U'.heap L ∧ ReturnedEndW U o U' L (oR 2 2 4 36).cells (oR 2 2 4 36).slots) := by
  refine MetFree.of_bodySF (plainFor_of_name own_pn1) hisR ?_
  intro p e s m args below meth c s₁ Bd hml0 hP hK
  obtain ⟨rfl, hZ, hh, hV⟩ := hP
  have hx := Bd.exec
  have hby := Bd.bytes
  have hlk : meth.locks = false := Bd.notSynchronized
  have hml : c.maxLocals = 2 := hml0
  have hown : s.vm.findClass sAA = some m.cls := findClass_of_methodNamed Bd.named
  have hnm := (name_of_methodNamed Bd.named Bd.method).1
  have X0 : Stand p l e (oR 2 2 4 36) (s.setVm s.vm) m #[(.ref x1), (.ref b1)] below meth c s₁ [] 0 0 := Stand.of_body Bd
  have e0 : s₁.heap = h0 := by rw [← hh, Bd.state]; rfl
  have N0 := Fr.nil n0
  have hS0 : s.Since s.vm h0.size := (State.WarmedH.refl s).since _
  have hk0 : h0.size ≤ h0.size := Nat.le_refl _
  have wS : ∀ a ∈ Bundle.stringAtoms, a.before a0 Z = true := by
    intro a ha
    simp only [Bundle.stringAtoms, List.mem_cons, List.not_mem_nil, or_false] at ha
    rcases ha with rfl | rfl | rfl | rfl | rfl | rfl | rfl
    · exact (oW hw 7 rfl)
    · exact (oW hw 6 rfl)
    · exact (oW hw 20 rfl)
    · exact (oW hw 21 rfl)
    · exact (oW hw 22 rfl)
    · exact (oW hw 23 rfl)
    · exact (oW hw 24 rfl)
  refine own_bodyW (A := s₁.setTop (mkF m 0 #[rv x1, rv b1] [])) (Q := QFB Z x1 b1 u2 kc lc lt lk h0 n0) (fun t k => castTop (own_efFB m x1 b1) k) ?_
  refine oALN (n := 1) X0 hx (hb hby own_d2_0) rfl rfl rfl ?_
  refine oALN (n := 2) X0 hx (hb hby own_d2_1) rfl rfl rfl ?_
  refine oIC (n := 3) X0 hx (0 : Int32) (hb hby own_d2_2) (by decide) rfl ?_
  refine oALN (n := 4) X0 hx (hb hby own_d2_3) rfl rfl rfl ?_
  obtain ⟨cl1, Ar1, q1, S1, M1, H1, G1⟩ := id Vc
  refine ov (B := s₁.setTop (mkF m 5 #[rv x1, rv b1] [(.int 0), (.int 0), (.ref b1), (.ref x1)])) (fun t k => X0.arraylength hx (by rw [e0]; exact Ar1.1) (State.isArrayOf_alike hZ.alike Ar1.2.1) (g := (mkF m 4 #[rv x1, rv b1] [(.ref b1), (.int 0), (.ref b1), (.ref x1)])) rfl rfl (hb hby own_d2_4) _ (by rw [len_of S1 M1]; exact k)) ?_
  refine oNU (n := 6) X0 hx (hb hby own_d2_5) rfl ?_
  obtain ⟨_, _, ⟨T2, L2, k2, n2⟩, -, X2, hT2, gT2, ⟨Lc2, hQ2, l2, y2, z2⟩, st2⟩ := X0.specialBackS hx (y := (⟨sAA, "<init>", sAG⟩ : MethodName)) rfl hown (mvT hZ (oW hw 12 rfl)) (mvT hZ (oW hw 13 rfl)) (mvT hZ (oW hw 15 rfl)) (by decide) (own_backP (VP := fun vm'' => Lit (Z.setVm vm'') sAA 7 lc) (W := 0) (rmEB l Z a0 hw [] x1 b1 u2 lc lt lk h0 n0 Z0 O0 Ei Fv Fc g_x1 E_lc C_lc V_lc A_lc nxl) (fun vm'' hW'' => own_litL (s := s) (vm := s.vm) hV hW'') hZ (oW hw 15 rfl) (oW hw 7 rfl) (by decide) (by decide)) (g := (mkF m 6 #[rv x1, rv b1] [.null, (.int 0), (.int 0), (.ref b1), (.ref x1)])) rfl (by rw [hml]; rfl) (Steps.refl _) (a := x1) (argsL := [(.ref b1), (.int 0), (.int 0), .null]) (rest := []) (lenOf own_pd7 rfl) rfl (by show 2 * 0 + _ ≤ _; exact Nat.le_of_eq rfl) (hb hby own_d2_6) (fun _ _ => ⟨rfl, e0, (by decide : 0 + 2 ≤ _), (by decide : 0 + 4 ≤ _)⟩)
  dsimp only [Pt.U, Pt.locs, Pt.cells, Pt.slots] at X2 l2 y2 z2 st2 hQ2 hT2 gT2
  subst l2 y2 z2
  obtain ⟨X2, hS2, hZ, hown⟩ := rebS hS0 (by rw [e0]; exact hk0) X2 hT2 gT2 hZ hown
  have hlit2_lc := Lit.stays (s := s) hV hT2.1
  obtain ⟨rfl, Nq2, Kq2, f2_0, f2_1⟩ := hQ2
  have N2 := Fr.app N0 Nq2
  refine ov (B := T2.setTop (mkF m 9 #[rv x1, rv b1] [])) (fun t k => st2.trans k) ?_
  refine own_leafVW X2 hx hlk hS2 (Nat.le_refl _) Bd.returns (hb hby own_d2_9) (by decide) (by decide) ?_
  show QFB Z x1 b1 u2 kc lc lt lk h0 n0 _ T2.heap _
  refine ⟨?_, N2, ((Keep.refl h0 [x1]).trans Kq2 (allS (Or.inl (List.mem_of_getElem? (i := 0) rfl)) all0)), f2_0, f2_1⟩
  rfl
theorem own_d1_25 : decode method_2_code 25 = .ok (.new 8, 3) := by decide +kernel
theorem own_d1_28 : decode method_2_code 28 = .ok (.dup, 1) := by decide +kernel
theorem own_d1_29 : decode method_2_code 29 = .ok (.iconst 0, 1) := by decide +kernel
theorem own_d1_30 : decode method_2_code 30 = .ok (.newarray .char, 2) := by decide +kernel
theorem own_d1_32 : decode method_2_code 32 = .ok (.invokespecial 10, 3) := by decide +kernel
theorem own_d1_35 : decode method_2_code 35 = .ok (.areturn, 1) := by decide +kernel
theorem own_efKA (m : MethodId) (x0 : Int32) (x1 : Int32) (x2 : Int32) (x3 : Int32) : entryFrame m #[(.int x0), (.int x1), (.int x2), (.int x3)] 7 = mkF m 0 #[iv x0, iv x1, iv x2, iv x3, uu, uu, uu] [] := by first | (simp [entryFrame, mkF, argsToLocals, Value.category]; done) | rfl
def QKA (Z : State) (xK : Int32) (yK : Int32) (zK : Int32) (h0 : Heap) (n0 : Nat) (v : Option Value) (h : Heap) (L : List Loc) (vm : Vm) : Prop := ∃ (r : Addr) (lc : Addr) (lt : Addr) (lk : ClassId), v = some (.ref r) ∧ Fr n0 L ∧ Keep h0 h [] ∧ (h0.size ≤ r) ∧ (Lit (Z.setVm vm) sAA 7 lc) ∧ (Exa Z h r sAA) ∧ (Fld Z h r sAA "coder" "B" (.int (0 : Int32))) ∧ (Fld Z h r sAA "value" "[B" (.ref lt)) ∧ (Exa Z h lc sAA) ∧ (Fld Z h lc sAA "coder" "B" (.int (0 : Int32))) ∧ (Fld Z h lc sAA "value" "[B" (.ref lt)) ∧ (Arv Z h lt lk .byte (0 : Int32) [] (.int (0 : Int32)))
set_option maxRecDepth 65536 in
set_option maxHeartbeats 40000000 in
theorem rmKA (l : Launch) (Z : State) (a0 : Array Value) (hw : ∀ d ∈ tables_1, d.before a0 Z = true) (ws : List Jvm.Cond) (xK : Int32) (yK : Int32) (zK : Int32) (h0 : Heap) (n0 : Nat) (Z0 : n0 ≤ h0.size) (O0 : Old Z n0 h0) (hch : Jvm.Lit.constHeld Z sAA 7) (hcw : Jvm.Lit.compactW.before a0 Z = true) :
    MetFree l (⟨sAD, "make", sAF⟩ : MethodName) (head1 (Jvm.Cond.code (⟨sAD, "make", sAF⟩ : MethodName) method_2_code 7 (some (.object sAA)) :: ws) (oR 3 4 8 60)) (fun a U => a = #[(.int 0), (.int xK), (.int yK), (.int zK)] ∧ Z.Warmed39 U.vm ∧ U.heap = h0 ∧ (IB Z U.vm [])) (fun _ _ _ _ _ => True) (fun _ U o U' => ∃ v L, o = .returned v ∧ QKA Z xK yK zK h0 n0 v U'.heap L U'.vm ∧ ReturnedEndW U o U' L (oR 3 4 8 60).cells (oR 3 4 8 60).slots) := by
  refine MetFree.of_bodySF (plainFor_of_name own_pn2) hisR ?_
  intro p e s m args below meth c s₁ Bd hml0 hP hK
  obtain ⟨rfl, hZ, hh, hV⟩ := hP
  have hx := Bd.exec
  have hby := Bd.bytes
  have hlk : meth.locks = false := Bd.notSynchronized
  have hml : c.maxLocals = 7 := hml0
  have hown : s.vm.findClass sAD = some m.cls := findClass_of_methodNamed Bd.named
  have hnm := (name_of_methodNamed Bd.named Bd.method).1
  have X0 : Stand p l e (oR 3 4 8 60) (s.setVm s.vm) m #[(.int 0), (.int xK), (.int yK), (.int zK)] below meth c s₁ [] 0 0 := Stand.of_body Bd
  have e0 : s₁.heap = h0 := by rw [← hh, Bd.state]; rfl
  have N0 := Fr.nil n0
  have hS0 : s.Since s.vm h0.size := (State.WarmedH.refl s).since _
  have hk0 : h0.size ≤ h0.size := Nat.le_refl _
  have wS : ∀ a ∈ Bundle.stringAtoms, a.before a0 Z = true := by
    intro a ha
    simp only [Bundle.stringAtoms, List.mem_cons, List.not_mem_nil, or_false] at ha
    rcases ha with rfl | rfl | rfl | rfl | rfl | rfl | rfl
    · exact (oW hw 7 rfl)
    · exact (oW hw 6 rfl)
    · exact (oW hw 20 rfl)
    · exact (oW hw 21 rfl)
    · exact (oW hw 22 rfl)
    · exact (oW hw 23 rfl)
    · exact (oW hw 24 rfl)
  refine own_bodyV (A := s₁.setTop (mkF m 0 #[iv 0, iv xK, iv yK, iv zK, uu, uu, uu] [])) (Q := QKA Z xK yK zK h0 n0) (fun t k => castTop (own_efKA m (0 : Int32) xK yK zK) k) ?_
  refine oILN (n := 1) X0 hx (hb hby own_d1_0) rfl rfl ?_
  refine ov (B := s₁.setTop (mkF m 3 #[iv 0, iv xK, iv yK, iv zK, uu, uu, uu] [(.int 65535), (.int xK)])) (fun t k => X0.ldcInt hx hown (mvT hZ (oW hw 4 rfl)) (g := (mkF m 1 #[iv 0, iv xK, iv yK, iv zK, uu, uu, uu] [(.int xK)])) rfl (hb hby own_d1_1) _ k) ?_
  refine ov (B := s₁.setTop (mkF m 4 #[iv 0, iv xK, iv yK, iv zK, uu, uu, uu] [(.int (xK &&& (65535 : Int32)))])) (fun t k => XS.iand X0.here hx rfl (hb hby own_d1_3) rfl k) ?_
  refine ov (B := s₁.setTop (mkF m 5 #[iv 0, iv xK, iv yK, iv zK, uu, uu, uu] [(.int ((xK &&& (65535 : Int32)).toUInt32.toUInt16.toUInt32.toInt32))])) (fun t k => XS.i2c X0.here hx rfl (hb hby own_d1_4) rfl k) ?_
  refine ov (B := s₁.setTop (mkF m 7 #[iv 0, iv xK, iv yK, iv zK, iv ((xK &&& (65535 : Int32)).toUInt32.toUInt16.toUInt32.toInt32), uu, uu] [])) (fun t k => XS.istore X0.here hx rfl (hb hby own_d1_5) rfl (l' := #[iv 0, iv xK, iv yK, iv zK, iv ((xK &&& (65535 : Int32)).toUInt32.toUInt16.toUInt32.toInt32), uu, uu]) rfl k) ?_
  refine oILN (n := 8) X0 hx (hb hby own_d1_7) rfl rfl ?_
  refine ov (B := s₁.setTop (mkF m 10 #[iv 0, iv xK, iv yK, iv zK, iv ((xK &&& (65535 : Int32)).toUInt32.toUInt16.toUInt32.toInt32), uu, uu] [(.int 65535), (.int yK)])) (fun t k => X0.ldcInt hx hown (mvT hZ (oW hw 4 rfl)) (g := (mkF m 8 #[iv 0, iv xK, iv yK, iv zK, iv ((xK &&& (65535 : Int32)).toUInt32.toUInt16.toUInt32.toInt32), uu, uu] [(.int yK)])) rfl (hb hby own_d1_8) _ k) ?_
  refine ov (B := s₁.setTop (mkF m 11 #[iv 0, iv xK, iv yK, iv zK, iv ((xK &&& (65535 : Int32)).toUInt32.toUInt16.toUInt32.toInt32), uu, uu] [(.int (yK &&& (65535 : Int32)))])) (fun t k => XS.iand X0.here hx rfl (hb hby own_d1_10) rfl k) ?_
  refine ov (B := s₁.setTop (mkF m 12 #[iv 0, iv xK, iv yK, iv zK, iv ((xK &&& (65535 : Int32)).toUInt32.toUInt16.toUInt32.toInt32), uu, uu] [(.int ((yK &&& (65535 : Int32)).toUInt32.toUInt16.toUInt32.toInt32))])) (fun t k => XS.i2c X0.here hx rfl (hb hby own_d1_11) rfl k) ?_
  refine ov (B := s₁.setTop (mkF m 14 #[iv 0, iv xK, iv yK, iv zK, iv ((xK &&& (65535 : Int32)).toUInt32.toUInt16.toUInt32.toInt32), iv ((yK &&& (65535 : Int32)).toUInt32.toUInt16.toUInt32.toInt32), uu] [])) (fun t k => XS.istore X0.here hx rfl (hb hby own_d1_12) rfl (l' := #[iv 0, iv xK, iv yK, iv zK, iv ((xK &&& (65535 : Int32)).toUInt32.toUInt16.toUInt32.toInt32), iv ((yK &&& (65535 : Int32)).toUInt32.toUInt16.toUInt32.toInt32), uu]) rfl k) ?_
  refine oILN (n := 15) X0 hx (hb hby own_d1_14) rfl rfl ?_
  refine ov (B := s₁.setTop (mkF m 17 #[iv 0, iv xK, iv yK, iv zK, iv ((xK &&& (65535 : Int32)).toUInt32.toUInt16.toUInt32.toInt32), iv ((yK &&& (65535 : Int32)).toUInt32.toUInt16.toUInt32.toInt32), uu] [(.int 65535), (.int zK)])) (fun t k => X0.ldcInt hx hown (mvT hZ (oW hw 4 rfl)) (g := (mkF m 15 #[iv 0, iv xK, iv yK, iv zK, iv ((xK &&& (65535 : Int32)).toUInt32.toUInt16.toUInt32.toInt32), iv ((yK &&& (65535 : Int32)).toUInt32.toUInt16.toUInt32.toInt32), uu] [(.int zK)])) rfl (hb hby own_d1_15) _ k) ?_
  refine ov (B := s₁.setTop (mkF m 18 #[iv 0, iv xK, iv yK, iv zK, iv ((xK &&& (65535 : Int32)).toUInt32.toUInt16.toUInt32.toInt32), iv ((yK &&& (65535 : Int32)).toUInt32.toUInt16.toUInt32.toInt32), uu] [(.int (zK &&& (65535 : Int32)))])) (fun t k => XS.iand X0.here hx rfl (hb hby own_d1_17) rfl k) ?_
  refine ov (B := s₁.setTop (mkF m 19 #[iv 0, iv xK, iv yK, iv zK, iv ((xK &&& (65535 : Int32)).toUInt32.toUInt16.toUInt32.toInt32), iv ((yK &&& (65535 : Int32)).toUInt32.toUInt16.toUInt32.toInt32), uu] [(.int ((zK &&& (65535 : Int32)).toUInt32.toUInt16.toUInt32.toInt32))])) (fun t k => XS.i2c X0.here hx rfl (hb hby own_d1_18) rfl k) ?_
  refine ov (B := s₁.setTop (mkF m 21 #[iv 0, iv xK, iv yK, iv zK, iv ((xK &&& (65535 : Int32)).toUInt32.toUInt16.toUInt32.toInt32), iv ((yK &&& (65535 : Int32)).toUInt32.toUInt16.toUInt32.toInt32), iv ((zK &&& (65535 : Int32)).toUInt32.toUInt16.toUInt32.toInt32)] [])) (fun t k => XS.istore X0.here hx rfl (hb hby own_d1_19) rfl (l' := #[iv 0, iv xK, iv yK, iv zK, iv ((xK &&& (65535 : Int32)).toUInt32.toUInt16.toUInt32.toInt32), iv ((yK &&& (65535 : Int32)).toUInt32.toUInt16.toUInt32.toInt32), iv ((zK &&& (65535 : Int32)).toUInt32.toUInt16.toUInt32.toInt32)]) rfl k) ?_
  show own_Go p e below (s₁.setTop (mkF m 21 #[iv 0, iv xK, iv yK, iv zK, iv (own_m xK), iv (own_m yK), iv (own_m zK)] [])) _
  refine oILN (n := 22) X0 hx (hb hby own_d1_21) rfl rfl ?_
  have hc22 : (0 : Int32) = (0 : Int32) := by decide
  refine ov (B := s₁.setTop (mkF m 25 #[iv 0, iv xK, iv yK, iv zK, iv (own_m xK), iv (own_m yK), iv (own_m zK)] [])) (fun t k => XS.ifNo X0.here hx rfl (hb hby own_d1_22) rfl ((if0 _ _).trans (teq hc22).2) k) ?_
  obtain ⟨T1, h1, X1, e1, E1, A1, D1, -, st1⟩ := newO X0 hx hZ hown (oW hw 5 rfl) (oW hw 6 rfl) (oW hw 7 rfl) e0 (g := (mkF m 25 #[iv 0, iv xK, iv yK, iv zK, iv (own_m xK), iv (own_m yK), iv (own_m zK)] [])) rfl (hb hby own_d1_25) (by decide) (by decide)
  obtain ⟨b1, g1⟩ : ∃ z, z = h0.size := ⟨_, rfl⟩
  rw [← g1] at A1 D1 st1
  have g_b1 : n0 ≤ b1 := Nat.le_trans Z0 (Nat.le_of_eq g1.symm)
  have F1_value : Fld Z h1 b1 sAA "value" "[B" .null := D1 (Or.inr (oW hw 21 rfl)) (ty := (.array .byte)) (by decide)
  have F1_coder : Fld Z h1 b1 sAA "coder" "B" (.int 0) := D1 (Or.inr (oW hw 22 rfl)) (ty := .byte) (by decide)
  refine ov (B := T1.setTop (mkF m 28 #[iv 0, iv xK, iv yK, iv zK, iv (own_m xK), iv (own_m yK), iv (own_m zK)] [(.ref b1)])) (fun t k => st1 t k) ?_
  refine oDU (n := 29) X1 hx (hb hby own_d1_28) rfl rfl ?_
  refine oIC (n := 30) X1 hx (0 : Int32) (hb hby own_d1_29) (by decide) rfl ?_
  obtain ⟨T2, h2, kc2, X2, e2, E2, A2, st2⟩ := newP X1 hx hZ (oW hw 8 rfl) e1 (g := (mkF m 30 #[iv 0, iv xK, iv yK, iv zK, iv (own_m xK), iv (own_m yK), iv (own_m zK)] [(.int 0), (.ref b1), (.ref b1)])) rfl (hb hby own_d1_30) rfl (by decide) (cap := 0) (by decide) (by decide) (by decide) (by decide)
  obtain ⟨b2, g2⟩ : ∃ z, z = h1.size := ⟨_, rfl⟩
  rw [← g2] at A2 st2
  have g_b2 : n0 ≤ b2 := Nat.le_trans (Nat.le_trans Z0 E1.1) (Nat.le_of_eq g2.symm)
  have V2 : Arv Z h2 b2 kc2 .char (0 : Int32) [] (.int 0) := (Arv.new A2 (by decide)).pad (pad_rep [] (.int 0) 0)
  refine ov (B := T2.setTop (mkF m 32 #[iv 0, iv xK, iv yK, iv zK, iv (own_m xK), iv (own_m yK), iv (own_m zK)] [(.ref b2), (.ref b1), (.ref b1)])) (fun t k => st2 t k) ?_
  obtain ⟨_, _, ⟨T3, L3, k3, n3⟩, -, X3, hT3, gT3, ⟨Lc3, hQ3, l3, y3, z3⟩, st3⟩ := X2.specialBackS hx (y := (⟨sAA, "<init>", "([C)V"⟩ : MethodName)) rfl hown (mvT hZ (oW hw 9 rfl)) (mvT hZ (oW hw 10 rfl)) (mvT hZ (oW hw 11 rfl)) (by decide) (own_backV (VP := fun vm'' => IB Z vm'' []) (W := 1) (rmFA l Z a0 hw [] b1 b2 (.int 0) kc2 h2 n0 (Nat.le_trans (Nat.le_trans Z0 E1.1) E2.1) ((O0.ext E1).ext E2) (by assumption) (by assumption) (A1.ext E2) (F1_value.ext E2) (F1_coder.ext E2) g_b1 V2) (fun vm'' hW'' => own_ibW (s := (s.setVm s.vm)) hV hW'') hZ (oW hw 11 rfl) (oW hw 7 rfl) (by decide) (by decide)) (g := (mkF m 32 #[iv 0, iv xK, iv yK, iv zK, iv (own_m xK), iv (own_m yK), iv (own_m zK)] [(.ref b2), (.ref b1), (.ref b1)])) rfl (by rw [hml]; rfl) (Steps.refl _) (a := b1) (argsL := [(.ref b2)]) (rest := [(.ref b1)]) (lenOf own_pd8 rfl) rfl (by show 2 * 0 + _ ≤ _; exact Nat.le_of_eq rfl) (hb hby own_d1_32) (fun _ _ => ⟨rfl, e2, (by decide : ((0 + 1) + 1) + 2 ≤ _), (by decide : ((0 + 4) + 0) + 4 ≤ _)⟩)
  dsimp only [Pt.U, Pt.locs, Pt.cells, Pt.slots] at X3 l3 y3 z3 st3 hQ3 hT3 gT3
  subst l3 y3 z3
  obtain ⟨X3, hS3, hZ, hown⟩ := rebS hS0 (by rw [e2]; exact (Nat.le_trans (Nat.le_trans hk0 E1.1) E2.1)) X3 hT3 gT3 hZ hown
  obtain ⟨lc_3, lt_3, lk_3, rfl, Nq3, Kq3, vL_3, f3_0, f3_1, f3_2, f3_3, f3_4, f3_5⟩ := hQ3
  have N3 := Fr.app N0 Nq3
  refine ov (B := T3.setTop (mkF m 35 #[iv 0, iv xK, iv yK, iv zK, iv (own_m xK), iv (own_m yK), iv (own_m zK)] [(.ref b1)])) (fun t k => st3.trans k) ?_
  refine own_leafXV X3 hx hlk hS3 (Nat.le_refl _) (t := (.object sAA)) Bd.returns rfl (Or.inr (Or.inr (Or.inr (Or.inr ⟨rfl, rfl, rfl⟩)))) (hb hby own_d1_35) (by decide) (by decide) ?_
  show QKA Z xK yK zK h0 n0 _ T3.heap _ T3.vm
  refine ⟨b1, lc_3, lt_3, lk_3, ?_, N3, ((((Keep.refl h0 []).ext E1).ext E2).trans Kq3 (allS (Or.inr (Nat.le_of_eq g1.symm)) all0)), ?_, ?_, ((A1.ext E2).keep Kq3), f3_0, f3_1, f3_2, f3_3, f3_4, f3_5⟩
  · rfl
  · exact (Nat.le_of_eq g1.symm)
  · exact own_litL (s := s) (vm := T3.vm) vL_3 X3.warmed
theorem own_efKB (m : MethodId) (x0 : Int32) (x1 : Int32) (x2 : Int32) (x3 : Int32) : entryFrame m #[(.int x0), (.int x1), (.int x2), (.int x3)] 7 = mkF m 0 #[iv x0, iv x1, iv x2, iv x3, uu, uu, uu] [] := by first | (simp [entryFrame, mkF, argsToLocals, Value.category]; done) | rfl
def QKB (Z : State) (xK : Int32) (yK : Int32) (zK : Int32) (lc : Addr) (lt : Addr) (lk : ClassId) (h0 : Heap) (n0 : Nat) (v : Option Value) (h : Heap) (L : List Loc) : Prop := ∃ (r : Addr), v = some (.ref r) ∧ Fr n0 L ∧ Keep h0 h [] ∧ (h0.size ≤ r) ∧ (Exa Z h r sAA) ∧ (Fld Z h r sAA "coder" "B" (.int (0 : Int32))) ∧ (Fld Z h r sAA "value" "[B" (.ref lt))
set_option maxRecDepth 65536 in
set_option maxHeartbeats 40000000 in
theorem rmKB (l : Launch) (Z : State) (a0 : Array Value) (hw : ∀ d ∈ tables_1, d.before a0 Z = true) (ws : List Jvm.Cond) (xK : Int32) (yK : Int32) (zK : Int32) (lc : Addr) (lt : Addr) (lk : ClassId) (h0 : Heap) (n0 : Nat) (Z0 : n0 ≤ h0.size) (O0 : Old Z n0 h0) (E_lc : Exa Z h0 lc sAA) (C_lc : Fld Z h0 lc sAA "coder" "B" (.int (0 : Int32))) (V_lc : Fld Z h0 lc sAA "value" "[B" (.ref lt)) (A_lc : Arv Z h0 lt lk .byte (0 : Int32) [] (.int (0 : Int32))) :
    MetFree l (⟨sAD, "make", sAF⟩ : MethodName) (head1 (Jvm.Cond.code (⟨sAD, "make", sAF⟩ : MethodName) method_2_code 7 (some (.object sAA)) :: ws) (oR 3 4 8 60)) (fun a U => a = #[(.int 0), (.int xK), (.int yK), (.int zK)] ∧ Z.Warmed39 U.vm ∧ U.heap = h0 ∧ (Lit (Z.setVm U.vm) sAA 7 lc)) (fun _ _ _ _ _ => True) (fun _ U o U' => ∃ v L, o = .returned v ∧ QKB Z xK yK zK lc lt lk h0 n0 v U'.heap L ∧ ReturnedEndW U o U' L (oR 3 4 8 60).cells (oR 3 4 8 60).slots) := by
  refine MetFree.of_bodySF (plainFor_of_name own_pn2) hisR ?_
  intro p e s m args below meth c s₁ Bd hml0 hP hK
  obtain ⟨rfl, hZ, hh, hV⟩ := hP
  have hx := Bd.exec
  have hby := Bd.bytes
  have hlk : meth.locks = false := Bd.notSynchronized
  have hml : c.maxLocals = 7 := hml0
  have hown : s.vm.findClass sAD = some m.cls := findClass_of_methodNamed Bd.named
  have hnm := (name_of_methodNamed Bd.named Bd.method).1
  have X0 : Stand p l e (oR 3 4 8 60) (s.setVm s.vm) m #[(.int 0), (.int xK), (.int yK), (.int zK)] below meth c s₁ [] 0 0 := Stand.of_body Bd
  have e0 : s₁.heap = h0 := by rw [← hh, Bd.state]; rfl
  have N0 := Fr.nil n0
  have hS0 : s.Since s.vm h0.size := (State.WarmedH.refl s).since _
  have hk0 : h0.size ≤ h0.size := Nat.le_refl _
  have wS : ∀ a ∈ Bundle.stringAtoms, a.before a0 Z = true := by
    intro a ha
    simp only [Bundle.stringAtoms, List.mem_cons, List.not_mem_nil, or_false] at ha
    rcases ha with rfl | rfl | rfl | rfl | rfl | rfl | rfl
    · exact (oW hw 7 rfl)
    · exact (oW hw 6 rfl)
    · exact (oW hw 20 rfl)
    · exact (oW hw 21 rfl)
    · exact (oW hw 22 rfl)
    · exact (oW hw 23 rfl)
    · exact (oW hw 24 rfl)
  refine own_bodyW (A := s₁.setTop (mkF m 0 #[iv 0, iv xK, iv yK, iv zK, uu, uu, uu] [])) (Q := QKB Z xK yK zK lc lt lk h0 n0) (fun t k => castTop (own_efKB m (0 : Int32) xK yK zK) k) ?_
  refine oILN (n := 1) X0 hx (hb hby own_d1_0) rfl rfl ?_
  refine ov (B := s₁.setTop (mkF m 3 #[iv 0, iv xK, iv yK, iv zK, uu, uu, uu] [(.int 65535), (.int xK)])) (fun t k => X0.ldcInt hx hown (mvT hZ (oW hw 4 rfl)) (g := (mkF m 1 #[iv 0, iv xK, iv yK, iv zK, uu, uu, uu] [(.int xK)])) rfl (hb hby own_d1_1) _ k) ?_
  refine ov (B := s₁.setTop (mkF m 4 #[iv 0, iv xK, iv yK, iv zK, uu, uu, uu] [(.int (xK &&& (65535 : Int32)))])) (fun t k => XS.iand X0.here hx rfl (hb hby own_d1_3) rfl k) ?_
  refine ov (B := s₁.setTop (mkF m 5 #[iv 0, iv xK, iv yK, iv zK, uu, uu, uu] [(.int ((xK &&& (65535 : Int32)).toUInt32.toUInt16.toUInt32.toInt32))])) (fun t k => XS.i2c X0.here hx rfl (hb hby own_d1_4) rfl k) ?_
  refine ov (B := s₁.setTop (mkF m 7 #[iv 0, iv xK, iv yK, iv zK, iv ((xK &&& (65535 : Int32)).toUInt32.toUInt16.toUInt32.toInt32), uu, uu] [])) (fun t k => XS.istore X0.here hx rfl (hb hby own_d1_5) rfl (l' := #[iv 0, iv xK, iv yK, iv zK, iv ((xK &&& (65535 : Int32)).toUInt32.toUInt16.toUInt32.toInt32), uu, uu]) rfl k) ?_
  refine oILN (n := 8) X0 hx (hb hby own_d1_7) rfl rfl ?_
  refine ov (B := s₁.setTop (mkF m 10 #[iv 0, iv xK, iv yK, iv zK, iv ((xK &&& (65535 : Int32)).toUInt32.toUInt16.toUInt32.toInt32), uu, uu] [(.int 65535), (.int yK)])) (fun t k => X0.ldcInt hx hown (mvT hZ (oW hw 4 rfl)) (g := (mkF m 8 #[iv 0, iv xK, iv yK, iv zK, iv ((xK &&& (65535 : Int32)).toUInt32.toUInt16.toUInt32.toInt32), uu, uu] [(.int yK)])) rfl (hb hby own_d1_8) _ k) ?_
  refine ov (B := s₁.setTop (mkF m 11 #[iv 0, iv xK, iv yK, iv zK, iv ((xK &&& (65535 : Int32)).toUInt32.toUInt16.toUInt32.toInt32), uu, uu] [(.int (yK &&& (65535 : Int32)))])) (fun t k => XS.iand X0.here hx rfl (hb hby own_d1_10) rfl k) ?_
  refine ov (B := s₁.setTop (mkF m 12 #[iv 0, iv xK, iv yK, iv zK, iv ((xK &&& (65535 : Int32)).toUInt32.toUInt16.toUInt32.toInt32), uu, uu] [(.int ((yK &&& (65535 : Int32)).toUInt32.toUInt16.toUInt32.toInt32))])) (fun t k => XS.i2c X0.here hx rfl (hb hby own_d1_11) rfl k) ?_
  refine ov (B := s₁.setTop (mkF m 14 #[iv 0, iv xK, iv yK, iv zK, iv ((xK &&& (65535 : Int32)).toUInt32.toUInt16.toUInt32.toInt32), iv ((yK &&& (65535 : Int32)).toUInt32.toUInt16.toUInt32.toInt32), uu] [])) (fun t k => XS.istore X0.here hx rfl (hb hby own_d1_12) rfl (l' := #[iv 0, iv xK, iv yK, iv zK, iv ((xK &&& (65535 : Int32)).toUInt32.toUInt16.toUInt32.toInt32), iv ((yK &&& (65535 : Int32)).toUInt32.toUInt16.toUInt32.toInt32), uu]) rfl k) ?_
  refine oILN (n := 15) X0 hx (hb hby own_d1_14) rfl rfl ?_
  refine ov (B := s₁.setTop (mkF m 17 #[iv 0, iv xK, iv yK, iv zK, iv ((xK &&& (65535 : Int32)).toUInt32.toUInt16.toUInt32.toInt32), iv ((yK &&& (65535 : Int32)).toUInt32.toUInt16.toUInt32.toInt32), uu] [(.int 65535), (.int zK)])) (fun t k => X0.ldcInt hx hown (mvT hZ (oW hw 4 rfl)) (g := (mkF m 15 #[iv 0, iv xK, iv yK, iv zK, iv ((xK &&& (65535 : Int32)).toUInt32.toUInt16.toUInt32.toInt32), iv ((yK &&& (65535 : Int32)).toUInt32.toUInt16.toUInt32.toInt32), uu] [(.int zK)])) rfl (hb hby own_d1_15) _ k) ?_
  refine ov (B := s₁.setTop (mkF m 18 #[iv 0, iv xK, iv yK, iv zK, iv ((xK &&& (65535 : Int32)).toUInt32.toUInt16.toUInt32.toInt32), iv ((yK &&& (65535 : Int32)).toUInt32.toUInt16.toUInt32.toInt32), uu] [(.int (zK &&& (65535 : Int32)))])) (fun t k => XS.iand X0.here hx rfl (hb hby own_d1_17) rfl k) ?_
  refine ov (B := s₁.setTop (mkF m 19 #[iv 0, iv xK, iv yK, iv zK, iv ((xK &&& (65535 : Int32)).toUInt32.toUInt16.toUInt32.toInt32), iv ((yK &&& (65535 : Int32)).toUInt32.toUInt16.toUInt32.toInt32), uu] [(.int ((zK &&& (65535 : Int32)).toUInt32.toUInt16.toUInt32.toInt32))])) (fun t k => XS.i2c X0.here hx rfl (hb hby own_d1_18) rfl k) ?_
  refine ov (B := s₁.setTop (mkF m 21 #[iv 0, iv xK, iv yK, iv zK, iv ((xK &&& (65535 : Int32)).toUInt32.toUInt16.toUInt32.toInt32), iv ((yK &&& (65535 : Int32)).toUInt32.toUInt16.toUInt32.toInt32), iv ((zK &&& (65535 : Int32)).toUInt32.toUInt16.toUInt32.toInt32)] [])) (fun t k => XS.istore X0.here hx rfl (hb hby own_d1_19) rfl (l' := #[iv 0, iv xK, iv yK, iv zK, iv ((xK &&& (65535 : Int32)).toUInt32.toUInt16.toUInt32.toInt32), iv ((yK &&& (65535 : Int32)).toUInt32.toUInt16.toUInt32.toInt32), iv ((zK &&& (65535 : Int32)).toUInt32.toUInt16.toUInt32.toInt32)]) rfl k) ?_
  show own_Go p e below (s₁.setTop (mkF m 21 #[iv 0, iv xK, iv yK, iv zK, iv (own_m xK), iv (own_m yK), iv (own_m zK)] [])) _
  refine oILN (n := 22) X0 hx (hb hby own_d1_21) rfl rfl ?_
  have hc22 : (0 : Int32) = (0 : Int32) := by decide
  refine ov (B := s₁.setTop (mkF m 25 #[iv 0, iv xK, iv yK, iv zK, iv (own_m xK), iv (own_m yK), iv (own_m zK)] [])) (fun t k => XS.ifNo X0.here hx rfl (hb hby own_d1_22) rfl ((if0 _ _).trans (teq hc22).2) k) ?_
  obtain ⟨T1, h1, X1, e1, E1, A1, D1, -, st1⟩ := newO X0 hx hZ hown (oW hw 5 rfl) (oW hw 6 rfl) (oW hw 7 rfl) e0 (g := (mkF m 25 #[iv 0, iv xK, iv yK, iv zK, iv (own_m xK), iv (own_m yK), iv (own_m zK)] [])) rfl (hb hby own_d1_25) (by decide) (by decide)
  obtain ⟨b1, g1⟩ : ∃ z, z = h0.size := ⟨_, rfl⟩
  rw [← g1] at A1 D1 st1
  have g_b1 : n0 ≤ b1 := Nat.le_trans Z0 (Nat.le_of_eq g1.symm)
  have F1_value : Fld Z h1 b1 sAA "value" "[B" .null := D1 (Or.inr (oW hw 21 rfl)) (ty := (.array .byte)) (by decide)
  have F1_coder : Fld Z h1 b1 sAA "coder" "B" (.int 0) := D1 (Or.inr (oW hw 22 rfl)) (ty := .byte) (by decide)
  refine ov (B := T1.setTop (mkF m 28 #[iv 0, iv xK, iv yK, iv zK, iv (own_m xK), iv (own_m yK), iv (own_m zK)] [(.ref b1)])) (fun t k => st1 t k) ?_
  refine oDU (n := 29) X1 hx (hb hby own_d1_28) rfl rfl ?_
  refine oIC (n := 30) X1 hx (0 : Int32) (hb hby own_d1_29) (by decide) rfl ?_
  obtain ⟨T2, h2, kc2, X2, e2, E2, A2, st2⟩ := newP X1 hx hZ (oW hw 8 rfl) e1 (g := (mkF m 30 #[iv 0, iv xK, iv yK, iv zK, iv (own_m xK), iv (own_m yK), iv (own_m zK)] [(.int 0), (.ref b1), (.ref b1)])) rfl (hb hby own_d1_30) rfl (by decide) (cap := 0) (by decide) (by decide) (by decide) (by decide)
  obtain ⟨b2, g2⟩ : ∃ z, z = h1.size := ⟨_, rfl⟩
  rw [← g2] at A2 st2
  have g_b2 : n0 ≤ b2 := Nat.le_trans (Nat.le_trans Z0 E1.1) (Nat.le_of_eq g2.symm)
  have V2 : Arv Z h2 b2 kc2 .char (0 : Int32) [] (.int 0) := (Arv.new A2 (by decide)).pad (pad_rep [] (.int 0) 0)
  refine ov (B := T2.setTop (mkF m 32 #[iv 0, iv xK, iv yK, iv zK, iv (own_m xK), iv (own_m yK), iv (own_m zK)] [(.ref b2), (.ref b1), (.ref b1)])) (fun t k => st2 t k) ?_
  obtain ⟨_, _, ⟨T3, L3, k3, n3⟩, -, X3, hT3, gT3, ⟨Lc3, hQ3, l3, y3, z3⟩, st3⟩ := X2.specialBackS hx (y := (⟨sAA, "<init>", "([C)V"⟩ : MethodName)) rfl hown (mvT hZ (oW hw 9 rfl)) (mvT hZ (oW hw 10 rfl)) (mvT hZ (oW hw 11 rfl)) (by decide) (own_backP (VP := fun vm'' => Lit (Z.setVm vm'') sAA 7 lc) (W := 1) (rmFB l Z a0 hw [] b1 b2 (.int 0) kc2 lc lt lk h2 n0 (Nat.le_trans (Nat.le_trans Z0 E1.1) E2.1) ((O0.ext E1).ext E2) (A1.ext E2) (F1_value.ext E2) (F1_coder.ext E2) g_b1 V2 ((E_lc.ext E1).ext E2) ((C_lc.ext E1).ext E2) ((V_lc.ext E1).ext E2) ((A_lc.ext E1).ext E2) (Ne.symm (Nat.ne_of_lt (Nat.lt_of_lt_of_le E_lc.lt (Nat.le_of_eq g1.symm))))) (fun vm'' hW'' => own_litL (s := s) (vm := s.vm) hV hW'') hZ (oW hw 11 rfl) (oW hw 7 rfl) (by decide) (by decide)) (g := (mkF m 32 #[iv 0, iv xK, iv yK, iv zK, iv (own_m xK), iv (own_m yK), iv (own_m zK)] [(.ref b2), (.ref b1), (.ref b1)])) rfl (by rw [hml]; rfl) (Steps.refl _) (a := b1) (argsL := [(.ref b2)]) (rest := [(.ref b1)]) (lenOf own_pd8 rfl) rfl (by show 2 * 0 + _ ≤ _; exact Nat.le_of_eq rfl) (hb hby own_d1_32) (fun _ _ => ⟨rfl, e2, (by decide : ((0 + 1) + 1) + 2 ≤ _), (by decide : ((0 + 4) + 0) + 4 ≤ _)⟩)
  dsimp only [Pt.U, Pt.locs, Pt.cells, Pt.slots] at X3 l3 y3 z3 st3 hQ3 hT3 gT3
  subst l3 y3 z3
  obtain ⟨X3, hS3, hZ, hown⟩ := rebS hS0 (by rw [e2]; exact (Nat.le_trans (Nat.le_trans hk0 E1.1) E2.1)) X3 hT3 gT3 hZ hown
  have hlit3_lc := Lit.stays (s := s) hV hT3.1
  obtain ⟨rfl, Nq3, Kq3, f3_0, f3_1⟩ := hQ3
  have N3 := Fr.app N0 Nq3
  refine ov (B := T3.setTop (mkF m 35 #[iv 0, iv xK, iv yK, iv zK, iv (own_m xK), iv (own_m yK), iv (own_m zK)] [(.ref b1)])) (fun t k => st3.trans k) ?_
  refine own_leafW X3 hx hlk hS3 (Nat.le_refl _) (t := (.object sAA)) Bd.returns rfl (Or.inr (Or.inr (Or.inr (Or.inr ⟨rfl, rfl, rfl⟩)))) (hb hby own_d1_35) (by decide) (by decide) ?_
  show QKB Z xK yK zK lc lt lk h0 n0 _ T3.heap _
  refine ⟨b1, ?_, N3, ((((Keep.refl h0 []).ext E1).ext E2).trans Kq3 (allS (Or.inr (Nat.le_of_eq g1.symm)) all0)), ?_, ((A1.ext E2).keep Kq3), f3_0, f3_1⟩
  · rfl
  · exact (Nat.le_of_eq g1.symm)
theorem own_pn3 : plainName "java/lang/StringLatin1" = true := by first | (simp [plainName, overriddenIn]; done) | decide +kernel
theorem own_d16_0 : decode jdk_43_method_13_code 0 = .ok (.aload_n 0, 1) := by decide +kernel
theorem own_d16_1 : decode jdk_43_method_13_code 1 = .ok (.arraylength, 1) := by decide +kernel
theorem own_d16_2 : decode jdk_43_method_13_code 2 = .ok (.aload_n 1, 1) := by decide +kernel
theorem own_d16_3 : decode jdk_43_method_13_code 3 = .ok (.arraylength, 1) := by decide +kernel
theorem own_d16_4 : decode jdk_43_method_13_code 4 = .ok (.if_icmp .ne 30, 3) := by decide +kernel
theorem own_d16_7 : decode jdk_43_method_13_code 7 = .ok (.iconst 0, 1) := by decide +kernel
theorem own_d16_8 : decode jdk_43_method_13_code 8 = .ok (.istore_n 2, 1) := by decide +kernel
theorem own_d16_9 : decode jdk_43_method_13_code 9 = .ok (.iload_n 2, 1) := by decide +kernel
theorem own_d16_10 : decode jdk_43_method_13_code 10 = .ok (.aload_n 0, 1) := by decide +kernel
theorem own_d16_11 : decode jdk_43_method_13_code 11 = .ok (.arraylength, 1) := by decide +kernel
theorem own_d16_12 : decode jdk_43_method_13_code 12 = .ok (.if_icmp .ge 20, 3) := by decide +kernel
theorem own_d16_32 : decode jdk_43_method_13_code 32 = .ok (.iconst 1, 1) := by decide +kernel
theorem own_d16_33 : decode jdk_43_method_13_code 33 = .ok (.ireturn, 1) := by decide +kernel
theorem own_efLE0 (m : MethodId) (x0 : Addr) (x1 : Addr) : entryFrame m #[(.ref x0), (.ref x1)] 3 = mkF m 0 #[rv x0, rv x1, uu] [] := by first | (simp [entryFrame, mkF, argsToLocals, Value.category]; done) | rfl
def QLE0 (Z : State) (aZ : Addr) (bZ : Addr) (kZ : ClassId) (lZ : ClassId) (h0 : Heap) (n0 : Nat) (v : Option Value) (h : Heap) (L : List Loc) : Prop := v = some (.int (1 : Int32)) ∧ Fr n0 L ∧ h = h0
set_option maxRecDepth 65536 in
set_option maxHeartbeats 40000000 in
theorem rmLE0 (l : Launch) (Z : State) (a0 : Array Value) (hw : ∀ d ∈ tables_1, d.before a0 Z = true) (ws : List Jvm.Cond) (aZ : Addr) (bZ : Addr) (kZ : ClassId) (lZ : ClassId) (h0 : Heap) (n0 : Nat) (Z0 : n0 ≤ h0.size) (Va : Arv Z h0 aZ kZ .byte (0 : Int32) [] (.int (0 : Int32))) (Vb : Arv Z h0 bZ lZ .byte (0 : Int32) [] (.int (0 : Int32))) :
    MetFree l (⟨sAI, "equals", "([B[B)Z"⟩ : MethodName) (head1 (Jvm.Cond.code (⟨sAI, "equals", "([B[B)Z"⟩ : MethodName) jdk_43_method_13_code 3 (some .boolean) :: ws) (oR 0 0 0 0)) (fun a U => a = #[(.ref aZ), (.ref bZ)] ∧ Z.Warmed39 U.vm ∧ U.heap = h0) (fun _ _ _ _ _ => True) (fun _ U o U' => ∃ v L, o = .returned v ∧ QLE0 Z aZ bZ kZ lZ h0 n0 v U'.heap L ∧ FrameEnd U o U' L (oR 0 0 0 0).cells (oR 0 0 0 0).slots) := by
  refine MetFree.of_bodySF (plainFor_of_name own_pn3) hisR ?_
  intro p e s m args below meth c s₁ Bd hml0 hP hK
  obtain ⟨rfl, hZ, hh⟩ := hP
  have hx := Bd.exec
  have hby := Bd.bytes
  have hlk : meth.locks = false := Bd.notSynchronized
  have hml : c.maxLocals = 3 := hml0
  have hown : s.vm.findClass sAI = some m.cls := findClass_of_methodNamed Bd.named
  have hnm := (name_of_methodNamed Bd.named Bd.method).1
  have X0 : Stand p l e (oR 0 0 0 0) s m #[(.ref aZ), (.ref bZ)] below meth c s₁ [] 0 0 := Stand.of_body Bd
  have e0 : s₁.heap = h0 := by rw [← hh, Bd.state]; rfl
  have N0 := Fr.nil n0
  refine own_body (A := s₁.setTop (mkF m 0 #[rv aZ, rv bZ, uu] [])) (Q := QLE0 Z aZ bZ kZ lZ h0 n0) (fun t k => castTop (own_efLE0 m aZ bZ) k) ?_
  refine oALN (n := 1) X0 hx (hb hby own_d16_0) rfl rfl rfl ?_
  obtain ⟨cl1, Ar1, q1, S1, M1, H1, G1⟩ := id Va
  refine ov (B := s₁.setTop (mkF m 2 #[rv aZ, rv bZ, uu] [(.int 0)])) (fun t k => X0.arraylength hx (by rw [e0]; exact Ar1.1) (State.isArrayOf_alike hZ.alike Ar1.2.1) (g := (mkF m 1 #[rv aZ, rv bZ, uu] [(.ref aZ)])) rfl rfl (hb hby own_d16_1) _ (by rw [len_of S1 M1]; exact k)) ?_
  refine oALN (n := 3) X0 hx (hb hby own_d16_2) rfl rfl rfl ?_
  obtain ⟨cl2, Ar2, q2, S2, M2, H2, G2⟩ := id Vb
  refine ov (B := s₁.setTop (mkF m 4 #[rv aZ, rv bZ, uu] [(.int 0), (.int 0)])) (fun t k => X0.arraylength hx (by rw [e0]; exact Ar2.1) (State.isArrayOf_alike hZ.alike Ar2.2.1) (g := (mkF m 3 #[rv aZ, rv bZ, uu] [(.ref bZ), (.int 0)])) rfl rfl (hb hby own_d16_3) _ (by rw [len_of S2 M2]; exact k)) ?_
  have hc4 : (0 : Int32) = (0 : Int32) := by decide
  refine ov (B := s₁.setTop (mkF m 7 #[rv aZ, rv bZ, uu] [])) (fun t k => XS.icmpNo X0.here hx rfl (hb hby own_d16_4) rfl (teq hc4).2 k) ?_
  refine oIC (n := 8) X0 hx (0 : Int32) (hb hby own_d16_7) (by decide) rfl ?_
  refine ov (B := s₁.setTop (mkF m 9 #[rv aZ, rv bZ, iv 0] [])) (fun t k => XS.istoreN X0.here hx rfl (hb hby own_d16_8) rfl (l' := #[rv aZ, rv bZ, iv 0]) rfl k) ?_
  refine oILN (n := 10) X0 hx (hb hby own_d16_9) rfl rfl ?_
  refine oALN (n := 11) X0 hx (hb hby own_d16_10) rfl rfl rfl ?_
  obtain ⟨cl3, Ar3, q3, S3, M3, H3, G3⟩ := id Va
  refine ov (B := s₁.setTop (mkF m 12 #[rv aZ, rv bZ, iv 0] [(.int 0), (.int 0)])) (fun t k => X0.arraylength hx (by rw [e0]; exact Ar3.1) (State.isArrayOf_alike hZ.alike Ar3.2.1) (g := (mkF m 11 #[rv aZ, rv bZ, iv 0] [(.ref aZ), (.int 0)])) rfl rfl (hb hby own_d16_11) _ (by rw [len_of S3 M3]; exact k)) ?_
  have hc12 : ¬ ((0 : Int32) < (0 : Int32)) := by decide
  refine ov (B := s₁.setTop (mkF m 32 #[rv aZ, rv bZ, iv 0] [])) (fun t k => XS.icmpYes X0.here hx rfl (pc0 := 12) (pc' := 32) rfl (hb hby own_d16_12) rfl (flt hc12).2.1 (by decide) (by decide) k) ?_
  refine oIC (n := 33) X0 hx (1 : Int32) (hb hby own_d16_32) (by decide) rfl ?_
  refine own_leaf X0 hx hlk (t := .boolean) Bd.returns (by decide) (Or.inl ⟨rfl, by simp, _, rfl⟩) (hb hby own_d16_33) (by decide) (by decide) ?_
  show QLE0 Z aZ bZ kZ lZ h0 n0 _ s₁.heap _
  rw [e0]
  refine ⟨?_, N0, rfl⟩
  rfl
theorem own_pd9 : parseMethodDescriptor "([B[B)Z" = some ⟨[(.array .byte), (.array .byte)], some .boolean⟩ := by decide +kernel
theorem own_d15_0 : decode jdk_42_method_66_code 0 = .ok (.aload_n 0, 1) := by decide +kernel
theorem own_d15_1 : decode jdk_42_method_66_code 1 = .ok (.aload_n 1, 1) := by decide +kernel
theorem own_d15_2 : decode jdk_42_method_66_code 2 = .ok (.if_acmp .ne 5, 3) := by decide +kernel
theorem own_d15_5 : decode jdk_42_method_66_code 5 = .ok (.iconst 1, 1) := by decide +kernel
theorem own_d15_6 : decode jdk_42_method_66_code 6 = .ok (.ireturn, 1) := by decide +kernel
theorem own_d15_7 : decode jdk_42_method_66_code 7 = .ok (.aload_n 1, 1) := by decide +kernel
theorem own_d15_8 : decode jdk_42_method_66_code 8 = .ok (.instanceof 10, 3) := by decide +kernel
theorem own_d15_11 : decode jdk_42_method_66_code 11 = .ok (.ifCond .eq 43, 3) := by decide +kernel
theorem own_d15_14 : decode jdk_42_method_66_code 14 = .ok (.aload_n 1, 1) := by decide +kernel
theorem own_d15_15 : decode jdk_42_method_66_code 15 = .ok (.checkcast 10, 3) := by decide +kernel
theorem own_d15_18 : decode jdk_42_method_66_code 18 = .ok (.astore_n 2, 1) := by decide +kernel
theorem own_d15_19 : decode jdk_42_method_66_code 19 = .ok (.getstatic 38, 3) := by decide +kernel
theorem own_d15_22 : decode jdk_42_method_66_code 22 = .ok (.ifCond .eq 14, 3) := by decide +kernel
theorem own_d15_25 : decode jdk_42_method_66_code 25 = .ok (.aload_n 0, 1) := by decide +kernel
theorem own_d15_26 : decode jdk_42_method_66_code 26 = .ok (.getfield 15, 3) := by decide +kernel
theorem own_d15_29 : decode jdk_42_method_66_code 29 = .ok (.aload_n 2, 1) := by decide +kernel
theorem own_d15_30 : decode jdk_42_method_66_code 30 = .ok (.getfield 15, 3) := by decide +kernel
theorem own_d15_33 : decode jdk_42_method_66_code 33 = .ok (.if_icmp .ne 21, 3) := by decide +kernel
theorem own_d15_36 : decode jdk_42_method_66_code 36 = .ok (.aload_n 0, 1) := by decide +kernel
theorem own_d15_37 : decode jdk_42_method_66_code 37 = .ok (.getfield 9, 3) := by decide +kernel
theorem own_d15_40 : decode jdk_42_method_66_code 40 = .ok (.aload_n 2, 1) := by decide +kernel
theorem own_d15_41 : decode jdk_42_method_66_code 41 = .ok (.getfield 9, 3) := by decide +kernel
theorem own_d15_44 : decode jdk_42_method_66_code 44 = .ok (.invokestatic 541, 3) := by decide +kernel
theorem own_d15_47 : decode jdk_42_method_66_code 47 = .ok (.ifCond .eq 7, 3) := by decide +kernel
theorem own_d15_50 : decode jdk_42_method_66_code 50 = .ok (.iconst 1, 1) := by decide +kernel
theorem own_d15_51 : decode jdk_42_method_66_code 51 = .ok (.goto 4, 3) := by decide +kernel
theorem own_d15_55 : decode jdk_42_method_66_code 55 = .ok (.ireturn, 1) := by decide +kernel
theorem own_efQE0 (m : MethodId) (x0 : Addr) (x1 : Addr) : entryFrame m #[(.ref x0), (.ref x1)] 3 = mkF m 0 #[rv x0, rv x1, uu] [] := by first | (simp [entryFrame, mkF, argsToLocals, Value.category]; done) | rfl
def QQE0 (Z : State) (aQ : Addr) (bQ : Addr) (zc : Int32) (tQ : Addr) (uQ : Addr) (kQ : ClassId) (lQ : ClassId) (cQ : Int32) (h0 : Heap) (n0 : Nat) (v : Option Value) (h : Heap) (L : List Loc) : Prop := v = some (.int (1 : Int32)) ∧ Fr n0 L ∧ h = h0
set_option maxRecDepth 65536 in
set_option maxHeartbeats 40000000 in
theorem rmQE0 (l : Launch) (Z : State) (a0 : Array Value) (hw : ∀ d ∈ tables_1, d.before a0 Z = true) (ws : List Jvm.Cond) (aQ : Addr) (bQ : Addr) (zc : Int32) (tQ : Addr) (uQ : Addr) (kQ : ClassId) (lQ : ClassId) (cQ : Int32) (h0 : Heap) (n0 : Nat) (Z0 : n0 ≤ h0.size) (O0 : Old Z n0 h0) (Scz : Sta Z Z.heap sAA "COMPACT_STRINGS" "Z" (.int zc)) (hcz : ¬ zc = 0) (E_aQ : Exa Z h0 aQ sAA) (C_aQ : Fld Z h0 aQ sAA "coder" "B" (.int cQ)) (V_aQ : Fld Z h0 aQ sAA "value" "[B" (.ref tQ)) (A_aQ : Arv Z h0 tQ kQ .byte (0 : Int32) [] (.int (0 : Int32))) (E_bQ : Exa Z h0 bQ sAA) (C_bQ : Fld Z h0 bQ sAA "coder" "B" (.int cQ)) (V_bQ : Fld Z h0 bQ sAA "value" "[B" (.ref uQ)) (A_bQ : Arv Z h0 uQ lQ .byte (0 : Int32) [] (.int (0 : Int32))) :
    MetFree l (⟨sAA, "equals", sAJ⟩ : MethodName) (head1 (Jvm.Cond.code (⟨sAA, "equals", sAJ⟩ : MethodName) jdk_42_method_66_code 3 (some .boolean) :: ws) (oR 1 0 0 20)) (fun a U => a = #[(.ref aQ), (.ref bQ)] ∧ Z.Warmed39 U.vm ∧ U.heap = h0) (fun _ _ _ _ _ => True) (fun _ U o U' => ∃ v L, o = .returned v ∧ QQE0 Z aQ bQ zc tQ uQ kQ lQ cQ h0 n0 v U'.heap L ∧ FrameEnd U o U' L (oR 1 0 0 20).cells (oR 1 0 0 20).slots) := by
  refine MetFree.of_bodySF (plainFor_of_name own_pn1) hisR ?_
  intro p e s m args below meth c s₁ Bd hml0 hP hK
  obtain ⟨rfl, hZ, hh⟩ := hP
  have hx := Bd.exec
  have hby := Bd.bytes
  have hlk : meth.locks = false := Bd.notSynchronized
  have hml : c.maxLocals = 3 := hml0
  have hown : s.vm.findClass sAA = some m.cls := findClass_of_methodNamed Bd.named
  have hnm := (name_of_methodNamed Bd.named Bd.method).1
  have X0 : Stand p l e (oR 1 0 0 20) s m #[(.ref aQ), (.ref bQ)] below meth c s₁ [] 0 0 := Stand.of_body Bd
  have e0 : s₁.heap = h0 := by rw [← hh, Bd.state]; rfl
  have N0 := Fr.nil n0
  refine own_body (A := s₁.setTop (mkF m 0 #[rv aQ, rv bQ, uu] [])) (Q := QQE0 Z aQ bQ zc tQ uQ kQ lQ cQ h0 n0) (fun t k => castTop (own_efQE0 m aQ bQ) k) ?_
  refine oALN (n := 1) X0 hx (hb hby own_d15_0) rfl rfl rfl ?_
  refine oALN (n := 2) X0 hx (hb hby own_d15_1) rfl rfl rfl ?_
  by_cases hc2 : aQ = bQ
  · refine ov (B := s₁.setTop (mkF m 5 #[rv aQ, rv bQ, uu] [])) (fun t k => Jvm.RoadKit.acmp (g := (mkF m 2 #[rv aQ, rv bQ, uu] [(.ref bQ), (.ref aQ)])) X0 hx rfl rfl rfl (pc0 := 2) (pc' := 5) (same := true) rfl (hb hby own_d15_2) rfl (decide_eq_true (congrArg Value.ref hc2)) (by decide) (by decide) k) ?_
    refine oIC (n := 6) X0 hx (1 : Int32) (hb hby own_d15_5) (by decide) rfl ?_
    refine own_leaf X0 hx hlk (t := .boolean) Bd.returns (by decide) (Or.inl ⟨rfl, by simp, _, rfl⟩) (hb hby own_d15_6) (by decide) (by decide) ?_
    show QQE0 Z aQ bQ zc tQ uQ kQ lQ cQ h0 n0 _ s₁.heap _
    rw [e0]
    refine ⟨?_, N0, rfl⟩
    rfl
  · refine ov (B := s₁.setTop (mkF m 7 #[rv aQ, rv bQ, uu] [])) (fun t k => Jvm.RoadKit.acmp (g := (mkF m 2 #[rv aQ, rv bQ, uu] [(.ref bQ), (.ref aQ)])) X0 hx rfl rfl rfl (pc0 := 2) (pc' := 7) (same := false) rfl (hb hby own_d15_2) rfl (decide_eq_false fun q => hc2 (Value.ref.inj q)) (by decide) (by decide) k) ?_
    refine oALN (n := 8) X0 hx (hb hby own_d15_7) rfl rfl rfl ?_
    obtain ⟨T1, X1, e1, st1⟩ := instY X0 hx hZ hown (oW hw 120 rfl) e0 (Ins.self E_bQ) (g := (mkF m 8 #[rv aQ, rv bQ, uu] [(.ref bQ)])) rfl rfl (hb hby own_d15_8)
    refine ov (B := T1.setTop (mkF m 11 #[rv aQ, rv bQ, uu] [(.int 1)])) (fun t k => st1 t k) ?_
    have hc11 : ¬ ((1 : Int32) = (0 : Int32)) := by decide
    refine ov (B := T1.setTop (mkF m 14 #[rv aQ, rv bQ, uu] [])) (fun t k => XS.ifNo X1.here hx rfl (hb hby own_d15_11) rfl ((if0 _ _).trans (feq hc11).1) k) ?_
    refine oALN (n := 15) X1 hx (hb hby own_d15_14) rfl rfl rfl ?_
    obtain ⟨T2, X2, e2, st2⟩ := castY X1 hx hZ hown (oW hw 120 rfl) e1 (Ins.self E_bQ) (g := (mkF m 15 #[rv aQ, rv bQ, uu] [(.ref bQ)])) rfl rfl (hb hby own_d15_15)
    refine ov (B := T2.setTop (mkF m 18 #[rv aQ, rv bQ, uu] [(.ref bQ)])) (fun t k => st2 t k) ?_
    refine ov (B := T2.setTop (mkF m 19 #[rv aQ, rv bQ, rv bQ] [])) (fun t k => XS.astoreN X2.here hx rfl (hb hby own_d15_18) rfl rfl (l' := #[rv aQ, rv bQ, rv bQ]) rfl k) ?_
    obtain ⟨T3, X3, e3, st3⟩ := getS2 X2 hx hZ hown (host := "") (Or.inl (oW hw 121 rfl)) Via.refl e2 (Scz.ext O0.2) (g := (mkF m 19 #[rv aQ, rv bQ, rv bQ] [])) rfl (hb hby own_d15_19)
    refine ov (B := T3.setTop (mkF m 22 #[rv aQ, rv bQ, rv bQ] [(.int zc)])) (fun t k => st3 t k) ?_
    have hc22 : ¬ (zc = (0 : Int32)) := hcz
    refine ov (B := T3.setTop (mkF m 25 #[rv aQ, rv bQ, rv bQ] [])) (fun t k => XS.ifNo X3.here hx rfl (hb hby own_d15_22) rfl ((if0 _ _).trans (feq hc22).1) k) ?_
    refine oALN (n := 26) X3 hx (hb hby own_d15_25) rfl rfl rfl ?_
    obtain ⟨T4, X4, e4, st4⟩ := getF X3 hx hZ hown (host := "") (Or.inl (oW hw 26 rfl)) Via.refl e3 C_aQ (g := (mkF m 26 #[rv aQ, rv bQ, rv bQ] [(.ref aQ)])) rfl rfl (hb hby own_d15_26)
    refine ov (B := T4.setTop (mkF m 29 #[rv aQ, rv bQ, rv bQ] [(.int cQ)])) (fun t k => st4 t k) ?_
    refine oALN (n := 30) X4 hx (hb hby own_d15_29) rfl rfl rfl ?_
    obtain ⟨T5, X5, e5, st5⟩ := getF X4 hx hZ hown (host := "") (Or.inl (oW hw 26 rfl)) Via.refl e4 C_bQ (g := (mkF m 30 #[rv aQ, rv bQ, rv bQ] [(.ref bQ), (.int cQ)])) rfl rfl (hb hby own_d15_30)
    refine ov (B := T5.setTop (mkF m 33 #[rv aQ, rv bQ, rv bQ] [(.int cQ), (.int cQ)])) (fun t k => st5 t k) ?_
    have hc33 : cQ = cQ := rfl
    refine ov (B := T5.setTop (mkF m 36 #[rv aQ, rv bQ, rv bQ] [])) (fun t k => XS.icmpNo X5.here hx rfl (hb hby own_d15_33) rfl (teq hc33).2 k) ?_
    refine oALN (n := 37) X5 hx (hb hby own_d15_36) rfl rfl rfl ?_
    obtain ⟨T6, X6, e6, st6⟩ := getF X5 hx hZ hown (host := "") (Or.inl (oW hw 25 rfl)) Via.refl e5 V_aQ (g := (mkF m 37 #[rv aQ, rv bQ, rv bQ] [(.ref aQ)])) rfl rfl (hb hby own_d15_37)
    refine ov (B := T6.setTop (mkF m 40 #[rv aQ, rv bQ, rv bQ] [(.ref tQ)])) (fun t k => st6 t k) ?_
    refine oALN (n := 41) X6 hx (hb hby own_d15_40) rfl rfl rfl ?_
    obtain ⟨T7, X7, e7, st7⟩ := getF X6 hx hZ hown (host := "") (Or.inl (oW hw 25 rfl)) Via.refl e6 V_bQ (g := (mkF m 41 #[rv aQ, rv bQ, rv bQ] [(.ref bQ), (.ref tQ)])) rfl rfl (hb hby own_d15_41)
    refine ov (B := T7.setTop (mkF m 44 #[rv aQ, rv bQ, rv bQ] [(.ref uQ), (.ref tQ)])) (fun t k => st7 t k) ?_
    obtain ⟨_, _, ⟨T8, L8, k8, n8⟩, -, X8, ⟨Lc8, hQ8, l8, y8, z8⟩, st8⟩ := Jvm.LawKit.callS X7 hx (y := (⟨sAI, "equals", "([B[B)Z"⟩ : MethodName)) hown (mvT hZ (oW hw 122 rfl)) (mvT hZ (oW hw 123 rfl)) (mvT hZ (oW hw 124 rfl)) (mvT hZ (oW hw 125 rfl)) (by decide) (backOf (W := 0) (rmLE0 l Z a0 hw [] tQ uQ kQ lQ h0 n0 Z0 A_aQ A_bQ) hZ (oW hw 125 rfl) (oW hw 124 rfl) (by decide) (by decide)) (g := (mkF m 44 #[rv aQ, rv bQ, rv bQ] [(.ref uQ), (.ref tQ)])) rfl (by rw [hml]; rfl) (argsL := [(.ref tQ), (.ref uQ)]) (rest := []) (lenOf own_pd9 rfl) rfl (by show 2 * 0 + _ ≤ _; exact Nat.le_of_eq rfl) (hb hby own_d15_44) (fun _ _ => ⟨rfl, e7, (by decide : 0 + 0 ≤ _), (by decide : 0 + 0 ≤ _)⟩)
    dsimp only [Pt.U, Pt.locs, Pt.cells, Pt.slots] at X8 l8 y8 z8 st8 hQ8
    subst l8 y8 z8
    obtain ⟨rfl, Nq8, eq8⟩ := hQ8
    have N8 := Fr.app N0 Nq8
    refine ov (B := T8.setTop (mkF m 47 #[rv aQ, rv bQ, rv bQ] [(.int 1)])) (fun t k => st8 t k) ?_
    have hc47 : ¬ ((1 : Int32) = (0 : Int32)) := by decide
    refine ov (B := T8.setTop (mkF m 50 #[rv aQ, rv bQ, rv bQ] [])) (fun t k => XS.ifNo X8.here hx rfl (hb hby own_d15_47) rfl ((if0 _ _).trans (feq hc47).1) k) ?_
    refine oIC (n := 51) X8 hx (1 : Int32) (hb hby own_d15_50) (by decide) rfl ?_
    refine oGO (n := 55) X8 hx (hb hby own_d15_51) (by decide) (by decide) ?_
    refine own_leaf X8 hx hlk (t := .boolean) Bd.returns (by decide) (Or.inl ⟨rfl, by simp, _, rfl⟩) (hb hby own_d15_55) (by decide) (by decide) ?_
    show QQE0 Z aQ bQ zc tQ uQ kQ lQ cQ h0 n0 _ T8.heap _
    rw [eq8]
    refine ⟨?_, N8, rfl⟩
    rfl
theorem own_pn4 : plainName "portcullis/xml/XmlElement" = true := by first | (simp [plainName, overriddenIn]; done) | decide +kernel
theorem own_pd10 : parseMethodDescriptor sAJ = some ⟨[(.object "java/lang/Object")], some .boolean⟩ := by decide +kernel
theorem own_d14_0 : decode prog_42_method_18_code 0 = .ok (.aload_n 0, 1) := by decide +kernel
theorem own_d14_1 : decode prog_42_method_18_code 1 = .ok (.getfield 30, 3) := by decide +kernel
theorem own_d14_4 : decode prog_42_method_18_code 4 = .ok (.aload_n 1, 1) := by decide +kernel
theorem own_d14_5 : decode prog_42_method_18_code 5 = .ok (.invokevirtual 343, 3) := by decide +kernel
theorem own_d14_8 : decode prog_42_method_18_code 8 = .ok (.ifCond .ne 21, 3) := by decide +kernel
theorem own_d14_29 : decode prog_42_method_18_code 29 = .ok (.aload_n 0, 1) := by decide +kernel
theorem own_d14_30 : decode prog_42_method_18_code 30 = .ok (.areturn, 1) := by decide +kernel
theorem own_efXR0 (m : MethodId) (x0 : Addr) (x1 : Addr) : entryFrame m #[(.ref x0), (.ref x1)] 2 = mkF m 0 #[rv x0, rv x1] [] := by first | (simp [entryFrame, mkF, argsToLocals, Value.category]; done) | rfl
def QXR0 (Z : State) (aR : Addr) (bQ : Addr) (aQ : Addr) (zc : Int32) (tQ : Addr) (uQ : Addr) (kQ : ClassId) (lQ : ClassId) (cQ : Int32) (h0 : Heap) (n0 : Nat) (v : Option Value) (h : Heap) (L : List Loc) : Prop := v = some (.ref aR) ∧ Fr n0 L ∧ h = h0
set_option maxRecDepth 65536 in
set_option maxHeartbeats 40000000 in
theorem rmXR0 (l : Launch) (Z : State) (a0 : Array Value) (hw : ∀ d ∈ tables_1, d.before a0 Z = true) (ws : List Jvm.Cond) (aR : Addr) (bQ : Addr) (aQ : Addr) (zc : Int32) (tQ : Addr) (uQ : Addr) (kQ : ClassId) (lQ : ClassId) (cQ : Int32) (h0 : Heap) (n0 : Nat) (Z0 : n0 ≤ h0.size) (O0 : Old Z n0 h0) (Scz : Sta Z Z.heap sAA "COMPACT_STRINGS" "Z" (.int zc)) (hcz : ¬ zc = 0) (Fn : Fld Z h0 aR sAC "name" sAP (.ref aQ)) (E_aQ : Exa Z h0 aQ sAA) (C_aQ : Fld Z h0 aQ sAA "coder" "B" (.int cQ)) (V_aQ : Fld Z h0 aQ sAA "value" "[B" (.ref tQ)) (A_aQ : Arv Z h0 tQ kQ .byte (0 : Int32) [] (.int (0 : Int32))) (E_bQ : Exa Z h0 bQ sAA) (C_bQ : Fld Z h0 bQ sAA "coder" "B" (.int cQ)) (V_bQ : Fld Z h0 bQ sAA "value" "[B" (.ref uQ)) (A_bQ : Arv Z h0 uQ lQ .byte (0 : Int32) [] (.int (0 : Int32))) :
    MetFree l (⟨sAC, "requireName", sAE⟩ : MethodName) (head1 (Jvm.Cond.code (⟨sAC, "requireName", sAE⟩ : MethodName) prog_42_method_18_code 2 (some (.object sAC)) :: ws) (oR 2 0 0 40)) (fun a U => a = #[(.ref aR), (.ref bQ)] ∧ Z.Warmed39 U.vm ∧ U.heap = h0) (fun _ _ _ _ _ => True) (fun _ U o U' => ∃ v L, o = .returned v ∧ QXR0 Z aR bQ aQ zc tQ uQ kQ lQ cQ h0 n0 v U'.heap L ∧ FrameEnd U o U' L (oR 2 0 0 40).cells (oR 2 0 0 40).slots) := by
  refine MetFree.of_bodySF (plainFor_of_name own_pn4) hisR ?_
  intro p e s m args below meth c s₁ Bd hml0 hP hK
  obtain ⟨rfl, hZ, hh⟩ := hP
  have hx := Bd.exec
  have hby := Bd.bytes
  have hlk : meth.locks = false := Bd.notSynchronized
  have hml : c.maxLocals = 2 := hml0
  have hown : s.vm.findClass sAC = some m.cls := findClass_of_methodNamed Bd.named
  have hnm := (name_of_methodNamed Bd.named Bd.method).1
  have X0 : Stand p l e (oR 2 0 0 40) s m #[(.ref aR), (.ref bQ)] below meth c s₁ [] 0 0 := Stand.of_body Bd
  have e0 : s₁.heap = h0 := by rw [← hh, Bd.state]; rfl
  have N0 := Fr.nil n0
  refine own_body (A := s₁.setTop (mkF m 0 #[rv aR, rv bQ] [])) (Q := QXR0 Z aR bQ aQ zc tQ uQ kQ lQ cQ h0 n0) (fun t k => castTop (own_efXR0 m aR bQ) k) ?_
  refine oALN (n := 1) X0 hx (hb hby own_d14_0) rfl rfl rfl ?_
  obtain ⟨T1, X1, e1, st1⟩ := getF X0 hx hZ hown (host := "") (Or.inl (oW hw 108 rfl)) Via.refl e0 Fn (g := (mkF m 1 #[rv aR, rv bQ] [(.ref aR)])) rfl rfl (hb hby own_d14_1)
  refine ov (B := T1.setTop (mkF m 4 #[rv aR, rv bQ] [(.ref aQ)])) (fun t k => st1 t k) ?_
  refine oALN (n := 5) X1 hx (hb hby own_d14_4) rfl rfl rfl ?_
  obtain ⟨cq2, kq2, q2a, q2b, q2c⟩ := isOf hZ e1 E_aQ
  obtain ⟨_, _, ⟨T2, L2, k2, n2⟩, -, X2, ⟨Lc2, hQ2, l2, y2, z2⟩, st2⟩ := X1.virtualBack hx (y := (⟨sAA, "equals", sAJ⟩ : MethodName)) (z := (⟨sAA, "equals", sAJ⟩ : MethodName)) hown (mvT hZ (oW hw 115 rfl)) (mvT hZ (oW hw 116 rfl)) (notFace_of_selects (args := #[]) (mvT hZ (oW hw 118 rfl))) (mvT hZ (oW hw 118 rfl)) (mvT hZ (oW hw 117 rfl)) (by decide) (backOf (W := 0) (rmQE0 l Z a0 hw [] aQ bQ zc tQ uQ kQ lQ cQ h0 n0 Z0 O0 (by assumption) (by assumption) E_aQ C_aQ V_aQ A_aQ E_bQ C_bQ V_bQ A_bQ) hZ (oW hw 119 rfl) (oW hw 7 rfl) (by decide) (by decide)) q2a q2c (g := (mkF m 5 #[rv aR, rv bQ] [(.ref bQ), (.ref aQ)])) rfl (by rw [hml]; rfl) (Steps.refl _) (argsL := [(.ref bQ)]) (rest := []) (lenOf own_pd10 rfl) rfl (by show 2 * 0 + _ ≤ _; exact Nat.le_of_eq rfl) (hb hby own_d14_5) (fun _ _ => ⟨rfl, e1, (by decide : 0 + 0 ≤ _), (by decide : 0 + 0 ≤ _)⟩)
  dsimp only [Pt.U, Pt.locs, Pt.cells, Pt.slots] at X2 l2 y2 z2 st2 hQ2
  subst l2 y2 z2
  obtain ⟨rfl, Nq2, eq2⟩ := hQ2
  have N2 := Fr.app N0 Nq2
  refine ov (B := T2.setTop (mkF m 8 #[rv aR, rv bQ] [(.int 1)])) (fun t k => st2.trans k) ?_
  have hc8 : ¬ ((1 : Int32) = (0 : Int32)) := by decide
  refine ov (B := T2.setTop (mkF m 29 #[rv aR, rv bQ] [])) (fun t k => XS.ifYes X2.here hx rfl (pc0 := 8) (pc' := 29) rfl (hb hby own_d14_8) rfl ((if0 _ _).trans (feq hc8).2) (by decide) (by decide) k) ?_
  refine oALN (n := 30) X2 hx (hb hby own_d14_29) rfl rfl rfl ?_
  refine own_leaf X2 hx hlk (t := (.object sAC)) Bd.returns rfl (Or.inr (Or.inr (Or.inr (Or.inr ⟨rfl, rfl, rfl⟩)))) (hb hby own_d14_30) (by decide) (by decide) ?_
  show QXR0 Z aR bQ aQ zc tQ uQ kQ lQ cQ h0 n0 _ T2.heap _
  rw [eq2]
  refine ⟨?_, N2, rfl⟩
  rfl
theorem own_d16_15 : decode jdk_43_method_13_code 15 = .ok (.aload_n 0, 1) := by decide +kernel
theorem own_d16_16 : decode jdk_43_method_13_code 16 = .ok (.iload_n 2, 1) := by decide +kernel
theorem own_d16_17 : decode jdk_43_method_13_code 17 = .ok (.baload, 1) := by decide +kernel
theorem own_d16_18 : decode jdk_43_method_13_code 18 = .ok (.aload_n 1, 1) := by decide +kernel
theorem own_d16_19 : decode jdk_43_method_13_code 19 = .ok (.iload_n 2, 1) := by decide +kernel
theorem own_d16_20 : decode jdk_43_method_13_code 20 = .ok (.baload, 1) := by decide +kernel
theorem own_d16_21 : decode jdk_43_method_13_code 21 = .ok (.if_icmp .eq 5, 3) := by decide +kernel
theorem own_d16_26 : decode jdk_43_method_13_code 26 = .ok (.iinc 2 1, 3) := by decide +kernel
theorem own_d16_29 : decode jdk_43_method_13_code 29 = .ok (.goto (-20), 3) := by decide +kernel
theorem own_efLE1 (m : MethodId) (x0 : Addr) (x1 : Addr) : entryFrame m #[(.ref x0), (.ref x1)] 3 = mkF m 0 #[rv x0, rv x1, uu] [] := by first | (simp [entryFrame, mkF, argsToLocals, Value.category]; done) | rfl
def QLE1 (Z : State) (aZ : Addr) (bZ : Addr) (kZ : ClassId) (lZ : ClassId) (vA : Int32) (h0 : Heap) (n0 : Nat) (v : Option Value) (h : Heap) (L : List Loc) : Prop := v = some (.int (1 : Int32)) ∧ Fr n0 L ∧ h = h0
set_option maxRecDepth 65536 in
set_option maxHeartbeats 40000000 in
theorem rmLE1 (l : Launch) (Z : State) (a0 : Array Value) (hw : ∀ d ∈ tables_1, d.before a0 Z = true) (ws : List Jvm.Cond) (aZ : Addr) (bZ : Addr) (kZ : ClassId) (lZ : ClassId) (vA : Int32) (h0 : Heap) (n0 : Nat) (Z0 : n0 ≤ h0.size) (Va : Arv Z h0 aZ kZ .byte (1 : Int32) [(.int vA)] (.int (0 : Int32))) (Vb : Arv Z h0 bZ lZ .byte (1 : Int32) [(.int vA)] (.int (0 : Int32))) :
    MetFree l (⟨sAI, "equals", "([B[B)Z"⟩ : MethodName) (head1 (Jvm.Cond.code (⟨sAI, "equals", "([B[B)Z"⟩ : MethodName) jdk_43_method_13_code 3 (some .boolean) :: ws) (oR 0 0 0 0)) (fun a U => a = #[(.ref aZ), (.ref bZ)] ∧ Z.Warmed39 U.vm ∧ U.heap = h0) (fun _ _ _ _ _ => True) (fun _ U o U' => ∃ v L, o = .returned v ∧ QLE1 Z aZ bZ kZ lZ vA h0 n0 v U'.heap L ∧ FrameEnd U o U' L (oR 0 0 0 0).cells (oR 0 0 0 0).slots) := by
  refine MetFree.of_bodySF (plainFor_of_name own_pn3) hisR ?_
  intro p e s m args below meth c s₁ Bd hml0 hP hK
  obtain ⟨rfl, hZ, hh⟩ := hP
  have hx := Bd.exec
  have hby := Bd.bytes
  have hlk : meth.locks = false := Bd.notSynchronized
  have hml : c.maxLocals = 3 := hml0
  have hown : s.vm.findClass sAI = some m.cls := findClass_of_methodNamed Bd.named
  have hnm := (name_of_methodNamed Bd.named Bd.method).1
  have X0 : Stand p l e (oR 0 0 0 0) s m #[(.ref aZ), (.ref bZ)] below meth c s₁ [] 0 0 := Stand.of_body Bd
  have e0 : s₁.heap = h0 := by rw [← hh, Bd.state]; rfl
  have N0 := Fr.nil n0
  refine own_body (A := s₁.setTop (mkF m 0 #[rv aZ, rv bZ, uu] [])) (Q := QLE1 Z aZ bZ kZ lZ vA h0 n0) (fun t k => castTop (own_efLE1 m aZ bZ) k) ?_
  refine oALN (n := 1) X0 hx (hb hby own_d16_0) rfl rfl rfl ?_
  obtain ⟨cl1, Ar1, q1, S1, M1, H1, G1⟩ := id Va
  refine ov (B := s₁.setTop (mkF m 2 #[rv aZ, rv bZ, uu] [(.int 1)])) (fun t k => X0.arraylength hx (by rw [e0]; exact Ar1.1) (State.isArrayOf_alike hZ.alike Ar1.2.1) (g := (mkF m 1 #[rv aZ, rv bZ, uu] [(.ref aZ)])) rfl rfl (hb hby own_d16_1) _ (by rw [len_of S1 M1]; exact k)) ?_
  refine oALN (n := 3) X0 hx (hb hby own_d16_2) rfl rfl rfl ?_
  obtain ⟨cl2, Ar2, q2, S2, M2, H2, G2⟩ := id Vb
  refine ov (B := s₁.setTop (mkF m 4 #[rv aZ, rv bZ, uu] [(.int 1), (.int 1)])) (fun t k => X0.arraylength hx (by rw [e0]; exact Ar2.1) (State.isArrayOf_alike hZ.alike Ar2.2.1) (g := (mkF m 3 #[rv aZ, rv bZ, uu] [(.ref bZ), (.int 1)])) rfl rfl (hb hby own_d16_3) _ (by rw [len_of S2 M2]; exact k)) ?_
  have hc4 : (1 : Int32) = (1 : Int32) := by decide
  refine ov (B := s₁.setTop (mkF m 7 #[rv aZ, rv bZ, uu] [])) (fun t k => XS.icmpNo X0.here hx rfl (hb hby own_d16_4) rfl (teq hc4).2 k) ?_
  refine oIC (n := 8) X0 hx (0 : Int32) (hb hby own_d16_7) (by decide) rfl ?_
  refine ov (B := s₁.setTop (mkF m 9 #[rv aZ, rv bZ, iv 0] [])) (fun t k => XS.istoreN X0.here hx rfl (hb hby own_d16_8) rfl (l' := #[rv aZ, rv bZ, iv 0]) rfl k) ?_
  refine oILN (n := 10) X0 hx (hb hby own_d16_9) rfl rfl ?_
  refine oALN (n := 11) X0 hx (hb hby own_d16_10) rfl rfl rfl ?_
  obtain ⟨cl3, Ar3, q3, S3, M3, H3, G3⟩ := id Va
  refine ov (B := s₁.setTop (mkF m 12 #[rv aZ, rv bZ, iv 0] [(.int 1), (.int 0)])) (fun t k => X0.arraylength hx (by rw [e0]; exact Ar3.1) (State.isArrayOf_alike hZ.alike Ar3.2.1) (g := (mkF m 11 #[rv aZ, rv bZ, iv 0] [(.ref aZ), (.int 0)])) rfl rfl (hb hby own_d16_11) _ (by rw [len_of S3 M3]; exact k)) ?_
  have hc12 : (0 : Int32) < (1 : Int32) := by decide
  refine ov (B := s₁.setTop (mkF m 15 #[rv aZ, rv bZ, iv 0] [])) (fun t k => XS.icmpNo X0.here hx rfl (hb hby own_d16_12) rfl (tlt hc12).2.1 k) ?_
  refine oALN (n := 16) X0 hx (hb hby own_d16_15) rfl rfl rfl ?_
  refine oILN (n := 17) X0 hx (hb hby own_d16_16) rfl rfl ?_
  obtain ⟨cl4, Ar4, q4, S4, M4, H4, G4⟩ := id Va
  have hin4 : ¬ ((0 : Int32) < 0 ∨ cl4.slots.size ≤ ((0 : Int32)).toNatClampNeg) := inb_of S4 ⟨by decide, by decide⟩
  refine ov (B := s₁.setTop (mkF m 18 #[rv aZ, rv bZ, iv 0] [(.int vA)])) (fun t k => X0.baloadBytes hx (j := (0 : Int32)) (v := (.int vA)) (by rw [e0]; exact Ar4.1) (State.isArrayOf_alike hZ.alike Ar4.2.1) Ar4.2.2 hin4 (Has.at H4 hin4 rfl) (g := (mkF m 17 #[rv aZ, rv bZ, iv 0] [(.int 0), (.ref aZ)])) rfl rfl (hb hby own_d16_17) _ k) ?_
  refine oALN (n := 19) X0 hx (hb hby own_d16_18) rfl rfl rfl ?_
  refine oILN (n := 20) X0 hx (hb hby own_d16_19) rfl rfl ?_
  obtain ⟨cl5, Ar5, q5, S5, M5, H5, G5⟩ := id Vb
  have hin5 : ¬ ((0 : Int32) < 0 ∨ cl5.slots.size ≤ ((0 : Int32)).toNatClampNeg) := inb_of S5 ⟨by decide, by decide⟩
  refine ov (B := s₁.setTop (mkF m 21 #[rv aZ, rv bZ, iv 0] [(.int vA), (.int vA)])) (fun t k => X0.baloadBytes hx (j := (0 : Int32)) (v := (.int vA)) (by rw [e0]; exact Ar5.1) (State.isArrayOf_alike hZ.alike Ar5.2.1) Ar5.2.2 hin5 (Has.at H5 hin5 rfl) (g := (mkF m 20 #[rv aZ, rv bZ, iv 0] [(.int 0), (.ref bZ), (.int vA)])) rfl rfl (hb hby own_d16_20) _ k) ?_
  have hc21 : vA = vA := rfl
  refine ov (B := s₁.setTop (mkF m 26 #[rv aZ, rv bZ, iv 0] [])) (fun t k => XS.icmpYes X0.here hx rfl (pc0 := 21) (pc' := 26) rfl (hb hby own_d16_21) rfl (teq hc21).1 (by decide) (by decide) k) ?_
  refine ov (B := s₁.setTop (mkF m 29 #[rv aZ, rv bZ, iv 1] [])) (fun t k => XS.iinc X0.here hx rfl (hb hby own_d16_26) rfl (l' := #[rv aZ, rv bZ, iv 1]) rfl k) ?_
  refine oGO (n := 9) X0 hx (hb hby own_d16_29) (by decide) (by decide) ?_
  refine oILN (n := 10) X0 hx (hb hby own_d16_9) rfl rfl ?_
  refine oALN (n := 11) X0 hx (hb hby own_d16_10) rfl rfl rfl ?_
  obtain ⟨cl6, Ar6, q6, S6, M6, H6, G6⟩ := id Va
  refine ov (B := s₁.setTop (mkF m 12 #[rv aZ, rv bZ, iv 1] [(.int 1), (.int 1)])) (fun t k => X0.arraylength hx (by rw [e0]; exact Ar6.1) (State.isArrayOf_alike hZ.alike Ar6.2.1) (g := (mkF m 11 #[rv aZ, rv bZ, iv 1] [(.ref aZ), (.int 1)])) rfl rfl (hb hby own_d16_11) _ (by rw [len_of S6 M6]; exact k)) ?_
  have hc12 : ¬ ((1 : Int32) < (1 : Int32)) := by decide
  refine ov (B := s₁.setTop (mkF m 32 #[rv aZ, rv bZ, iv 1] [])) (fun t k => XS.icmpYes X0.here hx rfl (pc0 := 12) (pc' := 32) rfl (hb hby own_d16_12) rfl (flt hc12).2.1 (by decide) (by decide) k) ?_
  refine oIC (n := 33) X0 hx (1 : Int32) (hb hby own_d16_32) (by decide) rfl ?_
  refine own_leaf X0 hx hlk (t := .boolean) Bd.returns (by decide) (Or.inl ⟨rfl, by simp, _, rfl⟩) (hb hby own_d16_33) (by decide) (by decide) ?_
  show QLE1 Z aZ bZ kZ lZ vA h0 n0 _ s₁.heap _
  rw [e0]
  refine ⟨?_, N0, rfl⟩
  rfl
theorem own_efQE1 (m : MethodId) (x0 : Addr) (x1 : Addr) : entryFrame m #[(.ref x0), (.ref x1)] 3 = mkF m 0 #[rv x0, rv x1, uu] [] := by first | (simp [entryFrame, mkF, argsToLocals, Value.category]; done) | rfl
def QQE1 (Z : State) (aQ : Addr) (bQ : Addr) (zc : Int32) (tQ : Addr) (uQ : Addr) (kQ : ClassId) (lQ : ClassId) (cQ : Int32) (vA : Int32) (h0 : Heap) (n0 : Nat) (v : Option Value) (h : Heap) (L : List Loc) : Prop := v = some (.int (1 : Int32)) ∧ Fr n0 L ∧ h = h0
set_option maxRecDepth 65536 in
set_option maxHeartbeats 40000000 in
theorem rmQE1 (l : Launch) (Z : State) (a0 : Array Value) (hw : ∀ d ∈ tables_1, d.before a0 Z = true) (ws : List Jvm.Cond) (aQ : Addr) (bQ : Addr) (zc : Int32) (tQ : Addr) (uQ : Addr) (kQ : ClassId) (lQ : ClassId) (cQ : Int32) (vA : Int32) (h0 : Heap) (n0 : Nat) (Z0 : n0 ≤ h0.size) (O0 : Old Z n0 h0) (Scz : Sta Z Z.heap sAA "COMPACT_STRINGS" "Z" (.int zc)) (hcz : ¬ zc = 0) (E_aQ : Exa Z h0 aQ sAA) (C_aQ : Fld Z h0 aQ sAA "coder" "B" (.int cQ)) (V_aQ : Fld Z h0 aQ sAA "value" "[B" (.ref tQ)) (A_aQ : Arv Z h0 tQ kQ .byte (1 : Int32) [(.int vA)] (.int (0 : Int32))) (E_bQ : Exa Z h0 bQ sAA) (C_bQ : Fld Z h0 bQ sAA "coder" "B" (.int cQ)) (V_bQ : Fld Z h0 bQ sAA "value" "[B" (.ref uQ)) (A_bQ : Arv Z h0 uQ lQ .byte (1 : Int32) [(.int vA)] (.int (0 : Int32))) :
    MetFree l (⟨sAA, "equals", sAJ⟩ : MethodName) (head1 (Jvm.Cond.code (⟨sAA, "equals", sAJ⟩ : MethodName) jdk_42_method_66_code 3 (some .boolean) :: ws) (oR 1 0 0 20)) (fun a U => a = #[(.ref aQ), (.ref bQ)] ∧ Z.Warmed39 U.vm ∧ U.heap = h0) (fun _ _ _ _ _ => True) (fun _ U o U' => ∃ v L, o = .returned v ∧ QQE1 Z aQ bQ zc tQ uQ kQ lQ cQ vA h0 n0 v U'.heap L ∧ FrameEnd U o U' L (oR 1 0 0 20).cells (oR 1 0 0 20).slots) := by
  refine MetFree.of_bodySF (plainFor_of_name own_pn1) hisR ?_
  intro p e s m args below meth c s₁ Bd hml0 hP hK
  obtain ⟨rfl, hZ, hh⟩ := hP
  have hx := Bd.exec
  have hby := Bd.bytes
  have hlk : meth.locks = false := Bd.notSynchronized
  have hml : c.maxLocals = 3 := hml0
  have hown : s.vm.findClass sAA = some m.cls := findClass_of_methodNamed Bd.named
  have hnm := (name_of_methodNamed Bd.named Bd.method).1
  have X0 : Stand p l e (oR 1 0 0 20) s m #[(.ref aQ), (.ref bQ)] below meth c s₁ [] 0 0 := Stand.of_body Bd
  have e0 : s₁.heap = h0 := by rw [← hh, Bd.state]; rfl
  have N0 := Fr.nil n0
  refine own_body (A := s₁.setTop (mkF m 0 #[rv aQ, rv bQ, uu] [])) (Q := QQE1 Z aQ bQ zc tQ uQ kQ lQ cQ vA h0 n0) (fun t k => castTop (own_efQE1 m aQ bQ) k) ?_
  refine oALN (n := 1) X0 hx (hb hby own_d15_0) rfl rfl rfl ?_
  refine oALN (n := 2) X0 hx (hb hby own_d15_1) rfl rfl rfl ?_
  by_cases hc2 : aQ = bQ
  · refine ov (B := s₁.setTop (mkF m 5 #[rv aQ, rv bQ, uu] [])) (fun t k => Jvm.RoadKit.acmp (g := (mkF m 2 #[rv aQ, rv bQ, uu] [(.ref bQ), (.ref aQ)])) X0 hx rfl rfl rfl (pc0 := 2) (pc' := 5) (same := true) rfl (hb hby own_d15_2) rfl (decide_eq_true (congrArg Value.ref hc2)) (by decide) (by decide) k) ?_
    refine oIC (n := 6) X0 hx (1 : Int32) (hb hby own_d15_5) (by decide) rfl ?_
    refine own_leaf X0 hx hlk (t := .boolean) Bd.returns (by decide) (Or.inl ⟨rfl, by simp, _, rfl⟩) (hb hby own_d15_6) (by decide) (by decide) ?_
    show QQE1 Z aQ bQ zc tQ uQ kQ lQ cQ vA h0 n0 _ s₁.heap _
    rw [e0]
    refine ⟨?_, N0, rfl⟩
    rfl
  · refine ov (B := s₁.setTop (mkF m 7 #[rv aQ, rv bQ, uu] [])) (fun t k => Jvm.RoadKit.acmp (g := (mkF m 2 #[rv aQ, rv bQ, uu] [(.ref bQ), (.ref aQ)])) X0 hx rfl rfl rfl (pc0 := 2) (pc' := 7) (same := false) rfl (hb hby own_d15_2) rfl (decide_eq_false fun q => hc2 (Value.ref.inj q)) (by decide) (by decide) k) ?_
    refine oALN (n := 8) X0 hx (hb hby own_d15_7) rfl rfl rfl ?_
    obtain ⟨T1, X1, e1, st1⟩ := instY X0 hx hZ hown (oW hw 120 rfl) e0 (Ins.self E_bQ) (g := (mkF m 8 #[rv aQ, rv bQ, uu] [(.ref bQ)])) rfl rfl (hb hby own_d15_8)
    refine ov (B := T1.setTop (mkF m 11 #[rv aQ, rv bQ, uu] [(.int 1)])) (fun t k => st1 t k) ?_
    have hc11 : ¬ ((1 : Int32) = (0 : Int32)) := by decide
    refine ov (B := T1.setTop (mkF m 14 #[rv aQ, rv bQ, uu] [])) (fun t k => XS.ifNo X1.here hx rfl (hb hby own_d15_11) rfl ((if0 _ _).trans (feq hc11).1) k) ?_
    refine oALN (n := 15) X1 hx (hb hby own_d15_14) rfl rfl rfl ?_
    obtain ⟨T2, X2, e2, st2⟩ := castY X1 hx hZ hown (oW hw 120 rfl) e1 (Ins.self E_bQ) (g := (mkF m 15 #[rv aQ, rv bQ, uu] [(.ref bQ)])) rfl rfl (hb hby own_d15_15)
    refine ov (B := T2.setTop (mkF m 18 #[rv aQ, rv bQ, uu] [(.ref bQ)])) (fun t k => st2 t k) ?_
    refine ov (B := T2.setTop (mkF m 19 #[rv aQ, rv bQ, rv bQ] [])) (fun t k => XS.astoreN X2.here hx rfl (hb hby own_d15_18) rfl rfl (l' := #[rv aQ, rv bQ, rv bQ]) rfl k) ?_
    obtain ⟨T3, X3, e3, st3⟩ := getS2 X2 hx hZ hown (host := "") (Or.inl (oW hw 121 rfl)) Via.refl e2 (Scz.ext O0.2) (g := (mkF m 19 #[rv aQ, rv bQ, rv bQ] [])) rfl (hb hby own_d15_19)
    refine ov (B := T3.setTop (mkF m 22 #[rv aQ, rv bQ, rv bQ] [(.int zc)])) (fun t k => st3 t k) ?_
    have hc22 : ¬ (zc = (0 : Int32)) := hcz
    refine ov (B := T3.setTop (mkF m 25 #[rv aQ, rv bQ, rv bQ] [])) (fun t k => XS.ifNo X3.here hx rfl (hb hby own_d15_22) rfl ((if0 _ _).trans (feq hc22).1) k) ?_
    refine oALN (n := 26) X3 hx (hb hby own_d15_25) rfl rfl rfl ?_
    obtain ⟨T4, X4, e4, st4⟩ := getF X3 hx hZ hown (host := "") (Or.inl (oW hw 26 rfl)) Via.refl e3 C_aQ (g := (mkF m 26 #[rv aQ, rv bQ, rv bQ] [(.ref aQ)])) rfl rfl (hb hby own_d15_26)
    refine ov (B := T4.setTop (mkF m 29 #[rv aQ, rv bQ, rv bQ] [(.int cQ)])) (fun t k => st4 t k) ?_
    refine oALN (n := 30) X4 hx (hb hby own_d15_29) rfl rfl rfl ?_
    obtain ⟨T5, X5, e5, st5⟩ := getF X4 hx hZ hown (host := "") (Or.inl (oW hw 26 rfl)) Via.refl e4 C_bQ (g := (mkF m 30 #[rv aQ, rv bQ, rv bQ] [(.ref bQ), (.int cQ)])) rfl rfl (hb hby own_d15_30)
    refine ov (B := T5.setTop (mkF m 33 #[rv aQ, rv bQ, rv bQ] [(.int cQ), (.int cQ)])) (fun t k => st5 t k) ?_
    have hc33 : cQ = cQ := rfl
    refine ov (B := T5.setTop (mkF m 36 #[rv aQ, rv bQ, rv bQ] [])) (fun t k => XS.icmpNo X5.here hx rfl (hb hby own_d15_33) rfl (teq hc33).2 k) ?_
    refine oALN (n := 37) X5 hx (hb hby own_d15_36) rfl rfl rfl ?_
    obtain ⟨T6, X6, e6, st6⟩ := getF X5 hx hZ hown (host := "") (Or.inl (oW hw 25 rfl)) Via.refl e5 V_aQ (g := (mkF m 37 #[rv aQ, rv bQ, rv bQ] [(.ref aQ)])) rfl rfl (hb hby own_d15_37)
    refine ov (B := T6.setTop (mkF m 40 #[rv aQ, rv bQ, rv bQ] [(.ref tQ)])) (fun t k => st6 t k) ?_
    refine oALN (n := 41) X6 hx (hb hby own_d15_40) rfl rfl rfl ?_
    obtain ⟨T7, X7, e7, st7⟩ := getF X6 hx hZ hown (host := "") (Or.inl (oW hw 25 rfl)) Via.refl e6 V_bQ (g := (mkF m 41 #[rv aQ, rv bQ, rv bQ] [(.ref bQ), (.ref tQ)])) rfl rfl (hb hby own_d15_41)
    refine ov (B := T7.setTop (mkF m 44 #[rv aQ, rv bQ, rv bQ] [(.ref uQ), (.ref tQ)])) (fun t k => st7 t k) ?_
    obtain ⟨_, _, ⟨T8, L8, k8, n8⟩, -, X8, ⟨Lc8, hQ8, l8, y8, z8⟩, st8⟩ := Jvm.LawKit.callS X7 hx (y := (⟨sAI, "equals", "([B[B)Z"⟩ : MethodName)) hown (mvT hZ (oW hw 122 rfl)) (mvT hZ (oW hw 123 rfl)) (mvT hZ (oW hw 124 rfl)) (mvT hZ (oW hw 125 rfl)) (by decide) (backOf (W := 0) (rmLE1 l Z a0 hw [] tQ uQ kQ lQ vA h0 n0 Z0 A_aQ A_bQ) hZ (oW hw 125 rfl) (oW hw 124 rfl) (by decide) (by decide)) (g := (mkF m 44 #[rv aQ, rv bQ, rv bQ] [(.ref uQ), (.ref tQ)])) rfl (by rw [hml]; rfl) (argsL := [(.ref tQ), (.ref uQ)]) (rest := []) (lenOf own_pd9 rfl) rfl (by show 2 * 0 + _ ≤ _; exact Nat.le_of_eq rfl) (hb hby own_d15_44) (fun _ _ => ⟨rfl, e7, (by decide : 0 + 0 ≤ _), (by decide : 0 + 0 ≤ _)⟩)
    dsimp only [Pt.U, Pt.locs, Pt.cells, Pt.slots] at X8 l8 y8 z8 st8 hQ8
    subst l8 y8 z8
    obtain ⟨rfl, Nq8, eq8⟩ := hQ8
    have N8 := Fr.app N0 Nq8
    refine ov (B := T8.setTop (mkF m 47 #[rv aQ, rv bQ, rv bQ] [(.int 1)])) (fun t k => st8 t k) ?_
    have hc47 : ¬ ((1 : Int32) = (0 : Int32)) := by decide
    refine ov (B := T8.setTop (mkF m 50 #[rv aQ, rv bQ, rv bQ] [])) (fun t k => XS.ifNo X8.here hx rfl (hb hby own_d15_47) rfl ((if0 _ _).trans (feq hc47).1) k) ?_
    refine oIC (n := 51) X8 hx (1 : Int32) (hb hby own_d15_50) (by decide) rfl ?_
    refine oGO (n := 55) X8 hx (hb hby own_d15_51) (by decide) (by decide) ?_
    refine own_leaf X8 hx hlk (t := .boolean) Bd.returns (by decide) (Or.inl ⟨rfl, by simp, _, rfl⟩) (hb hby own_d15_55) (by decide) (by decide) ?_
    show QQE1 Z aQ bQ zc tQ uQ kQ lQ cQ vA h0 n0 _ T8.heap _
    rw [eq8]
    refine ⟨?_, N8, rfl⟩
    rfl
theorem own_efXR1 (m : MethodId) (x0 : Addr) (x1 : Addr) : entryFrame m #[(.ref x0), (.ref x1)] 2 = mkF m 0 #[rv x0, rv x1] [] := by first | (simp [entryFrame, mkF, argsToLocals, Value.category]; done) | rfl
def QXR1 (Z : State) (aR : Addr) (bQ : Addr) (aQ : Addr) (zc : Int32) (tQ : Addr) (uQ : Addr) (kQ : ClassId) (lQ : ClassId) (cQ : Int32) (vA : Int32) (h0 : Heap) (n0 : Nat) (v : Option Value) (h : Heap) (L : List Loc) : Prop := v = some (.ref aR) ∧ Fr n0 L ∧ h = h0
set_option maxRecDepth 65536 in
set_option maxHeartbeats 40000000 in
theorem rmXR1 (l : Launch) (Z : State) (a0 : Array Value) (hw : ∀ d ∈ tables_1, d.before a0 Z = true) (ws : List Jvm.Cond) (aR : Addr) (bQ : Addr) (aQ : Addr) (zc : Int32) (tQ : Addr) (uQ : Addr) (kQ : ClassId) (lQ : ClassId) (cQ : Int32) (vA : Int32) (h0 : Heap) (n0 : Nat) (Z0 : n0 ≤ h0.size) (O0 : Old Z n0 h0) (Scz : Sta Z Z.heap sAA "COMPACT_STRINGS" "Z" (.int zc)) (hcz : ¬ zc = 0) (Fn : Fld Z h0 aR sAC "name" sAP (.ref aQ)) (E_aQ : Exa Z h0 aQ sAA) (C_aQ : Fld Z h0 aQ sAA "coder" "B" (.int cQ)) (V_aQ : Fld Z h0 aQ sAA "value" "[B" (.ref tQ)) (A_aQ : Arv Z h0 tQ kQ .byte (1 : Int32) [(.int vA)] (.int (0 : Int32))) (E_bQ : Exa Z h0 bQ sAA) (C_bQ : Fld Z h0 bQ sAA "coder" "B" (.int cQ)) (V_bQ : Fld Z h0 bQ sAA "value" "[B" (.ref uQ)) (A_bQ : Arv Z h0 uQ lQ .byte (1 : Int32) [(.int vA)] (.int (0 : Int32))) :
    MetFree l (⟨sAC, "requireName", sAE⟩ : MethodName) (head1 (Jvm.Cond.code (⟨sAC, "requireName", sAE⟩ : MethodName) prog_42_method_18_code 2 (some (.object sAC)) :: ws) (oR 2 0 0 40)) (fun a U => a = #[(.ref aR), (.ref bQ)] ∧ Z.Warmed39 U.vm ∧ U.heap = h0) (fun _ _ _ _ _ => True) (fun _ U o U' => ∃ v L, o = .returned v ∧ QXR1 Z aR bQ aQ zc tQ uQ kQ lQ cQ vA h0 n0 v U'.heap L ∧ FrameEnd U o U' L (oR 2 0 0 40).cells (oR 2 0 0 40).slots) := by
  refine MetFree.of_bodySF (plainFor_of_name own_pn4) hisR ?_
  intro p e s m args below meth c s₁ Bd hml0 hP hK
  obtain ⟨rfl, hZ, hh⟩ := hP
  have hx := Bd.exec
  have hby := Bd.bytes
  have hlk : meth.locks = false := Bd.notSynchronized
  have hml : c.maxLocals = 2 := hml0
  have hown : s.vm.findClass sAC = some m.cls := findClass_of_methodNamed Bd.named
  have hnm := (name_of_methodNamed Bd.named Bd.method).1
  have X0 : Stand p l e (oR 2 0 0 40) s m #[(.ref aR), (.ref bQ)] below meth c s₁ [] 0 0 := Stand.of_body Bd
  have e0 : s₁.heap = h0 := by rw [← hh, Bd.state]; rfl
  have N0 := Fr.nil n0
  refine own_body (A := s₁.setTop (mkF m 0 #[rv aR, rv bQ] [])) (Q := QXR1 Z aR bQ aQ zc tQ uQ kQ lQ cQ vA h0 n0) (fun t k => castTop (own_efXR1 m aR bQ) k) ?_
  refine oALN (n := 1) X0 hx (hb hby own_d14_0) rfl rfl rfl ?_
  obtain ⟨T1, X1, e1, st1⟩ := getF X0 hx hZ hown (host := "") (Or.inl (oW hw 108 rfl)) Via.refl e0 Fn (g := (mkF m 1 #[rv aR, rv bQ] [(.ref aR)])) rfl rfl (hb hby own_d14_1)
  refine ov (B := T1.setTop (mkF m 4 #[rv aR, rv bQ] [(.ref aQ)])) (fun t k => st1 t k) ?_
  refine oALN (n := 5) X1 hx (hb hby own_d14_4) rfl rfl rfl ?_
  obtain ⟨cq2, kq2, q2a, q2b, q2c⟩ := isOf hZ e1 E_aQ
  obtain ⟨_, _, ⟨T2, L2, k2, n2⟩, -, X2, ⟨Lc2, hQ2, l2, y2, z2⟩, st2⟩ := X1.virtualBack hx (y := (⟨sAA, "equals", sAJ⟩ : MethodName)) (z := (⟨sAA, "equals", sAJ⟩ : MethodName)) hown (mvT hZ (oW hw 115 rfl)) (mvT hZ (oW hw 116 rfl)) (notFace_of_selects (args := #[]) (mvT hZ (oW hw 118 rfl))) (mvT hZ (oW hw 118 rfl)) (mvT hZ (oW hw 117 rfl)) (by decide) (backOf (W := 0) (rmQE1 l Z a0 hw [] aQ bQ zc tQ uQ kQ lQ cQ vA h0 n0 Z0 O0 (by assumption) (by assumption) E_aQ C_aQ V_aQ A_aQ E_bQ C_bQ V_bQ A_bQ) hZ (oW hw 119 rfl) (oW hw 7 rfl) (by decide) (by decide)) q2a q2c (g := (mkF m 5 #[rv aR, rv bQ] [(.ref bQ), (.ref aQ)])) rfl (by rw [hml]; rfl) (Steps.refl _) (argsL := [(.ref bQ)]) (rest := []) (lenOf own_pd10 rfl) rfl (by show 2 * 0 + _ ≤ _; exact Nat.le_of_eq rfl) (hb hby own_d14_5) (fun _ _ => ⟨rfl, e1, (by decide : 0 + 0 ≤ _), (by decide : 0 + 0 ≤ _)⟩)
  dsimp only [Pt.U, Pt.locs, Pt.cells, Pt.slots] at X2 l2 y2 z2 st2 hQ2
  subst l2 y2 z2
  obtain ⟨rfl, Nq2, eq2⟩ := hQ2
  have N2 := Fr.app N0 Nq2
  refine ov (B := T2.setTop (mkF m 8 #[rv aR, rv bQ] [(.int 1)])) (fun t k => st2.trans k) ?_
  have hc8 : ¬ ((1 : Int32) = (0 : Int32)) := by decide
  refine ov (B := T2.setTop (mkF m 29 #[rv aR, rv bQ] [])) (fun t k => XS.ifYes X2.here hx rfl (pc0 := 8) (pc' := 29) rfl (hb hby own_d14_8) rfl ((if0 _ _).trans (feq hc8).2) (by decide) (by decide) k) ?_
  refine oALN (n := 30) X2 hx (hb hby own_d14_29) rfl rfl rfl ?_
  refine own_leaf X2 hx hlk (t := (.object sAC)) Bd.returns rfl (Or.inr (Or.inr (Or.inr (Or.inr ⟨rfl, rfl, rfl⟩)))) (hb hby own_d14_30) (by decide) (by decide) ?_
  show QXR1 Z aR bQ aQ zc tQ uQ kQ lQ cQ vA h0 n0 _ T2.heap _
  rw [eq2]
  refine ⟨?_, N2, rfl⟩
  rfl
theorem own_efLE2 (m : MethodId) (x0 : Addr) (x1 : Addr) : entryFrame m #[(.ref x0), (.ref x1)] 3 = mkF m 0 #[rv x0, rv x1, uu] [] := by first | (simp [entryFrame, mkF, argsToLocals, Value.category]; done) | rfl
def QLE2 (Z : State) (aZ : Addr) (bZ : Addr) (kZ : ClassId) (lZ : ClassId) (vA : Int32) (vB : Int32) (h0 : Heap) (n0 : Nat) (v : Option Value) (h : Heap) (L : List Loc) : Prop := v = some (.int (1 : Int32)) ∧ Fr n0 L ∧ h = h0
set_option maxRecDepth 65536 in
set_option maxHeartbeats 40000000 in
theorem rmLE2 (l : Launch) (Z : State) (a0 : Array Value) (hw : ∀ d ∈ tables_1, d.before a0 Z = true) (ws : List Jvm.Cond) (aZ : Addr) (bZ : Addr) (kZ : ClassId) (lZ : ClassId) (vA : Int32) (vB : Int32) (h0 : Heap) (n0 : Nat) (Z0 : n0 ≤ h0.size) (Va : Arv Z h0 aZ kZ .byte (2 : Int32) [(.int vA), (.int vB)] (.int (0 : Int32))) (Vb : Arv Z h0 bZ lZ .byte (2 : Int32) [(.int vA), (.int vB)] (.int (0 : Int32))) :
    MetFree l (⟨sAI, "equals", "([B[B)Z"⟩ : MethodName) (head1 (Jvm.Cond.code (⟨sAI, "equals", "([B[B)Z"⟩ : MethodName) jdk_43_method_13_code 3 (some .boolean) :: ws) (oR 0 0 0 0)) (fun a U => a = #[(.ref aZ), (.ref bZ)] ∧ Z.Warmed39 U.vm ∧ U.heap = h0) (fun _ _ _ _ _ => True) (fun _ U o U' => ∃ v L, o = .returned v ∧ QLE2 Z aZ bZ kZ lZ vA vB h0 n0 v U'.heap L ∧ FrameEnd U o U' L (oR 0 0 0 0).cells (oR 0 0 0 0).slots) := by
  refine MetFree.of_bodySF (plainFor_of_name own_pn3) hisR ?_
  intro p e s m args below meth c s₁ Bd hml0 hP hK
  obtain ⟨rfl, hZ, hh⟩ := hP
  have hx := Bd.exec
  have hby := Bd.bytes
  have hlk : meth.locks = false := Bd.notSynchronized
  have hml : c.maxLocals = 3 := hml0
  have hown : s.vm.findClass sAI = some m.cls := findClass_of_methodNamed Bd.named
  have hnm := (name_of_methodNamed Bd.named Bd.method).1
  have X0 : Stand p l e (oR 0 0 0 0) s m #[(.ref aZ), (.ref bZ)] below meth c s₁ [] 0 0 := Stand.of_body Bd
  have e0 : s₁.heap = h0 := by rw [← hh, Bd.state]; rfl
  have N0 := Fr.nil n0
  refine own_body (A := s₁.setTop (mkF m 0 #[rv aZ, rv bZ, uu] [])) (Q := QLE2 Z aZ bZ kZ lZ vA vB h0 n0) (fun t k => castTop (own_efLE2 m aZ bZ) k) ?_
  refine oALN (n := 1) X0 hx (hb hby own_d16_0) rfl rfl rfl ?_
  obtain ⟨cl1, Ar1, q1, S1, M1, H1, G1⟩ := id Va
  refine ov (B := s₁.setTop (mkF m 2 #[rv aZ, rv bZ, uu] [(.int 2)])) (fun t k => X0.arraylength hx (by rw [e0]; exact Ar1.1) (State.isArrayOf_alike hZ.alike Ar1.2.1) (g := (mkF m 1 #[rv aZ, rv bZ, uu] [(.ref aZ)])) rfl rfl (hb hby own_d16_1) _ (by rw [len_of S1 M1]; exact k)) ?_
  refine oALN (n := 3) X0 hx (hb hby own_d16_2) rfl rfl rfl ?_
  obtain ⟨cl2, Ar2, q2, S2, M2, H2, G2⟩ := id Vb
  refine ov (B := s₁.setTop (mkF m 4 #[rv aZ, rv bZ, uu] [(.int 2), (.int 2)])) (fun t k => X0.arraylength hx (by rw [e0]; exact Ar2.1) (State.isArrayOf_alike hZ.alike Ar2.2.1) (g := (mkF m 3 #[rv aZ, rv bZ, uu] [(.ref bZ), (.int 2)])) rfl rfl (hb hby own_d16_3) _ (by rw [len_of S2 M2]; exact k)) ?_
  have hc4 : (2 : Int32) = (2 : Int32) := by decide
  refine ov (B := s₁.setTop (mkF m 7 #[rv aZ, rv bZ, uu] [])) (fun t k => XS.icmpNo X0.here hx rfl (hb hby own_d16_4) rfl (teq hc4).2 k) ?_
  refine oIC (n := 8) X0 hx (0 : Int32) (hb hby own_d16_7) (by decide) rfl ?_
  refine ov (B := s₁.setTop (mkF m 9 #[rv aZ, rv bZ, iv 0] [])) (fun t k => XS.istoreN X0.here hx rfl (hb hby own_d16_8) rfl (l' := #[rv aZ, rv bZ, iv 0]) rfl k) ?_
  refine oILN (n := 10) X0 hx (hb hby own_d16_9) rfl rfl ?_
  refine oALN (n := 11) X0 hx (hb hby own_d16_10) rfl rfl rfl ?_
  obtain ⟨cl3, Ar3, q3, S3, M3, H3, G3⟩ := id Va
  refine ov (B := s₁.setTop (mkF m 12 #[rv aZ, rv bZ, iv 0] [(.int 2), (.int 0)])) (fun t k => X0.arraylength hx (by rw [e0]; exact Ar3.1) (State.isArrayOf_alike hZ.alike Ar3.2.1) (g := (mkF m 11 #[rv aZ, rv bZ, iv 0] [(.ref aZ), (.int 0)])) rfl rfl (hb hby own_d16_11) _ (by rw [len_of S3 M3]; exact k)) ?_
  have hc12 : (0 : Int32) < (2 : Int32) := by decide
  refine ov (B := s₁.setTop (mkF m 15 #[rv aZ, rv bZ, iv 0] [])) (fun t k => XS.icmpNo X0.here hx rfl (hb hby own_d16_12) rfl (tlt hc12).2.1 k) ?_
  refine oALN (n := 16) X0 hx (hb hby own_d16_15) rfl rfl rfl ?_
  refine oILN (n := 17) X0 hx (hb hby own_d16_16) rfl rfl ?_
  obtain ⟨cl4, Ar4, q4, S4, M4, H4, G4⟩ := id Va
  have hin4 : ¬ ((0 : Int32) < 0 ∨ cl4.slots.size ≤ ((0 : Int32)).toNatClampNeg) := inb_of S4 ⟨by decide, by decide⟩
  refine ov (B := s₁.setTop (mkF m 18 #[rv aZ, rv bZ, iv 0] [(.int vA)])) (fun t k => X0.baloadBytes hx (j := (0 : Int32)) (v := (.int vA)) (by rw [e0]; exact Ar4.1) (State.isArrayOf_alike hZ.alike Ar4.2.1) Ar4.2.2 hin4 (Has.at H4 hin4 rfl) (g := (mkF m 17 #[rv aZ, rv bZ, iv 0] [(.int 0), (.ref aZ)])) rfl rfl (hb hby own_d16_17) _ k) ?_
  refine oALN (n := 19) X0 hx (hb hby own_d16_18) rfl rfl rfl ?_
  refine oILN (n := 20) X0 hx (hb hby own_d16_19) rfl rfl ?_
  obtain ⟨cl5, Ar5, q5, S5, M5, H5, G5⟩ := id Vb
  have hin5 : ¬ ((0 : Int32) < 0 ∨ cl5.slots.size ≤ ((0 : Int32)).toNatClampNeg) := inb_of S5 ⟨by decide, by decide⟩
  refine ov (B := s₁.setTop (mkF m 21 #[rv aZ, rv bZ, iv 0] [(.int vA), (.int vA)])) (fun t k => X0.baloadBytes hx (j := (0 : Int32)) (v := (.int vA)) (by rw [e0]; exact Ar5.1) (State.isArrayOf_alike hZ.alike Ar5.2.1) Ar5.2.2 hin5 (Has.at H5 hin5 rfl) (g := (mkF m 20 #[rv aZ, rv bZ, iv 0] [(.int 0), (.ref bZ), (.int vA)])) rfl rfl (hb hby own_d16_20) _ k) ?_
  have hc21 : vA = vA := rfl
  refine ov (B := s₁.setTop (mkF m 26 #[rv aZ, rv bZ, iv 0] [])) (fun t k => XS.icmpYes X0.here hx rfl (pc0 := 21) (pc' := 26) rfl (hb hby own_d16_21) rfl (teq hc21).1 (by decide) (by decide) k) ?_
  refine ov (B := s₁.setTop (mkF m 29 #[rv aZ, rv bZ, iv 1] [])) (fun t k => XS.iinc X0.here hx rfl (hb hby own_d16_26) rfl (l' := #[rv aZ, rv bZ, iv 1]) rfl k) ?_
  refine oGO (n := 9) X0 hx (hb hby own_d16_29) (by decide) (by decide) ?_
  refine oILN (n := 10) X0 hx (hb hby own_d16_9) rfl rfl ?_
  refine oALN (n := 11) X0 hx (hb hby own_d16_10) rfl rfl rfl ?_
  obtain ⟨cl6, Ar6, q6, S6, M6, H6, G6⟩ := id Va
  refine ov (B := s₁.setTop (mkF m 12 #[rv aZ, rv bZ, iv 1] [(.int 2), (.int 1)])) (fun t k => X0.arraylength hx (by rw [e0]; exact Ar6.1) (State.isArrayOf_alike hZ.alike Ar6.2.1) (g := (mkF m 11 #[rv aZ, rv bZ, iv 1] [(.ref aZ), (.int 1)])) rfl rfl (hb hby own_d16_11) _ (by rw [len_of S6 M6]; exact k)) ?_
  have hc12 : (1 : Int32) < (2 : Int32) := by decide
  refine ov (B := s₁.setTop (mkF m 15 #[rv aZ, rv bZ, iv 1] [])) (fun t k => XS.icmpNo X0.here hx rfl (hb hby own_d16_12) rfl (tlt hc12).2.1 k) ?_
  refine oALN (n := 16) X0 hx (hb hby own_d16_15) rfl rfl rfl ?_
  refine oILN (n := 17) X0 hx (hb hby own_d16_16) rfl rfl ?_
  obtain ⟨cl7, Ar7, q7, S7, M7, H7, G7⟩ := id Va
  have hin7 : ¬ ((1 : Int32) < 0 ∨ cl7.slots.size ≤ ((1 : Int32)).toNatClampNeg) := inb_of S7 ⟨by decide, by decide⟩
  refine ov (B := s₁.setTop (mkF m 18 #[rv aZ, rv bZ, iv 1] [(.int vB)])) (fun t k => X0.baloadBytes hx (j := (1 : Int32)) (v := (.int vB)) (by rw [e0]; exact Ar7.1) (State.isArrayOf_alike hZ.alike Ar7.2.1) Ar7.2.2 hin7 (Has.at H7 hin7 rfl) (g := (mkF m 17 #[rv aZ, rv bZ, iv 1] [(.int 1), (.ref aZ)])) rfl rfl (hb hby own_d16_17) _ k) ?_
  refine oALN (n := 19) X0 hx (hb hby own_d16_18) rfl rfl rfl ?_
  refine oILN (n := 20) X0 hx (hb hby own_d16_19) rfl rfl ?_
  obtain ⟨cl8, Ar8, q8, S8, M8, H8, G8⟩ := id Vb
  have hin8 : ¬ ((1 : Int32) < 0 ∨ cl8.slots.size ≤ ((1 : Int32)).toNatClampNeg) := inb_of S8 ⟨by decide, by decide⟩
  refine ov (B := s₁.setTop (mkF m 21 #[rv aZ, rv bZ, iv 1] [(.int vB), (.int vB)])) (fun t k => X0.baloadBytes hx (j := (1 : Int32)) (v := (.int vB)) (by rw [e0]; exact Ar8.1) (State.isArrayOf_alike hZ.alike Ar8.2.1) Ar8.2.2 hin8 (Has.at H8 hin8 rfl) (g := (mkF m 20 #[rv aZ, rv bZ, iv 1] [(.int 1), (.ref bZ), (.int vB)])) rfl rfl (hb hby own_d16_20) _ k) ?_
  have hc21 : vB = vB := rfl
  refine ov (B := s₁.setTop (mkF m 26 #[rv aZ, rv bZ, iv 1] [])) (fun t k => XS.icmpYes X0.here hx rfl (pc0 := 21) (pc' := 26) rfl (hb hby own_d16_21) rfl (teq hc21).1 (by decide) (by decide) k) ?_
  refine ov (B := s₁.setTop (mkF m 29 #[rv aZ, rv bZ, iv 2] [])) (fun t k => XS.iinc X0.here hx rfl (hb hby own_d16_26) rfl (l' := #[rv aZ, rv bZ, iv 2]) rfl k) ?_
  refine oGO (n := 9) X0 hx (hb hby own_d16_29) (by decide) (by decide) ?_
  refine oILN (n := 10) X0 hx (hb hby own_d16_9) rfl rfl ?_
  refine oALN (n := 11) X0 hx (hb hby own_d16_10) rfl rfl rfl ?_
  obtain ⟨cl9, Ar9, q9, S9, M9, H9, G9⟩ := id Va
  refine ov (B := s₁.setTop (mkF m 12 #[rv aZ, rv bZ, iv 2] [(.int 2), (.int 2)])) (fun t k => X0.arraylength hx (by rw [e0]; exact Ar9.1) (State.isArrayOf_alike hZ.alike Ar9.2.1) (g := (mkF m 11 #[rv aZ, rv bZ, iv 2] [(.ref aZ), (.int 2)])) rfl rfl (hb hby own_d16_11) _ (by rw [len_of S9 M9]; exact k)) ?_
  have hc12 : ¬ ((2 : Int32) < (2 : Int32)) := by decide
  refine ov (B := s₁.setTop (mkF m 32 #[rv aZ, rv bZ, iv 2] [])) (fun t k => XS.icmpYes X0.here hx rfl (pc0 := 12) (pc' := 32) rfl (hb hby own_d16_12) rfl (flt hc12).2.1 (by decide) (by decide) k) ?_
  refine oIC (n := 33) X0 hx (1 : Int32) (hb hby own_d16_32) (by decide) rfl ?_
  refine own_leaf X0 hx hlk (t := .boolean) Bd.returns (by decide) (Or.inl ⟨rfl, by simp, _, rfl⟩) (hb hby own_d16_33) (by decide) (by decide) ?_
  show QLE2 Z aZ bZ kZ lZ vA vB h0 n0 _ s₁.heap _
  rw [e0]
  refine ⟨?_, N0, rfl⟩
  rfl
theorem own_efQE2 (m : MethodId) (x0 : Addr) (x1 : Addr) : entryFrame m #[(.ref x0), (.ref x1)] 3 = mkF m 0 #[rv x0, rv x1, uu] [] := by first | (simp [entryFrame, mkF, argsToLocals, Value.category]; done) | rfl
def QQE2 (Z : State) (aQ : Addr) (bQ : Addr) (zc : Int32) (tQ : Addr) (uQ : Addr) (kQ : ClassId) (lQ : ClassId) (cQ : Int32) (vA : Int32) (vB : Int32) (h0 : Heap) (n0 : Nat) (v : Option Value) (h : Heap) (L : List Loc) : Prop := v = some (.int (1 : Int32)) ∧ Fr n0 L ∧ h = h0
set_option maxRecDepth 65536 in
set_option maxHeartbeats 40000000 in
theorem rmQE2 (l : Launch) (Z : State) (a0 : Array Value) (hw : ∀ d ∈ tables_1, d.before a0 Z = true) (ws : List Jvm.Cond) (aQ : Addr) (bQ : Addr) (zc : Int32) (tQ : Addr) (uQ : Addr) (kQ : ClassId) (lQ : ClassId) (cQ : Int32) (vA : Int32) (vB : Int32) (h0 : Heap) (n0 : Nat) (Z0 : n0 ≤ h0.size) (O0 : Old Z n0 h0) (Scz : Sta Z Z.heap sAA "COMPACT_STRINGS" "Z" (.int zc)) (hcz : ¬ zc = 0) (E_aQ : Exa Z h0 aQ sAA) (C_aQ : Fld Z h0 aQ sAA "coder" "B" (.int cQ)) (V_aQ : Fld Z h0 aQ sAA "value" "[B" (.ref tQ)) (A_aQ : Arv Z h0 tQ kQ .byte (2 : Int32) [(.int vA), (.int vB)] (.int (0 : Int32))) (E_bQ : Exa Z h0 bQ sAA) (C_bQ : Fld Z h0 bQ sAA "coder" "B" (.int cQ)) (V_bQ : Fld Z h0 bQ sAA "value" "[B" (.ref uQ)) (A_bQ : Arv Z h0 uQ lQ .byte (2 : Int32) [(.int vA), (.int vB)] (.int (0 : Int32))) :
    MetFree l (⟨sAA, "equals", sAJ⟩ : MethodName) (head1 (Jvm.Cond.code (⟨sAA, "equals", sAJ⟩ : MethodName) jdk_42_method_66_code 3 (some .boolean) :: ws) (oR 1 0 0 20)) (fun a U => a = #[(.ref aQ), (.ref bQ)] ∧ Z.Warmed39 U.vm ∧ U.heap = h0) (fun _ _ _ _ _ => True) (fun _ U o U' => ∃ v L, o = .returned v ∧ QQE2 Z aQ bQ zc tQ uQ kQ lQ cQ vA vB h0 n0 v U'.heap L ∧ FrameEnd U o U' L (oR 1 0 0 20).cells (oR 1 0 0 20).slots) := by
  refine MetFree.of_bodySF (plainFor_of_name own_pn1) hisR ?_
  intro p e s m args below meth c s₁ Bd hml0 hP hK
  obtain ⟨rfl, hZ, hh⟩ := hP
  have hx := Bd.exec
  have hby := Bd.bytes
  have hlk : meth.locks = false := Bd.notSynchronized
  have hml : c.maxLocals = 3 := hml0
  have hown : s.vm.findClass sAA = some m.cls := findClass_of_methodNamed Bd.named
  have hnm := (name_of_methodNamed Bd.named Bd.method).1
  have X0 : Stand p l e (oR 1 0 0 20) s m #[(.ref aQ), (.ref bQ)] below meth c s₁ [] 0 0 := Stand.of_body Bd
  have e0 : s₁.heap = h0 := by rw [← hh, Bd.state]; rfl
  have N0 := Fr.nil n0
  refine own_body (A := s₁.setTop (mkF m 0 #[rv aQ, rv bQ, uu] [])) (Q := QQE2 Z aQ bQ zc tQ uQ kQ lQ cQ vA vB h0 n0) (fun t k => castTop (own_efQE2 m aQ bQ) k) ?_
  refine oALN (n := 1) X0 hx (hb hby own_d15_0) rfl rfl rfl ?_
  refine oALN (n := 2) X0 hx (hb hby own_d15_1) rfl rfl rfl ?_
  by_cases hc2 : aQ = bQ
  · refine ov (B := s₁.setTop (mkF m 5 #[rv aQ, rv bQ, uu] [])) (fun t k => Jvm.RoadKit.acmp (g := (mkF m 2 #[rv aQ, rv bQ, uu] [(.ref bQ), (.ref aQ)])) X0 hx rfl rfl rfl (pc0 := 2) (pc' := 5) (same := true) rfl (hb hby own_d15_2) rfl (decide_eq_true (congrArg Value.ref hc2)) (by decide) (by decide) k) ?_
    refine oIC (n := 6) X0 hx (1 : Int32) (hb hby own_d15_5) (by decide) rfl ?_
    refine own_leaf X0 hx hlk (t := .boolean) Bd.returns (by decide) (Or.inl ⟨rfl, by simp, _, rfl⟩) (hb hby own_d15_6) (by decide) (by decide) ?_
    show QQE2 Z aQ bQ zc tQ uQ kQ lQ cQ vA vB h0 n0 _ s₁.heap _
    rw [e0]
    refine ⟨?_, N0, rfl⟩
    rfl
  · refine ov (B := s₁.setTop (mkF m 7 #[rv aQ, rv bQ, uu] [])) (fun t k => Jvm.RoadKit.acmp (g := (mkF m 2 #[rv aQ, rv bQ, uu] [(.ref bQ), (.ref aQ)])) X0 hx rfl rfl rfl (pc0 := 2) (pc' := 7) (same := false) rfl (hb hby own_d15_2) rfl (decide_eq_false fun q => hc2 (Value.ref.inj q)) (by decide) (by decide) k) ?_
    refine oALN (n := 8) X0 hx (hb hby own_d15_7) rfl rfl rfl ?_
    obtain ⟨T1, X1, e1, st1⟩ := instY X0 hx hZ hown (oW hw 120 rfl) e0 (Ins.self E_bQ) (g := (mkF m 8 #[rv aQ, rv bQ, uu] [(.ref bQ)])) rfl rfl (hb hby own_d15_8)
    refine ov (B := T1.setTop (mkF m 11 #[rv aQ, rv bQ, uu] [(.int 1)])) (fun t k => st1 t k) ?_
    have hc11 : ¬ ((1 : Int32) = (0 : Int32)) := by decide
    refine ov (B := T1.setTop (mkF m 14 #[rv aQ, rv bQ, uu] [])) (fun t k => XS.ifNo X1.here hx rfl (hb hby own_d15_11) rfl ((if0 _ _).trans (feq hc11).1) k) ?_
    refine oALN (n := 15) X1 hx (hb hby own_d15_14) rfl rfl rfl ?_
    obtain ⟨T2, X2, e2, st2⟩ := castY X1 hx hZ hown (oW hw 120 rfl) e1 (Ins.self E_bQ) (g := (mkF m 15 #[rv aQ, rv bQ, uu] [(.ref bQ)])) rfl rfl (hb hby own_d15_15)
    refine ov (B := T2.setTop (mkF m 18 #[rv aQ, rv bQ, uu] [(.ref bQ)])) (fun t k => st2 t k) ?_
    refine ov (B := T2.setTop (mkF m 19 #[rv aQ, rv bQ, rv bQ] [])) (fun t k => XS.astoreN X2.here hx rfl (hb hby own_d15_18) rfl rfl (l' := #[rv aQ, rv bQ, rv bQ]) rfl k) ?_
    obtain ⟨T3, X3, e3, st3⟩ := getS2 X2 hx hZ hown (host := "") (Or.inl (oW hw 121 rfl)) Via.refl e2 (Scz.ext O0.2) (g := (mkF m 19 #[rv aQ, rv bQ, rv bQ] [])) rfl (hb hby own_d15_19)
    refine ov (B := T3.setTop (mkF m 22 #[rv aQ, rv bQ, rv bQ] [(.int zc)])) (fun t k => st3 t k) ?_
    have hc22 : ¬ (zc = (0 : Int32)) := hcz
    refine ov (B := T3.setTop (mkF m 25 #[rv aQ, rv bQ, rv bQ] [])) (fun t k => XS.ifNo X3.here hx rfl (hb hby own_d15_22) rfl ((if0 _ _).trans (feq hc22).1) k) ?_
    refine oALN (n := 26) X3 hx (hb hby own_d15_25) rfl rfl rfl ?_
    obtain ⟨T4, X4, e4, st4⟩ := getF X3 hx hZ hown (host := "") (Or.inl (oW hw 26 rfl)) Via.refl e3 C_aQ (g := (mkF m 26 #[rv aQ, rv bQ, rv bQ] [(.ref aQ)])) rfl rfl (hb hby own_d15_26)
    refine ov (B := T4.setTop (mkF m 29 #[rv aQ, rv bQ, rv bQ] [(.int cQ)])) (fun t k => st4 t k) ?_
    refine oALN (n := 30) X4 hx (hb hby own_d15_29) rfl rfl rfl ?_
    obtain ⟨T5, X5, e5, st5⟩ := getF X4 hx hZ hown (host := "") (Or.inl (oW hw 26 rfl)) Via.refl e4 C_bQ (g := (mkF m 30 #[rv aQ, rv bQ, rv bQ] [(.ref bQ), (.int cQ)])) rfl rfl (hb hby own_d15_30)
    refine ov (B := T5.setTop (mkF m 33 #[rv aQ, rv bQ, rv bQ] [(.int cQ), (.int cQ)])) (fun t k => st5 t k) ?_
    have hc33 : cQ = cQ := rfl
    refine ov (B := T5.setTop (mkF m 36 #[rv aQ, rv bQ, rv bQ] [])) (fun t k => XS.icmpNo X5.here hx rfl (hb hby own_d15_33) rfl (teq hc33).2 k) ?_
    refine oALN (n := 37) X5 hx (hb hby own_d15_36) rfl rfl rfl ?_
    obtain ⟨T6, X6, e6, st6⟩ := getF X5 hx hZ hown (host := "") (Or.inl (oW hw 25 rfl)) Via.refl e5 V_aQ (g := (mkF m 37 #[rv aQ, rv bQ, rv bQ] [(.ref aQ)])) rfl rfl (hb hby own_d15_37)
    refine ov (B := T6.setTop (mkF m 40 #[rv aQ, rv bQ, rv bQ] [(.ref tQ)])) (fun t k => st6 t k) ?_
    refine oALN (n := 41) X6 hx (hb hby own_d15_40) rfl rfl rfl ?_
    obtain ⟨T7, X7, e7, st7⟩ := getF X6 hx hZ hown (host := "") (Or.inl (oW hw 25 rfl)) Via.refl e6 V_bQ (g := (mkF m 41 #[rv aQ, rv bQ, rv bQ] [(.ref bQ), (.ref tQ)])) rfl rfl (hb hby own_d15_41)
    refine ov (B := T7.setTop (mkF m 44 #[rv aQ, rv bQ, rv bQ] [(.ref uQ), (.ref tQ)])) (fun t k => st7 t k) ?_
    obtain ⟨_, _, ⟨T8, L8, k8, n8⟩, -, X8, ⟨Lc8, hQ8, l8, y8, z8⟩, st8⟩ := Jvm.LawKit.callS X7 hx (y := (⟨sAI, "equals", "([B[B)Z"⟩ : MethodName)) hown (mvT hZ (oW hw 122 rfl)) (mvT hZ (oW hw 123 rfl)) (mvT hZ (oW hw 124 rfl)) (mvT hZ (oW hw 125 rfl)) (by decide) (backOf (W := 0) (rmLE2 l Z a0 hw [] tQ uQ kQ lQ vA vB h0 n0 Z0 A_aQ A_bQ) hZ (oW hw 125 rfl) (oW hw 124 rfl) (by decide) (by decide)) (g := (mkF m 44 #[rv aQ, rv bQ, rv bQ] [(.ref uQ), (.ref tQ)])) rfl (by rw [hml]; rfl) (argsL := [(.ref tQ), (.ref uQ)]) (rest := []) (lenOf own_pd9 rfl) rfl (by show 2 * 0 + _ ≤ _; exact Nat.le_of_eq rfl) (hb hby own_d15_44) (fun _ _ => ⟨rfl, e7, (by decide : 0 + 0 ≤ _), (by decide : 0 + 0 ≤ _)⟩)
    dsimp only [Pt.U, Pt.locs, Pt.cells, Pt.slots] at X8 l8 y8 z8 st8 hQ8
    subst l8 y8 z8
    obtain ⟨rfl, Nq8, eq8⟩ := hQ8
    have N8 := Fr.app N0 Nq8
    refine ov (B := T8.setTop (mkF m 47 #[rv aQ, rv bQ, rv bQ] [(.int 1)])) (fun t k => st8 t k) ?_
    have hc47 : ¬ ((1 : Int32) = (0 : Int32)) := by decide
    refine ov (B := T8.setTop (mkF m 50 #[rv aQ, rv bQ, rv bQ] [])) (fun t k => XS.ifNo X8.here hx rfl (hb hby own_d15_47) rfl ((if0 _ _).trans (feq hc47).1) k) ?_
    refine oIC (n := 51) X8 hx (1 : Int32) (hb hby own_d15_50) (by decide) rfl ?_
    refine oGO (n := 55) X8 hx (hb hby own_d15_51) (by decide) (by decide) ?_
    refine own_leaf X8 hx hlk (t := .boolean) Bd.returns (by decide) (Or.inl ⟨rfl, by simp, _, rfl⟩) (hb hby own_d15_55) (by decide) (by decide) ?_
    show QQE2 Z aQ bQ zc tQ uQ kQ lQ cQ vA vB h0 n0 _ T8.heap _
    rw [eq8]
    refine ⟨?_, N8, rfl⟩
    rfl
theorem own_efXR2 (m : MethodId) (x0 : Addr) (x1 : Addr) : entryFrame m #[(.ref x0), (.ref x1)] 2 = mkF m 0 #[rv x0, rv x1] [] := by first | (simp [entryFrame, mkF, argsToLocals, Value.category]; done) | rfl
def QXR2 (Z : State) (aR : Addr) (bQ : Addr) (aQ : Addr) (zc : Int32) (tQ : Addr) (uQ : Addr) (kQ : ClassId) (lQ : ClassId) (cQ : Int32) (vA : Int32) (vB : Int32) (h0 : Heap) (n0 : Nat) (v : Option Value) (h : Heap) (L : List Loc) : Prop := v = some (.ref aR) ∧ Fr n0 L ∧ h = h0
set_option maxRecDepth 65536 in
set_option maxHeartbeats 40000000 in
theorem rmXR2 (l : Launch) (Z : State) (a0 : Array Value) (hw : ∀ d ∈ tables_1, d.before a0 Z = true) (ws : List Jvm.Cond) (aR : Addr) (bQ : Addr) (aQ : Addr) (zc : Int32) (tQ : Addr) (uQ : Addr) (kQ : ClassId) (lQ : ClassId) (cQ : Int32) (vA : Int32) (vB : Int32) (h0 : Heap) (n0 : Nat) (Z0 : n0 ≤ h0.size) (O0 : Old Z n0 h0) (Scz : Sta Z Z.heap sAA "COMPACT_STRINGS" "Z" (.int zc)) (hcz : ¬ zc = 0) (Fn : Fld Z h0 aR sAC "name" sAP (.ref aQ)) (E_aQ : Exa Z h0 aQ sAA) (C_aQ : Fld Z h0 aQ sAA "coder" "B" (.int cQ)) (V_aQ : Fld Z h0 aQ sAA "value" "[B" (.ref tQ)) (A_aQ : Arv Z h0 tQ kQ .byte (2 : Int32) [(.int vA), (.int vB)] (.int (0 : Int32))) (E_bQ : Exa Z h0 bQ sAA) (C_bQ : Fld Z h0 bQ sAA "coder" "B" (.int cQ)) (V_bQ : Fld Z h0 bQ sAA "value" "[B" (.ref uQ)) (A_bQ : Arv Z h0 uQ lQ .byte (2 : Int32) [(.int vA), (.int vB)] (.int (0 : Int32))) :
    MetFree l (⟨sAC, "requireName", sAE⟩ : MethodName) (head1 (Jvm.Cond.code (⟨sAC, "requireName", sAE⟩ : MethodName) prog_42_method_18_code 2 (some (.object sAC)) :: ws) (oR 2 0 0 40)) (fun a U => a = #[(.ref aR), (.ref bQ)] ∧ Z.Warmed39 U.vm ∧ U.heap = h0) (fun _ _ _ _ _ => True) (fun _ U o U' => ∃ v L, o = .returned v ∧ QXR2 Z aR bQ aQ zc tQ uQ kQ lQ cQ vA vB h0 n0 v U'.heap L ∧ FrameEnd U o U' L (oR 2 0 0 40).cells (oR 2 0 0 40).slots) := by
  refine MetFree.of_bodySF (plainFor_of_name own_pn4) hisR ?_
  intro p e s m args below meth c s₁ Bd hml0 hP hK
  obtain ⟨rfl, hZ, hh⟩ := hP
  have hx := Bd.exec
  have hby := Bd.bytes
  have hlk : meth.locks = false := Bd.notSynchronized
  have hml : c.maxLocals = 2 := hml0
  have hown : s.vm.findClass sAC = some m.cls := findClass_of_methodNamed Bd.named
  have hnm := (name_of_methodNamed Bd.named Bd.method).1
  have X0 : Stand p l e (oR 2 0 0 40) s m #[(.ref aR), (.ref bQ)] below meth c s₁ [] 0 0 := Stand.of_body Bd
  have e0 : s₁.heap = h0 := by rw [← hh, Bd.state]; rfl
  have N0 := Fr.nil n0
  refine own_body (A := s₁.setTop (mkF m 0 #[rv aR, rv bQ] [])) (Q := QXR2 Z aR bQ aQ zc tQ uQ kQ lQ cQ vA vB h0 n0) (fun t k => castTop (own_efXR2 m aR bQ) k) ?_
  refine oALN (n := 1) X0 hx (hb hby own_d14_0) rfl rfl rfl ?_
  obtain ⟨T1, X1, e1, st1⟩ := getF X0 hx hZ hown (host := "") (Or.inl (oW hw 108 rfl)) Via.refl e0 Fn (g := (mkF m 1 #[rv aR, rv bQ] [(.ref aR)])) rfl rfl (hb hby own_d14_1)
  refine ov (B := T1.setTop (mkF m 4 #[rv aR, rv bQ] [(.ref aQ)])) (fun t k => st1 t k) ?_
  refine oALN (n := 5) X1 hx (hb hby own_d14_4) rfl rfl rfl ?_
  obtain ⟨cq2, kq2, q2a, q2b, q2c⟩ := isOf hZ e1 E_aQ
  obtain ⟨_, _, ⟨T2, L2, k2, n2⟩, -, X2, ⟨Lc2, hQ2, l2, y2, z2⟩, st2⟩ := X1.virtualBack hx (y := (⟨sAA, "equals", sAJ⟩ : MethodName)) (z := (⟨sAA, "equals", sAJ⟩ : MethodName)) hown (mvT hZ (oW hw 115 rfl)) (mvT hZ (oW hw 116 rfl)) (notFace_of_selects (args := #[]) (mvT hZ (oW hw 118 rfl))) (mvT hZ (oW hw 118 rfl)) (mvT hZ (oW hw 117 rfl)) (by decide) (backOf (W := 0) (rmQE2 l Z a0 hw [] aQ bQ zc tQ uQ kQ lQ cQ vA vB h0 n0 Z0 O0 (by assumption) (by assumption) E_aQ C_aQ V_aQ A_aQ E_bQ C_bQ V_bQ A_bQ) hZ (oW hw 119 rfl) (oW hw 7 rfl) (by decide) (by decide)) q2a q2c (g := (mkF m 5 #[rv aR, rv bQ] [(.ref bQ), (.ref aQ)])) rfl (by rw [hml]; rfl) (Steps.refl _) (argsL := [(.ref bQ)]) (rest := []) (lenOf own_pd10 rfl) rfl (by show 2 * 0 + _ ≤ _; exact Nat.le_of_eq rfl) (hb hby own_d14_5) (fun _ _ => ⟨rfl, e1, (by decide : 0 + 0 ≤ _), (by decide : 0 + 0 ≤ _)⟩)
  dsimp only [Pt.U, Pt.locs, Pt.cells, Pt.slots] at X2 l2 y2 z2 st2 hQ2
  subst l2 y2 z2
  obtain ⟨rfl, Nq2, eq2⟩ := hQ2
  have N2 := Fr.app N0 Nq2
  refine ov (B := T2.setTop (mkF m 8 #[rv aR, rv bQ] [(.int 1)])) (fun t k => st2.trans k) ?_
  have hc8 : ¬ ((1 : Int32) = (0 : Int32)) := by decide
  refine ov (B := T2.setTop (mkF m 29 #[rv aR, rv bQ] [])) (fun t k => XS.ifYes X2.here hx rfl (pc0 := 8) (pc' := 29) rfl (hb hby own_d14_8) rfl ((if0 _ _).trans (feq hc8).2) (by decide) (by decide) k) ?_
  refine oALN (n := 30) X2 hx (hb hby own_d14_29) rfl rfl rfl ?_
  refine own_leaf X2 hx hlk (t := (.object sAC)) Bd.returns rfl (Or.inr (Or.inr (Or.inr (Or.inr ⟨rfl, rfl, rfl⟩)))) (hb hby own_d14_30) (by decide) (by decide) ?_
  show QXR2 Z aR bQ aQ zc tQ uQ kQ lQ cQ vA vB h0 n0 _ T2.heap _
  rw [eq2]
  refine ⟨?_, N2, rfl⟩
  rfl
theorem own_efLE3 (m : MethodId) (x0 : Addr) (x1 : Addr) : entryFrame m #[(.ref x0), (.ref x1)] 3 = mkF m 0 #[rv x0, rv x1, uu] [] := by first | (simp [entryFrame, mkF, argsToLocals, Value.category]; done) | rfl
def QLE3 (Z : State) (aZ : Addr) (bZ : Addr) (kZ : ClassId) (lZ : ClassId) (vA : Int32) (vB : Int32) (vC : Int32) (h0 : Heap) (n0 : Nat) (v : Option Value) (h : Heap) (L : List Loc) : Prop := v = some (.int (1 : Int32)) ∧ Fr n0 L ∧ h = h0
set_option maxRecDepth 65536 in
set_option maxHeartbeats 40000000 in
theorem rmLE3 (l : Launch) (Z : State) (a0 : Array Value) (hw : ∀ d ∈ tables_1, d.before a0 Z = true) (ws : List Jvm.Cond) (aZ : Addr) (bZ : Addr) (kZ : ClassId) (lZ : ClassId) (vA : Int32) (vB : Int32) (vC : Int32) (h0 : Heap) (n0 : Nat) (Z0 : n0 ≤ h0.size) (Va : Arv Z h0 aZ kZ .byte (3 : Int32) [(.int vA), (.int vB), (.int vC)] (.int (0 : Int32))) (Vb : Arv Z h0 bZ lZ .byte (3 : Int32) [(.int vA), (.int vB), (.int vC)] (.int (0 : Int32))) :
    MetFree l (⟨sAI, "equals", "([B[B)Z"⟩ : MethodName) (head1 (Jvm.Cond.code (⟨sAI, "equals", "([B[B)Z"⟩ : MethodName) jdk_43_method_13_code 3 (some .boolean) :: ws) (oR 0 0 0 0)) (fun a U => a = #[(.ref aZ), (.ref bZ)] ∧ Z.Warmed39 U.vm ∧ U.heap = h0) (fun _ _ _ _ _ => True) (fun _ U o U' => ∃ v L, o = .returned v ∧ QLE3 Z aZ bZ kZ lZ vA vB vC h0 n0 v U'.heap L ∧ FrameEnd U o U' L (oR 0 0 0 0).cells (oR 0 0 0 0).slots) := by
  refine MetFree.of_bodySF (plainFor_of_name own_pn3) hisR ?_
  intro p e s m args below meth c s₁ Bd hml0 hP hK
  obtain ⟨rfl, hZ, hh⟩ := hP
  have hx := Bd.exec
  have hby := Bd.bytes
  have hlk : meth.locks = false := Bd.notSynchronized
  have hml : c.maxLocals = 3 := hml0
  have hown : s.vm.findClass sAI = some m.cls := findClass_of_methodNamed Bd.named
  have hnm := (name_of_methodNamed Bd.named Bd.method).1
  have X0 : Stand p l e (oR 0 0 0 0) s m #[(.ref aZ), (.ref bZ)] below meth c s₁ [] 0 0 := Stand.of_body Bd
  have e0 : s₁.heap = h0 := by rw [← hh, Bd.state]; rfl
  have N0 := Fr.nil n0
  refine own_body (A := s₁.setTop (mkF m 0 #[rv aZ, rv bZ, uu] [])) (Q := QLE3 Z aZ bZ kZ lZ vA vB vC h0 n0) (fun t k => castTop (own_efLE3 m aZ bZ) k) ?_
  refine oALN (n := 1) X0 hx (hb hby own_d16_0) rfl rfl rfl ?_
  obtain ⟨cl1, Ar1, q1, S1, M1, H1, G1⟩ := id Va
  refine ov (B := s₁.setTop (mkF m 2 #[rv aZ, rv bZ, uu] [(.int 3)])) (fun t k => X0.arraylength hx (by rw [e0]; exact Ar1.1) (State.isArrayOf_alike hZ.alike Ar1.2.1) (g := (mkF m 1 #[rv aZ, rv bZ, uu] [(.ref aZ)])) rfl rfl (hb hby own_d16_1) _ (by rw [len_of S1 M1]; exact k)) ?_
  refine oALN (n := 3) X0 hx (hb hby own_d16_2) rfl rfl rfl ?_
  obtain ⟨cl2, Ar2, q2, S2, M2, H2, G2⟩ := id Vb
  refine ov (B := s₁.setTop (mkF m 4 #[rv aZ, rv bZ, uu] [(.int 3), (.int 3)])) (fun t k => X0.arraylength hx (by rw [e0]; exact Ar2.1) (State.isArrayOf_alike hZ.alike Ar2.2.1) (g := (mkF m 3 #[rv aZ, rv bZ, uu] [(.ref bZ), (.int 3)])) rfl rfl (hb hby own_d16_3) _ (by rw [len_of S2 M2]; exact k)) ?_
  have hc4 : (3 : Int32) = (3 : Int32) := by decide
  refine ov (B := s₁.setTop (mkF m 7 #[rv aZ, rv bZ, uu] [])) (fun t k => XS.icmpNo X0.here hx rfl (hb hby own_d16_4) rfl (teq hc4).2 k) ?_
  refine oIC (n := 8) X0 hx (0 : Int32) (hb hby own_d16_7) (by decide) rfl ?_
  refine ov (B := s₁.setTop (mkF m 9 #[rv aZ, rv bZ, iv 0] [])) (fun t k => XS.istoreN X0.here hx rfl (hb hby own_d16_8) rfl (l' := #[rv aZ, rv bZ, iv 0]) rfl k) ?_
  refine oILN (n := 10) X0 hx (hb hby own_d16_9) rfl rfl ?_
  refine oALN (n := 11) X0 hx (hb hby own_d16_10) rfl rfl rfl ?_
  obtain ⟨cl3, Ar3, q3, S3, M3, H3, G3⟩ := id Va
  refine ov (B := s₁.setTop (mkF m 12 #[rv aZ, rv bZ, iv 0] [(.int 3), (.int 0)])) (fun t k => X0.arraylength hx (by rw [e0]; exact Ar3.1) (State.isArrayOf_alike hZ.alike Ar3.2.1) (g := (mkF m 11 #[rv aZ, rv bZ, iv 0] [(.ref aZ), (.int 0)])) rfl rfl (hb hby own_d16_11) _ (by rw [len_of S3 M3]; exact k)) ?_
  have hc12 : (0 : Int32) < (3 : Int32) := by decide
  refine ov (B := s₁.setTop (mkF m 15 #[rv aZ, rv bZ, iv 0] [])) (fun t k => XS.icmpNo X0.here hx rfl (hb hby own_d16_12) rfl (tlt hc12).2.1 k) ?_
  refine oALN (n := 16) X0 hx (hb hby own_d16_15) rfl rfl rfl ?_
  refine oILN (n := 17) X0 hx (hb hby own_d16_16) rfl rfl ?_
  obtain ⟨cl4, Ar4, q4, S4, M4, H4, G4⟩ := id Va
  have hin4 : ¬ ((0 : Int32) < 0 ∨ cl4.slots.size ≤ ((0 : Int32)).toNatClampNeg) := inb_of S4 ⟨by decide, by decide⟩
  refine ov (B := s₁.setTop (mkF m 18 #[rv aZ, rv bZ, iv 0] [(.int vA)])) (fun t k => X0.baloadBytes hx (j := (0 : Int32)) (v := (.int vA)) (by rw [e0]; exact Ar4.1) (State.isArrayOf_alike hZ.alike Ar4.2.1) Ar4.2.2 hin4 (Has.at H4 hin4 rfl) (g := (mkF m 17 #[rv aZ, rv bZ, iv 0] [(.int 0), (.ref aZ)])) rfl rfl (hb hby own_d16_17) _ k) ?_
  refine oALN (n := 19) X0 hx (hb hby own_d16_18) rfl rfl rfl ?_
  refine oILN (n := 20) X0 hx (hb hby own_d16_19) rfl rfl ?_
  obtain ⟨cl5, Ar5, q5, S5, M5, H5, G5⟩ := id Vb
  have hin5 : ¬ ((0 : Int32) < 0 ∨ cl5.slots.size ≤ ((0 : Int32)).toNatClampNeg) := inb_of S5 ⟨by decide, by decide⟩
  refine ov (B := s₁.setTop (mkF m 21 #[rv aZ, rv bZ, iv 0] [(.int vA), (.int vA)])) (fun t k => X0.baloadBytes hx (j := (0 : Int32)) (v := (.int vA)) (by rw [e0]; exact Ar5.1) (State.isArrayOf_alike hZ.alike Ar5.2.1) Ar5.2.2 hin5 (Has.at H5 hin5 rfl) (g := (mkF m 20 #[rv aZ, rv bZ, iv 0] [(.int 0), (.ref bZ), (.int vA)])) rfl rfl (hb hby own_d16_20) _ k) ?_
  have hc21 : vA = vA := rfl
  refine ov (B := s₁.setTop (mkF m 26 #[rv aZ, rv bZ, iv 0] [])) (fun t k => XS.icmpYes X0.here hx rfl (pc0 := 21) (pc' := 26) rfl (hb hby own_d16_21) rfl (teq hc21).1 (by decide) (by decide) k) ?_
  refine ov (B := s₁.setTop (mkF m 29 #[rv aZ, rv bZ, iv 1] [])) (fun t k => XS.iinc X0.here hx rfl (hb hby own_d16_26) rfl (l' := #[rv aZ, rv bZ, iv 1]) rfl k) ?_
  refine oGO (n := 9) X0 hx (hb hby own_d16_29) (by decide) (by decide) ?_
  refine oILN (n := 10) X0 hx (hb hby own_d16_9) rfl rfl ?_
  refine oALN (n := 11) X0 hx (hb hby own_d16_10) rfl rfl rfl ?_
  obtain ⟨cl6, Ar6, q6, S6, M6, H6, G6⟩ := id Va
  refine ov (B := s₁.setTop (mkF m 12 #[rv aZ, rv bZ, iv 1] [(.int 3), (.int 1)])) (fun t k => X0.arraylength hx (by rw [e0]; exact Ar6.1) (State.isArrayOf_alike hZ.alike Ar6.2.1) (g := (mkF m 11 #[rv aZ, rv bZ, iv 1] [(.ref aZ), (.int 1)])) rfl rfl (hb hby own_d16_11) _ (by rw [len_of S6 M6]; exact k)) ?_
  have hc12 : (1 : Int32) < (3 : Int32) := by decide
  refine ov (B := s₁.setTop (mkF m 15 #[rv aZ, rv bZ, iv 1] [])) (fun t k => XS.icmpNo X0.here hx rfl (hb hby own_d16_12) rfl (tlt hc12).2.1 k) ?_
  refine oALN (n := 16) X0 hx (hb hby own_d16_15) rfl rfl rfl ?_
  refine oILN (n := 17) X0 hx (hb hby own_d16_16) rfl rfl ?_
  obtain ⟨cl7, Ar7, q7, S7, M7, H7, G7⟩ := id Va
  have hin7 : ¬ ((1 : Int32) < 0 ∨ cl7.slots.size ≤ ((1 : Int32)).toNatClampNeg) := inb_of S7 ⟨by decide, by decide⟩
  refine ov (B := s₁.setTop (mkF m 18 #[rv aZ, rv bZ, iv 1] [(.int vB)])) (fun t k => X0.baloadBytes hx (j := (1 : Int32)) (v := (.int vB)) (by rw [e0]; exact Ar7.1) (State.isArrayOf_alike hZ.alike Ar7.2.1) Ar7.2.2 hin7 (Has.at H7 hin7 rfl) (g := (mkF m 17 #[rv aZ, rv bZ, iv 1] [(.int 1), (.ref aZ)])) rfl rfl (hb hby own_d16_17) _ k) ?_
  refine oALN (n := 19) X0 hx (hb hby own_d16_18) rfl rfl rfl ?_
  refine oILN (n := 20) X0 hx (hb hby own_d16_19) rfl rfl ?_
  obtain ⟨cl8, Ar8, q8, S8, M8, H8, G8⟩ := id Vb
  have hin8 : ¬ ((1 : Int32) < 0 ∨ cl8.slots.size ≤ ((1 : Int32)).toNatClampNeg) := inb_of S8 ⟨by decide, by decide⟩
  refine ov (B := s₁.setTop (mkF m 21 #[rv aZ, rv bZ, iv 1] [(.int vB), (.int vB)])) (fun t k => X0.baloadBytes hx (j := (1 : Int32)) (v := (.int vB)) (by rw [e0]; exact Ar8.1) (State.isArrayOf_alike hZ.alike Ar8.2.1) Ar8.2.2 hin8 (Has.at H8 hin8 rfl) (g := (mkF m 20 #[rv aZ, rv bZ, iv 1] [(.int 1), (.ref bZ), (.int vB)])) rfl rfl (hb hby own_d16_20) _ k) ?_
  have hc21 : vB = vB := rfl
  refine ov (B := s₁.setTop (mkF m 26 #[rv aZ, rv bZ, iv 1] [])) (fun t k => XS.icmpYes X0.here hx rfl (pc0 := 21) (pc' := 26) rfl (hb hby own_d16_21) rfl (teq hc21).1 (by decide) (by decide) k) ?_
  refine ov (B := s₁.setTop (mkF m 29 #[rv aZ, rv bZ, iv 2] [])) (fun t k => XS.iinc X0.here hx rfl (hb hby own_d16_26) rfl (l' := #[rv aZ, rv bZ, iv 2]) rfl k) ?_
  refine oGO (n := 9) X0 hx (hb hby own_d16_29) (by decide) (by decide) ?_
  refine oILN (n := 10) X0 hx (hb hby own_d16_9) rfl rfl ?_
  refine oALN (n := 11) X0 hx (hb hby own_d16_10) rfl rfl rfl ?_
  obtain ⟨cl9, Ar9, q9, S9, M9, H9, G9⟩ := id Va
  refine ov (B := s₁.setTop (mkF m 12 #[rv aZ, rv bZ, iv 2] [(.int 3), (.int 2)])) (fun t k => X0.arraylength hx (by rw [e0]; exact Ar9.1) (State.isArrayOf_alike hZ.alike Ar9.2.1) (g := (mkF m 11 #[rv aZ, rv bZ, iv 2] [(.ref aZ), (.int 2)])) rfl rfl (hb hby own_d16_11) _ (by rw [len_of S9 M9]; exact k)) ?_
  have hc12 : (2 : Int32) < (3 : Int32) := by decide
  refine ov (B := s₁.setTop (mkF m 15 #[rv aZ, rv bZ, iv 2] [])) (fun t k => XS.icmpNo X0.here hx rfl (hb hby own_d16_12) rfl (tlt hc12).2.1 k) ?_
  refine oALN (n := 16) X0 hx (hb hby own_d16_15) rfl rfl rfl ?_
  refine oILN (n := 17) X0 hx (hb hby own_d16_16) rfl rfl ?_
  obtain ⟨cl10, Ar10, q10, S10, M10, H10, G10⟩ := id Va
  have hin10 : ¬ ((2 : Int32) < 0 ∨ cl10.slots.size ≤ ((2 : Int32)).toNatClampNeg) := inb_of S10 ⟨by decide, by decide⟩
  refine ov (B := s₁.setTop (mkF m 18 #[rv aZ, rv bZ, iv 2] [(.int vC)])) (fun t k => X0.baloadBytes hx (j := (2 : Int32)) (v := (.int vC)) (by rw [e0]; exact Ar10.1) (State.isArrayOf_alike hZ.alike Ar10.2.1) Ar10.2.2 hin10 (Has.at H10 hin10 rfl) (g := (mkF m 17 #[rv aZ, rv bZ, iv 2] [(.int 2), (.ref aZ)])) rfl rfl (hb hby own_d16_17) _ k) ?_
  refine oALN (n := 19) X0 hx (hb hby own_d16_18) rfl rfl rfl ?_
  refine oILN (n := 20) X0 hx (hb hby own_d16_19) rfl rfl ?_
  obtain ⟨cl11, Ar11, q11, S11, M11, H11, G11⟩ := id Vb
  have hin11 : ¬ ((2 : Int32) < 0 ∨ cl11.slots.size ≤ ((2 : Int32)).toNatClampNeg) := inb_of S11 ⟨by decide, by decide⟩
  refine ov (B := s₁.setTop (mkF m 21 #[rv aZ, rv bZ, iv 2] [(.int vC), (.int vC)])) (fun t k => X0.baloadBytes hx (j := (2 : Int32)) (v := (.int vC)) (by rw [e0]; exact Ar11.1) (State.isArrayOf_alike hZ.alike Ar11.2.1) Ar11.2.2 hin11 (Has.at H11 hin11 rfl) (g := (mkF m 20 #[rv aZ, rv bZ, iv 2] [(.int 2), (.ref bZ), (.int vC)])) rfl rfl (hb hby own_d16_20) _ k) ?_
  have hc21 : vC = vC := rfl
  refine ov (B := s₁.setTop (mkF m 26 #[rv aZ, rv bZ, iv 2] [])) (fun t k => XS.icmpYes X0.here hx rfl (pc0 := 21) (pc' := 26) rfl (hb hby own_d16_21) rfl (teq hc21).1 (by decide) (by decide) k) ?_
  refine ov (B := s₁.setTop (mkF m 29 #[rv aZ, rv bZ, iv 3] [])) (fun t k => XS.iinc X0.here hx rfl (hb hby own_d16_26) rfl (l' := #[rv aZ, rv bZ, iv 3]) rfl k) ?_
  refine oGO (n := 9) X0 hx (hb hby own_d16_29) (by decide) (by decide) ?_
  refine oILN (n := 10) X0 hx (hb hby own_d16_9) rfl rfl ?_
  refine oALN (n := 11) X0 hx (hb hby own_d16_10) rfl rfl rfl ?_
  obtain ⟨cl12, Ar12, q12, S12, M12, H12, G12⟩ := id Va
  refine ov (B := s₁.setTop (mkF m 12 #[rv aZ, rv bZ, iv 3] [(.int 3), (.int 3)])) (fun t k => X0.arraylength hx (by rw [e0]; exact Ar12.1) (State.isArrayOf_alike hZ.alike Ar12.2.1) (g := (mkF m 11 #[rv aZ, rv bZ, iv 3] [(.ref aZ), (.int 3)])) rfl rfl (hb hby own_d16_11) _ (by rw [len_of S12 M12]; exact k)) ?_
  have hc12 : ¬ ((3 : Int32) < (3 : Int32)) := by decide
  refine ov (B := s₁.setTop (mkF m 32 #[rv aZ, rv bZ, iv 3] [])) (fun t k => XS.icmpYes X0.here hx rfl (pc0 := 12) (pc' := 32) rfl (hb hby own_d16_12) rfl (flt hc12).2.1 (by decide) (by decide) k) ?_
  refine oIC (n := 33) X0 hx (1 : Int32) (hb hby own_d16_32) (by decide) rfl ?_
  refine own_leaf X0 hx hlk (t := .boolean) Bd.returns (by decide) (Or.inl ⟨rfl, by simp, _, rfl⟩) (hb hby own_d16_33) (by decide) (by decide) ?_
  show QLE3 Z aZ bZ kZ lZ vA vB vC h0 n0 _ s₁.heap _
  rw [e0]
  refine ⟨?_, N0, rfl⟩
  rfl
theorem own_efQE3 (m : MethodId) (x0 : Addr) (x1 : Addr) : entryFrame m #[(.ref x0), (.ref x1)] 3 = mkF m 0 #[rv x0, rv x1, uu] [] := by first | (simp [entryFrame, mkF, argsToLocals, Value.category]; done) | rfl
def QQE3 (Z : State) (aQ : Addr) (bQ : Addr) (zc : Int32) (tQ : Addr) (uQ : Addr) (kQ : ClassId) (lQ : ClassId) (cQ : Int32) (vA : Int32) (vB : Int32) (vC : Int32) (h0 : Heap) (n0 : Nat) (v : Option Value) (h : Heap) (L : List Loc) : Prop := v = some (.int (1 : Int32)) ∧ Fr n0 L ∧ h = h0
set_option maxRecDepth 65536 in
set_option maxHeartbeats 40000000 in
theorem rmQE3 (l : Launch) (Z : State) (a0 : Array Value) (hw : ∀ d ∈ tables_1, d.before a0 Z = true) (ws : List Jvm.Cond) (aQ : Addr) (bQ : Addr) (zc : Int32) (tQ : Addr) (uQ : Addr) (kQ : ClassId) (lQ : ClassId) (cQ : Int32) (vA : Int32) (vB : Int32) (vC : Int32) (h0 : Heap) (n0 : Nat) (Z0 : n0 ≤ h0.size) (O0 : Old Z n0 h0) (Scz : Sta Z Z.heap sAA "COMPACT_STRINGS" "Z" (.int zc)) (hcz : ¬ zc = 0) (E_aQ : Exa Z h0 aQ sAA) (C_aQ : Fld Z h0 aQ sAA "coder" "B" (.int cQ)) (V_aQ : Fld Z h0 aQ sAA "value" "[B" (.ref tQ)) (A_aQ : Arv Z h0 tQ kQ .byte (3 : Int32) [(.int vA), (.int vB), (.int vC)] (.int (0 : Int32))) (E_bQ : Exa Z h0 bQ sAA) (C_bQ : Fld Z h0 bQ sAA "coder" "B" (.int cQ)) (V_bQ : Fld Z h0 bQ sAA "value" "[B" (.ref uQ)) (A_bQ : Arv Z h0 uQ lQ .byte (3 : Int32) [(.int vA), (.int vB), (.int vC)] (.int (0 : Int32))) :
    MetFree l (⟨sAA, "equals", sAJ⟩ : MethodName) (head1 (Jvm.Cond.code (⟨sAA, "equals", sAJ⟩ : MethodName) jdk_42_method_66_code 3 (some .boolean) :: ws) (oR 1 0 0 20)) (fun a U => a = #[(.ref aQ), (.ref bQ)] ∧ Z.Warmed39 U.vm ∧ U.heap = h0) (fun _ _ _ _ _ => True) (fun _ U o U' => ∃ v L, o = .returned v ∧ QQE3 Z aQ bQ zc tQ uQ kQ lQ cQ vA vB vC h0 n0 v U'.heap L ∧ FrameEnd U o U' L (oR 1 0 0 20).cells (oR 1 0 0 20).slots) := by
  refine MetFree.of_bodySF (plainFor_of_name own_pn1) hisR ?_
  intro p e s m args below meth c s₁ Bd hml0 hP hK
  obtain ⟨rfl, hZ, hh⟩ := hP
  have hx := Bd.exec
  have hby := Bd.bytes
  have hlk : meth.locks = false := Bd.notSynchronized
  have hml : c.maxLocals = 3 := hml0
  have hown : s.vm.findClass sAA = some m.cls := findClass_of_methodNamed Bd.named
  have hnm := (name_of_methodNamed Bd.named Bd.method).1
  have X0 : Stand p l e (oR 1 0 0 20) s m #[(.ref aQ), (.ref bQ)] below meth c s₁ [] 0 0 := Stand.of_body Bd
  have e0 : s₁.heap = h0 := by rw [← hh, Bd.state]; rfl
  have N0 := Fr.nil n0
  refine own_body (A := s₁.setTop (mkF m 0 #[rv aQ, rv bQ, uu] [])) (Q := QQE3 Z aQ bQ zc tQ uQ kQ lQ cQ vA vB vC h0 n0) (fun t k => castTop (own_efQE3 m aQ bQ) k) ?_
  refine oALN (n := 1) X0 hx (hb hby own_d15_0) rfl rfl rfl ?_
  refine oALN (n := 2) X0 hx (hb hby own_d15_1) rfl rfl rfl ?_
  by_cases hc2 : aQ = bQ
  · refine ov (B := s₁.setTop (mkF m 5 #[rv aQ, rv bQ, uu] [])) (fun t k => Jvm.RoadKit.acmp (g := (mkF m 2 #[rv aQ, rv bQ, uu] [(.ref bQ), (.ref aQ)])) X0 hx rfl rfl rfl (pc0 := 2) (pc' := 5) (same := true) rfl (hb hby own_d15_2) rfl (decide_eq_true (congrArg Value.ref hc2)) (by decide) (by decide) k) ?_
    refine oIC (n := 6) X0 hx (1 : Int32) (hb hby own_d15_5) (by decide) rfl ?_
    refine own_leaf X0 hx hlk (t := .boolean) Bd.returns (by decide) (Or.inl ⟨rfl, by simp, _, rfl⟩) (hb hby own_d15_6) (by decide) (by decide) ?_
    show QQE3 Z aQ bQ zc tQ uQ kQ lQ cQ vA vB vC h0 n0 _ s₁.heap _
    rw [e0]
    refine ⟨?_, N0, rfl⟩
    rfl
  · refine ov (B := s₁.setTop (mkF m 7 #[rv aQ, rv bQ, uu] [])) (fun t k => Jvm.RoadKit.acmp (g := (mkF m 2 #[rv aQ, rv bQ, uu] [(.ref bQ), (.ref aQ)])) X0 hx rfl rfl rfl (pc0 := 2) (pc' := 7) (same := false) rfl (hb hby own_d15_2) rfl (decide_eq_false fun q => hc2 (Value.ref.inj q)) (by decide) (by decide) k) ?_
    refine oALN (n := 8) X0 hx (hb hby own_d15_7) rfl rfl rfl ?_
    obtain ⟨T1, X1, e1, st1⟩ := instY X0 hx hZ hown (oW hw 120 rfl) e0 (Ins.self E_bQ) (g := (mkF m 8 #[rv aQ, rv bQ, uu] [(.ref bQ)])) rfl rfl (hb hby own_d15_8)
    refine ov (B := T1.setTop (mkF m 11 #[rv aQ, rv bQ, uu] [(.int 1)])) (fun t k => st1 t k) ?_
    have hc11 : ¬ ((1 : Int32) = (0 : Int32)) := by decide
    refine ov (B := T1.setTop (mkF m 14 #[rv aQ, rv bQ, uu] [])) (fun t k => XS.ifNo X1.here hx rfl (hb hby own_d15_11) rfl ((if0 _ _).trans (feq hc11).1) k) ?_
    refine oALN (n := 15) X1 hx (hb hby own_d15_14) rfl rfl rfl ?_
    obtain ⟨T2, X2, e2, st2⟩ := castY X1 hx hZ hown (oW hw 120 rfl) e1 (Ins.self E_bQ) (g := (mkF m 15 #[rv aQ, rv bQ, uu] [(.ref bQ)])) rfl rfl (hb hby own_d15_15)
    refine ov (B := T2.setTop (mkF m 18 #[rv aQ, rv bQ, uu] [(.ref bQ)])) (fun t k => st2 t k) ?_
    refine ov (B := T2.setTop (mkF m 19 #[rv aQ, rv bQ, rv bQ] [])) (fun t k => XS.astoreN X2.here hx rfl (hb hby own_d15_18) rfl rfl (l' := #[rv aQ, rv bQ, rv bQ]) rfl k) ?_
    obtain ⟨T3, X3, e3, st3⟩ := getS2 X2 hx hZ hown (host := "") (Or.inl (oW hw 121 rfl)) Via.refl e2 (Scz.ext O0.2) (g := (mkF m 19 #[rv aQ, rv bQ, rv bQ] [])) rfl (hb hby own_d15_19)
    refine ov (B := T3.setTop (mkF m 22 #[rv aQ, rv bQ, rv bQ] [(.int zc)])) (fun t k => st3 t k) ?_
    have hc22 : ¬ (zc = (0 : Int32)) := hcz
    refine ov (B := T3.setTop (mkF m 25 #[rv aQ, rv bQ, rv bQ] [])) (fun t k => XS.ifNo X3.here hx rfl (hb hby own_d15_22) rfl ((if0 _ _).trans (feq hc22).1) k) ?_
    refine oALN (n := 26) X3 hx (hb hby own_d15_25) rfl rfl rfl ?_
    obtain ⟨T4, X4, e4, st4⟩ := getF X3 hx hZ hown (host := "") (Or.inl (oW hw 26 rfl)) Via.refl e3 C_aQ (g := (mkF m 26 #[rv aQ, rv bQ, rv bQ] [(.ref aQ)])) rfl rfl (hb hby own_d15_26)
    refine ov (B := T4.setTop (mkF m 29 #[rv aQ, rv bQ, rv bQ] [(.int cQ)])) (fun t k => st4 t k) ?_
    refine oALN (n := 30) X4 hx (hb hby own_d15_29) rfl rfl rfl ?_
    obtain ⟨T5, X5, e5, st5⟩ := getF X4 hx hZ hown (host := "") (Or.inl (oW hw 26 rfl)) Via.refl e4 C_bQ (g := (mkF m 30 #[rv aQ, rv bQ, rv bQ] [(.ref bQ), (.int cQ)])) rfl rfl (hb hby own_d15_30)
    refine ov (B := T5.setTop (mkF m 33 #[rv aQ, rv bQ, rv bQ] [(.int cQ), (.int cQ)])) (fun t k => st5 t k) ?_
    have hc33 : cQ = cQ := rfl
    refine ov (B := T5.setTop (mkF m 36 #[rv aQ, rv bQ, rv bQ] [])) (fun t k => XS.icmpNo X5.here hx rfl (hb hby own_d15_33) rfl (teq hc33).2 k) ?_
    refine oALN (n := 37) X5 hx (hb hby own_d15_36) rfl rfl rfl ?_
    obtain ⟨T6, X6, e6, st6⟩ := getF X5 hx hZ hown (host := "") (Or.inl (oW hw 25 rfl)) Via.refl e5 V_aQ (g := (mkF m 37 #[rv aQ, rv bQ, rv bQ] [(.ref aQ)])) rfl rfl (hb hby own_d15_37)
    refine ov (B := T6.setTop (mkF m 40 #[rv aQ, rv bQ, rv bQ] [(.ref tQ)])) (fun t k => st6 t k) ?_
    refine oALN (n := 41) X6 hx (hb hby own_d15_40) rfl rfl rfl ?_
    obtain ⟨T7, X7, e7, st7⟩ := getF X6 hx hZ hown (host := "") (Or.inl (oW hw 25 rfl)) Via.refl e6 V_bQ (g := (mkF m 41 #[rv aQ, rv bQ, rv bQ] [(.ref bQ), (.ref tQ)])) rfl rfl (hb hby own_d15_41)
    refine ov (B := T7.setTop (mkF m 44 #[rv aQ, rv bQ, rv bQ] [(.ref uQ), (.ref tQ)])) (fun t k => st7 t k) ?_
    obtain ⟨_, _, ⟨T8, L8, k8, n8⟩, -, X8, ⟨Lc8, hQ8, l8, y8, z8⟩, st8⟩ := Jvm.LawKit.callS X7 hx (y := (⟨sAI, "equals", "([B[B)Z"⟩ : MethodName)) hown (mvT hZ (oW hw 122 rfl)) (mvT hZ (oW hw 123 rfl)) (mvT hZ (oW hw 124 rfl)) (mvT hZ (oW hw 125 rfl)) (by decide) (backOf (W := 0) (rmLE3 l Z a0 hw [] tQ uQ kQ lQ vA vB vC h0 n0 Z0 A_aQ A_bQ) hZ (oW hw 125 rfl) (oW hw 124 rfl) (by decide) (by decide)) (g := (mkF m 44 #[rv aQ, rv bQ, rv bQ] [(.ref uQ), (.ref tQ)])) rfl (by rw [hml]; rfl) (argsL := [(.ref tQ), (.ref uQ)]) (rest := []) (lenOf own_pd9 rfl) rfl (by show 2 * 0 + _ ≤ _; exact Nat.le_of_eq rfl) (hb hby own_d15_44) (fun _ _ => ⟨rfl, e7, (by decide : 0 + 0 ≤ _), (by decide : 0 + 0 ≤ _)⟩)
    dsimp only [Pt.U, Pt.locs, Pt.cells, Pt.slots] at X8 l8 y8 z8 st8 hQ8
    subst l8 y8 z8
    obtain ⟨rfl, Nq8, eq8⟩ := hQ8
    have N8 := Fr.app N0 Nq8
    refine ov (B := T8.setTop (mkF m 47 #[rv aQ, rv bQ, rv bQ] [(.int 1)])) (fun t k => st8 t k) ?_
    have hc47 : ¬ ((1 : Int32) = (0 : Int32)) := by decide
    refine ov (B := T8.setTop (mkF m 50 #[rv aQ, rv bQ, rv bQ] [])) (fun t k => XS.ifNo X8.here hx rfl (hb hby own_d15_47) rfl ((if0 _ _).trans (feq hc47).1) k) ?_
    refine oIC (n := 51) X8 hx (1 : Int32) (hb hby own_d15_50) (by decide) rfl ?_
    refine oGO (n := 55) X8 hx (hb hby own_d15_51) (by decide) (by decide) ?_
    refine own_leaf X8 hx hlk (t := .boolean) Bd.returns (by decide) (Or.inl ⟨rfl, by simp, _, rfl⟩) (hb hby own_d15_55) (by decide) (by decide) ?_
    show QQE3 Z aQ bQ zc tQ uQ kQ lQ cQ vA vB vC h0 n0 _ T8.heap _
    rw [eq8]
    refine ⟨?_, N8, rfl⟩
    rfl
theorem own_efXR3 (m : MethodId) (x0 : Addr) (x1 : Addr) : entryFrame m #[(.ref x0), (.ref x1)] 2 = mkF m 0 #[rv x0, rv x1] [] := by first | (simp [entryFrame, mkF, argsToLocals, Value.category]; done) | rfl
def QXR3 (Z : State) (aR : Addr) (bQ : Addr) (aQ : Addr) (zc : Int32) (tQ : Addr) (uQ : Addr) (kQ : ClassId) (lQ : ClassId) (cQ : Int32) (vA : Int32) (vB : Int32) (vC : Int32) (h0 : Heap) (n0 : Nat) (v : Option Value) (h : Heap) (L : List Loc) : Prop := v = some (.ref aR) ∧ Fr n0 L ∧ h = h0
set_option maxRecDepth 65536 in
set_option maxHeartbeats 40000000 in
theorem rmXR3 (l : Launch) (Z : State) (a0 : Array Value) (hw : ∀ d ∈ tables_1, d.before a0 Z = true) (ws : List Jvm.Cond) (aR : Addr) (bQ : Addr) (aQ : Addr) (zc : Int32) (tQ : Addr) (uQ : Addr) (kQ : ClassId) (lQ : ClassId) (cQ : Int32) (vA : Int32) (vB : Int32) (vC : Int32) (h0 : Heap) (n0 : Nat) (Z0 : n0 ≤ h0.size) (O0 : Old Z n0 h0) (Scz : Sta Z Z.heap sAA "COMPACT_STRINGS" "Z" (.int zc)) (hcz : ¬ zc = 0) (Fn : Fld Z h0 aR sAC "name" sAP (.ref aQ)) (E_aQ : Exa Z h0 aQ sAA) (C_aQ : Fld Z h0 aQ sAA "coder" "B" (.int cQ)) (V_aQ : Fld Z h0 aQ sAA "value" "[B" (.ref tQ)) (A_aQ : Arv Z h0 tQ kQ .byte (3 : Int32) [(.int vA), (.int vB), (.int vC)] (.int (0 : Int32))) (E_bQ : Exa Z h0 bQ sAA) (C_bQ : Fld Z h0 bQ sAA "coder" "B" (.int cQ)) (V_bQ : Fld Z h0 bQ sAA "value" "[B" (.ref uQ)) (A_bQ : Arv Z h0 uQ lQ .byte (3 : Int32) [(.int vA), (.int vB), (.int vC)] (.int (0 : Int32))) :
    MetFree l (⟨sAC, "requireName", sAE⟩ : MethodName) (head1 (Jvm.Cond.code (⟨sAC, "requireName", sAE⟩ : MethodName) prog_42_method_18_code 2 (some (.object sAC)) :: ws) (oR 2 0 0 40)) (fun a U => a = #[(.ref aR), (.ref bQ)] ∧ Z.Warmed39 U.vm ∧ U.heap = h0) (fun _ _ _ _ _ => True) (fun _ U o U' => ∃ v L, o = .returned v ∧ QXR3 Z aR bQ aQ zc tQ uQ kQ lQ cQ vA vB vC h0 n0 v U'.heap L ∧ FrameEnd U o U' L (oR 2 0 0 40).cells (oR 2 0 0 40).slots) := by
  refine MetFree.of_bodySF (plainFor_of_name own_pn4) hisR ?_
  intro p e s m args below meth c s₁ Bd hml0 hP hK
  obtain ⟨rfl, hZ, hh⟩ := hP
  have hx := Bd.exec
  have hby := Bd.bytes
  have hlk : meth.locks = false := Bd.notSynchronized
  have hml : c.maxLocals = 2 := hml0
  have hown : s.vm.findClass sAC = some m.cls := findClass_of_methodNamed Bd.named
  have hnm := (name_of_methodNamed Bd.named Bd.method).1
  have X0 : Stand p l e (oR 2 0 0 40) s m #[(.ref aR), (.ref bQ)] below meth c s₁ [] 0 0 := Stand.of_body Bd
  have e0 : s₁.heap = h0 := by rw [← hh, Bd.state]; rfl
  have N0 := Fr.nil n0
  refine own_body (A := s₁.setTop (mkF m 0 #[rv aR, rv bQ] [])) (Q := QXR3 Z aR bQ aQ zc tQ uQ kQ lQ cQ vA vB vC h0 n0) (fun t k => castTop (own_efXR3 m aR bQ) k) ?_
  refine oALN (n := 1) X0 hx (hb hby own_d14_0) rfl rfl rfl ?_
  obtain ⟨T1, X1, e1, st1⟩ := getF X0 hx hZ hown (host := "") (Or.inl (oW hw 108 rfl)) Via.refl e0 Fn (g := (mkF m 1 #[rv aR, rv bQ] [(.ref aR)])) rfl rfl (hb hby own_d14_1)
  refine ov (B := T1.setTop (mkF m 4 #[rv aR, rv bQ] [(.ref aQ)])) (fun t k => st1 t k) ?_
  refine oALN (n := 5) X1 hx (hb hby own_d14_4) rfl rfl rfl ?_
  obtain ⟨cq2, kq2, q2a, q2b, q2c⟩ := isOf hZ e1 E_aQ
  obtain ⟨_, _, ⟨T2, L2, k2, n2⟩, -, X2, ⟨Lc2, hQ2, l2, y2, z2⟩, st2⟩ := X1.virtualBack hx (y := (⟨sAA, "equals", sAJ⟩ : MethodName)) (z := (⟨sAA, "equals", sAJ⟩ : MethodName)) hown (mvT hZ (oW hw 115 rfl)) (mvT hZ (oW hw 116 rfl)) (notFace_of_selects (args := #[]) (mvT hZ (oW hw 118 rfl))) (mvT hZ (oW hw 118 rfl)) (mvT hZ (oW hw 117 rfl)) (by decide) (backOf (W := 0) (rmQE3 l Z a0 hw [] aQ bQ zc tQ uQ kQ lQ cQ vA vB vC h0 n0 Z0 O0 (by assumption) (by assumption) E_aQ C_aQ V_aQ A_aQ E_bQ C_bQ V_bQ A_bQ) hZ (oW hw 119 rfl) (oW hw 7 rfl) (by decide) (by decide)) q2a q2c (g := (mkF m 5 #[rv aR, rv bQ] [(.ref bQ), (.ref aQ)])) rfl (by rw [hml]; rfl) (Steps.refl _) (argsL := [(.ref bQ)]) (rest := []) (lenOf own_pd10 rfl) rfl (by show 2 * 0 + _ ≤ _; exact Nat.le_of_eq rfl) (hb hby own_d14_5) (fun _ _ => ⟨rfl, e1, (by decide : 0 + 0 ≤ _), (by decide : 0 + 0 ≤ _)⟩)
  dsimp only [Pt.U, Pt.locs, Pt.cells, Pt.slots] at X2 l2 y2 z2 st2 hQ2
  subst l2 y2 z2
  obtain ⟨rfl, Nq2, eq2⟩ := hQ2
  have N2 := Fr.app N0 Nq2
  refine ov (B := T2.setTop (mkF m 8 #[rv aR, rv bQ] [(.int 1)])) (fun t k => st2.trans k) ?_
  have hc8 : ¬ ((1 : Int32) = (0 : Int32)) := by decide
  refine ov (B := T2.setTop (mkF m 29 #[rv aR, rv bQ] [])) (fun t k => XS.ifYes X2.here hx rfl (pc0 := 8) (pc' := 29) rfl (hb hby own_d14_8) rfl ((if0 _ _).trans (feq hc8).2) (by decide) (by decide) k) ?_
  refine oALN (n := 30) X2 hx (hb hby own_d14_29) rfl rfl rfl ?_
  refine own_leaf X2 hx hlk (t := (.object sAC)) Bd.returns rfl (Or.inr (Or.inr (Or.inr (Or.inr ⟨rfl, rfl, rfl⟩)))) (hb hby own_d14_30) (by decide) (by decide) ?_
  show QXR3 Z aR bQ aQ zc tQ uQ kQ lQ cQ vA vB vC h0 n0 _ T2.heap _
  rw [eq2]
  refine ⟨?_, N2, rfl⟩
  rfl
theorem own_efLE4 (m : MethodId) (x0 : Addr) (x1 : Addr) : entryFrame m #[(.ref x0), (.ref x1)] 3 = mkF m 0 #[rv x0, rv x1, uu] [] := by first | (simp [entryFrame, mkF, argsToLocals, Value.category]; done) | rfl
def QLE4 (Z : State) (aZ : Addr) (bZ : Addr) (kZ : ClassId) (lZ : ClassId) (vA : Int32) (vB : Int32) (vC : Int32) (vD : Int32) (h0 : Heap) (n0 : Nat) (v : Option Value) (h : Heap) (L : List Loc) : Prop := v = some (.int (1 : Int32)) ∧ Fr n0 L ∧ h = h0
set_option maxRecDepth 65536 in
set_option maxHeartbeats 40000000 in
theorem rmLE4 (l : Launch) (Z : State) (a0 : Array Value) (hw : ∀ d ∈ tables_1, d.before a0 Z = true) (ws : List Jvm.Cond) (aZ : Addr) (bZ : Addr) (kZ : ClassId) (lZ : ClassId) (vA : Int32) (vB : Int32) (vC : Int32) (vD : Int32) (h0 : Heap) (n0 : Nat) (Z0 : n0 ≤ h0.size) (Va : Arv Z h0 aZ kZ .byte (4 : Int32) [(.int vA), (.int vB), (.int vC), (.int vD)] (.int (0 : Int32))) (Vb : Arv Z h0 bZ lZ .byte (4 : Int32) [(.int vA), (.int vB), (.int vC), (.int vD)] (.int (0 : Int32))) :
    MetFree l (⟨sAI, "equals", "([B[B)Z"⟩ : MethodName) (head1 (Jvm.Cond.code (⟨sAI, "equals", "([B[B)Z"⟩ : MethodName) jdk_43_method_13_code 3 (some .boolean) :: ws) (oR 0 0 0 0)) (fun a U => a = #[(.ref aZ), (.ref bZ)] ∧ Z.Warmed39 U.vm ∧ U.heap = h0) (fun _ _ _ _ _ => True) (fun _ U o U' => ∃ v L, o = .returned v ∧ QLE4 Z aZ bZ kZ lZ vA vB vC vD h0 n0 v U'.heap L ∧ FrameEnd U o U' L (oR 0 0 0 0).cells (oR 0 0 0 0).slots) := by
  refine MetFree.of_bodySF (plainFor_of_name own_pn3) hisR ?_
  intro p e s m args below meth c s₁ Bd hml0 hP hK
  obtain ⟨rfl, hZ, hh⟩ := hP
  have hx := Bd.exec
  have hby := Bd.bytes
  have hlk : meth.locks = false := Bd.notSynchronized
  have hml : c.maxLocals = 3 := hml0
  have hown : s.vm.findClass sAI = some m.cls := findClass_of_methodNamed Bd.named
  have hnm := (name_of_methodNamed Bd.named Bd.method).1
  have X0 : Stand p l e (oR 0 0 0 0) s m #[(.ref aZ), (.ref bZ)] below meth c s₁ [] 0 0 := Stand.of_body Bd
  have e0 : s₁.heap = h0 := by rw [← hh, Bd.state]; rfl
  have N0 := Fr.nil n0
  refine own_body (A := s₁.setTop (mkF m 0 #[rv aZ, rv bZ, uu] [])) (Q := QLE4 Z aZ bZ kZ lZ vA vB vC vD h0 n0) (fun t k => castTop (own_efLE4 m aZ bZ) k) ?_
  refine oALN (n := 1) X0 hx (hb hby own_d16_0) rfl rfl rfl ?_
  obtain ⟨cl1, Ar1, q1, S1, M1, H1, G1⟩ := id Va
  refine ov (B := s₁.setTop (mkF m 2 #[rv aZ, rv bZ, uu] [(.int 4)])) (fun t k => X0.arraylength hx (by rw [e0]; exact Ar1.1) (State.isArrayOf_alike hZ.alike Ar1.2.1) (g := (mkF m 1 #[rv aZ, rv bZ, uu] [(.ref aZ)])) rfl rfl (hb hby own_d16_1) _ (by rw [len_of S1 M1]; exact k)) ?_
  refine oALN (n := 3) X0 hx (hb hby own_d16_2) rfl rfl rfl ?_
  obtain ⟨cl2, Ar2, q2, S2, M2, H2, G2⟩ := id Vb
  refine ov (B := s₁.setTop (mkF m 4 #[rv aZ, rv bZ, uu] [(.int 4), (.int 4)])) (fun t k => X0.arraylength hx (by rw [e0]; exact Ar2.1) (State.isArrayOf_alike hZ.alike Ar2.2.1) (g := (mkF m 3 #[rv aZ, rv bZ, uu] [(.ref bZ), (.int 4)])) rfl rfl (hb hby own_d16_3) _ (by rw [len_of S2 M2]; exact k)) ?_
  have hc4 : (4 : Int32) = (4 : Int32) := by decide
  refine ov (B := s₁.setTop (mkF m 7 #[rv aZ, rv bZ, uu] [])) (fun t k => XS.icmpNo X0.here hx rfl (hb hby own_d16_4) rfl (teq hc4).2 k) ?_
  refine oIC (n := 8) X0 hx (0 : Int32) (hb hby own_d16_7) (by decide) rfl ?_
  refine ov (B := s₁.setTop (mkF m 9 #[rv aZ, rv bZ, iv 0] [])) (fun t k => XS.istoreN X0.here hx rfl (hb hby own_d16_8) rfl (l' := #[rv aZ, rv bZ, iv 0]) rfl k) ?_
  refine oILN (n := 10) X0 hx (hb hby own_d16_9) rfl rfl ?_
  refine oALN (n := 11) X0 hx (hb hby own_d16_10) rfl rfl rfl ?_
  obtain ⟨cl3, Ar3, q3, S3, M3, H3, G3⟩ := id Va
  refine ov (B := s₁.setTop (mkF m 12 #[rv aZ, rv bZ, iv 0] [(.int 4), (.int 0)])) (fun t k => X0.arraylength hx (by rw [e0]; exact Ar3.1) (State.isArrayOf_alike hZ.alike Ar3.2.1) (g := (mkF m 11 #[rv aZ, rv bZ, iv 0] [(.ref aZ), (.int 0)])) rfl rfl (hb hby own_d16_11) _ (by rw [len_of S3 M3]; exact k)) ?_
  have hc12 : (0 : Int32) < (4 : Int32) := by decide
  refine ov (B := s₁.setTop (mkF m 15 #[rv aZ, rv bZ, iv 0] [])) (fun t k => XS.icmpNo X0.here hx rfl (hb hby own_d16_12) rfl (tlt hc12).2.1 k) ?_
  refine oALN (n := 16) X0 hx (hb hby own_d16_15) rfl rfl rfl ?_
  refine oILN (n := 17) X0 hx (hb hby own_d16_16) rfl rfl ?_
  obtain ⟨cl4, Ar4, q4, S4, M4, H4, G4⟩ := id Va
  have hin4 : ¬ ((0 : Int32) < 0 ∨ cl4.slots.size ≤ ((0 : Int32)).toNatClampNeg) := inb_of S4 ⟨by decide, by decide⟩
  refine ov (B := s₁.setTop (mkF m 18 #[rv aZ, rv bZ, iv 0] [(.int vA)])) (fun t k => X0.baloadBytes hx (j := (0 : Int32)) (v := (.int vA)) (by rw [e0]; exact Ar4.1) (State.isArrayOf_alike hZ.alike Ar4.2.1) Ar4.2.2 hin4 (Has.at H4 hin4 rfl) (g := (mkF m 17 #[rv aZ, rv bZ, iv 0] [(.int 0), (.ref aZ)])) rfl rfl (hb hby own_d16_17) _ k) ?_
  refine oALN (n := 19) X0 hx (hb hby own_d16_18) rfl rfl rfl ?_
  refine oILN (n := 20) X0 hx (hb hby own_d16_19) rfl rfl ?_
  obtain ⟨cl5, Ar5, q5, S5, M5, H5, G5⟩ := id Vb
  have hin5 : ¬ ((0 : Int32) < 0 ∨ cl5.slots.size ≤ ((0 : Int32)).toNatClampNeg) := inb_of S5 ⟨by decide, by decide⟩
  refine ov (B := s₁.setTop (mkF m 21 #[rv aZ, rv bZ, iv 0] [(.int vA), (.int vA)])) (fun t k => X0.baloadBytes hx (j := (0 : Int32)) (v := (.int vA)) (by rw [e0]; exact Ar5.1) (State.isArrayOf_alike hZ.alike Ar5.2.1) Ar5.2.2 hin5 (Has.at H5 hin5 rfl) (g := (mkF m 20 #[rv aZ, rv bZ, iv 0] [(.int 0), (.ref bZ), (.int vA)])) rfl rfl (hb hby own_d16_20) _ k) ?_
  have hc21 : vA = vA := rfl
  refine ov (B := s₁.setTop (mkF m 26 #[rv aZ, rv bZ, iv 0] [])) (fun t k => XS.icmpYes X0.here hx rfl (pc0 := 21) (pc' := 26) rfl (hb hby own_d16_21) rfl (teq hc21).1 (by decide) (by decide) k) ?_
  refine ov (B := s₁.setTop (mkF m 29 #[rv aZ, rv bZ, iv 1] [])) (fun t k => XS.iinc X0.here hx rfl (hb hby own_d16_26) rfl (l' := #[rv aZ, rv bZ, iv 1]) rfl k) ?_
  refine oGO (n := 9) X0 hx (hb hby own_d16_29) (by decide) (by decide) ?_
  refine oILN (n := 10) X0 hx (hb hby own_d16_9) rfl rfl ?_
  refine oALN (n := 11) X0 hx (hb hby own_d16_10) rfl rfl rfl ?_
  obtain ⟨cl6, Ar6, q6, S6, M6, H6, G6⟩ := id Va
  refine ov (B := s₁.setTop (mkF m 12 #[rv aZ, rv bZ, iv 1] [(.int 4), (.int 1)])) (fun t k => X0.arraylength hx (by rw [e0]; exact Ar6.1) (State.isArrayOf_alike hZ.alike Ar6.2.1) (g := (mkF m 11 #[rv aZ, rv bZ, iv 1] [(.ref aZ), (.int 1)])) rfl rfl (hb hby own_d16_11) _ (by rw [len_of S6 M6]; exact k)) ?_
  have hc12 : (1 : Int32) < (4 : Int32) := by decide
  refine ov (B := s₁.setTop (mkF m 15 #[rv aZ, rv bZ, iv 1] [])) (fun t k => XS.icmpNo X0.here hx rfl (hb hby own_d16_12) rfl (tlt hc12).2.1 k) ?_
  refine oALN (n := 16) X0 hx (hb hby own_d16_15) rfl rfl rfl ?_
  refine oILN (n := 17) X0 hx (hb hby own_d16_16) rfl rfl ?_
  obtain ⟨cl7, Ar7, q7, S7, M7, H7, G7⟩ := id Va
  have hin7 : ¬ ((1 : Int32) < 0 ∨ cl7.slots.size ≤ ((1 : Int32)).toNatClampNeg) := inb_of S7 ⟨by decide, by decide⟩
  refine ov (B := s₁.setTop (mkF m 18 #[rv aZ, rv bZ, iv 1] [(.int vB)])) (fun t k => X0.baloadBytes hx (j := (1 : Int32)) (v := (.int vB)) (by rw [e0]; exact Ar7.1) (State.isArrayOf_alike hZ.alike Ar7.2.1) Ar7.2.2 hin7 (Has.at H7 hin7 rfl) (g := (mkF m 17 #[rv aZ, rv bZ, iv 1] [(.int 1), (.ref aZ)])) rfl rfl (hb hby own_d16_17) _ k) ?_
  refine oALN (n := 19) X0 hx (hb hby own_d16_18) rfl rfl rfl ?_
  refine oILN (n := 20) X0 hx (hb hby own_d16_19) rfl rfl ?_
  obtain ⟨cl8, Ar8, q8, S8, M8, H8, G8⟩ := id Vb
  have hin8 : ¬ ((1 : Int32) < 0 ∨ cl8.slots.size ≤ ((1 : Int32)).toNatClampNeg) := inb_of S8 ⟨by decide, by decide⟩
  refine ov (B := s₁.setTop (mkF m 21 #[rv aZ, rv bZ, iv 1] [(.int vB), (.int vB)])) (fun t k => X0.baloadBytes hx (j := (1 : Int32)) (v := (.int vB)) (by rw [e0]; exact Ar8.1) (State.isArrayOf_alike hZ.alike Ar8.2.1) Ar8.2.2 hin8 (Has.at H8 hin8 rfl) (g := (mkF m 20 #[rv aZ, rv bZ, iv 1] [(.int 1), (.ref bZ), (.int vB)])) rfl rfl (hb hby own_d16_20) _ k) ?_
  have hc21 : vB = vB := rfl
  refine ov (B := s₁.setTop (mkF m 26 #[rv aZ, rv bZ, iv 1] [])) (fun t k => XS.icmpYes X0.here hx rfl (pc0 := 21) (pc' := 26) rfl (hb hby own_d16_21) rfl (teq hc21).1 (by decide) (by decide) k) ?_
  refine ov (B := s₁.setTop (mkF m 29 #[rv aZ, rv bZ, iv 2] [])) (fun t k => XS.iinc X0.here hx rfl (hb hby own_d16_26) rfl (l' := #[rv aZ, rv bZ, iv 2]) rfl k) ?_
  refine oGO (n := 9) X0 hx (hb hby own_d16_29) (by decide) (by decide) ?_
  refine oILN (n := 10) X0 hx (hb hby own_d16_9) rfl rfl ?_
  refine oALN (n := 11) X0 hx (hb hby own_d16_10) rfl rfl rfl ?_
  obtain ⟨cl9, Ar9, q9, S9, M9, H9, G9⟩ := id Va
  refine ov (B := s₁.setTop (mkF m 12 #[rv aZ, rv bZ, iv 2] [(.int 4), (.int 2)])) (fun t k => X0.arraylength hx (by rw [e0]; exact Ar9.1) (State.isArrayOf_alike hZ.alike Ar9.2.1) (g := (mkF m 11 #[rv aZ, rv bZ, iv 2] [(.ref aZ), (.int 2)])) rfl rfl (hb hby own_d16_11) _ (by rw [len_of S9 M9]; exact k)) ?_
  have hc12 : (2 : Int32) < (4 : Int32) := by decide
  refine ov (B := s₁.setTop (mkF m 15 #[rv aZ, rv bZ, iv 2] [])) (fun t k => XS.icmpNo X0.here hx rfl (hb hby own_d16_12) rfl (tlt hc12).2.1 k) ?_
  refine oALN (n := 16) X0 hx (hb hby own_d16_15) rfl rfl rfl ?_
  refine oILN (n := 17) X0 hx (hb hby own_d16_16) rfl rfl ?_
  obtain ⟨cl10, Ar10, q10, S10, M10, H10, G10⟩ := id Va
  have hin10 : ¬ ((2 : Int32) < 0 ∨ cl10.slots.size ≤ ((2 : Int32)).toNatClampNeg) := inb_of S10 ⟨by decide, by decide⟩
  refine ov (B := s₁.setTop (mkF m 18 #[rv aZ, rv bZ, iv 2] [(.int vC)])) (fun t k => X0.baloadBytes hx (j := (2 : Int32)) (v := (.int vC)) (by rw [e0]; exact Ar10.1) (State.isArrayOf_alike hZ.alike Ar10.2.1) Ar10.2.2 hin10 (Has.at H10 hin10 rfl) (g := (mkF m 17 #[rv aZ, rv bZ, iv 2] [(.int 2), (.ref aZ)])) rfl rfl (hb hby own_d16_17) _ k) ?_
  refine oALN (n := 19) X0 hx (hb hby own_d16_18) rfl rfl rfl ?_
  refine oILN (n := 20) X0 hx (hb hby own_d16_19) rfl rfl ?_
  obtain ⟨cl11, Ar11, q11, S11, M11, H11, G11⟩ := id Vb
  have hin11 : ¬ ((2 : Int32) < 0 ∨ cl11.slots.size ≤ ((2 : Int32)).toNatClampNeg) := inb_of S11 ⟨by decide, by decide⟩
  refine ov (B := s₁.setTop (mkF m 21 #[rv aZ, rv bZ, iv 2] [(.int vC), (.int vC)])) (fun t k => X0.baloadBytes hx (j := (2 : Int32)) (v := (.int vC)) (by rw [e0]; exact Ar11.1) (State.isArrayOf_alike hZ.alike Ar11.2.1) Ar11.2.2 hin11 (Has.at H11 hin11 rfl) (g := (mkF m 20 #[rv aZ, rv bZ, iv 2] [(.int 2), (.ref bZ), (.int vC)])) rfl rfl (hb hby own_d16_20) _ k) ?_
  have hc21 : vC = vC := rfl
  refine ov (B := s₁.setTop (mkF m 26 #[rv aZ, rv bZ, iv 2] [])) (fun t k => XS.icmpYes X0.here hx rfl (pc0 := 21) (pc' := 26) rfl (hb hby own_d16_21) rfl (teq hc21).1 (by decide) (by decide) k) ?_
  refine ov (B := s₁.setTop (mkF m 29 #[rv aZ, rv bZ, iv 3] [])) (fun t k => XS.iinc X0.here hx rfl (hb hby own_d16_26) rfl (l' := #[rv aZ, rv bZ, iv 3]) rfl k) ?_
  refine oGO (n := 9) X0 hx (hb hby own_d16_29) (by decide) (by decide) ?_
  refine oILN (n := 10) X0 hx (hb hby own_d16_9) rfl rfl ?_
  refine oALN (n := 11) X0 hx (hb hby own_d16_10) rfl rfl rfl ?_
  obtain ⟨cl12, Ar12, q12, S12, M12, H12, G12⟩ := id Va
  refine ov (B := s₁.setTop (mkF m 12 #[rv aZ, rv bZ, iv 3] [(.int 4), (.int 3)])) (fun t k => X0.arraylength hx (by rw [e0]; exact Ar12.1) (State.isArrayOf_alike hZ.alike Ar12.2.1) (g := (mkF m 11 #[rv aZ, rv bZ, iv 3] [(.ref aZ), (.int 3)])) rfl rfl (hb hby own_d16_11) _ (by rw [len_of S12 M12]; exact k)) ?_
  have hc12 : (3 : Int32) < (4 : Int32) := by decide
  refine ov (B := s₁.setTop (mkF m 15 #[rv aZ, rv bZ, iv 3] [])) (fun t k => XS.icmpNo X0.here hx rfl (hb hby own_d16_12) rfl (tlt hc12).2.1 k) ?_
  refine oALN (n := 16) X0 hx (hb hby own_d16_15) rfl rfl rfl ?_
  refine oILN (n := 17) X0 hx (hb hby own_d16_16) rfl rfl ?_
  obtain ⟨cl13, Ar13, q13, S13, M13, H13, G13⟩ := id Va
  have hin13 : ¬ ((3 : Int32) < 0 ∨ cl13.slots.size ≤ ((3 : Int32)).toNatClampNeg) := inb_of S13 ⟨by decide, by decide⟩
  refine ov (B := s₁.setTop (mkF m 18 #[rv aZ, rv bZ, iv 3] [(.int vD)])) (fun t k => X0.baloadBytes hx (j := (3 : Int32)) (v := (.int vD)) (by rw [e0]; exact Ar13.1) (State.isArrayOf_alike hZ.alike Ar13.2.1) Ar13.2.2 hin13 (Has.at H13 hin13 rfl) (g := (mkF m 17 #[rv aZ, rv bZ, iv 3] [(.int 3), (.ref aZ)])) rfl rfl (hb hby own_d16_17) _ k) ?_
  refine oALN (n := 19) X0 hx (hb hby own_d16_18) rfl rfl rfl ?_
  refine oILN (n := 20) X0 hx (hb hby own_d16_19) rfl rfl ?_
  obtain ⟨cl14, Ar14, q14, S14, M14, H14, G14⟩ := id Vb
  have hin14 : ¬ ((3 : Int32) < 0 ∨ cl14.slots.size ≤ ((3 : Int32)).toNatClampNeg) := inb_of S14 ⟨by decide, by decide⟩
  refine ov (B := s₁.setTop (mkF m 21 #[rv aZ, rv bZ, iv 3] [(.int vD), (.int vD)])) (fun t k => X0.baloadBytes hx (j := (3 : Int32)) (v := (.int vD)) (by rw [e0]; exact Ar14.1) (State.isArrayOf_alike hZ.alike Ar14.2.1) Ar14.2.2 hin14 (Has.at H14 hin14 rfl) (g := (mkF m 20 #[rv aZ, rv bZ, iv 3] [(.int 3), (.ref bZ), (.int vD)])) rfl rfl (hb hby own_d16_20) _ k) ?_
  have hc21 : vD = vD := rfl
  refine ov (B := s₁.setTop (mkF m 26 #[rv aZ, rv bZ, iv 3] [])) (fun t k => XS.icmpYes X0.here hx rfl (pc0 := 21) (pc' := 26) rfl (hb hby own_d16_21) rfl (teq hc21).1 (by decide) (by decide) k) ?_
  refine ov (B := s₁.setTop (mkF m 29 #[rv aZ, rv bZ, iv 4] [])) (fun t k => XS.iinc X0.here hx rfl (hb hby own_d16_26) rfl (l' := #[rv aZ, rv bZ, iv 4]) rfl k) ?_
  refine oGO (n := 9) X0 hx (hb hby own_d16_29) (by decide) (by decide) ?_
  refine oILN (n := 10) X0 hx (hb hby own_d16_9) rfl rfl ?_
  refine oALN (n := 11) X0 hx (hb hby own_d16_10) rfl rfl rfl ?_
  obtain ⟨cl15, Ar15, q15, S15, M15, H15, G15⟩ := id Va
  refine ov (B := s₁.setTop (mkF m 12 #[rv aZ, rv bZ, iv 4] [(.int 4), (.int 4)])) (fun t k => X0.arraylength hx (by rw [e0]; exact Ar15.1) (State.isArrayOf_alike hZ.alike Ar15.2.1) (g := (mkF m 11 #[rv aZ, rv bZ, iv 4] [(.ref aZ), (.int 4)])) rfl rfl (hb hby own_d16_11) _ (by rw [len_of S15 M15]; exact k)) ?_
  have hc12 : ¬ ((4 : Int32) < (4 : Int32)) := by decide
  refine ov (B := s₁.setTop (mkF m 32 #[rv aZ, rv bZ, iv 4] [])) (fun t k => XS.icmpYes X0.here hx rfl (pc0 := 12) (pc' := 32) rfl (hb hby own_d16_12) rfl (flt hc12).2.1 (by decide) (by decide) k) ?_
  refine oIC (n := 33) X0 hx (1 : Int32) (hb hby own_d16_32) (by decide) rfl ?_
  refine own_leaf X0 hx hlk (t := .boolean) Bd.returns (by decide) (Or.inl ⟨rfl, by simp, _, rfl⟩) (hb hby own_d16_33) (by decide) (by decide) ?_
  show QLE4 Z aZ bZ kZ lZ vA vB vC vD h0 n0 _ s₁.heap _
  rw [e0]
  refine ⟨?_, N0, rfl⟩
  rfl
theorem own_efQE4 (m : MethodId) (x0 : Addr) (x1 : Addr) : entryFrame m #[(.ref x0), (.ref x1)] 3 = mkF m 0 #[rv x0, rv x1, uu] [] := by first | (simp [entryFrame, mkF, argsToLocals, Value.category]; done) | rfl
def QQE4 (Z : State) (aQ : Addr) (bQ : Addr) (zc : Int32) (tQ : Addr) (uQ : Addr) (kQ : ClassId) (lQ : ClassId) (cQ : Int32) (vA : Int32) (vB : Int32) (vC : Int32) (vD : Int32) (h0 : Heap) (n0 : Nat) (v : Option Value) (h : Heap) (L : List Loc) : Prop := v = some (.int (1 : Int32)) ∧ Fr n0 L ∧ h = h0
set_option maxRecDepth 65536 in
set_option maxHeartbeats 40000000 in
theorem rmQE4 (l : Launch) (Z : State) (a0 : Array Value) (hw : ∀ d ∈ tables_1, d.before a0 Z = true) (ws : List Jvm.Cond) (aQ : Addr) (bQ : Addr) (zc : Int32) (tQ : Addr) (uQ : Addr) (kQ : ClassId) (lQ : ClassId) (cQ : Int32) (vA : Int32) (vB : Int32) (vC : Int32) (vD : Int32) (h0 : Heap) (n0 : Nat) (Z0 : n0 ≤ h0.size) (O0 : Old Z n0 h0) (Scz : Sta Z Z.heap sAA "COMPACT_STRINGS" "Z" (.int zc)) (hcz : ¬ zc = 0) (E_aQ : Exa Z h0 aQ sAA) (C_aQ : Fld Z h0 aQ sAA "coder" "B" (.int cQ)) (V_aQ : Fld Z h0 aQ sAA "value" "[B" (.ref tQ)) (A_aQ : Arv Z h0 tQ kQ .byte (4 : Int32) [(.int vA), (.int vB), (.int vC), (.int vD)] (.int (0 : Int32))) (E_bQ : Exa Z h0 bQ sAA) (C_bQ : Fld Z h0 bQ sAA "coder" "B" (.int cQ)) (V_bQ : Fld Z h0 bQ sAA "value" "[B" (.ref uQ)) (A_bQ : Arv Z h0 uQ lQ .byte (4 : Int32) [(.int vA), (.int vB), (.int vC), (.int vD)] (.int (0 : Int32))) :
    MetFree l (⟨sAA, "equals", sAJ⟩ : MethodName) (head1 (Jvm.Cond.code (⟨sAA, "equals", sAJ⟩ : MethodName) jdk_42_method_66_code 3 (some .boolean) :: ws) (oR 1 0 0 20)) (fun a U => a = #[(.ref aQ), (.ref bQ)] ∧ Z.Warmed39 U.vm ∧ U.heap = h0) (fun _ _ _ _ _ => True) (fun _ U o U' => ∃ v L, o = .returned v ∧ QQE4 Z aQ bQ zc tQ uQ kQ lQ cQ vA vB vC vD h0 n0 v U'.heap L ∧ FrameEnd U o U' L (oR 1 0 0 20).cells (oR 1 0 0 20).slots) := by
  refine MetFree.of_bodySF (plainFor_of_name own_pn1) hisR ?_
  intro p e s m args below meth c s₁ Bd hml0 hP hK
  obtain ⟨rfl, hZ, hh⟩ := hP
  have hx := Bd.exec
  have hby := Bd.bytes
  have hlk : meth.locks = false := Bd.notSynchronized
  have hml : c.maxLocals = 3 := hml0
  have hown : s.vm.findClass sAA = some m.cls := findClass_of_methodNamed Bd.named
  have hnm := (name_of_methodNamed Bd.named Bd.method).1
  have X0 : Stand p l e (oR 1 0 0 20) s m #[(.ref aQ), (.ref bQ)] below meth c s₁ [] 0 0 := Stand.of_body Bd
  have e0 : s₁.heap = h0 := by rw [← hh, Bd.state]; rfl
  have N0 := Fr.nil n0
  refine own_body (A := s₁.setTop (mkF m 0 #[rv aQ, rv bQ, uu] [])) (Q := QQE4 Z aQ bQ zc tQ uQ kQ lQ cQ vA vB vC vD h0 n0) (fun t k => castTop (own_efQE4 m aQ bQ) k) ?_
  refine oALN (n := 1) X0 hx (hb hby own_d15_0) rfl rfl rfl ?_
  refine oALN (n := 2) X0 hx (hb hby own_d15_1) rfl rfl rfl ?_
  by_cases hc2 : aQ = bQ
  · refine ov (B := s₁.setTop (mkF m 5 #[rv aQ, rv bQ, uu] [])) (fun t k => Jvm.RoadKit.acmp (g := (mkF m 2 #[rv aQ, rv bQ, uu] [(.ref bQ), (.ref aQ)])) X0 hx rfl rfl rfl (pc0 := 2) (pc' := 5) (same := true) rfl (hb hby own_d15_2) rfl (decide_eq_true (congrArg Value.ref hc2)) (by decide) (by decide) k) ?_
    refine oIC (n := 6) X0 hx (1 : Int32) (hb hby own_d15_5) (by decide) rfl ?_
    refine own_leaf X0 hx hlk (t := .boolean) Bd.returns (by decide) (Or.inl ⟨rfl, by simp, _, rfl⟩) (hb hby own_d15_6) (by decide) (by decide) ?_
    show QQE4 Z aQ bQ zc tQ uQ kQ lQ cQ vA vB vC vD h0 n0 _ s₁.heap _
    rw [e0]
    refine ⟨?_, N0, rfl⟩
    rfl
  · refine ov (B := s₁.setTop (mkF m 7 #[rv aQ, rv bQ, uu] [])) (fun t k => Jvm.RoadKit.acmp (g := (mkF m 2 #[rv aQ, rv bQ, uu] [(.ref bQ), (.ref aQ)])) X0 hx rfl rfl rfl (pc0 := 2) (pc' := 7) (same := false) rfl (hb hby own_d15_2) rfl (decide_eq_false fun q => hc2 (Value.ref.inj q)) (by decide) (by decide) k) ?_
    refine oALN (n := 8) X0 hx (hb hby own_d15_7) rfl rfl rfl ?_
    obtain ⟨T1, X1, e1, st1⟩ := instY X0 hx hZ hown (oW hw 120 rfl) e0 (Ins.self E_bQ) (g := (mkF m 8 #[rv aQ, rv bQ, uu] [(.ref bQ)])) rfl rfl (hb hby own_d15_8)
    refine ov (B := T1.setTop (mkF m 11 #[rv aQ, rv bQ, uu] [(.int 1)])) (fun t k => st1 t k) ?_
    have hc11 : ¬ ((1 : Int32) = (0 : Int32)) := by decide
    refine ov (B := T1.setTop (mkF m 14 #[rv aQ, rv bQ, uu] [])) (fun t k => XS.ifNo X1.here hx rfl (hb hby own_d15_11) rfl ((if0 _ _).trans (feq hc11).1) k) ?_
    refine oALN (n := 15) X1 hx (hb hby own_d15_14) rfl rfl rfl ?_
    obtain ⟨T2, X2, e2, st2⟩ := castY X1 hx hZ hown (oW hw 120 rfl) e1 (Ins.self E_bQ) (g := (mkF m 15 #[rv aQ, rv bQ, uu] [(.ref bQ)])) rfl rfl (hb hby own_d15_15)
    refine ov (B := T2.setTop (mkF m 18 #[rv aQ, rv bQ, uu] [(.ref bQ)])) (fun t k => st2 t k) ?_
    refine ov (B := T2.setTop (mkF m 19 #[rv aQ, rv bQ, rv bQ] [])) (fun t k => XS.astoreN X2.here hx rfl (hb hby own_d15_18) rfl rfl (l' := #[rv aQ, rv bQ, rv bQ]) rfl k) ?_
    obtain ⟨T3, X3, e3, st3⟩ := getS2 X2 hx hZ hown (host := "") (Or.inl (oW hw 121 rfl)) Via.refl e2 (Scz.ext O0.2) (g := (mkF m 19 #[rv aQ, rv bQ, rv bQ] [])) rfl (hb hby own_d15_19)
    refine ov (B := T3.setTop (mkF m 22 #[rv aQ, rv bQ, rv bQ] [(.int zc)])) (fun t k => st3 t k) ?_
    have hc22 : ¬ (zc = (0 : Int32)) := hcz
    refine ov (B := T3.setTop (mkF m 25 #[rv aQ, rv bQ, rv bQ] [])) (fun t k => XS.ifNo X3.here hx rfl (hb hby own_d15_22) rfl ((if0 _ _).trans (feq hc22).1) k) ?_
    refine oALN (n := 26) X3 hx (hb hby own_d15_25) rfl rfl rfl ?_
    obtain ⟨T4, X4, e4, st4⟩ := getF X3 hx hZ hown (host := "") (Or.inl (oW hw 26 rfl)) Via.refl e3 C_aQ (g := (mkF m 26 #[rv aQ, rv bQ, rv bQ] [(.ref aQ)])) rfl rfl (hb hby own_d15_26)
    refine ov (B := T4.setTop (mkF m 29 #[rv aQ, rv bQ, rv bQ] [(.int cQ)])) (fun t k => st4 t k) ?_
    refine oALN (n := 30) X4 hx (hb hby own_d15_29) rfl rfl rfl ?_
    obtain ⟨T5, X5, e5, st5⟩ := getF X4 hx hZ hown (host := "") (Or.inl (oW hw 26 rfl)) Via.refl e4 C_bQ (g := (mkF m 30 #[rv aQ, rv bQ, rv bQ] [(.ref bQ), (.int cQ)])) rfl rfl (hb hby own_d15_30)
    refine ov (B := T5.setTop (mkF m 33 #[rv aQ, rv bQ, rv bQ] [(.int cQ), (.int cQ)])) (fun t k => st5 t k) ?_
    have hc33 : cQ = cQ := rfl
    refine ov (B := T5.setTop (mkF m 36 #[rv aQ, rv bQ, rv bQ] [])) (fun t k => XS.icmpNo X5.here hx rfl (hb hby own_d15_33) rfl (teq hc33).2 k) ?_
    refine oALN (n := 37) X5 hx (hb hby own_d15_36) rfl rfl rfl ?_
    obtain ⟨T6, X6, e6, st6⟩ := getF X5 hx hZ hown (host := "") (Or.inl (oW hw 25 rfl)) Via.refl e5 V_aQ (g := (mkF m 37 #[rv aQ, rv bQ, rv bQ] [(.ref aQ)])) rfl rfl (hb hby own_d15_37)
    refine ov (B := T6.setTop (mkF m 40 #[rv aQ, rv bQ, rv bQ] [(.ref tQ)])) (fun t k => st6 t k) ?_
    refine oALN (n := 41) X6 hx (hb hby own_d15_40) rfl rfl rfl ?_
    obtain ⟨T7, X7, e7, st7⟩ := getF X6 hx hZ hown (host := "") (Or.inl (oW hw 25 rfl)) Via.refl e6 V_bQ (g := (mkF m 41 #[rv aQ, rv bQ, rv bQ] [(.ref bQ), (.ref tQ)])) rfl rfl (hb hby own_d15_41)
    refine ov (B := T7.setTop (mkF m 44 #[rv aQ, rv bQ, rv bQ] [(.ref uQ), (.ref tQ)])) (fun t k => st7 t k) ?_
    obtain ⟨_, _, ⟨T8, L8, k8, n8⟩, -, X8, ⟨Lc8, hQ8, l8, y8, z8⟩, st8⟩ := Jvm.LawKit.callS X7 hx (y := (⟨sAI, "equals", "([B[B)Z"⟩ : MethodName)) hown (mvT hZ (oW hw 122 rfl)) (mvT hZ (oW hw 123 rfl)) (mvT hZ (oW hw 124 rfl)) (mvT hZ (oW hw 125 rfl)) (by decide) (backOf (W := 0) (rmLE4 l Z a0 hw [] tQ uQ kQ lQ vA vB vC vD h0 n0 Z0 A_aQ A_bQ) hZ (oW hw 125 rfl) (oW hw 124 rfl) (by decide) (by decide)) (g := (mkF m 44 #[rv aQ, rv bQ, rv bQ] [(.ref uQ), (.ref tQ)])) rfl (by rw [hml]; rfl) (argsL := [(.ref tQ), (.ref uQ)]) (rest := []) (lenOf own_pd9 rfl) rfl (by show 2 * 0 + _ ≤ _; exact Nat.le_of_eq rfl) (hb hby own_d15_44) (fun _ _ => ⟨rfl, e7, (by decide : 0 + 0 ≤ _), (by decide : 0 + 0 ≤ _)⟩)
    dsimp only [Pt.U, Pt.locs, Pt.cells, Pt.slots] at X8 l8 y8 z8 st8 hQ8
    subst l8 y8 z8
    obtain ⟨rfl, Nq8, eq8⟩ := hQ8
    have N8 := Fr.app N0 Nq8
    refine ov (B := T8.setTop (mkF m 47 #[rv aQ, rv bQ, rv bQ] [(.int 1)])) (fun t k => st8 t k) ?_
    have hc47 : ¬ ((1 : Int32) = (0 : Int32)) := by decide
    refine ov (B := T8.setTop (mkF m 50 #[rv aQ, rv bQ, rv bQ] [])) (fun t k => XS.ifNo X8.here hx rfl (hb hby own_d15_47) rfl ((if0 _ _).trans (feq hc47).1) k) ?_
    refine oIC (n := 51) X8 hx (1 : Int32) (hb hby own_d15_50) (by decide) rfl ?_
    refine oGO (n := 55) X8 hx (hb hby own_d15_51) (by decide) (by decide) ?_
    refine own_leaf X8 hx hlk (t := .boolean) Bd.returns (by decide) (Or.inl ⟨rfl, by simp, _, rfl⟩) (hb hby own_d15_55) (by decide) (by decide) ?_
    show QQE4 Z aQ bQ zc tQ uQ kQ lQ cQ vA vB vC vD h0 n0 _ T8.heap _
    rw [eq8]
    refine ⟨?_, N8, rfl⟩
    rfl
theorem own_efXR4 (m : MethodId) (x0 : Addr) (x1 : Addr) : entryFrame m #[(.ref x0), (.ref x1)] 2 = mkF m 0 #[rv x0, rv x1] [] := by first | (simp [entryFrame, mkF, argsToLocals, Value.category]; done) | rfl
def QXR4 (Z : State) (aR : Addr) (bQ : Addr) (aQ : Addr) (zc : Int32) (tQ : Addr) (uQ : Addr) (kQ : ClassId) (lQ : ClassId) (cQ : Int32) (vA : Int32) (vB : Int32) (vC : Int32) (vD : Int32) (h0 : Heap) (n0 : Nat) (v : Option Value) (h : Heap) (L : List Loc) : Prop := v = some (.ref aR) ∧ Fr n0 L ∧ h = h0
set_option maxRecDepth 65536 in
set_option maxHeartbeats 40000000 in
theorem rmXR4 (l : Launch) (Z : State) (a0 : Array Value) (hw : ∀ d ∈ tables_1, d.before a0 Z = true) (ws : List Jvm.Cond) (aR : Addr) (bQ : Addr) (aQ : Addr) (zc : Int32) (tQ : Addr) (uQ : Addr) (kQ : ClassId) (lQ : ClassId) (cQ : Int32) (vA : Int32) (vB : Int32) (vC : Int32) (vD : Int32) (h0 : Heap) (n0 : Nat) (Z0 : n0 ≤ h0.size) (O0 : Old Z n0 h0) (Scz : Sta Z Z.heap sAA "COMPACT_STRINGS" "Z" (.int zc)) (hcz : ¬ zc = 0) (Fn : Fld Z h0 aR sAC "name" sAP (.ref aQ)) (E_aQ : Exa Z h0 aQ sAA) (C_aQ : Fld Z h0 aQ sAA "coder" "B" (.int cQ)) (V_aQ : Fld Z h0 aQ sAA "value" "[B" (.ref tQ)) (A_aQ : Arv Z h0 tQ kQ .byte (4 : Int32) [(.int vA), (.int vB), (.int vC), (.int vD)] (.int (0 : Int32))) (E_bQ : Exa Z h0 bQ sAA) (C_bQ : Fld Z h0 bQ sAA "coder" "B" (.int cQ)) (V_bQ : Fld Z h0 bQ sAA "value" "[B" (.ref uQ)) (A_bQ : Arv Z h0 uQ lQ .byte (4 : Int32) [(.int vA), (.int vB), (.int vC), (.int vD)] (.int (0 : Int32))) :
    MetFree l (⟨sAC, "requireName", sAE⟩ : MethodName) (head1 (Jvm.Cond.code (⟨sAC, "requireName", sAE⟩ : MethodName) prog_42_method_18_code 2 (some (.object sAC)) :: ws) (oR 2 0 0 40)) (fun a U => a = #[(.ref aR), (.ref bQ)] ∧ Z.Warmed39 U.vm ∧ U.heap = h0) (fun _ _ _ _ _ => True) (fun _ U o U' => ∃ v L, o = .returned v ∧ QXR4 Z aR bQ aQ zc tQ uQ kQ lQ cQ vA vB vC vD h0 n0 v U'.heap L ∧ FrameEnd U o U' L (oR 2 0 0 40).cells (oR 2 0 0 40).slots) := by
  refine MetFree.of_bodySF (plainFor_of_name own_pn4) hisR ?_
  intro p e s m args below meth c s₁ Bd hml0 hP hK
  obtain ⟨rfl, hZ, hh⟩ := hP
  have hx := Bd.exec
  have hby := Bd.bytes
  have hlk : meth.locks = false := Bd.notSynchronized
  have hml : c.maxLocals = 2 := hml0
  have hown : s.vm.findClass sAC = some m.cls := findClass_of_methodNamed Bd.named
  have hnm := (name_of_methodNamed Bd.named Bd.method).1
  have X0 : Stand p l e (oR 2 0 0 40) s m #[(.ref aR), (.ref bQ)] below meth c s₁ [] 0 0 := Stand.of_body Bd
  have e0 : s₁.heap = h0 := by rw [← hh, Bd.state]; rfl
  have N0 := Fr.nil n0
  refine own_body (A := s₁.setTop (mkF m 0 #[rv aR, rv bQ] [])) (Q := QXR4 Z aR bQ aQ zc tQ uQ kQ lQ cQ vA vB vC vD h0 n0) (fun t k => castTop (own_efXR4 m aR bQ) k) ?_
  refine oALN (n := 1) X0 hx (hb hby own_d14_0) rfl rfl rfl ?_
  obtain ⟨T1, X1, e1, st1⟩ := getF X0 hx hZ hown (host := "") (Or.inl (oW hw 108 rfl)) Via.refl e0 Fn (g := (mkF m 1 #[rv aR, rv bQ] [(.ref aR)])) rfl rfl (hb hby own_d14_1)
  refine ov (B := T1.setTop (mkF m 4 #[rv aR, rv bQ] [(.ref aQ)])) (fun t k => st1 t k) ?_
  refine oALN (n := 5) X1 hx (hb hby own_d14_4) rfl rfl rfl ?_
  obtain ⟨cq2, kq2, q2a, q2b, q2c⟩ := isOf hZ e1 E_aQ
  obtain ⟨_, _, ⟨T2, L2, k2, n2⟩, -, X2, ⟨Lc2, hQ2, l2, y2, z2⟩, st2⟩ := X1.virtualBack hx (y := (⟨sAA, "equals", sAJ⟩ : MethodName)) (z := (⟨sAA, "equals", sAJ⟩ : MethodName)) hown (mvT hZ (oW hw 115 rfl)) (mvT hZ (oW hw 116 rfl)) (notFace_of_selects (args := #[]) (mvT hZ (oW hw 118 rfl))) (mvT hZ (oW hw 118 rfl)) (mvT hZ (oW hw 117 rfl)) (by decide) (backOf (W := 0) (rmQE4 l Z a0 hw [] aQ bQ zc tQ uQ kQ lQ cQ vA vB vC vD h0 n0 Z0 O0 (by assumption) (by assumption) E_aQ C_aQ V_aQ A_aQ E_bQ C_bQ V_bQ A_bQ) hZ (oW hw 119 rfl) (oW hw 7 rfl) (by decide) (by decide)) q2a q2c (g := (mkF m 5 #[rv aR, rv bQ] [(.ref bQ), (.ref aQ)])) rfl (by rw [hml]; rfl) (Steps.refl _) (argsL := [(.ref bQ)]) (rest := []) (lenOf own_pd10 rfl) rfl (by show 2 * 0 + _ ≤ _; exact Nat.le_of_eq rfl) (hb hby own_d14_5) (fun _ _ => ⟨rfl, e1, (by decide : 0 + 0 ≤ _), (by decide : 0 + 0 ≤ _)⟩)
  dsimp only [Pt.U, Pt.locs, Pt.cells, Pt.slots] at X2 l2 y2 z2 st2 hQ2
  subst l2 y2 z2
  obtain ⟨rfl, Nq2, eq2⟩ := hQ2
  have N2 := Fr.app N0 Nq2
  refine ov (B := T2.setTop (mkF m 8 #[rv aR, rv bQ] [(.int 1)])) (fun t k => st2.trans k) ?_
  have hc8 : ¬ ((1 : Int32) = (0 : Int32)) := by decide
  refine ov (B := T2.setTop (mkF m 29 #[rv aR, rv bQ] [])) (fun t k => XS.ifYes X2.here hx rfl (pc0 := 8) (pc' := 29) rfl (hb hby own_d14_8) rfl ((if0 _ _).trans (feq hc8).2) (by decide) (by decide) k) ?_
  refine oALN (n := 30) X2 hx (hb hby own_d14_29) rfl rfl rfl ?_
  refine own_leaf X2 hx hlk (t := (.object sAC)) Bd.returns rfl (Or.inr (Or.inr (Or.inr (Or.inr ⟨rfl, rfl, rfl⟩)))) (hb hby own_d14_30) (by decide) (by decide) ?_
  show QXR4 Z aR bQ aQ zc tQ uQ kQ lQ cQ vA vB vC vD h0 n0 _ T2.heap _
  rw [eq2]
  refine ⟨?_, N2, rfl⟩
  rfl
theorem own_efLE6 (m : MethodId) (x0 : Addr) (x1 : Addr) : entryFrame m #[(.ref x0), (.ref x1)] 3 = mkF m 0 #[rv x0, rv x1, uu] [] := by first | (simp [entryFrame, mkF, argsToLocals, Value.category]; done) | rfl
def QLE6 (Z : State) (aZ : Addr) (bZ : Addr) (kZ : ClassId) (lZ : ClassId) (vA : Int32) (vB : Int32) (vC : Int32) (vD : Int32) (vE : Int32) (vF : Int32) (h0 : Heap) (n0 : Nat) (v : Option Value) (h : Heap) (L : List Loc) : Prop := v = some (.int (1 : Int32)) ∧ Fr n0 L ∧ h = h0
set_option maxRecDepth 65536 in
set_option maxHeartbeats 40000000 in
theorem rmLE6 (l : Launch) (Z : State) (a0 : Array Value) (hw : ∀ d ∈ tables_1, d.before a0 Z = true) (ws : List Jvm.Cond) (aZ : Addr) (bZ : Addr) (kZ : ClassId) (lZ : ClassId) (vA : Int32) (vB : Int32) (vC : Int32) (vD : Int32) (vE : Int32) (vF : Int32) (h0 : Heap) (n0 : Nat) (Z0 : n0 ≤ h0.size) (Va : Arv Z h0 aZ kZ .byte (6 : Int32) [(.int vA), (.int vB), (.int vC), (.int vD), (.int vE), (.int vF)] (.int (0 : Int32))) (Vb : Arv Z h0 bZ lZ .byte (6 : Int32) [(.int vA), (.int vB), (.int vC), (.int vD), (.int vE), (.int vF)] (.int (0 : Int32))) :
    MetFree l (⟨sAI, "equals", "([B[B)Z"⟩ : MethodName) (head1 (Jvm.Cond.code (⟨sAI, "equals", "([B[B)Z"⟩ : MethodName) jdk_43_method_13_code 3 (some .boolean) :: ws) (oR 0 0 0 0)) (fun a U => a = #[(.ref aZ), (.ref bZ)] ∧ Z.Warmed39 U.vm ∧ U.heap = h0) (fun _ _ _ _ _ => True) (fun _ U o U' => ∃ v L, o = .returned v ∧ QLE6 Z aZ bZ kZ lZ vA vB vC vD vE vF h0 n0 v U'.heap L ∧ FrameEnd U o U' L (oR 0 0 0 0).cells (oR 0 0 0 0).slots) := by
  refine MetFree.of_bodySF (plainFor_of_name own_pn3) hisR ?_
  intro p e s m args below meth c s₁ Bd hml0 hP hK
  obtain ⟨rfl, hZ, hh⟩ := hP
  have hx := Bd.exec
  have hby := Bd.bytes
  have hlk : meth.locks = false := Bd.notSynchronized
  have hml : c.maxLocals = 3 := hml0
  have hown : s.vm.findClass sAI = some m.cls := findClass_of_methodNamed Bd.named
  have hnm := (name_of_methodNamed Bd.named Bd.method).1
  have X0 : Stand p l e (oR 0 0 0 0) s m #[(.ref aZ), (.ref bZ)] below meth c s₁ [] 0 0 := Stand.of_body Bd
  have e0 : s₁.heap = h0 := by rw [← hh, Bd.state]; rfl
  have N0 := Fr.nil n0
  refine own_body (A := s₁.setTop (mkF m 0 #[rv aZ, rv bZ, uu] [])) (Q := QLE6 Z aZ bZ kZ lZ vA vB vC vD vE vF h0 n0) (fun t k => castTop (own_efLE6 m aZ bZ) k) ?_
  refine oALN (n := 1) X0 hx (hb hby own_d16_0) rfl rfl rfl ?_
  obtain ⟨cl1, Ar1, q1, S1, M1, H1, G1⟩ := id Va
  refine ov (B := s₁.setTop (mkF m 2 #[rv aZ, rv bZ, uu] [(.int 6)])) (fun t k => X0.arraylength hx (by rw [e0]; exact Ar1.1) (State.isArrayOf_alike hZ.alike Ar1.2.1) (g := (mkF m 1 #[rv aZ, rv bZ, uu] [(.ref aZ)])) rfl rfl (hb hby own_d16_1) _ (by rw [len_of S1 M1]; exact k)) ?_
  refine oALN (n := 3) X0 hx (hb hby own_d16_2) rfl rfl rfl ?_
  obtain ⟨cl2, Ar2, q2, S2, M2, H2, G2⟩ := id Vb
  refine ov (B := s₁.setTop (mkF m 4 #[rv aZ, rv bZ, uu] [(.int 6), (.int 6)])) (fun t k => X0.arraylength hx (by rw [e0]; exact Ar2.1) (State.isArrayOf_alike hZ.alike Ar2.2.1) (g := (mkF m 3 #[rv aZ, rv bZ, uu] [(.ref bZ), (.int 6)])) rfl rfl (hb hby own_d16_3) _ (by rw [len_of S2 M2]; exact k)) ?_
  have hc4 : (6 : Int32) = (6 : Int32) := by decide
  refine ov (B := s₁.setTop (mkF m 7 #[rv aZ, rv bZ, uu] [])) (fun t k => XS.icmpNo X0.here hx rfl (hb hby own_d16_4) rfl (teq hc4).2 k) ?_
  refine oIC (n := 8) X0 hx (0 : Int32) (hb hby own_d16_7) (by decide) rfl ?_
  refine ov (B := s₁.setTop (mkF m 9 #[rv aZ, rv bZ, iv 0] [])) (fun t k => XS.istoreN X0.here hx rfl (hb hby own_d16_8) rfl (l' := #[rv aZ, rv bZ, iv 0]) rfl k) ?_
  refine oILN (n := 10) X0 hx (hb hby own_d16_9) rfl rfl ?_
  refine oALN (n := 11) X0 hx (hb hby own_d16_10) rfl rfl rfl ?_
  obtain ⟨cl3, Ar3, q3, S3, M3, H3, G3⟩ := id Va
  refine ov (B := s₁.setTop (mkF m 12 #[rv aZ, rv bZ, iv 0] [(.int 6), (.int 0)])) (fun t k => X0.arraylength hx (by rw [e0]; exact Ar3.1) (State.isArrayOf_alike hZ.alike Ar3.2.1) (g := (mkF m 11 #[rv aZ, rv bZ, iv 0] [(.ref aZ), (.int 0)])) rfl rfl (hb hby own_d16_11) _ (by rw [len_of S3 M3]; exact k)) ?_
  have hc12 : (0 : Int32) < (6 : Int32) := by decide
  refine ov (B := s₁.setTop (mkF m 15 #[rv aZ, rv bZ, iv 0] [])) (fun t k => XS.icmpNo X0.here hx rfl (hb hby own_d16_12) rfl (tlt hc12).2.1 k) ?_
  refine oALN (n := 16) X0 hx (hb hby own_d16_15) rfl rfl rfl ?_
  refine oILN (n := 17) X0 hx (hb hby own_d16_16) rfl rfl ?_
  obtain ⟨cl4, Ar4, q4, S4, M4, H4, G4⟩ := id Va
  have hin4 : ¬ ((0 : Int32) < 0 ∨ cl4.slots.size ≤ ((0 : Int32)).toNatClampNeg) := inb_of S4 ⟨by decide, by decide⟩
  refine ov (B := s₁.setTop (mkF m 18 #[rv aZ, rv bZ, iv 0] [(.int vA)])) (fun t k => X0.baloadBytes hx (j := (0 : Int32)) (v := (.int vA)) (by rw [e0]; exact Ar4.1) (State.isArrayOf_alike hZ.alike Ar4.2.1) Ar4.2.2 hin4 (Has.at H4 hin4 rfl) (g := (mkF m 17 #[rv aZ, rv bZ, iv 0] [(.int 0), (.ref aZ)])) rfl rfl (hb hby own_d16_17) _ k) ?_
  refine oALN (n := 19) X0 hx (hb hby own_d16_18) rfl rfl rfl ?_
  refine oILN (n := 20) X0 hx (hb hby own_d16_19) rfl rfl ?_
  obtain ⟨cl5, Ar5, q5, S5, M5, H5, G5⟩ := id Vb
  have hin5 : ¬ ((0 : Int32) < 0 ∨ cl5.slots.size ≤ ((0 : Int32)).toNatClampNeg) := inb_of S5 ⟨by decide, by decide⟩
  refine ov (B := s₁.setTop (mkF m 21 #[rv aZ, rv bZ, iv 0] [(.int vA), (.int vA)])) (fun t k => X0.baloadBytes hx (j := (0 : Int32)) (v := (.int vA)) (by rw [e0]; exact Ar5.1) (State.isArrayOf_alike hZ.alike Ar5.2.1) Ar5.2.2 hin5 (Has.at H5 hin5 rfl) (g := (mkF m 20 #[rv aZ, rv bZ, iv 0] [(.int 0), (.ref bZ), (.int vA)])) rfl rfl (hb hby own_d16_20) _ k) ?_
  have hc21 : vA = vA := rfl
  refine ov (B := s₁.setTop (mkF m 26 #[rv aZ, rv bZ, iv 0] [])) (fun t k => XS.icmpYes X0.here hx rfl (pc0 := 21) (pc' := 26) rfl (hb hby own_d16_21) rfl (teq hc21).1 (by decide) (by decide) k) ?_
  refine ov (B := s₁.setTop (mkF m 29 #[rv aZ, rv bZ, iv 1] [])) (fun t k => XS.iinc X0.here hx rfl (hb hby own_d16_26) rfl (l' := #[rv aZ, rv bZ, iv 1]) rfl k) ?_
  refine oGO (n := 9) X0 hx (hb hby own_d16_29) (by decide) (by decide) ?_
  refine oILN (n := 10) X0 hx (hb hby own_d16_9) rfl rfl ?_
  refine oALN (n := 11) X0 hx (hb hby own_d16_10) rfl rfl rfl ?_
  obtain ⟨cl6, Ar6, q6, S6, M6, H6, G6⟩ := id Va
  refine ov (B := s₁.setTop (mkF m 12 #[rv aZ, rv bZ, iv 1] [(.int 6), (.int 1)])) (fun t k => X0.arraylength hx (by rw [e0]; exact Ar6.1) (State.isArrayOf_alike hZ.alike Ar6.2.1) (g := (mkF m 11 #[rv aZ, rv bZ, iv 1] [(.ref aZ), (.int 1)])) rfl rfl (hb hby own_d16_11) _ (by rw [len_of S6 M6]; exact k)) ?_
  have hc12 : (1 : Int32) < (6 : Int32) := by decide
  refine ov (B := s₁.setTop (mkF m 15 #[rv aZ, rv bZ, iv 1] [])) (fun t k => XS.icmpNo X0.here hx rfl (hb hby own_d16_12) rfl (tlt hc12).2.1 k) ?_
  refine oALN (n := 16) X0 hx (hb hby own_d16_15) rfl rfl rfl ?_
  refine oILN (n := 17) X0 hx (hb hby own_d16_16) rfl rfl ?_
  obtain ⟨cl7, Ar7, q7, S7, M7, H7, G7⟩ := id Va
  have hin7 : ¬ ((1 : Int32) < 0 ∨ cl7.slots.size ≤ ((1 : Int32)).toNatClampNeg) := inb_of S7 ⟨by decide, by decide⟩
  refine ov (B := s₁.setTop (mkF m 18 #[rv aZ, rv bZ, iv 1] [(.int vB)])) (fun t k => X0.baloadBytes hx (j := (1 : Int32)) (v := (.int vB)) (by rw [e0]; exact Ar7.1) (State.isArrayOf_alike hZ.alike Ar7.2.1) Ar7.2.2 hin7 (Has.at H7 hin7 rfl) (g := (mkF m 17 #[rv aZ, rv bZ, iv 1] [(.int 1), (.ref aZ)])) rfl rfl (hb hby own_d16_17) _ k) ?_
  refine oALN (n := 19) X0 hx (hb hby own_d16_18) rfl rfl rfl ?_
  refine oILN (n := 20) X0 hx (hb hby own_d16_19) rfl rfl ?_
  obtain ⟨cl8, Ar8, q8, S8, M8, H8, G8⟩ := id Vb
  have hin8 : ¬ ((1 : Int32) < 0 ∨ cl8.slots.size ≤ ((1 : Int32)).toNatClampNeg) := inb_of S8 ⟨by decide, by decide⟩
  refine ov (B := s₁.setTop (mkF m 21 #[rv aZ, rv bZ, iv 1] [(.int vB), (.int vB)])) (fun t k => X0.baloadBytes hx (j := (1 : Int32)) (v := (.int vB)) (by rw [e0]; exact Ar8.1) (State.isArrayOf_alike hZ.alike Ar8.2.1) Ar8.2.2 hin8 (Has.at H8 hin8 rfl) (g := (mkF m 20 #[rv aZ, rv bZ, iv 1] [(.int 1), (.ref bZ), (.int vB)])) rfl rfl (hb hby own_d16_20) _ k) ?_
  have hc21 : vB = vB := rfl
  refine ov (B := s₁.setTop (mkF m 26 #[rv aZ, rv bZ, iv 1] [])) (fun t k => XS.icmpYes X0.here hx rfl (pc0 := 21) (pc' := 26) rfl (hb hby own_d16_21) rfl (teq hc21).1 (by decide) (by decide) k) ?_
  refine ov (B := s₁.setTop (mkF m 29 #[rv aZ, rv bZ, iv 2] [])) (fun t k => XS.iinc X0.here hx rfl (hb hby own_d16_26) rfl (l' := #[rv aZ, rv bZ, iv 2]) rfl k) ?_
  refine oGO (n := 9) X0 hx (hb hby own_d16_29) (by decide) (by decide) ?_
  refine oILN (n := 10) X0 hx (hb hby own_d16_9) rfl rfl ?_
  refine oALN (n := 11) X0 hx (hb hby own_d16_10) rfl rfl rfl ?_
  obtain ⟨cl9, Ar9, q9, S9, M9, H9, G9⟩ := id Va
  refine ov (B := s₁.setTop (mkF m 12 #[rv aZ, rv bZ, iv 2] [(.int 6), (.int 2)])) (fun t k => X0.arraylength hx (by rw [e0]; exact Ar9.1) (State.isArrayOf_alike hZ.alike Ar9.2.1) (g := (mkF m 11 #[rv aZ, rv bZ, iv 2] [(.ref aZ), (.int 2)])) rfl rfl (hb hby own_d16_11) _ (by rw [len_of S9 M9]; exact k)) ?_
  have hc12 : (2 : Int32) < (6 : Int32) := by decide
  refine ov (B := s₁.setTop (mkF m 15 #[rv aZ, rv bZ, iv 2] [])) (fun t k => XS.icmpNo X0.here hx rfl (hb hby own_d16_12) rfl (tlt hc12).2.1 k) ?_
  refine oALN (n := 16) X0 hx (hb hby own_d16_15) rfl rfl rfl ?_
  refine oILN (n := 17) X0 hx (hb hby own_d16_16) rfl rfl ?_
  obtain ⟨cl10, Ar10, q10, S10, M10, H10, G10⟩ := id Va
  have hin10 : ¬ ((2 : Int32) < 0 ∨ cl10.slots.size ≤ ((2 : Int32)).toNatClampNeg) := inb_of S10 ⟨by decide, by decide⟩
  refine ov (B := s₁.setTop (mkF m 18 #[rv aZ, rv bZ, iv 2] [(.int vC)])) (fun t k => X0.baloadBytes hx (j := (2 : Int32)) (v := (.int vC)) (by rw [e0]; exact Ar10.1) (State.isArrayOf_alike hZ.alike Ar10.2.1) Ar10.2.2 hin10 (Has.at H10 hin10 rfl) (g := (mkF m 17 #[rv aZ, rv bZ, iv 2] [(.int 2), (.ref aZ)])) rfl rfl (hb hby own_d16_17) _ k) ?_
  refine oALN (n := 19) X0 hx (hb hby own_d16_18) rfl rfl rfl ?_
  refine oILN (n := 20) X0 hx (hb hby own_d16_19) rfl rfl ?_
  obtain ⟨cl11, Ar11, q11, S11, M11, H11, G11⟩ := id Vb
  have hin11 : ¬ ((2 : Int32) < 0 ∨ cl11.slots.size ≤ ((2 : Int32)).toNatClampNeg) := inb_of S11 ⟨by decide, by decide⟩
  refine ov (B := s₁.setTop (mkF m 21 #[rv aZ, rv bZ, iv 2] [(.int vC), (.int vC)])) (fun t k => X0.baloadBytes hx (j := (2 : Int32)) (v := (.int vC)) (by rw [e0]; exact Ar11.1) (State.isArrayOf_alike hZ.alike Ar11.2.1) Ar11.2.2 hin11 (Has.at H11 hin11 rfl) (g := (mkF m 20 #[rv aZ, rv bZ, iv 2] [(.int 2), (.ref bZ), (.int vC)])) rfl rfl (hb hby own_d16_20) _ k) ?_
  have hc21 : vC = vC := rfl
  refine ov (B := s₁.setTop (mkF m 26 #[rv aZ, rv bZ, iv 2] [])) (fun t k => XS.icmpYes X0.here hx rfl (pc0 := 21) (pc' := 26) rfl (hb hby own_d16_21) rfl (teq hc21).1 (by decide) (by decide) k) ?_
  refine ov (B := s₁.setTop (mkF m 29 #[rv aZ, rv bZ, iv 3] [])) (fun t k => XS.iinc X0.here hx rfl (hb hby own_d16_26) rfl (l' := #[rv aZ, rv bZ, iv 3]) rfl k) ?_
  refine oGO (n := 9) X0 hx (hb hby own_d16_29) (by decide) (by decide) ?_
  refine oILN (n := 10) X0 hx (hb hby own_d16_9) rfl rfl ?_
  refine oALN (n := 11) X0 hx (hb hby own_d16_10) rfl rfl rfl ?_
  obtain ⟨cl12, Ar12, q12, S12, M12, H12, G12⟩ := id Va
  refine ov (B := s₁.setTop (mkF m 12 #[rv aZ, rv bZ, iv 3] [(.int 6), (.int 3)])) (fun t k => X0.arraylength hx (by rw [e0]; exact Ar12.1) (State.isArrayOf_alike hZ.alike Ar12.2.1) (g := (mkF m 11 #[rv aZ, rv bZ, iv 3] [(.ref aZ), (.int 3)])) rfl rfl (hb hby own_d16_11) _ (by rw [len_of S12 M12]; exact k)) ?_
  have hc12 : (3 : Int32) < (6 : Int32) := by decide
  refine ov (B := s₁.setTop (mkF m 15 #[rv aZ, rv bZ, iv 3] [])) (fun t k => XS.icmpNo X0.here hx rfl (hb hby own_d16_12) rfl (tlt hc12).2.1 k) ?_
  refine oALN (n := 16) X0 hx (hb hby own_d16_15) rfl rfl rfl ?_
  refine oILN (n := 17) X0 hx (hb hby own_d16_16) rfl rfl ?_
  obtain ⟨cl13, Ar13, q13, S13, M13, H13, G13⟩ := id Va
  have hin13 : ¬ ((3 : Int32) < 0 ∨ cl13.slots.size ≤ ((3 : Int32)).toNatClampNeg) := inb_of S13 ⟨by decide, by decide⟩
  refine ov (B := s₁.setTop (mkF m 18 #[rv aZ, rv bZ, iv 3] [(.int vD)])) (fun t k => X0.baloadBytes hx (j := (3 : Int32)) (v := (.int vD)) (by rw [e0]; exact Ar13.1) (State.isArrayOf_alike hZ.alike Ar13.2.1) Ar13.2.2 hin13 (Has.at H13 hin13 rfl) (g := (mkF m 17 #[rv aZ, rv bZ, iv 3] [(.int 3), (.ref aZ)])) rfl rfl (hb hby own_d16_17) _ k) ?_
  refine oALN (n := 19) X0 hx (hb hby own_d16_18) rfl rfl rfl ?_
  refine oILN (n := 20) X0 hx (hb hby own_d16_19) rfl rfl ?_
  obtain ⟨cl14, Ar14, q14, S14, M14, H14, G14⟩ := id Vb
  have hin14 : ¬ ((3 : Int32) < 0 ∨ cl14.slots.size ≤ ((3 : Int32)).toNatClampNeg) := inb_of S14 ⟨by decide, by decide⟩
  refine ov (B := s₁.setTop (mkF m 21 #[rv aZ, rv bZ, iv 3] [(.int vD), (.int vD)])) (fun t k => X0.baloadBytes hx (j := (3 : Int32)) (v := (.int vD)) (by rw [e0]; exact Ar14.1) (State.isArrayOf_alike hZ.alike Ar14.2.1) Ar14.2.2 hin14 (Has.at H14 hin14 rfl) (g := (mkF m 20 #[rv aZ, rv bZ, iv 3] [(.int 3), (.ref bZ), (.int vD)])) rfl rfl (hb hby own_d16_20) _ k) ?_
  have hc21 : vD = vD := rfl
  refine ov (B := s₁.setTop (mkF m 26 #[rv aZ, rv bZ, iv 3] [])) (fun t k => XS.icmpYes X0.here hx rfl (pc0 := 21) (pc' := 26) rfl (hb hby own_d16_21) rfl (teq hc21).1 (by decide) (by decide) k) ?_
  refine ov (B := s₁.setTop (mkF m 29 #[rv aZ, rv bZ, iv 4] [])) (fun t k => XS.iinc X0.here hx rfl (hb hby own_d16_26) rfl (l' := #[rv aZ, rv bZ, iv 4]) rfl k) ?_
  refine oGO (n := 9) X0 hx (hb hby own_d16_29) (by decide) (by decide) ?_
  refine oILN (n := 10) X0 hx (hb hby own_d16_9) rfl rfl ?_
  refine oALN (n := 11) X0 hx (hb hby own_d16_10) rfl rfl rfl ?_
  obtain ⟨cl15, Ar15, q15, S15, M15, H15, G15⟩ := id Va
  refine ov (B := s₁.setTop (mkF m 12 #[rv aZ, rv bZ, iv 4] [(.int 6), (.int 4)])) (fun t k => X0.arraylength hx (by rw [e0]; exact Ar15.1) (State.isArrayOf_alike hZ.alike Ar15.2.1) (g := (mkF m 11 #[rv aZ, rv bZ, iv 4] [(.ref aZ), (.int 4)])) rfl rfl (hb hby own_d16_11) _ (by rw [len_of S15 M15]; exact k)) ?_
  have hc12 : (4 : Int32) < (6 : Int32) := by decide
  refine ov (B := s₁.setTop (mkF m 15 #[rv aZ, rv bZ, iv 4] [])) (fun t k => XS.icmpNo X0.here hx rfl (hb hby own_d16_12) rfl (tlt hc12).2.1 k) ?_
  refine oALN (n := 16) X0 hx (hb hby own_d16_15) rfl rfl rfl ?_
  refine oILN (n := 17) X0 hx (hb hby own_d16_16) rfl rfl ?_
  obtain ⟨cl16, Ar16, q16, S16, M16, H16, G16⟩ := id Va
  have hin16 : ¬ ((4 : Int32) < 0 ∨ cl16.slots.size ≤ ((4 : Int32)).toNatClampNeg) := inb_of S16 ⟨by decide, by decide⟩
  refine ov (B := s₁.setTop (mkF m 18 #[rv aZ, rv bZ, iv 4] [(.int vE)])) (fun t k => X0.baloadBytes hx (j := (4 : Int32)) (v := (.int vE)) (by rw [e0]; exact Ar16.1) (State.isArrayOf_alike hZ.alike Ar16.2.1) Ar16.2.2 hin16 (Has.at H16 hin16 rfl) (g := (mkF m 17 #[rv aZ, rv bZ, iv 4] [(.int 4), (.ref aZ)])) rfl rfl (hb hby own_d16_17) _ k) ?_
  refine oALN (n := 19) X0 hx (hb hby own_d16_18) rfl rfl rfl ?_
  refine oILN (n := 20) X0 hx (hb hby own_d16_19) rfl rfl ?_
  obtain ⟨cl17, Ar17, q17, S17, M17, H17, G17⟩ := id Vb
  have hin17 : ¬ ((4 : Int32) < 0 ∨ cl17.slots.size ≤ ((4 : Int32)).toNatClampNeg) := inb_of S17 ⟨by decide, by decide⟩
  refine ov (B := s₁.setTop (mkF m 21 #[rv aZ, rv bZ, iv 4] [(.int vE), (.int vE)])) (fun t k => X0.baloadBytes hx (j := (4 : Int32)) (v := (.int vE)) (by rw [e0]; exact Ar17.1) (State.isArrayOf_alike hZ.alike Ar17.2.1) Ar17.2.2 hin17 (Has.at H17 hin17 rfl) (g := (mkF m 20 #[rv aZ, rv bZ, iv 4] [(.int 4), (.ref bZ), (.int vE)])) rfl rfl (hb hby own_d16_20) _ k) ?_
  have hc21 : vE = vE := rfl
  refine ov (B := s₁.setTop (mkF m 26 #[rv aZ, rv bZ, iv 4] [])) (fun t k => XS.icmpYes X0.here hx rfl (pc0 := 21) (pc' := 26) rfl (hb hby own_d16_21) rfl (teq hc21).1 (by decide) (by decide) k) ?_
  refine ov (B := s₁.setTop (mkF m 29 #[rv aZ, rv bZ, iv 5] [])) (fun t k => XS.iinc X0.here hx rfl (hb hby own_d16_26) rfl (l' := #[rv aZ, rv bZ, iv 5]) rfl k) ?_
  refine oGO (n := 9) X0 hx (hb hby own_d16_29) (by decide) (by decide) ?_
  refine oILN (n := 10) X0 hx (hb hby own_d16_9) rfl rfl ?_
  refine oALN (n := 11) X0 hx (hb hby own_d16_10) rfl rfl rfl ?_
  obtain ⟨cl18, Ar18, q18, S18, M18, H18, G18⟩ := id Va
  refine ov (B := s₁.setTop (mkF m 12 #[rv aZ, rv bZ, iv 5] [(.int 6), (.int 5)])) (fun t k => X0.arraylength hx (by rw [e0]; exact Ar18.1) (State.isArrayOf_alike hZ.alike Ar18.2.1) (g := (mkF m 11 #[rv aZ, rv bZ, iv 5] [(.ref aZ), (.int 5)])) rfl rfl (hb hby own_d16_11) _ (by rw [len_of S18 M18]; exact k)) ?_
  have hc12 : (5 : Int32) < (6 : Int32) := by decide
  refine ov (B := s₁.setTop (mkF m 15 #[rv aZ, rv bZ, iv 5] [])) (fun t k => XS.icmpNo X0.here hx rfl (hb hby own_d16_12) rfl (tlt hc12).2.1 k) ?_
  refine oALN (n := 16) X0 hx (hb hby own_d16_15) rfl rfl rfl ?_
  refine oILN (n := 17) X0 hx (hb hby own_d16_16) rfl rfl ?_
  obtain ⟨cl19, Ar19, q19, S19, M19, H19, G19⟩ := id Va
  have hin19 : ¬ ((5 : Int32) < 0 ∨ cl19.slots.size ≤ ((5 : Int32)).toNatClampNeg) := inb_of S19 ⟨by decide, by decide⟩
  refine ov (B := s₁.setTop (mkF m 18 #[rv aZ, rv bZ, iv 5] [(.int vF)])) (fun t k => X0.baloadBytes hx (j := (5 : Int32)) (v := (.int vF)) (by rw [e0]; exact Ar19.1) (State.isArrayOf_alike hZ.alike Ar19.2.1) Ar19.2.2 hin19 (Has.at H19 hin19 rfl) (g := (mkF m 17 #[rv aZ, rv bZ, iv 5] [(.int 5), (.ref aZ)])) rfl rfl (hb hby own_d16_17) _ k) ?_
  refine oALN (n := 19) X0 hx (hb hby own_d16_18) rfl rfl rfl ?_
  refine oILN (n := 20) X0 hx (hb hby own_d16_19) rfl rfl ?_
  obtain ⟨cl20, Ar20, q20, S20, M20, H20, G20⟩ := id Vb
  have hin20 : ¬ ((5 : Int32) < 0 ∨ cl20.slots.size ≤ ((5 : Int32)).toNatClampNeg) := inb_of S20 ⟨by decide, by decide⟩
  refine ov (B := s₁.setTop (mkF m 21 #[rv aZ, rv bZ, iv 5] [(.int vF), (.int vF)])) (fun t k => X0.baloadBytes hx (j := (5 : Int32)) (v := (.int vF)) (by rw [e0]; exact Ar20.1) (State.isArrayOf_alike hZ.alike Ar20.2.1) Ar20.2.2 hin20 (Has.at H20 hin20 rfl) (g := (mkF m 20 #[rv aZ, rv bZ, iv 5] [(.int 5), (.ref bZ), (.int vF)])) rfl rfl (hb hby own_d16_20) _ k) ?_
  have hc21 : vF = vF := rfl
  refine ov (B := s₁.setTop (mkF m 26 #[rv aZ, rv bZ, iv 5] [])) (fun t k => XS.icmpYes X0.here hx rfl (pc0 := 21) (pc' := 26) rfl (hb hby own_d16_21) rfl (teq hc21).1 (by decide) (by decide) k) ?_
  refine ov (B := s₁.setTop (mkF m 29 #[rv aZ, rv bZ, iv 6] [])) (fun t k => XS.iinc X0.here hx rfl (hb hby own_d16_26) rfl (l' := #[rv aZ, rv bZ, iv 6]) rfl k) ?_
  refine oGO (n := 9) X0 hx (hb hby own_d16_29) (by decide) (by decide) ?_
  refine oILN (n := 10) X0 hx (hb hby own_d16_9) rfl rfl ?_
  refine oALN (n := 11) X0 hx (hb hby own_d16_10) rfl rfl rfl ?_
  obtain ⟨cl21, Ar21, q21, S21, M21, H21, G21⟩ := id Va
  refine ov (B := s₁.setTop (mkF m 12 #[rv aZ, rv bZ, iv 6] [(.int 6), (.int 6)])) (fun t k => X0.arraylength hx (by rw [e0]; exact Ar21.1) (State.isArrayOf_alike hZ.alike Ar21.2.1) (g := (mkF m 11 #[rv aZ, rv bZ, iv 6] [(.ref aZ), (.int 6)])) rfl rfl (hb hby own_d16_11) _ (by rw [len_of S21 M21]; exact k)) ?_
  have hc12 : ¬ ((6 : Int32) < (6 : Int32)) := by decide
  refine ov (B := s₁.setTop (mkF m 32 #[rv aZ, rv bZ, iv 6] [])) (fun t k => XS.icmpYes X0.here hx rfl (pc0 := 12) (pc' := 32) rfl (hb hby own_d16_12) rfl (flt hc12).2.1 (by decide) (by decide) k) ?_
  refine oIC (n := 33) X0 hx (1 : Int32) (hb hby own_d16_32) (by decide) rfl ?_
  refine own_leaf X0 hx hlk (t := .boolean) Bd.returns (by decide) (Or.inl ⟨rfl, by simp, _, rfl⟩) (hb hby own_d16_33) (by decide) (by decide) ?_
  show QLE6 Z aZ bZ kZ lZ vA vB vC vD vE vF h0 n0 _ s₁.heap _
  rw [e0]
  refine ⟨?_, N0, rfl⟩
  rfl
theorem own_efQE6 (m : MethodId) (x0 : Addr) (x1 : Addr) : entryFrame m #[(.ref x0), (.ref x1)] 3 = mkF m 0 #[rv x0, rv x1, uu] [] := by first | (simp [entryFrame, mkF, argsToLocals, Value.category]; done) | rfl
def QQE6 (Z : State) (aQ : Addr) (bQ : Addr) (zc : Int32) (tQ : Addr) (uQ : Addr) (kQ : ClassId) (lQ : ClassId) (cQ : Int32) (vA : Int32) (vB : Int32) (vC : Int32) (vD : Int32) (vE : Int32) (vF : Int32) (h0 : Heap) (n0 : Nat) (v : Option Value) (h : Heap) (L : List Loc) : Prop := v = some (.int (1 : Int32)) ∧ Fr n0 L ∧ h = h0
set_option maxRecDepth 65536 in
set_option maxHeartbeats 40000000 in
theorem rmQE6 (l : Launch) (Z : State) (a0 : Array Value) (hw : ∀ d ∈ tables_1, d.before a0 Z = true) (ws : List Jvm.Cond) (aQ : Addr) (bQ : Addr) (zc : Int32) (tQ : Addr) (uQ : Addr) (kQ : ClassId) (lQ : ClassId) (cQ : Int32) (vA : Int32) (vB : Int32) (vC : Int32) (vD : Int32) (vE : Int32) (vF : Int32) (h0 : Heap) (n0 : Nat) (Z0 : n0 ≤ h0.size) (O0 : Old Z n0 h0) (Scz : Sta Z Z.heap sAA "COMPACT_STRINGS" "Z" (.int zc)) (hcz : ¬ zc = 0) (E_aQ : Exa Z h0 aQ sAA) (C_aQ : Fld Z h0 aQ sAA "coder" "B" (.int cQ)) (V_aQ : Fld Z h0 aQ sAA "value" "[B" (.ref tQ)) (A_aQ : Arv Z h0 tQ kQ .byte (6 : Int32) [(.int vA), (.int vB), (.int vC), (.int vD), (.int vE), (.int vF)] (.int (0 : Int32))) (E_bQ : Exa Z h0 bQ sAA) (C_bQ : Fld Z h0 bQ sAA "coder" "B" (.int cQ)) (V_bQ : Fld Z h0 bQ sAA "value" "[B" (.ref uQ)) (A_bQ : Arv Z h0 uQ lQ .byte (6 : Int32) [(.int vA), (.int vB), (.int vC), (.int vD), (.int vE), (.int vF)] (.int (0 : Int32))) :
    MetFree l (⟨sAA, "equals", sAJ⟩ : MethodName) (head1 (Jvm.Cond.code (⟨sAA, "equals", sAJ⟩ : MethodName) jdk_42_method_66_code 3 (some .boolean) :: ws) (oR 1 0 0 20)) (fun a U => a = #[(.ref aQ), (.ref bQ)] ∧ Z.Warmed39 U.vm ∧ U.heap = h0) (fun _ _ _ _ _ => True) (fun _ U o U' => ∃ v L, o = .returned v ∧ QQE6 Z aQ bQ zc tQ uQ kQ lQ cQ vA vB vC vD vE vF h0 n0 v U'.heap L ∧ FrameEnd U o U' L (oR 1 0 0 20).cells (oR 1 0 0 20).slots) := by
  refine MetFree.of_bodySF (plainFor_of_name own_pn1) hisR ?_
  intro p e s m args below meth c s₁ Bd hml0 hP hK
  obtain ⟨rfl, hZ, hh⟩ := hP
  have hx := Bd.exec
  have hby := Bd.bytes
  have hlk : meth.locks = false := Bd.notSynchronized
  have hml : c.maxLocals = 3 := hml0
  have hown : s.vm.findClass sAA = some m.cls := findClass_of_methodNamed Bd.named
  have hnm := (name_of_methodNamed Bd.named Bd.method).1
  have X0 : Stand p l e (oR 1 0 0 20) s m #[(.ref aQ), (.ref bQ)] below meth c s₁ [] 0 0 := Stand.of_body Bd
  have e0 : s₁.heap = h0 := by rw [← hh, Bd.state]; rfl
  have N0 := Fr.nil n0
  refine own_body (A := s₁.setTop (mkF m 0 #[rv aQ, rv bQ, uu] [])) (Q := QQE6 Z aQ bQ zc tQ uQ kQ lQ cQ vA vB vC vD vE vF h0 n0) (fun t k => castTop (own_efQE6 m aQ bQ) k) ?_
  refine oALN (n := 1) X0 hx (hb hby own_d15_0) rfl rfl rfl ?_
  refine oALN (n := 2) X0 hx (hb hby own_d15_1) rfl rfl rfl ?_
  by_cases hc2 : aQ = bQ
  · refine ov (B := s₁.setTop (mkF m 5 #[rv aQ, rv bQ, uu] [])) (fun t k => Jvm.RoadKit.acmp (g := (mkF m 2 #[rv aQ, rv bQ, uu] [(.ref bQ), (.ref aQ)])) X0 hx rfl rfl rfl (pc0 := 2) (pc' := 5) (same := true) rfl (hb hby own_d15_2) rfl (decide_eq_true (congrArg Value.ref hc2)) (by decide) (by decide) k) ?_
    refine oIC (n := 6) X0 hx (1 : Int32) (hb hby own_d15_5) (by decide) rfl ?_
    refine own_leaf X0 hx hlk (t := .boolean) Bd.returns (by decide) (Or.inl ⟨rfl, by simp, _, rfl⟩) (hb hby own_d15_6) (by decide) (by decide) ?_
    show QQE6 Z aQ bQ zc tQ uQ kQ lQ cQ vA vB vC vD vE vF h0 n0 _ s₁.heap _
    rw [e0]
    refine ⟨?_, N0, rfl⟩
    rfl
  · refine ov (B := s₁.setTop (mkF m 7 #[rv aQ, rv bQ, uu] [])) (fun t k => Jvm.RoadKit.acmp (g := (mkF m 2 #[rv aQ, rv bQ, uu] [(.ref bQ), (.ref aQ)])) X0 hx rfl rfl rfl (pc0 := 2) (pc' := 7) (same := false) rfl (hb hby own_d15_2) rfl (decide_eq_false fun q => hc2 (Value.ref.inj q)) (by decide) (by decide) k) ?_
    refine oALN (n := 8) X0 hx (hb hby own_d15_7) rfl rfl rfl ?_
    obtain ⟨T1, X1, e1, st1⟩ := instY X0 hx hZ hown (oW hw 120 rfl) e0 (Ins.self E_bQ) (g := (mkF m 8 #[rv aQ, rv bQ, uu] [(.ref bQ)])) rfl rfl (hb hby own_d15_8)
    refine ov (B := T1.setTop (mkF m 11 #[rv aQ, rv bQ, uu] [(.int 1)])) (fun t k => st1 t k) ?_
    have hc11 : ¬ ((1 : Int32) = (0 : Int32)) := by decide
    refine ov (B := T1.setTop (mkF m 14 #[rv aQ, rv bQ, uu] [])) (fun t k => XS.ifNo X1.here hx rfl (hb hby own_d15_11) rfl ((if0 _ _).trans (feq hc11).1) k) ?_
    refine oALN (n := 15) X1 hx (hb hby own_d15_14) rfl rfl rfl ?_
    obtain ⟨T2, X2, e2, st2⟩ := castY X1 hx hZ hown (oW hw 120 rfl) e1 (Ins.self E_bQ) (g := (mkF m 15 #[rv aQ, rv bQ, uu] [(.ref bQ)])) rfl rfl (hb hby own_d15_15)
    refine ov (B := T2.setTop (mkF m 18 #[rv aQ, rv bQ, uu] [(.ref bQ)])) (fun t k => st2 t k) ?_
    refine ov (B := T2.setTop (mkF m 19 #[rv aQ, rv bQ, rv bQ] [])) (fun t k => XS.astoreN X2.here hx rfl (hb hby own_d15_18) rfl rfl (l' := #[rv aQ, rv bQ, rv bQ]) rfl k) ?_
    obtain ⟨T3, X3, e3, st3⟩ := getS2 X2 hx hZ hown (host := "") (Or.inl (oW hw 121 rfl)) Via.refl e2 (Scz.ext O0.2) (g := (mkF m 19 #[rv aQ, rv bQ, rv bQ] [])) rfl (hb hby own_d15_19)
    refine ov (B := T3.setTop (mkF m 22 #[rv aQ, rv bQ, rv bQ] [(.int zc)])) (fun t k => st3 t k) ?_
    have hc22 : ¬ (zc = (0 : Int32)) := hcz
    refine ov (B := T3.setTop (mkF m 25 #[rv aQ, rv bQ, rv bQ] [])) (fun t k => XS.ifNo X3.here hx rfl (hb hby own_d15_22) rfl ((if0 _ _).trans (feq hc22).1) k) ?_
    refine oALN (n := 26) X3 hx (hb hby own_d15_25) rfl rfl rfl ?_
    obtain ⟨T4, X4, e4, st4⟩ := getF X3 hx hZ hown (host := "") (Or.inl (oW hw 26 rfl)) Via.refl e3 C_aQ (g := (mkF m 26 #[rv aQ, rv bQ, rv bQ] [(.ref aQ)])) rfl rfl (hb hby own_d15_26)
    refine ov (B := T4.setTop (mkF m 29 #[rv aQ, rv bQ, rv bQ] [(.int cQ)])) (fun t k => st4 t k) ?_
    refine oALN (n := 30) X4 hx (hb hby own_d15_29) rfl rfl rfl ?_
    obtain ⟨T5, X5, e5, st5⟩ := getF X4 hx hZ hown (host := "") (Or.inl (oW hw 26 rfl)) Via.refl e4 C_bQ (g := (mkF m 30 #[rv aQ, rv bQ, rv bQ] [(.ref bQ), (.int cQ)])) rfl rfl (hb hby own_d15_30)
    refine ov (B := T5.setTop (mkF m 33 #[rv aQ, rv bQ, rv bQ] [(.int cQ), (.int cQ)])) (fun t k => st5 t k) ?_
    have hc33 : cQ = cQ := rfl
    refine ov (B := T5.setTop (mkF m 36 #[rv aQ, rv bQ, rv bQ] [])) (fun t k => XS.icmpNo X5.here hx rfl (hb hby own_d15_33) rfl (teq hc33).2 k) ?_
    refine oALN (n := 37) X5 hx (hb hby own_d15_36) rfl rfl rfl ?_
    obtain ⟨T6, X6, e6, st6⟩ := getF X5 hx hZ hown (host := "") (Or.inl (oW hw 25 rfl)) Via.refl e5 V_aQ (g := (mkF m 37 #[rv aQ, rv bQ, rv bQ] [(.ref aQ)])) rfl rfl (hb hby own_d15_37)
    refine ov (B := T6.setTop (mkF m 40 #[rv aQ, rv bQ, rv bQ] [(.ref tQ)])) (fun t k => st6 t k) ?_
    refine oALN (n := 41) X6 hx (hb hby own_d15_40) rfl rfl rfl ?_
    obtain ⟨T7, X7, e7, st7⟩ := getF X6 hx hZ hown (host := "") (Or.inl (oW hw 25 rfl)) Via.refl e6 V_bQ (g := (mkF m 41 #[rv aQ, rv bQ, rv bQ] [(.ref bQ), (.ref tQ)])) rfl rfl (hb hby own_d15_41)
    refine ov (B := T7.setTop (mkF m 44 #[rv aQ, rv bQ, rv bQ] [(.ref uQ), (.ref tQ)])) (fun t k => st7 t k) ?_
    obtain ⟨_, _, ⟨T8, L8, k8, n8⟩, -, X8, ⟨Lc8, hQ8, l8, y8, z8⟩, st8⟩ := Jvm.LawKit.callS X7 hx (y := (⟨sAI, "equals", "([B[B)Z"⟩ : MethodName)) hown (mvT hZ (oW hw 122 rfl)) (mvT hZ (oW hw 123 rfl)) (mvT hZ (oW hw 124 rfl)) (mvT hZ (oW hw 125 rfl)) (by decide) (backOf (W := 0) (rmLE6 l Z a0 hw [] tQ uQ kQ lQ vA vB vC vD vE vF h0 n0 Z0 A_aQ A_bQ) hZ (oW hw 125 rfl) (oW hw 124 rfl) (by decide) (by decide)) (g := (mkF m 44 #[rv aQ, rv bQ, rv bQ] [(.ref uQ), (.ref tQ)])) rfl (by rw [hml]; rfl) (argsL := [(.ref tQ), (.ref uQ)]) (rest := []) (lenOf own_pd9 rfl) rfl (by show 2 * 0 + _ ≤ _; exact Nat.le_of_eq rfl) (hb hby own_d15_44) (fun _ _ => ⟨rfl, e7, (by decide : 0 + 0 ≤ _), (by decide : 0 + 0 ≤ _)⟩)
    dsimp only [Pt.U, Pt.locs, Pt.cells, Pt.slots] at X8 l8 y8 z8 st8 hQ8
    subst l8 y8 z8
    obtain ⟨rfl, Nq8, eq8⟩ := hQ8
    have N8 := Fr.app N0 Nq8
    refine ov (B := T8.setTop (mkF m 47 #[rv aQ, rv bQ, rv bQ] [(.int 1)])) (fun t k => st8 t k) ?_
    have hc47 : ¬ ((1 : Int32) = (0 : Int32)) := by decide
    refine ov (B := T8.setTop (mkF m 50 #[rv aQ, rv bQ, rv bQ] [])) (fun t k => XS.ifNo X8.here hx rfl (hb hby own_d15_47) rfl ((if0 _ _).trans (feq hc47).1) k) ?_
    refine oIC (n := 51) X8 hx (1 : Int32) (hb hby own_d15_50) (by decide) rfl ?_
    refine oGO (n := 55) X8 hx (hb hby own_d15_51) (by decide) (by decide) ?_
    refine own_leaf X8 hx hlk (t := .boolean) Bd.returns (by decide) (Or.inl ⟨rfl, by simp, _, rfl⟩) (hb hby own_d15_55) (by decide) (by decide) ?_
    show QQE6 Z aQ bQ zc tQ uQ kQ lQ cQ vA vB vC vD vE vF h0 n0 _ T8.heap _
    rw [eq8]
    refine ⟨?_, N8, rfl⟩
    rfl
theorem own_efXR6 (m : MethodId) (x0 : Addr) (x1 : Addr) : entryFrame m #[(.ref x0), (.ref x1)] 2 = mkF m 0 #[rv x0, rv x1] [] := by first | (simp [entryFrame, mkF, argsToLocals, Value.category]; done) | rfl
def QXR6 (Z : State) (aR : Addr) (bQ : Addr) (aQ : Addr) (zc : Int32) (tQ : Addr) (uQ : Addr) (kQ : ClassId) (lQ : ClassId) (cQ : Int32) (vA : Int32) (vB : Int32) (vC : Int32) (vD : Int32) (vE : Int32) (vF : Int32) (h0 : Heap) (n0 : Nat) (v : Option Value) (h : Heap) (L : List Loc) : Prop := v = some (.ref aR) ∧ Fr n0 L ∧ h = h0
set_option maxRecDepth 65536 in
set_option maxHeartbeats 40000000 in
theorem rmXR6 (l : Launch) (Z : State) (a0 : Array Value) (hw : ∀ d ∈ tables_1, d.before a0 Z = true) (ws : List Jvm.Cond) (aR : Addr) (bQ : Addr) (aQ : Addr) (zc : Int32) (tQ : Addr) (uQ : Addr) (kQ : ClassId) (lQ : ClassId) (cQ : Int32) (vA : Int32) (vB : Int32) (vC : Int32) (vD : Int32) (vE : Int32) (vF : Int32) (h0 : Heap) (n0 : Nat) (Z0 : n0 ≤ h0.size) (O0 : Old Z n0 h0) (Scz : Sta Z Z.heap sAA "COMPACT_STRINGS" "Z" (.int zc)) (hcz : ¬ zc = 0) (Fn : Fld Z h0 aR sAC "name" sAP (.ref aQ)) (E_aQ : Exa Z h0 aQ sAA) (C_aQ : Fld Z h0 aQ sAA "coder" "B" (.int cQ)) (V_aQ : Fld Z h0 aQ sAA "value" "[B" (.ref tQ)) (A_aQ : Arv Z h0 tQ kQ .byte (6 : Int32) [(.int vA), (.int vB), (.int vC), (.int vD), (.int vE), (.int vF)] (.int (0 : Int32))) (E_bQ : Exa Z h0 bQ sAA) (C_bQ : Fld Z h0 bQ sAA "coder" "B" (.int cQ)) (V_bQ : Fld Z h0 bQ sAA "value" "[B" (.ref uQ)) (A_bQ : Arv Z h0 uQ lQ .byte (6 : Int32) [(.int vA), (.int vB), (.int vC), (.int vD), (.int vE), (.int vF)] (.int (0 : Int32))) :
    MetFree l (⟨sAC, "requireName", sAE⟩ : MethodName) (head1 (Jvm.Cond.code (⟨sAC, "requireName", sAE⟩ : MethodName) prog_42_method_18_code 2 (some (.object sAC)) :: ws) (oR 2 0 0 40)) (fun a U => a = #[(.ref aR), (.ref bQ)] ∧ Z.Warmed39 U.vm ∧ U.heap = h0) (fun _ _ _ _ _ => True) (fun _ U o U' => ∃ v L, o = .returned v ∧ QXR6 Z aR bQ aQ zc tQ uQ kQ lQ cQ vA vB vC vD vE vF h0 n0 v U'.heap L ∧ FrameEnd U o U' L (oR 2 0 0 40).cells (oR 2 0 0 40).slots) := by
  refine MetFree.of_bodySF (plainFor_of_name own_pn4) hisR ?_
  intro p e s m args below meth c s₁ Bd hml0 hP hK
  obtain ⟨rfl, hZ, hh⟩ := hP
  have hx := Bd.exec
  have hby := Bd.bytes
  have hlk : meth.locks = false := Bd.notSynchronized
  have hml : c.maxLocals = 2 := hml0
  have hown : s.vm.findClass sAC = some m.cls := findClass_of_methodNamed Bd.named
  have hnm := (name_of_methodNamed Bd.named Bd.method).1
  have X0 : Stand p l e (oR 2 0 0 40) s m #[(.ref aR), (.ref bQ)] below meth c s₁ [] 0 0 := Stand.of_body Bd
  have e0 : s₁.heap = h0 := by rw [← hh, Bd.state]; rfl
  have N0 := Fr.nil n0
  refine own_body (A := s₁.setTop (mkF m 0 #[rv aR, rv bQ] [])) (Q := QXR6 Z aR bQ aQ zc tQ uQ kQ lQ cQ vA vB vC vD vE vF h0 n0) (fun t k => castTop (own_efXR6 m aR bQ) k) ?_
  refine oALN (n := 1) X0 hx (hb hby own_d14_0) rfl rfl rfl ?_
  obtain ⟨T1, X1, e1, st1⟩ := getF X0 hx hZ hown (host := "") (Or.inl (oW hw 108 rfl)) Via.refl e0 Fn (g := (mkF m 1 #[rv aR, rv bQ] [(.ref aR)])) rfl rfl (hb hby own_d14_1)
  refine ov (B := T1.setTop (mkF m 4 #[rv aR, rv bQ] [(.ref aQ)])) (fun t k => st1 t k) ?_
  refine oALN (n := 5) X1 hx (hb hby own_d14_4) rfl rfl rfl ?_
  obtain ⟨cq2, kq2, q2a, q2b, q2c⟩ := isOf hZ e1 E_aQ
  obtain ⟨_, _, ⟨T2, L2, k2, n2⟩, -, X2, ⟨Lc2, hQ2, l2, y2, z2⟩, st2⟩ := X1.virtualBack hx (y := (⟨sAA, "equals", sAJ⟩ : MethodName)) (z := (⟨sAA, "equals", sAJ⟩ : MethodName)) hown (mvT hZ (oW hw 115 rfl)) (mvT hZ (oW hw 116 rfl)) (notFace_of_selects (args := #[]) (mvT hZ (oW hw 118 rfl))) (mvT hZ (oW hw 118 rfl)) (mvT hZ (oW hw 117 rfl)) (by decide) (backOf (W := 0) (rmQE6 l Z a0 hw [] aQ bQ zc tQ uQ kQ lQ cQ vA vB vC vD vE vF h0 n0 Z0 O0 (by assumption) (by assumption) E_aQ C_aQ V_aQ A_aQ E_bQ C_bQ V_bQ A_bQ) hZ (oW hw 119 rfl) (oW hw 7 rfl) (by decide) (by decide)) q2a q2c (g := (mkF m 5 #[rv aR, rv bQ] [(.ref bQ), (.ref aQ)])) rfl (by rw [hml]; rfl) (Steps.refl _) (argsL := [(.ref bQ)]) (rest := []) (lenOf own_pd10 rfl) rfl (by show 2 * 0 + _ ≤ _; exact Nat.le_of_eq rfl) (hb hby own_d14_5) (fun _ _ => ⟨rfl, e1, (by decide : 0 + 0 ≤ _), (by decide : 0 + 0 ≤ _)⟩)
  dsimp only [Pt.U, Pt.locs, Pt.cells, Pt.slots] at X2 l2 y2 z2 st2 hQ2
  subst l2 y2 z2
  obtain ⟨rfl, Nq2, eq2⟩ := hQ2
  have N2 := Fr.app N0 Nq2
  refine ov (B := T2.setTop (mkF m 8 #[rv aR, rv bQ] [(.int 1)])) (fun t k => st2.trans k) ?_
  have hc8 : ¬ ((1 : Int32) = (0 : Int32)) := by decide
  refine ov (B := T2.setTop (mkF m 29 #[rv aR, rv bQ] [])) (fun t k => XS.ifYes X2.here hx rfl (pc0 := 8) (pc' := 29) rfl (hb hby own_d14_8) rfl ((if0 _ _).trans (feq hc8).2) (by decide) (by decide) k) ?_
  refine oALN (n := 30) X2 hx (hb hby own_d14_29) rfl rfl rfl ?_
  refine own_leaf X2 hx hlk (t := (.object sAC)) Bd.returns rfl (Or.inr (Or.inr (Or.inr (Or.inr ⟨rfl, rfl, rfl⟩)))) (hb hby own_d14_30) (by decide) (by decide) ?_
  show QXR6 Z aR bQ aQ zc tQ uQ kQ lQ cQ vA vB vC vD vE vF h0 n0 _ T2.heap _
  rw [eq2]
  refine ⟨?_, N2, rfl⟩
  rfl
theorem own_pn5 : plainName "java/util/AbstractMap" = true := by first | (simp [plainName, overriddenIn]; done) | decide +kernel
theorem own_d8_0 : decode jdk_71_method_1_code 0 = .ok (.aload_n 0, 1) := by decide +kernel
theorem own_d8_1 : decode jdk_71_method_1_code 1 = .ok (.invokespecial 1, 3) := by decide +kernel
theorem own_d8_4 : decode jdk_71_method_1_code 4 = .ok (.return_, 1) := by decide +kernel
theorem own_efMA (m : MethodId) (x0 : Addr) : entryFrame m #[(.ref x0)] 1 = mkF m 0 #[rv x0] [] := by first | (simp [entryFrame, mkF, argsToLocals, Value.category]; done) | rfl
def QMA (Z : State) (aMA : Addr) (h0 : Heap) (n0 : Nat) (v : Option Value) (h : Heap) (L : List Loc) : Prop := v = none ∧ Fr n0 L ∧ h = h0
set_option maxRecDepth 65536 in
set_option maxHeartbeats 40000000 in
theorem rmMA (l : Launch) (Z : State) (a0 : Array Value) (hw : ∀ d ∈ tables_1, d.before a0 Z = true) (ws : List Jvm.Cond) (aMA : Addr) (h0 : Heap) (n0 : Nat) (Z0 : n0 ≤ h0.size) :
    MetFree l (⟨"java/util/AbstractMap", "<init>", "()V"⟩ : MethodName) (head1 (Jvm.Cond.code (⟨"java/util/AbstractMap", "<init>", "()V"⟩ : MethodName) jdk_71_method_1_code 1 none :: ws) (oR 1 0 0 12)) (fun a U => a = #[(.ref aMA)] ∧ Z.Warmed39 U.vm ∧ U.heap = h0) (fun _ _ _ _ _ => True) (fun _ U o U' => ∃ v L, o = .returned v ∧ QMA Z aMA h0 n0 v U'.heap L ∧ FrameEnd U o U' L (oR 1 0 0 12).cells (oR 1 0 0 12).slots) := by
  refine MetFree.of_bodySF (plainFor_of_name own_pn5) hisR ?_
  intro p e s m args below meth c s₁ Bd hml0 hP hK
  obtain ⟨rfl, hZ, hh⟩ := hP
  have hx := Bd.exec
  have hby := Bd.bytes
  have hlk : meth.locks = false := Bd.notSynchronized
  have hml : c.maxLocals = 1 := hml0
  have hown : s.vm.findClass "java/util/AbstractMap" = some m.cls := findClass_of_methodNamed Bd.named
  have hnm := (name_of_methodNamed Bd.named Bd.method).1
  have X0 : Stand p l e (oR 1 0 0 12) s m #[(.ref aMA)] below meth c s₁ [] 0 0 := Stand.of_body Bd
  have e0 : s₁.heap = h0 := by rw [← hh, Bd.state]; rfl
  have N0 := Fr.nil n0
  refine own_body (A := s₁.setTop (mkF m 0 #[rv aMA] [])) (Q := QMA Z aMA h0 n0) (fun t k => castTop (own_efMA m aMA) k) ?_
  refine oALN (n := 1) X0 hx (hb hby own_d8_0) rfl rfl rfl ?_
  obtain ⟨T1, X1, e1, st1⟩ := initO X0 hx hZ hown (oW hw 52 rfl) (oW hw 17 rfl) (oW hw 18 rfl) e0 (g := (mkF m 1 #[rv aMA] [(.ref aMA)])) rfl (by rw [hml]; rfl) rfl (hb hby own_d8_1) (by decide) (W := 0) (by show 2 * 0 + _ ≤ _; exact Nat.le_of_eq rfl) (by decide)
  refine ov (B := T1.setTop (mkF m 4 #[rv aMA] [])) (fun t k => st1 t k) ?_
  refine own_leafV X1 hx hlk Bd.returns (hb hby own_d8_4) (by decide) (by decide) ?_
  show QMA Z aMA h0 n0 _ T1.heap _
  rw [e1]
  refine ⟨?_, N0, rfl⟩
  rfl
theorem own_pn6 : plainName "java/util/HashMap" = true := by first | (simp [plainName, overriddenIn]; done) | decide +kernel
theorem own_pd11 : parseMethodDescriptor "()V" = some ⟨[], none⟩ := by decide +kernel
theorem own_d7_0 : decode jdk_69_method_7_code 0 = .ok (.aload_n 0, 1) := by decide +kernel
theorem own_d7_1 : decode jdk_69_method_7_code 1 = .ok (.invokespecial 43, 3) := by decide +kernel
theorem own_d7_4 : decode jdk_69_method_7_code 4 = .ok (.aload_n 0, 1) := by decide +kernel
theorem own_d7_5 : decode jdk_69_method_7_code 5 = .ok (.ldc 92, 2) := by decide +kernel
theorem own_d7_7 : decode jdk_69_method_7_code 7 = .ok (.putfield 81, 3) := by decide +kernel
theorem own_d7_10 : decode jdk_69_method_7_code 10 = .ok (.return_, 1) := by decide +kernel
theorem own_efMB (m : MethodId) (x0 : Addr) : entryFrame m #[(.ref x0)] 1 = mkF m 0 #[rv x0] [] := by first | (simp [entryFrame, mkF, argsToLocals, Value.category]; done) | rfl
def QMB (Z : State) (aM : Addr) (u1 : Value) (u2 : Value) (u3 : Value) (h0 : Heap) (n0 : Nat) (v : Option Value) (h : Heap) (L : List Loc) : Prop := v = none ∧ Fr n0 L ∧ Keep h0 h [aM] ∧ (Fld Z h aM sAM "putMode" "I" u2) ∧ (Fld Z h aM sAM "accessOrder" "Z" u3)
set_option maxRecDepth 65536 in
set_option maxHeartbeats 40000000 in
theorem rmMB (l : Launch) (Z : State) (a0 : Array Value) (hw : ∀ d ∈ tables_1, d.before a0 Z = true) (ws : List Jvm.Cond) (aM : Addr) (u1 : Value) (u2 : Value) (u3 : Value) (h0 : Heap) (n0 : Nat) (Z0 : n0 ≤ h0.size) (Em : Exa Z h0 aM sAM) (Fl : Fld Z h0 aM "java/util/HashMap" "loadFactor" "F" u1) (Fp : Fld Z h0 aM sAM "putMode" "I" u2) (Fa : Fld Z h0 aM sAM "accessOrder" "Z" u3) (g_aM : n0 ≤ aM) :
    MetFree l (⟨"java/util/HashMap", "<init>", "()V"⟩ : MethodName) (head1 (Jvm.Cond.code (⟨"java/util/HashMap", "<init>", "()V"⟩ : MethodName) jdk_69_method_7_code 1 none :: ws) (oR 2 0 0 28)) (fun a U => a = #[(.ref aM)] ∧ Z.Warmed39 U.vm ∧ U.heap = h0) (fun _ _ _ _ _ => True) (fun _ U o U' => ∃ v L, o = .returned v ∧ QMB Z aM u1 u2 u3 h0 n0 v U'.heap L ∧ FrameEnd U o U' L (oR 2 0 0 28).cells (oR 2 0 0 28).slots) := by
  refine MetFree.of_bodySF (plainFor_of_name own_pn6) hisR ?_
  intro p e s m args below meth c s₁ Bd hml0 hP hK
  obtain ⟨rfl, hZ, hh⟩ := hP
  have hx := Bd.exec
  have hby := Bd.bytes
  have hlk : meth.locks = false := Bd.notSynchronized
  have hml : c.maxLocals = 1 := hml0
  have hown : s.vm.findClass "java/util/HashMap" = some m.cls := findClass_of_methodNamed Bd.named
  have hnm := (name_of_methodNamed Bd.named Bd.method).1
  have X0 : Stand p l e (oR 2 0 0 28) s m #[(.ref aM)] below meth c s₁ [] 0 0 := Stand.of_body Bd
  have e0 : s₁.heap = h0 := by rw [← hh, Bd.state]; rfl
  have N0 := Fr.nil n0
  refine own_body (A := s₁.setTop (mkF m 0 #[rv aM] [])) (Q := QMB Z aM u1 u2 u3 h0 n0) (fun t k => castTop (own_efMB m aM) k) ?_
  refine oALN (n := 1) X0 hx (hb hby own_d7_0) rfl rfl rfl ?_
  obtain ⟨_, _, ⟨T1, L1, k1, n1⟩, -, X1, ⟨Lc1, hQ1, l1, y1, z1⟩, st1⟩ := X0.specialBack hx (y := (⟨"java/util/AbstractMap", "<init>", "()V"⟩ : MethodName)) rfl hown (mvT hZ (oW hw 46 rfl)) (mvT hZ (oW hw 47 rfl)) (mvT hZ (oW hw 51 rfl)) (by decide) (backOf (W := 0) (rmMA l Z a0 hw [] aM h0 n0 Z0 ) hZ (oW hw 51 rfl) (oW hw 50 rfl) (by decide) (by decide)) (g := (mkF m 1 #[rv aM] [(.ref aM)])) rfl (by rw [hml]; rfl) (Steps.refl _) (a := aM) (argsL := []) (rest := []) (lenOf own_pd11 rfl) rfl (by show 2 * 0 + _ ≤ _; exact Nat.le_of_eq rfl) (hb hby own_d7_1) (fun _ _ => ⟨rfl, e0, (by decide : 0 + 0 ≤ _), (by decide : 0 + 0 ≤ _)⟩)
  dsimp only [Pt.U, Pt.locs, Pt.cells, Pt.slots] at X1 l1 y1 z1 st1 hQ1
  subst l1 y1 z1
  obtain ⟨rfl, Nq1, eq1⟩ := hQ1
  have N1 := Fr.app N0 Nq1
  refine ov (B := T1.setTop (mkF m 4 #[rv aM] [])) (fun t k => st1.trans k) ?_
  refine oALN (n := 5) X1 hx (hb hby own_d7_4) rfl rfl rfl ?_
  refine ov (B := T1.setTop (mkF m 7 #[rv aM] [(.float (1061158912 : UInt32)), (.ref aM)])) (fun t k => X1.ldcFloatC hx hown (mvT hZ (oW hw 53 rfl)) (g := (mkF m 5 #[rv aM] [(.ref aM)])) rfl (hb hby own_d7_5) _ k) ?_
  obtain ⟨T2, h2, X2, e2, W2, st2⟩ := putF X1 hx hZ hown (host := "") (Or.inl (oW hw 54 rfl)) Via.refl eq1 Fl Em (Or.inr ⟨(oW hw 55 rfl), rfl, hnm⟩) (oW hw 35 rfl) (ty := .float) (by decide) rfl rfl (g := (mkF m 7 #[rv aM] [(.float (1061158912 : UInt32)), (.ref aM)])) rfl rfl (hb hby own_d7_7)
  have Fw2 := Fl.same W2
  have N2 := Fr.snoc X2 N1 g_aM
  refine ov (B := T2.setTop (mkF m 10 #[rv aM] [])) (fun t k => st2 t k) ?_
  refine own_leafV X2 hx hlk Bd.returns (hb hby own_d7_10) (by decide) (by decide) ?_
  show QMB Z aM u1 u2 u3 h0 n0 _ T2.heap _
  rw [e2]
  refine ⟨?_, N2, ((Keep.refl h0 [aM]).wr W2 (Or.inl (List.mem_of_getElem? (i := 0) rfl))), (Fp.other W2 (Or.inr (slot_ne (Or.inl (oW hw 57 rfl)) (Or.inr (oW hw 55 rfl)) (by decide +kernel) (t := .int) (t' := .float) (by decide +kernel) (by decide +kernel)))), (Fa.other W2 (Or.inr (slot_ne (Or.inr (oW hw 59 rfl)) (Or.inr (oW hw 55 rfl)) (by decide +kernel) (t := .boolean) (t' := .float) (by decide +kernel) (by decide +kernel))))⟩
  rfl
theorem own_pn7 : plainName "java/util/LinkedHashMap" = true := by first | (simp [plainName, overriddenIn]; done) | decide +kernel
theorem own_d6_0 : decode jdk_94_method_16_code 0 = .ok (.aload_n 0, 1) := by decide +kernel
theorem own_d6_1 : decode jdk_94_method_16_code 1 = .ok (.invokespecial 87, 3) := by decide +kernel
theorem own_d6_4 : decode jdk_94_method_16_code 4 = .ok (.aload_n 0, 1) := by decide +kernel
theorem own_d6_5 : decode jdk_94_method_16_code 5 = .ok (.iconst 0, 1) := by decide +kernel
theorem own_d6_6 : decode jdk_94_method_16_code 6 = .ok (.putfield 1, 3) := by decide +kernel
theorem own_d6_9 : decode jdk_94_method_16_code 9 = .ok (.aload_n 0, 1) := by decide +kernel
theorem own_d6_10 : decode jdk_94_method_16_code 10 = .ok (.iconst 0, 1) := by decide +kernel
theorem own_d6_11 : decode jdk_94_method_16_code 11 = .ok (.putfield 64, 3) := by decide +kernel
theorem own_d6_14 : decode jdk_94_method_16_code 14 = .ok (.return_, 1) := by decide +kernel
theorem own_efMC (m : MethodId) (x0 : Addr) : entryFrame m #[(.ref x0)] 1 = mkF m 0 #[rv x0] [] := by first | (simp [entryFrame, mkF, argsToLocals, Value.category]; done) | rfl
def QMC (Z : State) (aM : Addr) (u1 : Value) (u2 : Value) (u3 : Value) (h0 : Heap) (n0 : Nat) (v : Option Value) (h : Heap) (L : List Loc) : Prop := v = none ∧ Fr n0 L ∧ Keep h0 h [aM]
set_option maxRecDepth 65536 in
set_option maxHeartbeats 40000000 in
theorem rmMC (l : Launch) (Z : State) (a0 : Array Value) (hw : ∀ d ∈ tables_1, d.before a0 Z = true) (ws : List Jvm.Cond) (aM : Addr) (u1 : Value) (u2 : Value) (u3 : Value) (h0 : Heap) (n0 : Nat) (Z0 : n0 ≤ h0.size) (Em : Exa Z h0 aM sAM) (Fl : Fld Z h0 aM "java/util/HashMap" "loadFactor" "F" u1) (Fp : Fld Z h0 aM sAM "putMode" "I" u2) (Fa : Fld Z h0 aM sAM "accessOrder" "Z" u3) (g_aM : n0 ≤ aM) :
    MetFree l (⟨sAM, "<init>", "()V"⟩ : MethodName) (head1 (Jvm.Cond.code (⟨sAM, "<init>", "()V"⟩ : MethodName) jdk_94_method_16_code 1 none :: ws) (oR 3 0 0 44)) (fun a U => a = #[(.ref aM)] ∧ Z.Warmed39 U.vm ∧ U.heap = h0) (fun _ _ _ _ _ => True) (fun _ U o U' => ∃ v L, o = .returned v ∧ QMC Z aM u1 u2 u3 h0 n0 v U'.heap L ∧ FrameEnd U o U' L (oR 3 0 0 44).cells (oR 3 0 0 44).slots) := by
  refine MetFree.of_bodySF (plainFor_of_name own_pn7) hisR ?_
  intro p e s m args below meth c s₁ Bd hml0 hP hK
  obtain ⟨rfl, hZ, hh⟩ := hP
  have hx := Bd.exec
  have hby := Bd.bytes
  have hlk : meth.locks = false := Bd.notSynchronized
  have hml : c.maxLocals = 1 := hml0
  have hown : s.vm.findClass sAM = some m.cls := findClass_of_methodNamed Bd.named
  have hnm := (name_of_methodNamed Bd.named Bd.method).1
  have X0 : Stand p l e (oR 3 0 0 44) s m #[(.ref aM)] below meth c s₁ [] 0 0 := Stand.of_body Bd
  have e0 : s₁.heap = h0 := by rw [← hh, Bd.state]; rfl
  have N0 := Fr.nil n0
  refine own_body (A := s₁.setTop (mkF m 0 #[rv aM] [])) (Q := QMC Z aM u1 u2 u3 h0 n0) (fun t k => castTop (own_efMC m aM) k) ?_
  refine oALN (n := 1) X0 hx (hb hby own_d6_0) rfl rfl rfl ?_
  obtain ⟨_, _, ⟨T1, L1, k1, n1⟩, -, X1, ⟨Lc1, hQ1, l1, y1, z1⟩, st1⟩ := X0.specialBack hx (y := (⟨"java/util/HashMap", "<init>", "()V"⟩ : MethodName)) rfl hown (mvT hZ (oW hw 40 rfl)) (mvT hZ (oW hw 41 rfl)) (mvT hZ (oW hw 45 rfl)) (by decide) (backOf (W := 0) (rmMB l Z a0 hw [] aM u1 u2 u3 h0 n0 Z0 Em Fl Fp Fa g_aM) hZ (oW hw 45 rfl) (oW hw 44 rfl) (by decide) (by decide)) (g := (mkF m 1 #[rv aM] [(.ref aM)])) rfl (by rw [hml]; rfl) (Steps.refl _) (a := aM) (argsL := []) (rest := []) (lenOf own_pd11 rfl) rfl (by show 2 * 0 + _ ≤ _; exact Nat.le_of_eq rfl) (hb hby own_d6_1) (fun _ _ => ⟨rfl, e0, (by decide : 0 + 0 ≤ _), (by decide : 0 + 0 ≤ _)⟩)
  dsimp only [Pt.U, Pt.locs, Pt.cells, Pt.slots] at X1 l1 y1 z1 st1 hQ1
  subst l1 y1 z1
  obtain ⟨rfl, Nq1, Kq1, f1_0, f1_1⟩ := hQ1
  have N1 := Fr.app N0 Nq1
  refine ov (B := T1.setTop (mkF m 4 #[rv aM] [])) (fun t k => st1.trans k) ?_
  refine oALN (n := 5) X1 hx (hb hby own_d6_4) rfl rfl rfl ?_
  refine oIC (n := 6) X1 hx (0 : Int32) (hb hby own_d6_5) (by decide) rfl ?_
  obtain ⟨T2, h2, X2, e2, W2, st2⟩ := putF X1 hx hZ hown (host := "") (Or.inl (oW hw 56 rfl)) Via.refl rfl f1_0 (Em.keep Kq1) (Or.inl (oW hw 57 rfl)) (oW hw 35 rfl) (ty := .int) (by decide) rfl rfl (g := (mkF m 6 #[rv aM] [(.int 0), (.ref aM)])) rfl rfl (hb hby own_d6_6)
  have Fw2 := f1_0.same W2
  have N2 := Fr.snoc X2 N1 g_aM
  refine ov (B := T2.setTop (mkF m 9 #[rv aM] [])) (fun t k => st2 t k) ?_
  refine oALN (n := 10) X2 hx (hb hby own_d6_9) rfl rfl rfl ?_
  refine oIC (n := 11) X2 hx (0 : Int32) (hb hby own_d6_10) (by decide) rfl ?_
  obtain ⟨T3, h3, X3, e3, W3, st3⟩ := putFN X2 hx hZ hown (oW hw 58 rfl) Via.refl e2 (f1_1.other W2 (Or.inr (slot_ne (Or.inr (oW hw 59 rfl)) (Or.inl (oW hw 57 rfl)) (by decide +kernel) (t := .boolean) (t' := .int) (by decide +kernel) (by decide +kernel)))) ((Em.keep Kq1).wr W2) (Or.inr ⟨(oW hw 59 rfl), rfl, hnm⟩) (oW hw 35 rfl) (ty := .boolean) (v' := (.int 0)) (by decide) (by decide) (by decide) (g := (mkF m 11 #[rv aM] [(.int 0), (.ref aM)])) rfl rfl (hb hby own_d6_11)
  have Fw3 := (f1_1.other W2 (Or.inr (slot_ne (Or.inr (oW hw 59 rfl)) (Or.inl (oW hw 57 rfl)) (by decide +kernel) (t := .boolean) (t' := .int) (by decide +kernel) (by decide +kernel)))).same W3
  have N3 := Fr.snoc X3 N2 g_aM
  refine ov (B := T3.setTop (mkF m 14 #[rv aM] [])) (fun t k => st3 t k) ?_
  refine own_leafV X3 hx hlk Bd.returns (hb hby own_d6_14) (by decide) (by decide) ?_
  show QMC Z aM u1 u2 u3 h0 n0 _ T3.heap _
  rw [e3]
  refine ⟨?_, N3, ((((Keep.refl h0 [aM]).trans Kq1 (allS (Or.inl (List.mem_of_getElem? (i := 0) rfl)) all0)).wr W2 (Or.inl (List.mem_of_getElem? (i := 0) rfl))).wr W3 (Or.inl (List.mem_of_getElem? (i := 0) rfl)))⟩
  rfl
theorem own_pn8 : plainName "java/lang/AbstractStringBuilder" = true := by first | (simp [plainName, overriddenIn]; done) | decide +kernel
theorem own_d10_0 : decode jdk_68_method_2_code 0 = .ok (.aload_n 0, 1) := by decide +kernel
theorem own_d10_1 : decode jdk_68_method_2_code 1 = .ok (.invokespecial 3, 3) := by decide +kernel
theorem own_d10_4 : decode jdk_68_method_2_code 4 = .ok (.getstatic 18, 3) := by decide +kernel
theorem own_d10_7 : decode jdk_68_method_2_code 7 = .ok (.ifCond .eq 18, 3) := by decide +kernel
theorem own_d10_10 : decode jdk_68_method_2_code 10 = .ok (.aload_n 0, 1) := by decide +kernel
theorem own_d10_11 : decode jdk_68_method_2_code 11 = .ok (.iload_n 1, 1) := by decide +kernel
theorem own_d10_12 : decode jdk_68_method_2_code 12 = .ok (.newarray .byte, 2) := by decide +kernel
theorem own_d10_14 : decode jdk_68_method_2_code 14 = .ok (.putfield 15, 3) := by decide +kernel
theorem own_d10_17 : decode jdk_68_method_2_code 17 = .ok (.aload_n 0, 1) := by decide +kernel
theorem own_d10_18 : decode jdk_68_method_2_code 18 = .ok (.iconst 0, 1) := by decide +kernel
theorem own_d10_19 : decode jdk_68_method_2_code 19 = .ok (.putfield 22, 3) := by decide +kernel
theorem own_d10_22 : decode jdk_68_method_2_code 22 = .ok (.goto 16, 3) := by decide +kernel
theorem own_d10_38 : decode jdk_68_method_2_code 38 = .ok (.return_, 1) := by decide +kernel
theorem own_efBA (m : MethodId) (x0 : Addr) (x1 : Int32) : entryFrame m #[(.ref x0), (.int x1)] 2 = mkF m 0 #[rv x0, iv x1] [] := by first | (simp [entryFrame, mkF, argsToLocals, Value.category]; done) | rfl
def QBA (Z : State) (aS : Addr) (zc : Int32) (u1 : Value) (u2 : Value) (h0 : Heap) (n0 : Nat) (v : Option Value) (h : Heap) (L : List Loc) : Prop := v = none ∧ Fr n0 L ∧ Keep h0 h [aS]
set_option maxRecDepth 65536 in
set_option maxHeartbeats 40000000 in
theorem rmBA (l : Launch) (Z : State) (a0 : Array Value) (hw : ∀ d ∈ tables_1, d.before a0 Z = true) (ws : List Jvm.Cond) (aS : Addr) (zc : Int32) (u1 : Value) (u2 : Value) (h0 : Heap) (n0 : Nat) (Z0 : n0 ≤ h0.size) (O0 : Old Z n0 h0) (Scz : Sta Z Z.heap sAA "COMPACT_STRINGS" "Z" (.int zc)) (hcz : ¬ zc = 0) (Es : Exa Z h0 aS sAK) (Fv : Fld Z h0 aS sAO "value" "[B" u1) (Fc : Fld Z h0 aS sAO "coder" "B" u2) (g_aS : n0 ≤ aS) :
    MetFree l (⟨sAO, "<init>", "(I)V"⟩ : MethodName) (head1 (Jvm.Cond.code (⟨sAO, "<init>", "(I)V"⟩ : MethodName) jdk_68_method_2_code 2 none :: ws) (oR 1 1 16 12)) (fun a U => a = #[(.ref aS), (.int 16)] ∧ Z.Warmed39 U.vm ∧ U.heap = h0) (fun _ _ _ _ _ => True) (fun _ U o U' => ∃ v L, o = .returned v ∧ QBA Z aS zc u1 u2 h0 n0 v U'.heap L ∧ FrameEnd U o U' L (oR 1 1 16 12).cells (oR 1 1 16 12).slots) := by
  refine MetFree.of_bodySF (plainFor_of_name own_pn8) hisR ?_
  intro p e s m args below meth c s₁ Bd hml0 hP hK
  obtain ⟨rfl, hZ, hh⟩ := hP
  have hx := Bd.exec
  have hby := Bd.bytes
  have hlk : meth.locks = false := Bd.notSynchronized
  have hml : c.maxLocals = 2 := hml0
  have hown : s.vm.findClass sAO = some m.cls := findClass_of_methodNamed Bd.named
  have hnm := (name_of_methodNamed Bd.named Bd.method).1
  have X0 : Stand p l e (oR 1 1 16 12) s m #[(.ref aS), (.int 16)] below meth c s₁ [] 0 0 := Stand.of_body Bd
  have e0 : s₁.heap = h0 := by rw [← hh, Bd.state]; rfl
  have N0 := Fr.nil n0
  refine own_body (A := s₁.setTop (mkF m 0 #[rv aS, iv 16] [])) (Q := QBA Z aS zc u1 u2 h0 n0) (fun t k => castTop (own_efBA m aS (16 : Int32)) k) ?_
  refine oALN (n := 1) X0 hx (hb hby own_d10_0) rfl rfl rfl ?_
  obtain ⟨T1, X1, e1, st1⟩ := initO X0 hx hZ hown (oW hw 74 rfl) (oW hw 17 rfl) (oW hw 18 rfl) e0 (g := (mkF m 1 #[rv aS, iv 16] [(.ref aS)])) rfl (by rw [hml]; rfl) rfl (hb hby own_d10_1) (by decide) (W := 0) (by show 2 * 0 + _ ≤ _; exact Nat.le_of_eq rfl) (by decide)
  refine ov (B := T1.setTop (mkF m 4 #[rv aS, iv 16] [])) (fun t k => st1 t k) ?_
  obtain ⟨T2, X2, e2, st2⟩ := getS2 X1 hx hZ hown (host := "") (Or.inl (oW hw 75 rfl)) Via.refl e1 (Scz.ext O0.2) (g := (mkF m 4 #[rv aS, iv 16] [])) rfl (hb hby own_d10_4)
  refine ov (B := T2.setTop (mkF m 7 #[rv aS, iv 16] [(.int zc)])) (fun t k => st2 t k) ?_
  have hc7 : ¬ (zc = (0 : Int32)) := hcz
  refine ov (B := T2.setTop (mkF m 10 #[rv aS, iv 16] [])) (fun t k => XS.ifNo X2.here hx rfl (hb hby own_d10_7) rfl ((if0 _ _).trans (feq hc7).1) k) ?_
  refine oALN (n := 11) X2 hx (hb hby own_d10_10) rfl rfl rfl ?_
  refine oILN (n := 12) X2 hx (hb hby own_d10_11) rfl rfl ?_
  obtain ⟨T3, h3, kc3, X3, e3, E3, A3, st3⟩ := newP X2 hx hZ (oW hw 20 rfl) e2 (g := (mkF m 12 #[rv aS, iv 16] [(.int 16), (.ref aS)])) rfl (hb hby own_d10_12) rfl (by decide) (cap := 16) (by decide) (by decide) (by decide) (by decide)
  obtain ⟨b3, g3⟩ : ∃ z, z = h0.size := ⟨_, rfl⟩
  rw [← g3] at A3 st3
  have g_b3 : n0 ≤ b3 := Nat.le_trans Z0 (Nat.le_of_eq g3.symm)
  have V3 : Arv Z h3 b3 kc3 .byte (16 : Int32) [(.int 0), (.int 0), (.int 0), (.int 0), (.int 0), (.int 0), (.int 0), (.int 0), (.int 0), (.int 0), (.int 0), (.int 0), (.int 0), (.int 0), (.int 0), (.int 0)] (.int 0) := (Arv.new A3 (by decide)).pad (pad_rep [] (.int 0) 16)
  refine ov (B := T3.setTop (mkF m 14 #[rv aS, iv 16] [(.ref b3), (.ref aS)])) (fun t k => st3 t k) ?_
  obtain ⟨T4, h4, X4, e4, W4, st4⟩ := putF X3 hx hZ hown (host := "") (Or.inl (oW hw 76 rfl)) Via.refl e3 (Fv.ext E3) (Es.ext E3) (Or.inl (oW hw 77 rfl)) (oW hw 63 rfl) (ty := (.array .byte)) (by decide) rfl rfl (g := (mkF m 14 #[rv aS, iv 16] [(.ref b3), (.ref aS)])) rfl rfl (hb hby own_d10_14)
  have Fw4 := (Fv.ext E3).same W4
  have N4 := Fr.snoc X4 N0 g_aS
  refine ov (B := T4.setTop (mkF m 17 #[rv aS, iv 16] [])) (fun t k => st4 t k) ?_
  refine oALN (n := 18) X4 hx (hb hby own_d10_17) rfl rfl rfl ?_
  refine oIC (n := 19) X4 hx (0 : Int32) (hb hby own_d10_18) (by decide) rfl ?_
  obtain ⟨T5, h5, X5, e5, W5, st5⟩ := putFN X4 hx hZ hown (oW hw 78 rfl) Via.refl e4 ((Fc.ext E3).other W4 (Or.inr (slot_ne (Or.inl (oW hw 79 rfl)) (Or.inl (oW hw 77 rfl)) (by decide +kernel) (t := .byte) (t' := (.array .byte)) (by decide +kernel) (by decide +kernel)))) ((Es.ext E3).wr W4) (Or.inl (oW hw 79 rfl)) (oW hw 63 rfl) (ty := .byte) (v' := (.int 0)) (by decide) (by decide) (by decide) (g := (mkF m 19 #[rv aS, iv 16] [(.int 0), (.ref aS)])) rfl rfl (hb hby own_d10_19)
  have Fw5 := ((Fc.ext E3).other W4 (Or.inr (slot_ne (Or.inl (oW hw 79 rfl)) (Or.inl (oW hw 77 rfl)) (by decide +kernel) (t := .byte) (t' := (.array .byte)) (by decide +kernel) (by decide +kernel)))).same W5
  have N5 := Fr.snoc X5 N4 g_aS
  refine ov (B := T5.setTop (mkF m 22 #[rv aS, iv 16] [])) (fun t k => st5 t k) ?_
  refine oGO (n := 38) X5 hx (hb hby own_d10_22) (by decide) (by decide) ?_
  refine own_leafV X5 hx hlk Bd.returns (hb hby own_d10_38) (by decide) (by decide) ?_
  show QBA Z aS zc u1 u2 h0 n0 _ T5.heap _
  rw [e5]
  refine ⟨?_, N5, ((((Keep.refl h0 [aS]).ext E3).wr W4 (Or.inl (List.mem_of_getElem? (i := 0) rfl))).wr W5 (Or.inl (List.mem_of_getElem? (i := 0) rfl)))⟩
  rfl
theorem own_pn9 : plainName "java/lang/StringBuilder" = true := by first | (simp [plainName, overriddenIn]; done) | decide +kernel
theorem own_pd12 : parseMethodDescriptor "(I)V" = some ⟨[.int], none⟩ := by decide +kernel
theorem own_d9_0 : decode jdk_67_method_1_code 0 = .ok (.aload_n 0, 1) := by decide +kernel
theorem own_d9_1 : decode jdk_67_method_1_code 1 = .ok (.bipush 16, 2) := by decide +kernel
theorem own_d9_3 : decode jdk_67_method_1_code 3 = .ok (.invokespecial 1, 3) := by decide +kernel
theorem own_d9_6 : decode jdk_67_method_1_code 6 = .ok (.return_, 1) := by decide +kernel
theorem own_efBB (m : MethodId) (x0 : Addr) : entryFrame m #[(.ref x0)] 1 = mkF m 0 #[rv x0] [] := by first | (simp [entryFrame, mkF, argsToLocals, Value.category]; done) | rfl
def QBB (Z : State) (aS : Addr) (zc : Int32) (u1 : Value) (u2 : Value) (h0 : Heap) (n0 : Nat) (v : Option Value) (h : Heap) (L : List Loc) : Prop := v = none ∧ Fr n0 L ∧ Keep h0 h [aS]
set_option maxRecDepth 65536 in
set_option maxHeartbeats 40000000 in
theorem rmBB (l : Launch) (Z : State) (a0 : Array Value) (hw : ∀ d ∈ tables_1, d.before a0 Z = true) (ws : List Jvm.Cond) (aS : Addr) (zc : Int32) (u1 : Value) (u2 : Value) (h0 : Heap) (n0 : Nat) (Z0 : n0 ≤ h0.size) (O0 : Old Z n0 h0) (Scz : Sta Z Z.heap sAA "COMPACT_STRINGS" "Z" (.int zc)) (hcz : ¬ zc = 0) (Es : Exa Z h0 aS sAK) (Fv : Fld Z h0 aS sAO "value" "[B" u1) (Fc : Fld Z h0 aS sAO "coder" "B" u2) (g_aS : n0 ≤ aS) :
    MetFree l (⟨sAK, "<init>", "()V"⟩ : MethodName) (head1 (Jvm.Cond.code (⟨sAK, "<init>", "()V"⟩ : MethodName) jdk_67_method_1_code 1 none :: ws) (oR 2 1 16 32)) (fun a U => a = #[(.ref aS)] ∧ Z.Warmed39 U.vm ∧ U.heap = h0) (fun _ _ _ _ _ => True) (fun _ U o U' => ∃ v L, o = .returned v ∧ QBB Z aS zc u1 u2 h0 n0 v U'.heap L ∧ FrameEnd U o U' L (oR 2 1 16 32).cells (oR 2 1 16 32).slots) := by
  refine MetFree.of_bodySF (plainFor_of_name own_pn9) hisR ?_
  intro p e s m args below meth c s₁ Bd hml0 hP hK
  obtain ⟨rfl, hZ, hh⟩ := hP
  have hx := Bd.exec
  have hby := Bd.bytes
  have hlk : meth.locks = false := Bd.notSynchronized
  have hml : c.maxLocals = 1 := hml0
  have hown : s.vm.findClass sAK = some m.cls := findClass_of_methodNamed Bd.named
  have hnm := (name_of_methodNamed Bd.named Bd.method).1
  have X0 : Stand p l e (oR 2 1 16 32) s m #[(.ref aS)] below meth c s₁ [] 0 0 := Stand.of_body Bd
  have e0 : s₁.heap = h0 := by rw [← hh, Bd.state]; rfl
  have N0 := Fr.nil n0
  refine own_body (A := s₁.setTop (mkF m 0 #[rv aS] [])) (Q := QBB Z aS zc u1 u2 h0 n0) (fun t k => castTop (own_efBB m aS) k) ?_
  refine oALN (n := 1) X0 hx (hb hby own_d9_0) rfl rfl rfl ?_
  refine oBP (n := 3) X0 hx (16 : Int32) (hb hby own_d9_1) (by decide) rfl ?_
  obtain ⟨_, _, ⟨T1, L1, k1, n1⟩, -, X1, ⟨Lc1, hQ1, l1, y1, z1⟩, st1⟩ := X0.specialBack hx (y := (⟨sAO, "<init>", "(I)V"⟩ : MethodName)) rfl hown (mvT hZ (oW hw 68 rfl)) (mvT hZ (oW hw 69 rfl)) (mvT hZ (oW hw 73 rfl)) (by decide) (backOf (W := 0) (rmBA l Z a0 hw [] aS zc u1 u2 h0 n0 Z0 O0 (by assumption) (by assumption) Es Fv Fc g_aS) hZ (oW hw 73 rfl) (oW hw 72 rfl) (by decide) (by decide)) (g := (mkF m 3 #[rv aS] [(.int 16), (.ref aS)])) rfl (by rw [hml]; rfl) (Steps.refl _) (a := aS) (argsL := [(.int 16)]) (rest := []) (lenOf own_pd12 rfl) rfl (by show 2 * 0 + _ ≤ _; exact Nat.le_of_eq rfl) (hb hby own_d9_3) (fun _ _ => ⟨rfl, e0, (by decide : 0 + 1 ≤ _), (by decide : 0 + 16 ≤ _)⟩)
  dsimp only [Pt.U, Pt.locs, Pt.cells, Pt.slots] at X1 l1 y1 z1 st1 hQ1
  subst l1 y1 z1
  obtain ⟨rfl, Nq1, Kq1⟩ := hQ1
  have N1 := Fr.app N0 Nq1
  refine ov (B := T1.setTop (mkF m 6 #[rv aS] [])) (fun t k => st1.trans k) ?_
  refine own_leafV X1 hx hlk Bd.returns (hb hby own_d9_6) (by decide) (by decide) ?_
  show QBB Z aS zc u1 u2 h0 n0 _ T1.heap _
  refine ⟨?_, N1, ((Keep.refl h0 [aS]).trans Kq1 (allS (Or.inl (List.mem_of_getElem? (i := 0) rfl)) all0))⟩
  rfl
theorem own_pn10 : plainName "java/util/AbstractCollection" = true := by first | (simp [plainName, overriddenIn]; done) | decide +kernel
theorem own_d13_0 : decode jdk_22_method_1_code 0 = .ok (.aload_n 0, 1) := by decide +kernel
theorem own_d13_1 : decode jdk_22_method_1_code 1 = .ok (.invokespecial 1, 3) := by decide +kernel
theorem own_d13_4 : decode jdk_22_method_1_code 4 = .ok (.return_, 1) := by decide +kernel
theorem own_efLA (m : MethodId) (x0 : Addr) : entryFrame m #[(.ref x0)] 1 = mkF m 0 #[rv x0] [] := by first | (simp [entryFrame, mkF, argsToLocals, Value.category]; done) | rfl
def QLA (Z : State) (aLA : Addr) (h0 : Heap) (n0 : Nat) (v : Option Value) (h : Heap) (L : List Loc) : Prop := v = none ∧ Fr n0 L ∧ h = h0
set_option maxRecDepth 65536 in
set_option maxHeartbeats 40000000 in
theorem rmLA (l : Launch) (Z : State) (a0 : Array Value) (hw : ∀ d ∈ tables_1, d.before a0 Z = true) (ws : List Jvm.Cond) (aLA : Addr) (h0 : Heap) (n0 : Nat) (Z0 : n0 ≤ h0.size) :
    MetFree l (⟨"java/util/AbstractCollection", "<init>", "()V"⟩ : MethodName) (head1 (Jvm.Cond.code (⟨"java/util/AbstractCollection", "<init>", "()V"⟩ : MethodName) jdk_22_method_1_code 1 none :: ws) (oR 1 0 0 12)) (fun a U => a = #[(.ref aLA)] ∧ Z.Warmed39 U.vm ∧ U.heap = h0) (fun _ _ _ _ _ => True) (fun _ U o U' => ∃ v L, o = .returned v ∧ QLA Z aLA h0 n0 v U'.heap L ∧ FrameEnd U o U' L (oR 1 0 0 12).cells (oR 1 0 0 12).slots) := by
  refine MetFree.of_bodySF (plainFor_of_name own_pn10) hisR ?_
  intro p e s m args below meth c s₁ Bd hml0 hP hK
  obtain ⟨rfl, hZ, hh⟩ := hP
  have hx := Bd.exec
  have hby := Bd.bytes
  have hlk : meth.locks = false := Bd.notSynchronized
  have hml : c.maxLocals = 1 := hml0
  have hown : s.vm.findClass "java/util/AbstractCollection" = some m.cls := findClass_of_methodNamed Bd.named
  have hnm := (name_of_methodNamed Bd.named Bd.method).1
  have X0 : Stand p l e (oR 1 0 0 12) s m #[(.ref aLA)] below meth c s₁ [] 0 0 := Stand.of_body Bd
  have e0 : s₁.heap = h0 := by rw [← hh, Bd.state]; rfl
  have N0 := Fr.nil n0
  refine own_body (A := s₁.setTop (mkF m 0 #[rv aLA] [])) (Q := QLA Z aLA h0 n0) (fun t k => castTop (own_efLA m aLA) k) ?_
  refine oALN (n := 1) X0 hx (hb hby own_d13_0) rfl rfl rfl ?_
  obtain ⟨T1, X1, e1, st1⟩ := initO X0 hx hZ hown (oW hw 100 rfl) (oW hw 17 rfl) (oW hw 18 rfl) e0 (g := (mkF m 1 #[rv aLA] [(.ref aLA)])) rfl (by rw [hml]; rfl) rfl (hb hby own_d13_1) (by decide) (W := 0) (by show 2 * 0 + _ ≤ _; exact Nat.le_of_eq rfl) (by decide)
  refine ov (B := T1.setTop (mkF m 4 #[rv aLA] [])) (fun t k => st1 t k) ?_
  refine own_leafV X1 hx hlk Bd.returns (hb hby own_d13_4) (by decide) (by decide) ?_
  show QLA Z aLA h0 n0 _ T1.heap _
  rw [e1]
  refine ⟨?_, N0, rfl⟩
  rfl
theorem own_pn11 : plainName "java/util/AbstractList" = true := by first | (simp [plainName, overriddenIn]; done) | decide +kernel
theorem own_d12_0 : decode jdk_39_method_1_code 0 = .ok (.aload_n 0, 1) := by decide +kernel
theorem own_d12_1 : decode jdk_39_method_1_code 1 = .ok (.invokespecial 1, 3) := by decide +kernel
theorem own_d12_4 : decode jdk_39_method_1_code 4 = .ok (.aload_n 0, 1) := by decide +kernel
theorem own_d12_5 : decode jdk_39_method_1_code 5 = .ok (.iconst 0, 1) := by decide +kernel
theorem own_d12_6 : decode jdk_39_method_1_code 6 = .ok (.putfield 7, 3) := by decide +kernel
theorem own_d12_9 : decode jdk_39_method_1_code 9 = .ok (.return_, 1) := by decide +kernel
theorem own_efLB (m : MethodId) (x0 : Addr) : entryFrame m #[(.ref x0)] 1 = mkF m 0 #[rv x0] [] := by first | (simp [entryFrame, mkF, argsToLocals, Value.category]; done) | rfl
def QLB (Z : State) (aL : Addr) (u1 : Value) (u2 : Value) (h0 : Heap) (n0 : Nat) (v : Option Value) (h : Heap) (L : List Loc) : Prop := v = none ∧ Fr n0 L ∧ Keep h0 h [aL] ∧ (Fld Z h aL sAQ "elementData" "[Ljava/lang/Object;" u2)
set_option maxRecDepth 65536 in
set_option maxHeartbeats 40000000 in
theorem rmLB (l : Launch) (Z : State) (a0 : Array Value) (hw : ∀ d ∈ tables_1, d.before a0 Z = true) (ws : List Jvm.Cond) (aL : Addr) (u1 : Value) (u2 : Value) (h0 : Heap) (n0 : Nat) (Z0 : n0 ≤ h0.size) (El : Exa Z h0 aL sAQ) (Fm : Fld Z h0 aL "java/util/AbstractList" "modCount" "I" u1) (Fe : Fld Z h0 aL sAQ "elementData" "[Ljava/lang/Object;" u2) (g_aL : n0 ≤ aL) :
    MetFree l (⟨"java/util/AbstractList", "<init>", "()V"⟩ : MethodName) (head1 (Jvm.Cond.code (⟨"java/util/AbstractList", "<init>", "()V"⟩ : MethodName) jdk_39_method_1_code 1 none :: ws) (oR 2 0 0 28)) (fun a U => a = #[(.ref aL)] ∧ Z.Warmed39 U.vm ∧ U.heap = h0) (fun _ _ _ _ _ => True) (fun _ U o U' => ∃ v L, o = .returned v ∧ QLB Z aL u1 u2 h0 n0 v U'.heap L ∧ FrameEnd U o U' L (oR 2 0 0 28).cells (oR 2 0 0 28).slots) := by
  refine MetFree.of_bodySF (plainFor_of_name own_pn11) hisR ?_
  intro p e s m args below meth c s₁ Bd hml0 hP hK
  obtain ⟨rfl, hZ, hh⟩ := hP
  have hx := Bd.exec
  have hby := Bd.bytes
  have hlk : meth.locks = false := Bd.notSynchronized
  have hml : c.maxLocals = 1 := hml0
  have hown : s.vm.findClass "java/util/AbstractList" = some m.cls := findClass_of_methodNamed Bd.named
  have hnm := (name_of_methodNamed Bd.named Bd.method).1
  have X0 : Stand p l e (oR 2 0 0 28) s m #[(.ref aL)] below meth c s₁ [] 0 0 := Stand.of_body Bd
  have e0 : s₁.heap = h0 := by rw [← hh, Bd.state]; rfl
  have N0 := Fr.nil n0
  refine own_body (A := s₁.setTop (mkF m 0 #[rv aL] [])) (Q := QLB Z aL u1 u2 h0 n0) (fun t k => castTop (own_efLB m aL) k) ?_
  refine oALN (n := 1) X0 hx (hb hby own_d12_0) rfl rfl rfl ?_
  obtain ⟨_, _, ⟨T1, L1, k1, n1⟩, -, X1, ⟨Lc1, hQ1, l1, y1, z1⟩, st1⟩ := X0.specialBack hx (y := (⟨"java/util/AbstractCollection", "<init>", "()V"⟩ : MethodName)) rfl hown (mvT hZ (oW hw 94 rfl)) (mvT hZ (oW hw 95 rfl)) (mvT hZ (oW hw 99 rfl)) (by decide) (backOf (W := 0) (rmLA l Z a0 hw [] aL h0 n0 Z0 ) hZ (oW hw 99 rfl) (oW hw 98 rfl) (by decide) (by decide)) (g := (mkF m 1 #[rv aL] [(.ref aL)])) rfl (by rw [hml]; rfl) (Steps.refl _) (a := aL) (argsL := []) (rest := []) (lenOf own_pd11 rfl) rfl (by show 2 * 0 + _ ≤ _; exact Nat.le_of_eq rfl) (hb hby own_d12_1) (fun _ _ => ⟨rfl, e0, (by decide : 0 + 0 ≤ _), (by decide : 0 + 0 ≤ _)⟩)
  dsimp only [Pt.U, Pt.locs, Pt.cells, Pt.slots] at X1 l1 y1 z1 st1 hQ1
  subst l1 y1 z1
  obtain ⟨rfl, Nq1, eq1⟩ := hQ1
  have N1 := Fr.app N0 Nq1
  refine ov (B := T1.setTop (mkF m 4 #[rv aL] [])) (fun t k => st1.trans k) ?_
  refine oALN (n := 5) X1 hx (hb hby own_d12_4) rfl rfl rfl ?_
  refine oIC (n := 6) X1 hx (0 : Int32) (hb hby own_d12_5) (by decide) rfl ?_
  obtain ⟨T2, h2, X2, e2, W2, st2⟩ := putF X1 hx hZ hown (host := "") (Or.inl (oW hw 101 rfl)) Via.refl eq1 Fm El (Or.inl (oW hw 102 rfl)) (oW hw 83 rfl) (ty := .int) (by decide) rfl rfl (g := (mkF m 6 #[rv aL] [(.int 0), (.ref aL)])) rfl rfl (hb hby own_d12_6)
  have Fw2 := Fm.same W2
  have N2 := Fr.snoc X2 N1 g_aL
  refine ov (B := T2.setTop (mkF m 9 #[rv aL] [])) (fun t k => st2 t k) ?_
  refine own_leafV X2 hx hlk Bd.returns (hb hby own_d12_9) (by decide) (by decide) ?_
  show QLB Z aL u1 u2 h0 n0 _ T2.heap _
  rw [e2]
  refine ⟨?_, N2, ((Keep.refl h0 [aL]).wr W2 (Or.inl (List.mem_of_getElem? (i := 0) rfl))), (Fe.other W2 (Or.inr (slot_ne (Or.inl (oW hw 105 rfl)) (Or.inl (oW hw 102 rfl)) (by decide +kernel) (t := (.array (.object "java/lang/Object"))) (t' := .int) (by decide +kernel) (by decide +kernel))))⟩
  rfl
theorem own_pn12 : plainName "java/util/ArrayList" = true := by first | (simp [plainName, overriddenIn]; done) | decide +kernel
theorem own_d11_0 : decode jdk_38_method_2_code 0 = .ok (.aload_n 0, 1) := by decide +kernel
theorem own_d11_1 : decode jdk_38_method_2_code 1 = .ok (.invokespecial 1, 3) := by decide +kernel
theorem own_d11_4 : decode jdk_38_method_2_code 4 = .ok (.aload_n 0, 1) := by decide +kernel
theorem own_d11_5 : decode jdk_38_method_2_code 5 = .ok (.getstatic 39, 3) := by decide +kernel
theorem own_d11_8 : decode jdk_38_method_2_code 8 = .ok (.putfield 9, 3) := by decide +kernel
theorem own_d11_11 : decode jdk_38_method_2_code 11 = .ok (.return_, 1) := by decide +kernel
theorem own_efLC (m : MethodId) (x0 : Addr) : entryFrame m #[(.ref x0)] 1 = mkF m 0 #[rv x0] [] := by first | (simp [entryFrame, mkF, argsToLocals, Value.category]; done) | rfl
def QLC (Z : State) (aL : Addr) (u1 : Value) (u2 : Value) (eD : Addr) (h0 : Heap) (n0 : Nat) (v : Option Value) (h : Heap) (L : List Loc) : Prop := v = none ∧ Fr n0 L ∧ Keep h0 h [aL]
set_option maxRecDepth 65536 in
set_option maxHeartbeats 40000000 in
theorem rmLC (l : Launch) (Z : State) (a0 : Array Value) (hw : ∀ d ∈ tables_1, d.before a0 Z = true) (ws : List Jvm.Cond) (aL : Addr) (u1 : Value) (u2 : Value) (eD : Addr) (h0 : Heap) (n0 : Nat) (Z0 : n0 ≤ h0.size) (O0 : Old Z n0 h0) (SD : Sta Z Z.heap sAQ "DEFAULTCAPACITY_EMPTY_ELEMENTDATA" "[Ljava/lang/Object;" (.ref eD)) (El : Exa Z h0 aL sAQ) (Fm : Fld Z h0 aL "java/util/AbstractList" "modCount" "I" u1) (Fe : Fld Z h0 aL sAQ "elementData" "[Ljava/lang/Object;" u2) (g_aL : n0 ≤ aL) :
    MetFree l (⟨sAQ, "<init>", "()V"⟩ : MethodName) (head1 (Jvm.Cond.code (⟨sAQ, "<init>", "()V"⟩ : MethodName) jdk_38_method_2_code 1 none :: ws) (oR 3 0 0 44)) (fun a U => a = #[(.ref aL)] ∧ Z.Warmed39 U.vm ∧ U.heap = h0) (fun _ _ _ _ _ => True) (fun _ U o U' => ∃ v L, o = .returned v ∧ QLC Z aL u1 u2 eD h0 n0 v U'.heap L ∧ FrameEnd U o U' L (oR 3 0 0 44).cells (oR 3 0 0 44).slots) := by
  refine MetFree.of_bodySF (plainFor_of_name own_pn12) hisR ?_
  intro p e s m args below meth c s₁ Bd hml0 hP hK
  obtain ⟨rfl, hZ, hh⟩ := hP
  have hx := Bd.exec
  have hby := Bd.bytes
  have hlk : meth.locks = false := Bd.notSynchronized
  have hml : c.maxLocals = 1 := hml0
  have hown : s.vm.findClass sAQ = some m.cls := findClass_of_methodNamed Bd.named
  have hnm := (name_of_methodNamed Bd.named Bd.method).1
  have X0 : Stand p l e (oR 3 0 0 44) s m #[(.ref aL)] below meth c s₁ [] 0 0 := Stand.of_body Bd
  have e0 : s₁.heap = h0 := by rw [← hh, Bd.state]; rfl
  have N0 := Fr.nil n0
  refine own_body (A := s₁.setTop (mkF m 0 #[rv aL] [])) (Q := QLC Z aL u1 u2 eD h0 n0) (fun t k => castTop (own_efLC m aL) k) ?_
  refine oALN (n := 1) X0 hx (hb hby own_d11_0) rfl rfl rfl ?_
  obtain ⟨_, _, ⟨T1, L1, k1, n1⟩, -, X1, ⟨Lc1, hQ1, l1, y1, z1⟩, st1⟩ := X0.specialBack hx (y := (⟨"java/util/AbstractList", "<init>", "()V"⟩ : MethodName)) rfl hown (mvT hZ (oW hw 88 rfl)) (mvT hZ (oW hw 89 rfl)) (mvT hZ (oW hw 93 rfl)) (by decide) (backOf (W := 0) (rmLB l Z a0 hw [] aL u1 u2 h0 n0 Z0 El Fm Fe g_aL) hZ (oW hw 93 rfl) (oW hw 92 rfl) (by decide) (by decide)) (g := (mkF m 1 #[rv aL] [(.ref aL)])) rfl (by rw [hml]; rfl) (Steps.refl _) (a := aL) (argsL := []) (rest := []) (lenOf own_pd11 rfl) rfl (by show 2 * 0 + _ ≤ _; exact Nat.le_of_eq rfl) (hb hby own_d11_1) (fun _ _ => ⟨rfl, e0, (by decide : 0 + 0 ≤ _), (by decide : 0 + 0 ≤ _)⟩)
  dsimp only [Pt.U, Pt.locs, Pt.cells, Pt.slots] at X1 l1 y1 z1 st1 hQ1
  subst l1 y1 z1
  obtain ⟨rfl, Nq1, Kq1, f1_0⟩ := hQ1
  have N1 := Fr.app N0 Nq1
  refine ov (B := T1.setTop (mkF m 4 #[rv aL] [])) (fun t k => st1.trans k) ?_
  refine oALN (n := 5) X1 hx (hb hby own_d11_4) rfl rfl rfl ?_
  obtain ⟨T2, X2, e2, st2⟩ := getS2 X1 hx hZ hown (host := "") (Or.inl (oW hw 103 rfl)) Via.refl rfl (SD.ext (O0.keep Kq1 (allS g_aL all0)).2) (g := (mkF m 5 #[rv aL] [(.ref aL)])) rfl (hb hby own_d11_5)
  refine ov (B := T2.setTop (mkF m 8 #[rv aL] [(.ref eD), (.ref aL)])) (fun t k => st2 t k) ?_
  obtain ⟨T3, h3, X3, e3, W3, st3⟩ := putF X2 hx hZ hown (host := "") (Or.inl (oW hw 104 rfl)) Via.refl e2 f1_0 (El.keep Kq1) (Or.inl (oW hw 105 rfl)) (oW hw 83 rfl) (ty := (.array (.object "java/lang/Object"))) (by decide) rfl rfl (g := (mkF m 8 #[rv aL] [(.ref eD), (.ref aL)])) rfl rfl (hb hby own_d11_8)
  have Fw3 := f1_0.same W3
  have N3 := Fr.snoc X3 N1 g_aL
  refine ov (B := T3.setTop (mkF m 11 #[rv aL] [])) (fun t k => st3 t k) ?_
  refine own_leafV X3 hx hlk Bd.returns (hb hby own_d11_11) (by decide) (by decide) ?_
  show QLC Z aL u1 u2 eD h0 n0 _ T3.heap _
  rw [e3]
  refine ⟨?_, N3, (((Keep.refl h0 [aL]).trans Kq1 (allS (Or.inl (List.mem_of_getElem? (i := 0) rfl)) all0)).wr W3 (Or.inl (List.mem_of_getElem? (i := 0) rfl)))⟩
  rfl
theorem own_d5_0 : decode prog_42_method_1_code 0 = .ok (.aload_n 0, 1) := by decide +kernel
theorem own_d5_1 : decode prog_42_method_1_code 1 = .ok (.invokespecial 1, 3) := by decide +kernel
theorem own_d5_4 : decode prog_42_method_1_code 4 = .ok (.aload_n 0, 1) := by decide +kernel
theorem own_d5_5 : decode prog_42_method_1_code 5 = .ok (.new 7, 3) := by decide +kernel
theorem own_d5_8 : decode prog_42_method_1_code 8 = .ok (.dup, 1) := by decide +kernel
theorem own_d5_9 : decode prog_42_method_1_code 9 = .ok (.invokespecial 9, 3) := by decide +kernel
theorem own_d5_12 : decode prog_42_method_1_code 12 = .ok (.putfield 10, 3) := by decide +kernel
theorem own_d5_15 : decode prog_42_method_1_code 15 = .ok (.aload_n 0, 1) := by decide +kernel
theorem own_d5_16 : decode prog_42_method_1_code 16 = .ok (.new 16, 3) := by decide +kernel
theorem own_d5_19 : decode prog_42_method_1_code 19 = .ok (.dup, 1) := by decide +kernel
theorem own_d5_20 : decode prog_42_method_1_code 20 = .ok (.invokespecial 18, 3) := by decide +kernel
theorem own_d5_23 : decode prog_42_method_1_code 23 = .ok (.putfield 19, 3) := by decide +kernel
theorem own_d5_26 : decode prog_42_method_1_code 26 = .ok (.aload_n 0, 1) := by decide +kernel
theorem own_d5_27 : decode prog_42_method_1_code 27 = .ok (.new 23, 3) := by decide +kernel
theorem own_d5_30 : decode prog_42_method_1_code 30 = .ok (.dup, 1) := by decide +kernel
theorem own_d5_31 : decode prog_42_method_1_code 31 = .ok (.invokespecial 25, 3) := by decide +kernel
theorem own_d5_34 : decode prog_42_method_1_code 34 = .ok (.putfield 26, 3) := by decide +kernel
theorem own_d5_37 : decode prog_42_method_1_code 37 = .ok (.aload_n 0, 1) := by decide +kernel
theorem own_d5_38 : decode prog_42_method_1_code 38 = .ok (.aload_n 1, 1) := by decide +kernel
theorem own_d5_39 : decode prog_42_method_1_code 39 = .ok (.putfield 30, 3) := by decide +kernel
theorem own_d5_42 : decode prog_42_method_1_code 42 = .ok (.return_, 1) := by decide +kernel
theorem own_efXI (m : MethodId) (x0 : Addr) (x1 : Addr) : entryFrame m #[(.ref x0), (.ref x1)] 2 = mkF m 0 #[rv x0, rv x1] [] := by first | (simp [entryFrame, mkF, argsToLocals, Value.category]; done) | rfl
def QXI (Z : State) (aX : Addr) (nX : Addr) (zc : Int32) (eD : Addr) (wa : Value) (wt : Value) (wc : Value) (wn : Value) (h0 : Heap) (n0 : Nat) (v : Option Value) (h : Heap) (L : List Loc) : Prop := v = none ∧ Fr n0 L ∧ Keep h0 h [aX] ∧ (Fld Z h aX sAC "name" sAP (.ref nX))
set_option maxRecDepth 65536 in
set_option maxHeartbeats 40000000 in
theorem rmXI (l : Launch) (Z : State) (a0 : Array Value) (hw : ∀ d ∈ tables_1, d.before a0 Z = true) (ws : List Jvm.Cond) (aX : Addr) (nX : Addr) (zc : Int32) (eD : Addr) (wa : Value) (wt : Value) (wc : Value) (wn : Value) (h0 : Heap) (n0 : Nat) (Z0 : n0 ≤ h0.size) (O0 : Old Z n0 h0) (Scz : Sta Z Z.heap sAA "COMPACT_STRINGS" "Z" (.int zc)) (hcz : ¬ zc = 0) (SD : Sta Z Z.heap sAQ "DEFAULTCAPACITY_EMPTY_ELEMENTDATA" "[Ljava/lang/Object;" (.ref eD)) (Ex : Exa Z h0 aX sAC) (F_attributes : Fld Z h0 aX sAC "attributes" "Ljava/util/Map;" wa) (F_text : Fld Z h0 aX sAC "text" "Ljava/lang/StringBuilder;" wt) (F_children : Fld Z h0 aX sAC "children" "Ljava/util/List;" wc) (F_name : Fld Z h0 aX sAC "name" sAP wn) (g_aX : n0 ≤ aX) :
    MetFree l (⟨sAC, "<init>", sAR⟩ : MethodName) (head1 (Jvm.Cond.code (⟨sAC, "<init>", sAR⟩ : MethodName) prog_42_method_1_code 2 none :: ws) (oR 4 4 35 64)) (fun a U => a = #[(.ref aX), (.ref nX)] ∧ Z.Warmed39 U.vm ∧ U.heap = h0) (fun _ _ _ _ _ => True) (fun _ U o U' => ∃ v L, o = .returned v ∧ QXI Z aX nX zc eD wa wt wc wn h0 n0 v U'.heap L ∧ FrameEnd U o U' L (oR 4 4 35 64).cells (oR 4 4 35 64).slots) := by
  refine MetFree.of_bodySF (plainFor_of_name own_pn4) hisR ?_
  intro p e s m args below meth c s₁ Bd hml0 hP hK
  obtain ⟨rfl, hZ, hh⟩ := hP
  have hx := Bd.exec
  have hby := Bd.bytes
  have hlk : meth.locks = false := Bd.notSynchronized
  have hml : c.maxLocals = 2 := hml0
  have hown : s.vm.findClass sAC = some m.cls := findClass_of_methodNamed Bd.named
  have hnm := (name_of_methodNamed Bd.named Bd.method).1
  have X0 : Stand p l e (oR 4 4 35 64) s m #[(.ref aX), (.ref nX)] below meth c s₁ [] 0 0 := Stand.of_body Bd
  have e0 : s₁.heap = h0 := by rw [← hh, Bd.state]; rfl
  have N0 := Fr.nil n0
  refine own_body (A := s₁.setTop (mkF m 0 #[rv aX, rv nX] [])) (Q := QXI Z aX nX zc eD wa wt wc wn h0 n0) (fun t k => castTop (own_efXI m aX nX) k) ?_
  refine oALN (n := 1) X0 hx (hb hby own_d5_0) rfl rfl rfl ?_
  obtain ⟨T1, X1, e1, st1⟩ := initO X0 hx hZ hown (oW hw 33 rfl) (oW hw 17 rfl) (oW hw 18 rfl) e0 (g := (mkF m 1 #[rv aX, rv nX] [(.ref aX)])) rfl (by rw [hml]; rfl) rfl (hb hby own_d5_1) (by decide) (W := 0) (by show 2 * 0 + _ ≤ _; exact Nat.le_of_eq rfl) (by decide)
  refine ov (B := T1.setTop (mkF m 4 #[rv aX, rv nX] [])) (fun t k => st1 t k) ?_
  refine oALN (n := 5) X1 hx (hb hby own_d5_4) rfl rfl rfl ?_
  obtain ⟨T2, h2, X2, e2, E2, A2, D2, -, st2⟩ := newO X1 hx hZ hown (oW hw 34 rfl) (oW hw 35 rfl) (oW hw 36 rfl) e1 (g := (mkF m 5 #[rv aX, rv nX] [(.ref aX)])) rfl (hb hby own_d5_5) (by decide) (by decide)
  obtain ⟨b2, g2⟩ : ∃ z, z = h0.size := ⟨_, rfl⟩
  rw [← g2] at A2 D2 st2
  have g_b2 : n0 ≤ b2 := Nat.le_trans Z0 (Nat.le_of_eq g2.symm)
  have F2_loadFactor : Fld Z h2 b2 "java/util/HashMap" "loadFactor" "F" (.float (0 : UInt32)) := D2 (Or.inr (oW hw 55 rfl)) (ty := .float) (by decide)
  have F2_putMode : Fld Z h2 b2 sAM "putMode" "I" (.int 0) := D2 (Or.inl (oW hw 57 rfl)) (ty := .int) (by decide)
  have F2_accessOrder : Fld Z h2 b2 sAM "accessOrder" "Z" (.int 0) := D2 (Or.inr (oW hw 59 rfl)) (ty := .boolean) (by decide)
  refine ov (B := T2.setTop (mkF m 8 #[rv aX, rv nX] [(.ref b2), (.ref aX)])) (fun t k => st2 t k) ?_
  refine oDU (n := 9) X2 hx (hb hby own_d5_8) rfl rfl ?_
  obtain ⟨_, _, ⟨T3, L3, k3, n3⟩, -, X3, ⟨Lc3, hQ3, l3, y3, z3⟩, st3⟩ := X2.specialBack hx (y := (⟨sAM, "<init>", "()V"⟩ : MethodName)) rfl hown (mvT hZ (oW hw 37 rfl)) (mvT hZ (oW hw 38 rfl)) (mvT hZ (oW hw 39 rfl)) (by decide) (backOf (W := 2) (rmMC l Z a0 hw [] b2 (.float (0 : UInt32)) (.int 0) (.int 0) h2 n0 (Nat.le_trans Z0 E2.1) A2 F2_loadFactor F2_putMode F2_accessOrder g_b2) hZ (oW hw 39 rfl) (oW hw 36 rfl) (by decide) (by decide)) (g := (mkF m 9 #[rv aX, rv nX] [(.ref b2), (.ref b2), (.ref aX)])) rfl (by rw [hml]; rfl) (Steps.refl _) (a := b2) (argsL := []) (rest := [(.ref b2), (.ref aX)]) (lenOf own_pd11 rfl) rfl (by show 2 * 0 + _ ≤ _; exact Nat.le_of_eq rfl) (hb hby own_d5_9) (fun _ _ => ⟨rfl, e2, (by decide : (0 + 1) + 0 ≤ _), (by decide : (0 + 12) + 0 ≤ _)⟩)
  dsimp only [Pt.U, Pt.locs, Pt.cells, Pt.slots] at X3 l3 y3 z3 st3 hQ3
  subst l3 y3 z3
  obtain ⟨rfl, Nq3, Kq3⟩ := hQ3
  have N3 := Fr.app N0 Nq3
  refine ov (B := T3.setTop (mkF m 12 #[rv aX, rv nX] [(.ref b2), (.ref aX)])) (fun t k => st3.trans k) ?_
  obtain ⟨T4, h4, X4, e4, W4, st4⟩ := putF X3 hx hZ hown (host := "") (Or.inl (oW hw 60 rfl)) Via.refl rfl ((F_attributes.ext E2).keep Kq3 (ninS (Nat.ne_of_lt (Nat.lt_of_lt_of_le Ex.lt (Nat.le_of_eq g2.symm))) nin0)) ((Ex.ext E2).keep Kq3) (Or.inr ⟨(oW hw 61 rfl), rfl, hnm⟩) (oW hw 28 rfl) (ty := (.object "java/util/Map")) (by decide) rfl rfl (g := (mkF m 12 #[rv aX, rv nX] [(.ref b2), (.ref aX)])) rfl rfl (hb hby own_d5_12)
  have Fw4 := ((F_attributes.ext E2).keep Kq3 (ninS (Nat.ne_of_lt (Nat.lt_of_lt_of_le Ex.lt (Nat.le_of_eq g2.symm))) nin0)).same W4
  have N4 := Fr.snoc X4 N3 g_aX
  refine ov (B := T4.setTop (mkF m 15 #[rv aX, rv nX] [])) (fun t k => st4 t k) ?_
  refine oALN (n := 16) X4 hx (hb hby own_d5_15) rfl rfl rfl ?_
  obtain ⟨T5, h5, X5, e5, E5, A5, D5, -, st5⟩ := newO X4 hx hZ hown (oW hw 62 rfl) (oW hw 63 rfl) (oW hw 64 rfl) e4 (g := (mkF m 16 #[rv aX, rv nX] [(.ref aX)])) rfl (hb hby own_d5_16) (by decide) (by decide)
  obtain ⟨b5, g5⟩ : ∃ z, z = h4.size := ⟨_, rfl⟩
  rw [← g5] at A5 D5 st5
  have g_b5 : n0 ≤ b5 := Nat.le_trans (Nat.le_trans (Nat.le_trans (Nat.le_trans Z0 E2.1) Kq3.1) (Keep.of_wr W4).1) (Nat.le_of_eq g5.symm)
  have F5_value : Fld Z h5 b5 sAO "value" "[B" .null := D5 (Or.inl (oW hw 77 rfl)) (ty := (.array .byte)) (by decide)
  have F5_coder : Fld Z h5 b5 sAO "coder" "B" (.int 0) := D5 (Or.inl (oW hw 79 rfl)) (ty := .byte) (by decide)
  refine ov (B := T5.setTop (mkF m 19 #[rv aX, rv nX] [(.ref b5), (.ref aX)])) (fun t k => st5 t k) ?_
  refine oDU (n := 20) X5 hx (hb hby own_d5_19) rfl rfl ?_
  obtain ⟨_, _, ⟨T6, L6, k6, n6⟩, -, X6, ⟨Lc6, hQ6, l6, y6, z6⟩, st6⟩ := X5.specialBack hx (y := (⟨sAK, "<init>", "()V"⟩ : MethodName)) rfl hown (mvT hZ (oW hw 65 rfl)) (mvT hZ (oW hw 66 rfl)) (mvT hZ (oW hw 67 rfl)) (by decide) (backOf (W := 2) (rmBB l Z a0 hw [] b5 zc .null (.int 0) h5 n0 (Nat.le_trans (Nat.le_trans (Nat.le_trans (Nat.le_trans Z0 E2.1) Kq3.1) (Keep.of_wr W4).1) E5.1) ((((O0.ext E2).keep Kq3 (allS g_b2 all0)).wr W4 g_aX).ext E5) (by assumption) (by assumption) A5 F5_value F5_coder g_b5) hZ (oW hw 67 rfl) (oW hw 64 rfl) (by decide) (by decide)) (g := (mkF m 20 #[rv aX, rv nX] [(.ref b5), (.ref b5), (.ref aX)])) rfl (by rw [hml]; rfl) (Steps.refl _) (a := b5) (argsL := []) (rest := [(.ref b5), (.ref aX)]) (lenOf own_pd11 rfl) rfl (by show 2 * 0 + _ ≤ _; exact Nat.le_of_eq rfl) (hb hby own_d5_20) (fun _ _ => ⟨rfl, e5, (by decide : (((0 + 1) + 0) + 1) + 1 ≤ _), (by decide : (((0 + 12) + 0) + 4) + 16 ≤ _)⟩)
  dsimp only [Pt.U, Pt.locs, Pt.cells, Pt.slots] at X6 l6 y6 z6 st6 hQ6
  subst l6 y6 z6
  obtain ⟨rfl, Nq6, Kq6⟩ := hQ6
  have N6 := Fr.app N4 Nq6
  refine ov (B := T6.setTop (mkF m 23 #[rv aX, rv nX] [(.ref b5), (.ref aX)])) (fun t k => st6.trans k) ?_
  obtain ⟨T7, h7, X7, e7, W7, st7⟩ := putF X6 hx hZ hown (host := "") (Or.inl (oW hw 80 rfl)) Via.refl rfl (((((F_text.ext E2).keep Kq3 (ninS (Nat.ne_of_lt (Nat.lt_of_lt_of_le Ex.lt (Nat.le_of_eq g2.symm))) nin0)).other W4 (Or.inr (slot_ne (Or.inr (oW hw 81 rfl)) (Or.inr (oW hw 61 rfl)) (by decide +kernel) (t := (.object sAK)) (t' := (.object "java/util/Map")) (by decide +kernel) (by decide +kernel)))).ext E5).keep Kq6 (ninS (Nat.ne_of_lt (Nat.lt_of_lt_of_le (((Ex.ext E2).keep Kq3).wr W4).lt (Nat.le_of_eq g5.symm))) nin0)) (((((Ex.ext E2).keep Kq3).wr W4).ext E5).keep Kq6) (Or.inr ⟨(oW hw 81 rfl), rfl, hnm⟩) (oW hw 28 rfl) (ty := (.object sAK)) (by decide) rfl rfl (g := (mkF m 23 #[rv aX, rv nX] [(.ref b5), (.ref aX)])) rfl rfl (hb hby own_d5_23)
  have Fw7 := (((((F_text.ext E2).keep Kq3 (ninS (Nat.ne_of_lt (Nat.lt_of_lt_of_le Ex.lt (Nat.le_of_eq g2.symm))) nin0)).other W4 (Or.inr (slot_ne (Or.inr (oW hw 81 rfl)) (Or.inr (oW hw 61 rfl)) (by decide +kernel) (t := (.object sAK)) (t' := (.object "java/util/Map")) (by decide +kernel) (by decide +kernel)))).ext E5).keep Kq6 (ninS (Nat.ne_of_lt (Nat.lt_of_lt_of_le (((Ex.ext E2).keep Kq3).wr W4).lt (Nat.le_of_eq g5.symm))) nin0)).same W7
  have N7 := Fr.snoc X7 N6 g_aX
  refine ov (B := T7.setTop (mkF m 26 #[rv aX, rv nX] [])) (fun t k => st7 t k) ?_
  refine oALN (n := 27) X7 hx (hb hby own_d5_26) rfl rfl rfl ?_
  obtain ⟨T8, h8, X8, e8, E8, A8, D8, -, st8⟩ := newO X7 hx hZ hown (oW hw 82 rfl) (oW hw 83 rfl) (oW hw 84 rfl) e7 (g := (mkF m 27 #[rv aX, rv nX] [(.ref aX)])) rfl (hb hby own_d5_27) (by decide) (by decide)
  obtain ⟨b8, g8⟩ : ∃ z, z = h7.size := ⟨_, rfl⟩
  rw [← g8] at A8 D8 st8
  have g_b8 : n0 ≤ b8 := Nat.le_trans (Nat.le_trans (Nat.le_trans (Nat.le_trans (Nat.le_trans (Nat.le_trans (Nat.le_trans Z0 E2.1) Kq3.1) (Keep.of_wr W4).1) E5.1) Kq6.1) (Keep.of_wr W7).1) (Nat.le_of_eq g8.symm)
  have F8_modCount : Fld Z h8 b8 "java/util/AbstractList" "modCount" "I" (.int 0) := D8 (Or.inl (oW hw 102 rfl)) (ty := .int) (by decide)
  have F8_elementData : Fld Z h8 b8 sAQ "elementData" "[Ljava/lang/Object;" .null := D8 (Or.inl (oW hw 105 rfl)) (ty := (.array (.object "java/lang/Object"))) (by decide)
  refine ov (B := T8.setTop (mkF m 30 #[rv aX, rv nX] [(.ref b8), (.ref aX)])) (fun t k => st8 t k) ?_
  refine oDU (n := 31) X8 hx (hb hby own_d5_30) rfl rfl ?_
  obtain ⟨_, _, ⟨T9, L9, k9, n9⟩, -, X9, ⟨Lc9, hQ9, l9, y9, z9⟩, st9⟩ := X8.specialBack hx (y := (⟨sAQ, "<init>", "()V"⟩ : MethodName)) rfl hown (mvT hZ (oW hw 85 rfl)) (mvT hZ (oW hw 86 rfl)) (mvT hZ (oW hw 87 rfl)) (by decide) (backOf (W := 2) (rmLC l Z a0 hw [] b8 (.int 0) .null eD h8 n0 (Nat.le_trans (Nat.le_trans (Nat.le_trans (Nat.le_trans (Nat.le_trans (Nat.le_trans (Nat.le_trans Z0 E2.1) Kq3.1) (Keep.of_wr W4).1) E5.1) Kq6.1) (Keep.of_wr W7).1) E8.1) (((((((O0.ext E2).keep Kq3 (allS g_b2 all0)).wr W4 g_aX).ext E5).keep Kq6 (allS g_b5 all0)).wr W7 g_aX).ext E8) (by assumption) A8 F8_modCount F8_elementData g_b8) hZ (oW hw 87 rfl) (oW hw 84 rfl) (by decide) (by decide)) (g := (mkF m 31 #[rv aX, rv nX] [(.ref b8), (.ref b8), (.ref aX)])) rfl (by rw [hml]; rfl) (Steps.refl _) (a := b8) (argsL := []) (rest := [(.ref b8), (.ref aX)]) (lenOf own_pd11 rfl) rfl (by show 2 * 0 + _ ≤ _; exact Nat.le_of_eq rfl) (hb hby own_d5_31) (fun _ _ => ⟨rfl, e8, (by decide : (((((0 + 1) + 0) + 1) + 1) + 1) + 0 ≤ _), (by decide : (((((0 + 12) + 0) + 4) + 16) + 3) + 0 ≤ _)⟩)
  dsimp only [Pt.U, Pt.locs, Pt.cells, Pt.slots] at X9 l9 y9 z9 st9 hQ9
  subst l9 y9 z9
  obtain ⟨rfl, Nq9, Kq9⟩ := hQ9
  have N9 := Fr.app N7 Nq9
  refine ov (B := T9.setTop (mkF m 34 #[rv aX, rv nX] [(.ref b8), (.ref aX)])) (fun t k => st9.trans k) ?_
  obtain ⟨T10, h10, X10, e10, W10, st10⟩ := putF X9 hx hZ hown (host := "") (Or.inl (oW hw 106 rfl)) Via.refl rfl ((((((((F_children.ext E2).keep Kq3 (ninS (Nat.ne_of_lt (Nat.lt_of_lt_of_le Ex.lt (Nat.le_of_eq g2.symm))) nin0)).other W4 (Or.inr (slot_ne (Or.inr (oW hw 107 rfl)) (Or.inr (oW hw 61 rfl)) (by decide +kernel) (t := (.object "java/util/List")) (t' := (.object "java/util/Map")) (by decide +kernel) (by decide +kernel)))).ext E5).keep Kq6 (ninS (Nat.ne_of_lt (Nat.lt_of_lt_of_le (((Ex.ext E2).keep Kq3).wr W4).lt (Nat.le_of_eq g5.symm))) nin0)).other W7 (Or.inr (slot_ne (Or.inr (oW hw 107 rfl)) (Or.inr (oW hw 81 rfl)) (by decide +kernel) (t := (.object "java/util/List")) (t' := (.object sAK)) (by decide +kernel) (by decide +kernel)))).ext E8).keep Kq9 (ninS (Nat.ne_of_lt (Nat.lt_of_lt_of_le ((((((Ex.ext E2).keep Kq3).wr W4).ext E5).keep Kq6).wr W7).lt (Nat.le_of_eq g8.symm))) nin0)) ((((((((Ex.ext E2).keep Kq3).wr W4).ext E5).keep Kq6).wr W7).ext E8).keep Kq9) (Or.inr ⟨(oW hw 107 rfl), rfl, hnm⟩) (oW hw 28 rfl) (ty := (.object "java/util/List")) (by decide) rfl rfl (g := (mkF m 34 #[rv aX, rv nX] [(.ref b8), (.ref aX)])) rfl rfl (hb hby own_d5_34)
  have Fw10 := ((((((((F_children.ext E2).keep Kq3 (ninS (Nat.ne_of_lt (Nat.lt_of_lt_of_le Ex.lt (Nat.le_of_eq g2.symm))) nin0)).other W4 (Or.inr (slot_ne (Or.inr (oW hw 107 rfl)) (Or.inr (oW hw 61 rfl)) (by decide +kernel) (t := (.object "java/util/List")) (t' := (.object "java/util/Map")) (by decide +kernel) (by decide +kernel)))).ext E5).keep Kq6 (ninS (Nat.ne_of_lt (Nat.lt_of_lt_of_le (((Ex.ext E2).keep Kq3).wr W4).lt (Nat.le_of_eq g5.symm))) nin0)).other W7 (Or.inr (slot_ne (Or.inr (oW hw 107 rfl)) (Or.inr (oW hw 81 rfl)) (by decide +kernel) (t := (.object "java/util/List")) (t' := (.object sAK)) (by decide +kernel) (by decide +kernel)))).ext E8).keep Kq9 (ninS (Nat.ne_of_lt (Nat.lt_of_lt_of_le ((((((Ex.ext E2).keep Kq3).wr W4).ext E5).keep Kq6).wr W7).lt (Nat.le_of_eq g8.symm))) nin0)).same W10
  have N10 := Fr.snoc X10 N9 g_aX
  refine ov (B := T10.setTop (mkF m 37 #[rv aX, rv nX] [])) (fun t k => st10 t k) ?_
  refine oALN (n := 38) X10 hx (hb hby own_d5_37) rfl rfl rfl ?_
  refine oALN (n := 39) X10 hx (hb hby own_d5_38) rfl rfl rfl ?_
  obtain ⟨T11, h11, X11, e11, W11, st11⟩ := putF X10 hx hZ hown (host := "") (Or.inl (oW hw 108 rfl)) Via.refl e10 (((((((((F_name.ext E2).keep Kq3 (ninS (Nat.ne_of_lt (Nat.lt_of_lt_of_le Ex.lt (Nat.le_of_eq g2.symm))) nin0)).other W4 (Or.inr (slot_ne (Or.inr (oW hw 109 rfl)) (Or.inr (oW hw 61 rfl)) (by decide +kernel) (t := (.object sAA)) (t' := (.object "java/util/Map")) (by decide +kernel) (by decide +kernel)))).ext E5).keep Kq6 (ninS (Nat.ne_of_lt (Nat.lt_of_lt_of_le (((Ex.ext E2).keep Kq3).wr W4).lt (Nat.le_of_eq g5.symm))) nin0)).other W7 (Or.inr (slot_ne (Or.inr (oW hw 109 rfl)) (Or.inr (oW hw 81 rfl)) (by decide +kernel) (t := (.object sAA)) (t' := (.object sAK)) (by decide +kernel) (by decide +kernel)))).ext E8).keep Kq9 (ninS (Nat.ne_of_lt (Nat.lt_of_lt_of_le ((((((Ex.ext E2).keep Kq3).wr W4).ext E5).keep Kq6).wr W7).lt (Nat.le_of_eq g8.symm))) nin0)).other W10 (Or.inr (slot_ne (Or.inr (oW hw 109 rfl)) (Or.inr (oW hw 107 rfl)) (by decide +kernel) (t := (.object sAA)) (t' := (.object "java/util/List")) (by decide +kernel) (by decide +kernel)))) (((((((((Ex.ext E2).keep Kq3).wr W4).ext E5).keep Kq6).wr W7).ext E8).keep Kq9).wr W10) (Or.inr ⟨(oW hw 109 rfl), rfl, hnm⟩) (oW hw 28 rfl) (ty := (.object sAA)) (by decide) rfl rfl (g := (mkF m 39 #[rv aX, rv nX] [(.ref nX), (.ref aX)])) rfl rfl (hb hby own_d5_39)
  have Fw11 := (((((((((F_name.ext E2).keep Kq3 (ninS (Nat.ne_of_lt (Nat.lt_of_lt_of_le Ex.lt (Nat.le_of_eq g2.symm))) nin0)).other W4 (Or.inr (slot_ne (Or.inr (oW hw 109 rfl)) (Or.inr (oW hw 61 rfl)) (by decide +kernel) (t := (.object sAA)) (t' := (.object "java/util/Map")) (by decide +kernel) (by decide +kernel)))).ext E5).keep Kq6 (ninS (Nat.ne_of_lt (Nat.lt_of_lt_of_le (((Ex.ext E2).keep Kq3).wr W4).lt (Nat.le_of_eq g5.symm))) nin0)).other W7 (Or.inr (slot_ne (Or.inr (oW hw 109 rfl)) (Or.inr (oW hw 81 rfl)) (by decide +kernel) (t := (.object sAA)) (t' := (.object sAK)) (by decide +kernel) (by decide +kernel)))).ext E8).keep Kq9 (ninS (Nat.ne_of_lt (Nat.lt_of_lt_of_le ((((((Ex.ext E2).keep Kq3).wr W4).ext E5).keep Kq6).wr W7).lt (Nat.le_of_eq g8.symm))) nin0)).other W10 (Or.inr (slot_ne (Or.inr (oW hw 109 rfl)) (Or.inr (oW hw 107 rfl)) (by decide +kernel) (t := (.object sAA)) (t' := (.object "java/util/List")) (by decide +kernel) (by decide +kernel)))).same W11
  have N11 := Fr.snoc X11 N10 g_aX
  refine ov (B := T11.setTop (mkF m 42 #[rv aX, rv nX] [])) (fun t k => st11 t k) ?_
  refine own_leafV X11 hx hlk Bd.returns (hb hby own_d5_42) (by decide) (by decide) ?_
  show QXI Z aX nX zc eD wa wt wc wn h0 n0 _ T11.heap _
  rw [e11]
  refine ⟨?_, N11, (((((((((((Keep.refl h0 [aX]).ext E2).trans Kq3 (allS (Or.inr (Nat.le_of_eq g2.symm)) all0)).wr W4 (Or.inl (List.mem_of_getElem? (i := 0) rfl))).ext E5).trans Kq6 (allS (Or.inr (Nat.le_trans (Nat.le_trans (Nat.le_trans (Nat.le_trans (Nat.le_refl _) E2.1) Kq3.1) (Keep.of_wr W4).1) (Nat.le_of_eq g5.symm))) all0)).wr W7 (Or.inl (List.mem_of_getElem? (i := 0) rfl))).ext E8).trans Kq9 (allS (Or.inr (Nat.le_trans (Nat.le_trans (Nat.le_trans (Nat.le_trans (Nat.le_trans (Nat.le_trans (Nat.le_trans (Nat.le_refl _) E2.1) Kq3.1) (Keep.of_wr W4).1) E5.1) Kq6.1) (Keep.of_wr W7).1) (Nat.le_of_eq g8.symm))) all0)).wr W10 (Or.inl (List.mem_of_getElem? (i := 0) rfl))).wr W11 (Or.inl (List.mem_of_getElem? (i := 0) rfl))), Fw11⟩
  rfl
theorem own_d17_0 : decode prog_42_method_15_code 0 = .ok (.aload_n 0, 1) := by decide +kernel
theorem own_d17_1 : decode prog_42_method_15_code 1 = .ok (.getfield 30, 3) := by decide +kernel
theorem own_d17_4 : decode prog_42_method_15_code 4 = .ok (.areturn, 1) := by decide +kernel
theorem own_efXN (m : MethodId) (x0 : Addr) : entryFrame m #[(.ref x0)] 1 = mkF m 0 #[rv x0] [] := by first | (simp [entryFrame, mkF, argsToLocals, Value.category]; done) | rfl
def QXN (Z : State) (aX : Addr) (nX : Addr) (h0 : Heap) (n0 : Nat) (v : Option Value) (h : Heap) (L : List Loc) : Prop := v = some (.ref nX) ∧ Fr n0 L ∧ h = h0
set_option maxRecDepth 65536 in
set_option maxHeartbeats 40000000 in
theorem rmXN (l : Launch) (Z : State) (a0 : Array Value) (hw : ∀ d ∈ tables_1, d.before a0 Z = true) (ws : List Jvm.Cond) (aX : Addr) (nX : Addr) (h0 : Heap) (n0 : Nat) (Z0 : n0 ≤ h0.size) (Fn : Fld Z h0 aX sAC "name" sAP (.ref nX)) :
    MetFree l (⟨sAC, "name", sAL⟩ : MethodName) (head1 (Jvm.Cond.code (⟨sAC, "name", sAL⟩ : MethodName) prog_42_method_15_code 1 (some (.object sAA)) :: ws) (oR 0 0 0 0)) (fun a U => a = #[(.ref aX)] ∧ Z.Warmed39 U.vm ∧ U.heap = h0) (fun _ _ _ _ _ => True) (fun _ U o U' => ∃ v L, o = .returned v ∧ QXN Z aX nX h0 n0 v U'.heap L ∧ FrameEnd U o U' L (oR 0 0 0 0).cells (oR 0 0 0 0).slots) := by
  refine MetFree.of_bodySF (plainFor_of_name own_pn4) hisR ?_
  intro p e s m args below meth c s₁ Bd hml0 hP hK
  obtain ⟨rfl, hZ, hh⟩ := hP
  have hx := Bd.exec
  have hby := Bd.bytes
  have hlk : meth.locks = false := Bd.notSynchronized
  have hml : c.maxLocals = 1 := hml0
  have hown : s.vm.findClass sAC = some m.cls := findClass_of_methodNamed Bd.named
  have hnm := (name_of_methodNamed Bd.named Bd.method).1
  have X0 : Stand p l e (oR 0 0 0 0) s m #[(.ref aX)] below meth c s₁ [] 0 0 := Stand.of_body Bd
  have e0 : s₁.heap = h0 := by rw [← hh, Bd.state]; rfl
  have N0 := Fr.nil n0
  refine own_body (A := s₁.setTop (mkF m 0 #[rv aX] [])) (Q := QXN Z aX nX h0 n0) (fun t k => castTop (own_efXN m aX) k) ?_
  refine oALN (n := 1) X0 hx (hb hby own_d17_0) rfl rfl rfl ?_
  obtain ⟨T1, X1, e1, st1⟩ := getF X0 hx hZ hown (host := "") (Or.inl (oW hw 108 rfl)) Via.refl e0 Fn (g := (mkF m 1 #[rv aX] [(.ref aX)])) rfl rfl (hb hby own_d17_1)
  refine ov (B := T1.setTop (mkF m 4 #[rv aX] [(.ref nX)])) (fun t k => st1 t k) ?_
  refine own_leaf X1 hx hlk (t := (.object sAA)) Bd.returns rfl (Or.inr (Or.inr (Or.inr (Or.inr ⟨rfl, rfl, rfl⟩)))) (hb hby own_d17_4) (by decide) (by decide) ?_
  show QXN Z aX nX h0 n0 _ T1.heap _
  rw [e1]
  refine ⟨?_, N0, rfl⟩
  rfl
theorem own_pd13 : parseMethodDescriptor sAF = some ⟨[.int, .int, .int, .int], some (.object sAA)⟩ := by decide +kernel
theorem own_pd14 : parseMethodDescriptor sAR = some ⟨[(.object sAA)], none⟩ := by decide +kernel
theorem own_pd15 : parseMethodDescriptor sAE = some ⟨[(.object sAA)], some (.object sAC)⟩ := by decide +kernel
theorem own_pd16 : parseMethodDescriptor sAL = some ⟨[], some (.object sAA)⟩ := by decide +kernel
theorem own_ef0 (m : MethodId) (x0 : Int32) (x1 : Int32) (x2 : Int32) (x3 : Int32) : entryFrame m #[(.int x0), (.int x1), (.int x2), (.int x3)] maxLocals = mkF m 0 #[iv x0, iv x1, iv x2, iv x3, uu, uu, uu, uu, uu] [] := by first | (simp [entryFrame, mkF, argsToLocals, Value.category, maxLocals]; done) | rfl
def Q0 (Z : State) (i0 : Int32) (i1 : Int32) (i2 : Int32) (i3 : Int32) (zc : Int32) (eD : Addr) (h0 : Heap) (n0 : Nat) (v : Option Value) (h : Heap) (L : List Loc) : Prop := v = some (.int 1) ∧ Fr n0 L
set_option maxRecDepth 65536 in
set_option maxHeartbeats 40000000 in
theorem rm0 (l : Launch) (Z : State) (a0 : Array Value) (hw : ∀ d ∈ tables_1, d.before a0 Z = true) (ws : List Jvm.Cond) (i0 : Int32) (i1 : Int32) (i2 : Int32) (i3 : Int32) (zc : Int32) (eD : Addr) (h0 : Heap) (n0 : Nat) (Z0 : n0 ≤ h0.size) (O0 : Old Z n0 h0) (Scz : Sta Z Z.heap sAA "COMPACT_STRINGS" "Z" (.int zc)) (hcz : ¬ zc = 0) (SA : Sta Z Z.heap sAB sAH "Z" (.int (1 : Int32))) (SH : Sta Z Z.heap sAB "HI_BYTE_SHIFT" "I" (.int (0 : Int32))) (SL : Sta Z Z.heap sAB "LO_BYTE_SHIFT" "I" (.int (8 : Int32))) (SD : Sta Z Z.heap sAQ "DEFAULTCAPACITY_EMPTY_ELEMENTDATA" "[Ljava/lang/Object;" (.ref eD)) (hch : Jvm.Lit.constHeld Z sAA 7) (hcw : Jvm.Lit.compactW.before a0 Z = true) :
    MetFree l x (head1 (Jvm.Cond.code x code maxLocals ret :: ws) room_1) (fun a U => a = #[(.int i0), (.int i1), (.int i2), (.int i3)] ∧ Z.Warmed39 U.vm ∧ U.heap = h0 ∧ IB Z U.vm []) (fun _ _ _ _ _ => True) (fun _ U o U' => ∃ v L, o = .returned v ∧ Q0 Z i0 i1 i2 i3 zc eD h0 n0 v U'.heap L ∧ ReturnedEndW U o U' L room_1.cells room_1.slots) := by
  refine MetFree.of_bodySF (plainFor_of_name own_pn2) hisR ?_
  intro p e s m args below meth c s₁ Bd hml0 hP hK
  obtain ⟨rfl, hZ, hh, hI⟩ := hP
  have hx := Bd.exec
  have hby := Bd.bytes
  have hlk : meth.locks = false := Bd.notSynchronized
  have hml : c.maxLocals = 9 := hml0
  have hown : s.vm.findClass sAD = some m.cls := findClass_of_methodNamed Bd.named
  have hnm := (name_of_methodNamed Bd.named Bd.method).1
  have X0 : Stand p l e room_1 (s.setVm s.vm) m #[(.int i0), (.int i1), (.int i2), (.int i3)] below meth c s₁ [] 0 0 := Stand.of_body Bd
  have e0 : s₁.heap = h0 := by rw [← hh, Bd.state]; rfl
  have N0 := Fr.nil n0
  have hS0 : s.Since s.vm h0.size := (State.WarmedH.refl s).since _
  have hk0 : h0.size ≤ h0.size := Nat.le_refl _
  have wS : ∀ a ∈ Bundle.stringAtoms, a.before a0 Z = true := by
    intro a ha
    simp only [Bundle.stringAtoms, List.mem_cons, List.not_mem_nil, or_false] at ha
    rcases ha with rfl | rfl | rfl | rfl | rfl | rfl | rfl
    · exact (oW hw 7 rfl)
    · exact (oW hw 6 rfl)
    · exact (oW hw 20 rfl)
    · exact (oW hw 21 rfl)
    · exact (oW hw 22 rfl)
    · exact (oW hw 23 rfl)
    · exact (oW hw 24 rfl)
  refine own_bodyW (A := s₁.setTop (mkF m 0 #[iv i0, iv i1, iv i2, iv i3, uu, uu, uu, uu, uu] [])) (Q := Q0 Z i0 i1 i2 i3 zc eD h0 n0) (fun t k => castTop (own_ef0 m i0 i1 i2 i3) k) ?_
  refine oILN (n := 1) X0 hx (hb hby at_0) rfl rfl ?_
  refine oIC (n := 2) X0 hx (3 : Int32) (hb hby at_1) (by decide) rfl ?_
  refine ov (B := s₁.setTop (mkF m 3 #[iv i0, iv i1, iv i2, iv i3, uu, uu, uu, uu, uu] [(.int (i0 &&& (3 : Int32)))])) (fun t k => XS.iand X0.here hx rfl (hb hby at_2) rfl k) ?_
  refine ov (B := s₁.setTop (mkF m 5 #[iv i0, iv i1, iv i2, iv i3, iv (i0 &&& (3 : Int32)), uu, uu, uu, uu] [])) (fun t k => XS.istore X0.here hx rfl (hb hby at_3) rfl (l' := #[iv i0, iv i1, iv i2, iv i3, iv (i0 &&& (3 : Int32)), uu, uu, uu, uu]) rfl k) ?_
  generalize hs3 : (i0 &&& (3 : Int32)) = s3
  rcases (show s3 = 0 ∨ s3 = 1 ∨ s3 = 2 ∨ s3 = 3 by rw [← hs3]; exact own_b3 i0) with rfl | rfl | rfl | rfl
  · refine oIL (n := 7) X0 hx (hb hby at_5) rfl rfl ?_
    refine oILN (n := 8) X0 hx (hb hby at_7) rfl rfl ?_
    refine oILN (n := 9) X0 hx (hb hby at_8) rfl rfl ?_
    refine oILN (n := 10) X0 hx (hb hby at_9) rfl rfl ?_
    obtain ⟨_, _, ⟨T1, L1, k1, n1⟩, -, X1, hT1, gT1, ⟨Lc1, hQ1, l1, y1, z1⟩, st1⟩ := callSS X0 hx (y := (⟨sAD, "make", sAF⟩ : MethodName)) hown (mvT hZ (oW hw 0 rfl)) (mvT hZ (oW hw 1 rfl)) (mvT hZ (oW hw 2 rfl)) (mvT hZ (oW hw 3 rfl)) (by decide) (own_backV (VP := fun vm'' => IB Z vm'' []) (W := 0) (rmKA l Z a0 hw [] i1 i2 i3 h0 n0 Z0 O0 (by assumption) (by assumption)) (fun vm'' hW'' => own_ibW (s := (s.setVm s.vm)) hI hW'') hZ (oW hw 3 rfl) (oW hw 2 rfl) (by decide) (by decide)) (g := (mkF m 10 #[iv i0, iv i1, iv i2, iv i3, iv 0, uu, uu, uu, uu] [(.int i3), (.int i2), (.int i1), (.int 0)])) rfl (by rw [hml]; rfl) (argsL := [(.int 0), (.int i1), (.int i2), (.int i3)]) (rest := []) (lenOf own_pd13 rfl) rfl (by show 2 * 0 + _ ≤ _; exact Nat.le_of_eq rfl) (hb hby at_10) (fun _ _ => ⟨rfl, e0, (by decide : 0 + 4 ≤ _), (by decide : 0 + 8 ≤ _)⟩)
    dsimp only [Pt.U, Pt.locs, Pt.cells, Pt.slots] at X1 l1 y1 z1 st1 hQ1 hT1 gT1
    subst l1 y1 z1
    obtain ⟨X1, hS1, hZ, hown⟩ := rebS hS0 (by rw [e0]; exact hk0) X1 hT1 gT1 hZ hown
    obtain ⟨r_1, lc_1, lt_1, lk_1, rfl, Nq1, Kq1, hr_1, vL_1, f1_0, f1_1, f1_2, f1_3, f1_4, f1_5, f1_6⟩ := hQ1
    have N1 := Fr.app N0 Nq1
    have g_r_1 : n0 ≤ r_1 := Nat.le_trans Z0 hr_1
    refine ov (B := T1.setTop (mkF m 13 #[iv i0, iv i1, iv i2, iv i3, iv 0, uu, uu, uu, uu] [(.ref r_1)])) (fun t k => st1.trans k) ?_
    refine ov (B := T1.setTop (mkF m 15 #[iv i0, iv i1, iv i2, iv i3, iv 0, rv r_1, uu, uu, uu] [])) (fun t k => XS.astore X1.here hx rfl (hb hby at_13) rfl rfl (l' := #[iv i0, iv i1, iv i2, iv i3, iv 0, rv r_1, uu, uu, uu]) rfl k) ?_
    refine oIL (n := 17) X1 hx (hb hby at_15) rfl rfl ?_
    refine oILN (n := 18) X1 hx (hb hby at_17) rfl rfl ?_
    refine oILN (n := 19) X1 hx (hb hby at_18) rfl rfl ?_
    refine oILN (n := 20) X1 hx (hb hby at_19) rfl rfl ?_
    obtain ⟨_, _, ⟨T2, L2, k2, n2⟩, -, X2, hT2, gT2, ⟨Lc2, hQ2, l2, y2, z2⟩, st2⟩ := callSS X1 hx (y := (⟨sAD, "make", sAF⟩ : MethodName)) hown (mvT hZ (oW hw 0 rfl)) (mvT hZ (oW hw 1 rfl)) (mvT hZ (oW hw 2 rfl)) (mvT hZ (oW hw 3 rfl)) (by decide) (own_backP (VP := fun vm'' => Lit (Z.setVm vm'') sAA 7 lc_1) (W := 0) (rmKB l Z a0 hw [] i1 i2 i3 lc_1 lt_1 lk_1 T1.heap n0 (Nat.le_trans Z0 Kq1.1) (O0.keep Kq1 all0) f1_3 f1_4 f1_5 f1_6) (fun vm'' hW'' => own_litL (s := s) (vm := T1.vm) vL_1 hW'') hZ (oW hw 3 rfl) (oW hw 2 rfl) (by decide) (by decide)) (g := (mkF m 20 #[iv i0, iv i1, iv i2, iv i3, iv 0, rv r_1, uu, uu, uu] [(.int i3), (.int i2), (.int i1), (.int 0)])) rfl (by rw [hml]; rfl) (argsL := [(.int 0), (.int i1), (.int i2), (.int i3)]) (rest := []) (lenOf own_pd13 rfl) rfl (by show 2 * 0 + _ ≤ _; exact Nat.le_of_eq rfl) (hb hby at_20) (fun _ _ => ⟨rfl, rfl, (by decide : (0 + 4) + 4 ≤ _), (by decide : (0 + 8) + 8 ≤ _)⟩)
    dsimp only [Pt.U, Pt.locs, Pt.cells, Pt.slots] at X2 l2 y2 z2 st2 hQ2 hT2 gT2
    subst l2 y2 z2
    obtain ⟨X2, hS2, hZ, hown⟩ := rebS hS1 (Nat.le_refl _) X2 hT2 gT2 hZ hown
    have hlit2_lc_1 := Lit.stays (s := s) vL_1 hT2.1
    obtain ⟨r_2, rfl, Nq2, Kq2, hr_2, f2_0, f2_1, f2_2⟩ := hQ2
    have N2 := Fr.app N1 Nq2
    have g_r_2 : n0 ≤ r_2 := Nat.le_trans (Nat.le_trans Z0 Kq1.1) hr_2
    refine ov (B := T2.setTop (mkF m 23 #[iv i0, iv i1, iv i2, iv i3, iv 0, rv r_1, uu, uu, uu] [(.ref r_2)])) (fun t k => st2.trans k) ?_
    refine ov (B := T2.setTop (mkF m 25 #[iv i0, iv i1, iv i2, iv i3, iv 0, rv r_1, rv r_2, uu, uu] [])) (fun t k => XS.astore X2.here hx rfl (hb hby at_23) rfl rfl (l' := #[iv i0, iv i1, iv i2, iv i3, iv 0, rv r_1, rv r_2, uu, uu]) rfl k) ?_
    obtain ⟨T3, h3, X3, e3, E3, A3, D3, -, st3⟩ := newO X2 hx hZ hown (oW hw 27 rfl) (oW hw 28 rfl) (oW hw 29 rfl) rfl (g := (mkF m 25 #[iv i0, iv i1, iv i2, iv i3, iv 0, rv r_1, rv r_2, uu, uu] [])) rfl (hb hby at_25) (by decide) (by decide)
    obtain ⟨b3, g3⟩ : ∃ z, z = T2.heap.size := ⟨_, rfl⟩
    rw [← g3] at A3 D3 st3
    have g_b3 : n0 ≤ b3 := Nat.le_trans (Nat.le_trans (Nat.le_trans Z0 Kq1.1) Kq2.1) (Nat.le_of_eq g3.symm)
    have F3_attributes : Fld Z h3 b3 sAC "attributes" "Ljava/util/Map;" .null := D3 (Or.inr (oW hw 61 rfl)) (ty := (.object "java/util/Map")) (by decide)
    have F3_text : Fld Z h3 b3 sAC "text" "Ljava/lang/StringBuilder;" .null := D3 (Or.inr (oW hw 81 rfl)) (ty := (.object sAK)) (by decide)
    have F3_children : Fld Z h3 b3 sAC "children" "Ljava/util/List;" .null := D3 (Or.inr (oW hw 107 rfl)) (ty := (.object "java/util/List")) (by decide)
    have F3_name : Fld Z h3 b3 sAC "name" sAP .null := D3 (Or.inr (oW hw 109 rfl)) (ty := (.object sAA)) (by decide)
    refine ov (B := T3.setTop (mkF m 28 #[iv i0, iv i1, iv i2, iv i3, iv 0, rv r_1, rv r_2, uu, uu] [(.ref b3)])) (fun t k => st3 t k) ?_
    refine oDU (n := 29) X3 hx (hb hby at_28) rfl rfl ?_
    refine oAL (n := 31) X3 hx (hb hby at_29) rfl rfl rfl ?_
    obtain ⟨_, _, ⟨T4, L4, k4, n4⟩, -, X4, ⟨Lc4, hQ4, l4, y4, z4⟩, st4⟩ := X3.specialBack hx (y := (⟨sAC, "<init>", sAR⟩ : MethodName)) rfl hown (mvT hZ (oW hw 30 rfl)) (mvT hZ (oW hw 31 rfl)) (mvT hZ (oW hw 32 rfl)) (by decide) (backOf (W := 1) (rmXI l Z a0 hw [] b3 r_1 zc eD .null .null .null .null h3 n0 (Nat.le_trans (Nat.le_trans (Nat.le_trans Z0 Kq1.1) Kq2.1) E3.1) (((O0.keep Kq1 all0).keep Kq2 all0).ext E3) (by assumption) (by assumption) (by assumption) A3 F3_attributes F3_text F3_children F3_name g_b3) hZ (oW hw 32 rfl) (oW hw 29 rfl) (by decide) (by decide)) (g := (mkF m 31 #[iv i0, iv i1, iv i2, iv i3, iv 0, rv r_1, rv r_2, uu, uu] [(.ref r_1), (.ref b3), (.ref b3)])) rfl (by rw [hml]; rfl) (Steps.refl _) (a := b3) (argsL := [(.ref r_1)]) (rest := [(.ref b3)]) (lenOf own_pd14 rfl) rfl (by show 2 * 0 + _ ≤ _; exact Nat.le_of_eq rfl) (hb hby at_31) (fun _ _ => ⟨rfl, e3, (by decide : (((0 + 4) + 4) + 1) + 4 ≤ _), (by decide : (((0 + 8) + 8) + 4) + 35 ≤ _)⟩)
    dsimp only [Pt.U, Pt.locs, Pt.cells, Pt.slots] at X4 l4 y4 z4 st4 hQ4
    subst l4 y4 z4
    obtain ⟨rfl, Nq4, Kq4, f4_0⟩ := hQ4
    have N4 := Fr.app N2 Nq4
    refine ov (B := T4.setTop (mkF m 34 #[iv i0, iv i1, iv i2, iv i3, iv 0, rv r_1, rv r_2, uu, uu] [(.ref b3)])) (fun t k => st4.trans k) ?_
    refine ov (B := T4.setTop (mkF m 36 #[iv i0, iv i1, iv i2, iv i3, iv 0, rv r_1, rv r_2, rv b3, uu] [])) (fun t k => XS.astore X4.here hx rfl (hb hby at_34) rfl rfl (l' := #[iv i0, iv i1, iv i2, iv i3, iv 0, rv r_1, rv r_2, rv b3, uu]) rfl k) ?_
    refine oAL (n := 38) X4 hx (hb hby at_36) rfl rfl rfl ?_
    refine oAL (n := 40) X4 hx (hb hby at_38) rfl rfl rfl ?_
    obtain ⟨cq5, kq5, q5a, q5b, q5c⟩ := isOf hZ rfl (A3.keep Kq4)
    obtain ⟨_, _, ⟨T5, L5, k5, n5⟩, -, X5, ⟨Lc5, hQ5, l5, y5, z5⟩, st5⟩ := X4.virtualBack hx (y := (⟨sAC, "requireName", sAE⟩ : MethodName)) (z := (⟨sAC, "requireName", sAE⟩ : MethodName)) hown (mvT hZ (oW hw 110 rfl)) (mvT hZ (oW hw 111 rfl)) (notFace_of_selects (args := #[]) (mvT hZ (oW hw 113 rfl))) (mvT hZ (oW hw 113 rfl)) (mvT hZ (oW hw 112 rfl)) (by decide) (backOf (W := 0) (rmXR0 l Z a0 hw [] b3 r_2 r_1 zc lt_1 lt_1 lk_1 lk_1 (0 : Int32) T4.heap n0 (Nat.le_trans (Nat.le_trans (Nat.le_trans (Nat.le_trans Z0 Kq1.1) Kq2.1) E3.1) Kq4.1) ((((O0.keep Kq1 all0).keep Kq2 all0).ext E3).keep Kq4 (allS g_b3 all0)) (by assumption) (by assumption) f4_0 (((f1_0.keep Kq2).ext E3).keep Kq4) (((f1_1.keep Kq2 nin0).ext E3).keep Kq4 (ninS (Nat.ne_of_lt (Nat.lt_of_lt_of_le (f1_0.keep Kq2).lt (Nat.le_of_eq g3.symm))) nin0)) (((f1_2.keep Kq2 nin0).ext E3).keep Kq4 (ninS (Nat.ne_of_lt (Nat.lt_of_lt_of_le (f1_0.keep Kq2).lt (Nat.le_of_eq g3.symm))) nin0)) (((f1_6.keep Kq2 nin0).ext E3).keep Kq4 (ninS (Nat.ne_of_lt (Nat.lt_of_lt_of_le (f1_6.keep Kq2 nin0).lt (Nat.le_of_eq g3.symm))) nin0)) ((f2_0.ext E3).keep Kq4) ((f2_1.ext E3).keep Kq4 (ninS (Nat.ne_of_lt (Nat.lt_of_lt_of_le f2_0.lt (Nat.le_of_eq g3.symm))) nin0)) ((f2_2.ext E3).keep Kq4 (ninS (Nat.ne_of_lt (Nat.lt_of_lt_of_le f2_0.lt (Nat.le_of_eq g3.symm))) nin0)) (((f1_6.keep Kq2 nin0).ext E3).keep Kq4 (ninS (Nat.ne_of_lt (Nat.lt_of_lt_of_le (f1_6.keep Kq2 nin0).lt (Nat.le_of_eq g3.symm))) nin0))) hZ (oW hw 114 rfl) (oW hw 29 rfl) (by decide) (by decide)) q5a q5c (g := (mkF m 40 #[iv i0, iv i1, iv i2, iv i3, iv 0, rv r_1, rv r_2, rv b3, uu] [(.ref r_2), (.ref b3)])) rfl (by rw [hml]; rfl) (Steps.refl _) (argsL := [(.ref r_2)]) (rest := []) (lenOf own_pd15 rfl) rfl (by show 2 * 0 + _ ≤ _; exact Nat.le_of_eq rfl) (hb hby at_40) (fun _ _ => ⟨rfl, rfl, (by decide : ((((0 + 4) + 4) + 1) + 4) + 0 ≤ _), (by decide : ((((0 + 8) + 8) + 4) + 35) + 0 ≤ _)⟩)
    dsimp only [Pt.U, Pt.locs, Pt.cells, Pt.slots] at X5 l5 y5 z5 st5 hQ5
    subst l5 y5 z5
    obtain ⟨rfl, Nq5, eq5⟩ := hQ5
    have N5 := Fr.app N4 Nq5
    refine ov (B := T5.setTop (mkF m 43 #[iv i0, iv i1, iv i2, iv i3, iv 0, rv r_1, rv r_2, rv b3, uu] [(.ref b3)])) (fun t k => st5.trans k) ?_
    refine ov (B := T5.setTop (mkF m 45 #[iv i0, iv i1, iv i2, iv i3, iv 0, rv r_1, rv r_2, rv b3, rv b3] [])) (fun t k => XS.astore X5.here hx rfl (hb hby at_43) rfl rfl (l' := #[iv i0, iv i1, iv i2, iv i3, iv 0, rv r_1, rv r_2, rv b3, rv b3]) rfl k) ?_
    refine oAL (n := 47) X5 hx (hb hby at_45) rfl rfl rfl ?_
    refine oAL (n := 49) X5 hx (hb hby at_47) rfl rfl rfl ?_
    have hc49 : b3 = b3 := rfl
    refine ov (B := T5.setTop (mkF m 52 #[iv i0, iv i1, iv i2, iv i3, iv 0, rv r_1, rv r_2, rv b3, rv b3] [])) (fun t k => Jvm.RoadKit.acmp (g := (mkF m 49 #[iv i0, iv i1, iv i2, iv i3, iv 0, rv r_1, rv r_2, rv b3, rv b3] [(.ref b3), (.ref b3)])) X5 hx rfl rfl rfl (pc0 := 49) (pc' := 52) (same := true) rfl (hb hby at_49) rfl (decide_eq_true (congrArg Value.ref hc49)) (by decide) (by decide) k) ?_
    refine oAL (n := 54) X5 hx (hb hby at_52) rfl rfl rfl ?_
    obtain ⟨cq6, kq6, q6a, q6b, q6c⟩ := isOf hZ eq5 (A3.keep Kq4)
    obtain ⟨_, _, ⟨T6, L6, k6, n6⟩, -, X6, ⟨Lc6, hQ6, l6, y6, z6⟩, st6⟩ := X5.virtualBack hx (y := (⟨sAC, "name", sAL⟩ : MethodName)) (z := (⟨sAC, "name", sAL⟩ : MethodName)) hown (mvT hZ (oW hw 126 rfl)) (mvT hZ (oW hw 127 rfl)) (notFace_of_selects (args := #[]) (mvT hZ (oW hw 129 rfl))) (mvT hZ (oW hw 129 rfl)) (mvT hZ (oW hw 128 rfl)) (by decide) (backOf (W := 0) (rmXN l Z a0 hw [] b3 r_1 T4.heap n0 (Nat.le_trans (Nat.le_trans (Nat.le_trans (Nat.le_trans Z0 Kq1.1) Kq2.1) E3.1) Kq4.1) f4_0) hZ (oW hw 130 rfl) (oW hw 29 rfl) (by decide) (by decide)) q6a q6c (g := (mkF m 54 #[iv i0, iv i1, iv i2, iv i3, iv 0, rv r_1, rv r_2, rv b3, rv b3] [(.ref b3)])) rfl (by rw [hml]; rfl) (Steps.refl _) (argsL := []) (rest := []) (lenOf own_pd16 rfl) rfl (by show 2 * 0 + _ ≤ _; exact Nat.le_of_eq rfl) (hb hby at_54) (fun _ _ => ⟨rfl, eq5, (by decide : (((((0 + 4) + 4) + 1) + 4) + 0) + 0 ≤ _), (by decide : (((((0 + 8) + 8) + 4) + 35) + 0) + 0 ≤ _)⟩)
    dsimp only [Pt.U, Pt.locs, Pt.cells, Pt.slots] at X6 l6 y6 z6 st6 hQ6
    subst l6 y6 z6
    obtain ⟨rfl, Nq6, eq6⟩ := hQ6
    have N6 := Fr.app N5 Nq6
    refine ov (B := T6.setTop (mkF m 57 #[iv i0, iv i1, iv i2, iv i3, iv 0, rv r_1, rv r_2, rv b3, rv b3] [(.ref r_1)])) (fun t k => st6.trans k) ?_
    refine oAL (n := 59) X6 hx (hb hby at_57) rfl rfl rfl ?_
    have hc59 : r_1 = r_1 := rfl
    refine ov (B := T6.setTop (mkF m 62 #[iv i0, iv i1, iv i2, iv i3, iv 0, rv r_1, rv r_2, rv b3, rv b3] [])) (fun t k => Jvm.RoadKit.acmp (g := (mkF m 59 #[iv i0, iv i1, iv i2, iv i3, iv 0, rv r_1, rv r_2, rv b3, rv b3] [(.ref r_1), (.ref r_1)])) X6 hx rfl rfl rfl (pc0 := 59) (pc' := 62) (same := true) rfl (hb hby at_59) rfl (decide_eq_true (congrArg Value.ref hc59)) (by decide) (by decide) k) ?_
    refine oIC (n := 63) X6 hx (1 : Int32) (hb hby at_62) (by decide) rfl ?_
    refine oGO (n := 67) X6 hx (hb hby at_63) (by decide) (by decide) ?_
    refine own_leafW X6 hx hlk hS2 (by rw [eq6]; exact (Nat.le_trans (Nat.le_trans (Nat.le_refl _) E3.1) Kq4.1)) (t := .boolean) Bd.returns (by decide) (Or.inl ⟨rfl, by simp, _, rfl⟩) (hb hby at_67) (by decide) (by decide) ?_
    show Q0 Z i0 i1 i2 i3 zc eD h0 n0 _ T6.heap _
    rw [eq6]
    refine ⟨?_, N6⟩
    rfl
  · rcases own_bs1 (own_ch i1) with hB | hsA
    · refine oIL (n := 7) X0 hx (hb hby at_5) rfl rfl ?_
      refine oILN (n := 8) X0 hx (hb hby at_7) rfl rfl ?_
      refine oILN (n := 9) X0 hx (hb hby at_8) rfl rfl ?_
      refine oILN (n := 10) X0 hx (hb hby at_9) rfl rfl ?_
      obtain ⟨_, _, ⟨T7, L7, k7, n7⟩, -, X7, ⟨Lc7, hQ7, l7, y7, z7⟩, st7⟩ := Jvm.LawKit.callS X0 hx (y := (⟨sAD, "make", sAF⟩ : MethodName)) hown (mvT hZ (oW hw 0 rfl)) (mvT hZ (oW hw 1 rfl)) (mvT hZ (oW hw 2 rfl)) (mvT hZ (oW hw 3 rfl)) (by decide) (backOf (W := 0) (rmKM11 l Z a0 hw [] i1 i2 i3 zc h0 n0 Z0 O0 (by assumption) (by assumption) (by assumption) (by assumption) (by assumption) hB (own_chU i1)) hZ (oW hw 3 rfl) (oW hw 2 rfl) (by decide) (by decide)) (g := (mkF m 10 #[iv i0, iv i1, iv i2, iv i3, iv 1, uu, uu, uu, uu] [(.int i3), (.int i2), (.int i1), (.int 1)])) rfl (by rw [hml]; rfl) (argsL := [(.int 1), (.int i1), (.int i2), (.int i3)]) (rest := []) (lenOf own_pd13 rfl) rfl (by show 2 * 0 + _ ≤ _; exact Nat.le_of_eq rfl) (hb hby at_10) (fun _ _ => ⟨rfl, e0, (by decide : 0 + 4 ≤ _), (by decide : 0 + 8 ≤ _)⟩)
      dsimp only [Pt.U, Pt.locs, Pt.cells, Pt.slots] at X7 l7 y7 z7 st7 hQ7
      subst l7 y7 z7
      obtain ⟨r_7, t_7, kt_7, rfl, Nq7, Kq7, hr_7, ht_7, f7_0, f7_1, f7_2, f7_3⟩ := hQ7
      have N7 := Fr.app N0 Nq7
      have g_r_7 : n0 ≤ r_7 := Nat.le_trans Z0 hr_7
      have g_t_7 : n0 ≤ t_7 := Nat.le_trans Z0 ht_7
      refine ov (B := T7.setTop (mkF m 13 #[iv i0, iv i1, iv i2, iv i3, iv 1, uu, uu, uu, uu] [(.ref r_7)])) (fun t k => st7 t k) ?_
      refine ov (B := T7.setTop (mkF m 15 #[iv i0, iv i1, iv i2, iv i3, iv 1, rv r_7, uu, uu, uu] [])) (fun t k => XS.astore X7.here hx rfl (hb hby at_13) rfl rfl (l' := #[iv i0, iv i1, iv i2, iv i3, iv 1, rv r_7, uu, uu, uu]) rfl k) ?_
      refine oIL (n := 17) X7 hx (hb hby at_15) rfl rfl ?_
      refine oILN (n := 18) X7 hx (hb hby at_17) rfl rfl ?_
      refine oILN (n := 19) X7 hx (hb hby at_18) rfl rfl ?_
      refine oILN (n := 20) X7 hx (hb hby at_19) rfl rfl ?_
      obtain ⟨_, _, ⟨T8, L8, k8, n8⟩, -, X8, ⟨Lc8, hQ8, l8, y8, z8⟩, st8⟩ := Jvm.LawKit.callS X7 hx (y := (⟨sAD, "make", sAF⟩ : MethodName)) hown (mvT hZ (oW hw 0 rfl)) (mvT hZ (oW hw 1 rfl)) (mvT hZ (oW hw 2 rfl)) (mvT hZ (oW hw 3 rfl)) (by decide) (backOf (W := 0) (rmKM11 l Z a0 hw [] i1 i2 i3 zc T7.heap n0 (Nat.le_trans Z0 Kq7.1) (O0.keep Kq7 all0) (by assumption) (by assumption) (by assumption) (by assumption) (by assumption) hB (own_chU i1)) hZ (oW hw 3 rfl) (oW hw 2 rfl) (by decide) (by decide)) (g := (mkF m 20 #[iv i0, iv i1, iv i2, iv i3, iv 1, rv r_7, uu, uu, uu] [(.int i3), (.int i2), (.int i1), (.int 1)])) rfl (by rw [hml]; rfl) (argsL := [(.int 1), (.int i1), (.int i2), (.int i3)]) (rest := []) (lenOf own_pd13 rfl) rfl (by show 2 * 0 + _ ≤ _; exact Nat.le_of_eq rfl) (hb hby at_20) (fun _ _ => ⟨rfl, rfl, (by decide : (0 + 4) + 4 ≤ _), (by decide : (0 + 8) + 8 ≤ _)⟩)
      dsimp only [Pt.U, Pt.locs, Pt.cells, Pt.slots] at X8 l8 y8 z8 st8 hQ8
      subst l8 y8 z8
      obtain ⟨r_8, t_8, kt_8, rfl, Nq8, Kq8, hr_8, ht_8, f8_0, f8_1, f8_2, f8_3⟩ := hQ8
      have N8 := Fr.app N7 Nq8
      have g_r_8 : n0 ≤ r_8 := Nat.le_trans (Nat.le_trans Z0 Kq7.1) hr_8
      have g_t_8 : n0 ≤ t_8 := Nat.le_trans (Nat.le_trans Z0 Kq7.1) ht_8
      refine ov (B := T8.setTop (mkF m 23 #[iv i0, iv i1, iv i2, iv i3, iv 1, rv r_7, uu, uu, uu] [(.ref r_8)])) (fun t k => st8 t k) ?_
      refine ov (B := T8.setTop (mkF m 25 #[iv i0, iv i1, iv i2, iv i3, iv 1, rv r_7, rv r_8, uu, uu] [])) (fun t k => XS.astore X8.here hx rfl (hb hby at_23) rfl rfl (l' := #[iv i0, iv i1, iv i2, iv i3, iv 1, rv r_7, rv r_8, uu, uu]) rfl k) ?_
      obtain ⟨T9, h9, X9, e9, E9, A9, D9, -, st9⟩ := newO X8 hx hZ hown (oW hw 27 rfl) (oW hw 28 rfl) (oW hw 29 rfl) rfl (g := (mkF m 25 #[iv i0, iv i1, iv i2, iv i3, iv 1, rv r_7, rv r_8, uu, uu] [])) rfl (hb hby at_25) (by decide) (by decide)
      obtain ⟨b9, g9⟩ : ∃ z, z = T8.heap.size := ⟨_, rfl⟩
      rw [← g9] at A9 D9 st9
      have g_b9 : n0 ≤ b9 := Nat.le_trans (Nat.le_trans (Nat.le_trans Z0 Kq7.1) Kq8.1) (Nat.le_of_eq g9.symm)
      have F9_attributes : Fld Z h9 b9 sAC "attributes" "Ljava/util/Map;" .null := D9 (Or.inr (oW hw 61 rfl)) (ty := (.object "java/util/Map")) (by decide)
      have F9_text : Fld Z h9 b9 sAC "text" "Ljava/lang/StringBuilder;" .null := D9 (Or.inr (oW hw 81 rfl)) (ty := (.object sAK)) (by decide)
      have F9_children : Fld Z h9 b9 sAC "children" "Ljava/util/List;" .null := D9 (Or.inr (oW hw 107 rfl)) (ty := (.object "java/util/List")) (by decide)
      have F9_name : Fld Z h9 b9 sAC "name" sAP .null := D9 (Or.inr (oW hw 109 rfl)) (ty := (.object sAA)) (by decide)
      refine ov (B := T9.setTop (mkF m 28 #[iv i0, iv i1, iv i2, iv i3, iv 1, rv r_7, rv r_8, uu, uu] [(.ref b9)])) (fun t k => st9 t k) ?_
      refine oDU (n := 29) X9 hx (hb hby at_28) rfl rfl ?_
      refine oAL (n := 31) X9 hx (hb hby at_29) rfl rfl rfl ?_
      obtain ⟨_, _, ⟨T10, L10, k10, n10⟩, -, X10, ⟨Lc10, hQ10, l10, y10, z10⟩, st10⟩ := X9.specialBack hx (y := (⟨sAC, "<init>", sAR⟩ : MethodName)) rfl hown (mvT hZ (oW hw 30 rfl)) (mvT hZ (oW hw 31 rfl)) (mvT hZ (oW hw 32 rfl)) (by decide) (backOf (W := 1) (rmXI l Z a0 hw [] b9 r_7 zc eD .null .null .null .null h9 n0 (Nat.le_trans (Nat.le_trans (Nat.le_trans Z0 Kq7.1) Kq8.1) E9.1) (((O0.keep Kq7 all0).keep Kq8 all0).ext E9) (by assumption) (by assumption) (by assumption) A9 F9_attributes F9_text F9_children F9_name g_b9) hZ (oW hw 32 rfl) (oW hw 29 rfl) (by decide) (by decide)) (g := (mkF m 31 #[iv i0, iv i1, iv i2, iv i3, iv 1, rv r_7, rv r_8, uu, uu] [(.ref r_7), (.ref b9), (.ref b9)])) rfl (by rw [hml]; rfl) (Steps.refl _) (a := b9) (argsL := [(.ref r_7)]) (rest := [(.ref b9)]) (lenOf own_pd14 rfl) rfl (by show 2 * 0 + _ ≤ _; exact Nat.le_of_eq rfl) (hb hby at_31) (fun _ _ => ⟨rfl, e9, (by decide : (((0 + 4) + 4) + 1) + 4 ≤ _), (by decide : (((0 + 8) + 8) + 4) + 35 ≤ _)⟩)
      dsimp only [Pt.U, Pt.locs, Pt.cells, Pt.slots] at X10 l10 y10 z10 st10 hQ10
      subst l10 y10 z10
      obtain ⟨rfl, Nq10, Kq10, f10_0⟩ := hQ10
      have N10 := Fr.app N8 Nq10
      refine ov (B := T10.setTop (mkF m 34 #[iv i0, iv i1, iv i2, iv i3, iv 1, rv r_7, rv r_8, uu, uu] [(.ref b9)])) (fun t k => st10.trans k) ?_
      refine ov (B := T10.setTop (mkF m 36 #[iv i0, iv i1, iv i2, iv i3, iv 1, rv r_7, rv r_8, rv b9, uu] [])) (fun t k => XS.astore X10.here hx rfl (hb hby at_34) rfl rfl (l' := #[iv i0, iv i1, iv i2, iv i3, iv 1, rv r_7, rv r_8, rv b9, uu]) rfl k) ?_
      refine oAL (n := 38) X10 hx (hb hby at_36) rfl rfl rfl ?_
      refine oAL (n := 40) X10 hx (hb hby at_38) rfl rfl rfl ?_
      obtain ⟨cq11, kq11, q11a, q11b, q11c⟩ := isOf hZ rfl (A9.keep Kq10)
      obtain ⟨_, _, ⟨T11, L11, k11, n11⟩, -, X11, ⟨Lc11, hQ11, l11, y11, z11⟩, st11⟩ := X10.virtualBack hx (y := (⟨sAC, "requireName", sAE⟩ : MethodName)) (z := (⟨sAC, "requireName", sAE⟩ : MethodName)) hown (mvT hZ (oW hw 110 rfl)) (mvT hZ (oW hw 111 rfl)) (notFace_of_selects (args := #[]) (mvT hZ (oW hw 113 rfl))) (mvT hZ (oW hw 113 rfl)) (mvT hZ (oW hw 112 rfl)) (by decide) (backOf (W := 0) (rmXR2 l Z a0 hw [] b9 r_8 r_7 zc t_7 t_8 kt_7 kt_8 (1 : Int32) ((own_ch i1) >>> ((0 : Int32) &&& 31)).toInt8.toInt32.toInt8.toInt32 ((own_ch i1) >>> ((8 : Int32) &&& 31)).toInt8.toInt32.toInt8.toInt32 T10.heap n0 (Nat.le_trans (Nat.le_trans (Nat.le_trans (Nat.le_trans Z0 Kq7.1) Kq8.1) E9.1) Kq10.1) ((((O0.keep Kq7 all0).keep Kq8 all0).ext E9).keep Kq10 (allS g_b9 all0)) (by assumption) (by assumption) f10_0 (((f7_0.keep Kq8).ext E9).keep Kq10) (((f7_1.keep Kq8 nin0).ext E9).keep Kq10 (ninS (Nat.ne_of_lt (Nat.lt_of_lt_of_le (f7_0.keep Kq8).lt (Nat.le_of_eq g9.symm))) nin0)) (((f7_2.keep Kq8 nin0).ext E9).keep Kq10 (ninS (Nat.ne_of_lt (Nat.lt_of_lt_of_le (f7_0.keep Kq8).lt (Nat.le_of_eq g9.symm))) nin0)) (((f7_3.keep Kq8 nin0).ext E9).keep Kq10 (ninS (Nat.ne_of_lt (Nat.lt_of_lt_of_le (f7_3.keep Kq8 nin0).lt (Nat.le_of_eq g9.symm))) nin0)) ((f8_0.ext E9).keep Kq10) ((f8_1.ext E9).keep Kq10 (ninS (Nat.ne_of_lt (Nat.lt_of_lt_of_le f8_0.lt (Nat.le_of_eq g9.symm))) nin0)) ((f8_2.ext E9).keep Kq10 (ninS (Nat.ne_of_lt (Nat.lt_of_lt_of_le f8_0.lt (Nat.le_of_eq g9.symm))) nin0)) ((f8_3.ext E9).keep Kq10 (ninS (Nat.ne_of_lt (Nat.lt_of_lt_of_le f8_3.lt (Nat.le_of_eq g9.symm))) nin0))) hZ (oW hw 114 rfl) (oW hw 29 rfl) (by decide) (by decide)) q11a q11c (g := (mkF m 40 #[iv i0, iv i1, iv i2, iv i3, iv 1, rv r_7, rv r_8, rv b9, uu] [(.ref r_8), (.ref b9)])) rfl (by rw [hml]; rfl) (Steps.refl _) (argsL := [(.ref r_8)]) (rest := []) (lenOf own_pd15 rfl) rfl (by show 2 * 0 + _ ≤ _; exact Nat.le_of_eq rfl) (hb hby at_40) (fun _ _ => ⟨rfl, rfl, (by decide : ((((0 + 4) + 4) + 1) + 4) + 0 ≤ _), (by decide : ((((0 + 8) + 8) + 4) + 35) + 0 ≤ _)⟩)
      dsimp only [Pt.U, Pt.locs, Pt.cells, Pt.slots] at X11 l11 y11 z11 st11 hQ11
      subst l11 y11 z11
      obtain ⟨rfl, Nq11, eq11⟩ := hQ11
      have N11 := Fr.app N10 Nq11
      refine ov (B := T11.setTop (mkF m 43 #[iv i0, iv i1, iv i2, iv i3, iv 1, rv r_7, rv r_8, rv b9, uu] [(.ref b9)])) (fun t k => st11.trans k) ?_
      refine ov (B := T11.setTop (mkF m 45 #[iv i0, iv i1, iv i2, iv i3, iv 1, rv r_7, rv r_8, rv b9, rv b9] [])) (fun t k => XS.astore X11.here hx rfl (hb hby at_43) rfl rfl (l' := #[iv i0, iv i1, iv i2, iv i3, iv 1, rv r_7, rv r_8, rv b9, rv b9]) rfl k) ?_
      refine oAL (n := 47) X11 hx (hb hby at_45) rfl rfl rfl ?_
      refine oAL (n := 49) X11 hx (hb hby at_47) rfl rfl rfl ?_
      have hc49 : b9 = b9 := rfl
      refine ov (B := T11.setTop (mkF m 52 #[iv i0, iv i1, iv i2, iv i3, iv 1, rv r_7, rv r_8, rv b9, rv b9] [])) (fun t k => Jvm.RoadKit.acmp (g := (mkF m 49 #[iv i0, iv i1, iv i2, iv i3, iv 1, rv r_7, rv r_8, rv b9, rv b9] [(.ref b9), (.ref b9)])) X11 hx rfl rfl rfl (pc0 := 49) (pc' := 52) (same := true) rfl (hb hby at_49) rfl (decide_eq_true (congrArg Value.ref hc49)) (by decide) (by decide) k) ?_
      refine oAL (n := 54) X11 hx (hb hby at_52) rfl rfl rfl ?_
      obtain ⟨cq12, kq12, q12a, q12b, q12c⟩ := isOf hZ eq11 (A9.keep Kq10)
      obtain ⟨_, _, ⟨T12, L12, k12, n12⟩, -, X12, ⟨Lc12, hQ12, l12, y12, z12⟩, st12⟩ := X11.virtualBack hx (y := (⟨sAC, "name", sAL⟩ : MethodName)) (z := (⟨sAC, "name", sAL⟩ : MethodName)) hown (mvT hZ (oW hw 126 rfl)) (mvT hZ (oW hw 127 rfl)) (notFace_of_selects (args := #[]) (mvT hZ (oW hw 129 rfl))) (mvT hZ (oW hw 129 rfl)) (mvT hZ (oW hw 128 rfl)) (by decide) (backOf (W := 0) (rmXN l Z a0 hw [] b9 r_7 T10.heap n0 (Nat.le_trans (Nat.le_trans (Nat.le_trans (Nat.le_trans Z0 Kq7.1) Kq8.1) E9.1) Kq10.1) f10_0) hZ (oW hw 130 rfl) (oW hw 29 rfl) (by decide) (by decide)) q12a q12c (g := (mkF m 54 #[iv i0, iv i1, iv i2, iv i3, iv 1, rv r_7, rv r_8, rv b9, rv b9] [(.ref b9)])) rfl (by rw [hml]; rfl) (Steps.refl _) (argsL := []) (rest := []) (lenOf own_pd16 rfl) rfl (by show 2 * 0 + _ ≤ _; exact Nat.le_of_eq rfl) (hb hby at_54) (fun _ _ => ⟨rfl, eq11, (by decide : (((((0 + 4) + 4) + 1) + 4) + 0) + 0 ≤ _), (by decide : (((((0 + 8) + 8) + 4) + 35) + 0) + 0 ≤ _)⟩)
      dsimp only [Pt.U, Pt.locs, Pt.cells, Pt.slots] at X12 l12 y12 z12 st12 hQ12
      subst l12 y12 z12
      obtain ⟨rfl, Nq12, eq12⟩ := hQ12
      have N12 := Fr.app N11 Nq12
      refine ov (B := T12.setTop (mkF m 57 #[iv i0, iv i1, iv i2, iv i3, iv 1, rv r_7, rv r_8, rv b9, rv b9] [(.ref r_7)])) (fun t k => st12.trans k) ?_
      refine oAL (n := 59) X12 hx (hb hby at_57) rfl rfl rfl ?_
      have hc59 : r_7 = r_7 := rfl
      refine ov (B := T12.setTop (mkF m 62 #[iv i0, iv i1, iv i2, iv i3, iv 1, rv r_7, rv r_8, rv b9, rv b9] [])) (fun t k => Jvm.RoadKit.acmp (g := (mkF m 59 #[iv i0, iv i1, iv i2, iv i3, iv 1, rv r_7, rv r_8, rv b9, rv b9] [(.ref r_7), (.ref r_7)])) X12 hx rfl rfl rfl (pc0 := 59) (pc' := 62) (same := true) rfl (hb hby at_59) rfl (decide_eq_true (congrArg Value.ref hc59)) (by decide) (by decide) k) ?_
      refine oIC (n := 63) X12 hx (1 : Int32) (hb hby at_62) (by decide) rfl ?_
      refine oGO (n := 67) X12 hx (hb hby at_63) (by decide) (by decide) ?_
      refine own_leafW X12 hx hlk hS0 (by rw [eq12]; exact (Nat.le_trans (Nat.le_trans (Nat.le_trans (Nat.le_trans hk0 Kq7.1) Kq8.1) E9.1) Kq10.1)) (t := .boolean) Bd.returns (by decide) (Or.inl ⟨rfl, by simp, _, rfl⟩) (hb hby at_67) (by decide) (by decide) ?_
      show Q0 Z i0 i1 i2 i3 zc eD h0 n0 _ T12.heap _
      rw [eq12]
      refine ⟨?_, N12⟩
      rfl
    · refine oIL (n := 7) X0 hx (hb hby at_5) rfl rfl ?_
      refine oILN (n := 8) X0 hx (hb hby at_7) rfl rfl ?_
      refine oILN (n := 9) X0 hx (hb hby at_8) rfl rfl ?_
      refine oILN (n := 10) X0 hx (hb hby at_9) rfl rfl ?_
      obtain ⟨_, _, ⟨T13, L13, k13, n13⟩, -, X13, ⟨Lc13, hQ13, l13, y13, z13⟩, st13⟩ := Jvm.LawKit.callS X0 hx (y := (⟨sAD, "make", sAF⟩ : MethodName)) hown (mvT hZ (oW hw 0 rfl)) (mvT hZ (oW hw 1 rfl)) (mvT hZ (oW hw 2 rfl)) (mvT hZ (oW hw 3 rfl)) (by decide) (backOf (W := 0) (rmKM10 l Z a0 hw [] i1 i2 i3 zc h0 n0 Z0 O0 (by assumption) (by assumption) hsA) hZ (oW hw 3 rfl) (oW hw 2 rfl) (by decide) (by decide)) (g := (mkF m 10 #[iv i0, iv i1, iv i2, iv i3, iv 1, uu, uu, uu, uu] [(.int i3), (.int i2), (.int i1), (.int 1)])) rfl (by rw [hml]; rfl) (argsL := [(.int 1), (.int i1), (.int i2), (.int i3)]) (rest := []) (lenOf own_pd13 rfl) rfl (by show 2 * 0 + _ ≤ _; exact Nat.le_of_eq rfl) (hb hby at_10) (fun _ _ => ⟨rfl, e0, (by decide : 0 + 4 ≤ _), (by decide : 0 + 8 ≤ _)⟩)
      dsimp only [Pt.U, Pt.locs, Pt.cells, Pt.slots] at X13 l13 y13 z13 st13 hQ13
      subst l13 y13 z13
      obtain ⟨r_13, t_13, kt_13, rfl, Nq13, Kq13, hr_13, ht_13, f13_0, f13_1, f13_2, f13_3⟩ := hQ13
      have N13 := Fr.app N0 Nq13
      have g_r_13 : n0 ≤ r_13 := Nat.le_trans Z0 hr_13
      have g_t_13 : n0 ≤ t_13 := Nat.le_trans Z0 ht_13
      refine ov (B := T13.setTop (mkF m 13 #[iv i0, iv i1, iv i2, iv i3, iv 1, uu, uu, uu, uu] [(.ref r_13)])) (fun t k => st13 t k) ?_
      refine ov (B := T13.setTop (mkF m 15 #[iv i0, iv i1, iv i2, iv i3, iv 1, rv r_13, uu, uu, uu] [])) (fun t k => XS.astore X13.here hx rfl (hb hby at_13) rfl rfl (l' := #[iv i0, iv i1, iv i2, iv i3, iv 1, rv r_13, uu, uu, uu]) rfl k) ?_
      refine oIL (n := 17) X13 hx (hb hby at_15) rfl rfl ?_
      refine oILN (n := 18) X13 hx (hb hby at_17) rfl rfl ?_
      refine oILN (n := 19) X13 hx (hb hby at_18) rfl rfl ?_
      refine oILN (n := 20) X13 hx (hb hby at_19) rfl rfl ?_
      obtain ⟨_, _, ⟨T14, L14, k14, n14⟩, -, X14, ⟨Lc14, hQ14, l14, y14, z14⟩, st14⟩ := Jvm.LawKit.callS X13 hx (y := (⟨sAD, "make", sAF⟩ : MethodName)) hown (mvT hZ (oW hw 0 rfl)) (mvT hZ (oW hw 1 rfl)) (mvT hZ (oW hw 2 rfl)) (mvT hZ (oW hw 3 rfl)) (by decide) (backOf (W := 0) (rmKM10 l Z a0 hw [] i1 i2 i3 zc T13.heap n0 (Nat.le_trans Z0 Kq13.1) (O0.keep Kq13 all0) (by assumption) (by assumption) hsA) hZ (oW hw 3 rfl) (oW hw 2 rfl) (by decide) (by decide)) (g := (mkF m 20 #[iv i0, iv i1, iv i2, iv i3, iv 1, rv r_13, uu, uu, uu] [(.int i3), (.int i2), (.int i1), (.int 1)])) rfl (by rw [hml]; rfl) (argsL := [(.int 1), (.int i1), (.int i2), (.int i3)]) (rest := []) (lenOf own_pd13 rfl) rfl (by show 2 * 0 + _ ≤ _; exact Nat.le_of_eq rfl) (hb hby at_20) (fun _ _ => ⟨rfl, rfl, (by decide : (0 + 4) + 4 ≤ _), (by decide : (0 + 8) + 8 ≤ _)⟩)
      dsimp only [Pt.U, Pt.locs, Pt.cells, Pt.slots] at X14 l14 y14 z14 st14 hQ14
      subst l14 y14 z14
      obtain ⟨r_14, t_14, kt_14, rfl, Nq14, Kq14, hr_14, ht_14, f14_0, f14_1, f14_2, f14_3⟩ := hQ14
      have N14 := Fr.app N13 Nq14
      have g_r_14 : n0 ≤ r_14 := Nat.le_trans (Nat.le_trans Z0 Kq13.1) hr_14
      have g_t_14 : n0 ≤ t_14 := Nat.le_trans (Nat.le_trans Z0 Kq13.1) ht_14
      refine ov (B := T14.setTop (mkF m 23 #[iv i0, iv i1, iv i2, iv i3, iv 1, rv r_13, uu, uu, uu] [(.ref r_14)])) (fun t k => st14 t k) ?_
      refine ov (B := T14.setTop (mkF m 25 #[iv i0, iv i1, iv i2, iv i3, iv 1, rv r_13, rv r_14, uu, uu] [])) (fun t k => XS.astore X14.here hx rfl (hb hby at_23) rfl rfl (l' := #[iv i0, iv i1, iv i2, iv i3, iv 1, rv r_13, rv r_14, uu, uu]) rfl k) ?_
      obtain ⟨T15, h15, X15, e15, E15, A15, D15, -, st15⟩ := newO X14 hx hZ hown (oW hw 27 rfl) (oW hw 28 rfl) (oW hw 29 rfl) rfl (g := (mkF m 25 #[iv i0, iv i1, iv i2, iv i3, iv 1, rv r_13, rv r_14, uu, uu] [])) rfl (hb hby at_25) (by decide) (by decide)
      obtain ⟨b15, g15⟩ : ∃ z, z = T14.heap.size := ⟨_, rfl⟩
      rw [← g15] at A15 D15 st15
      have g_b15 : n0 ≤ b15 := Nat.le_trans (Nat.le_trans (Nat.le_trans Z0 Kq13.1) Kq14.1) (Nat.le_of_eq g15.symm)
      have F15_attributes : Fld Z h15 b15 sAC "attributes" "Ljava/util/Map;" .null := D15 (Or.inr (oW hw 61 rfl)) (ty := (.object "java/util/Map")) (by decide)
      have F15_text : Fld Z h15 b15 sAC "text" "Ljava/lang/StringBuilder;" .null := D15 (Or.inr (oW hw 81 rfl)) (ty := (.object sAK)) (by decide)
      have F15_children : Fld Z h15 b15 sAC "children" "Ljava/util/List;" .null := D15 (Or.inr (oW hw 107 rfl)) (ty := (.object "java/util/List")) (by decide)
      have F15_name : Fld Z h15 b15 sAC "name" sAP .null := D15 (Or.inr (oW hw 109 rfl)) (ty := (.object sAA)) (by decide)
      refine ov (B := T15.setTop (mkF m 28 #[iv i0, iv i1, iv i2, iv i3, iv 1, rv r_13, rv r_14, uu, uu] [(.ref b15)])) (fun t k => st15 t k) ?_
      refine oDU (n := 29) X15 hx (hb hby at_28) rfl rfl ?_
      refine oAL (n := 31) X15 hx (hb hby at_29) rfl rfl rfl ?_
      obtain ⟨_, _, ⟨T16, L16, k16, n16⟩, -, X16, ⟨Lc16, hQ16, l16, y16, z16⟩, st16⟩ := X15.specialBack hx (y := (⟨sAC, "<init>", sAR⟩ : MethodName)) rfl hown (mvT hZ (oW hw 30 rfl)) (mvT hZ (oW hw 31 rfl)) (mvT hZ (oW hw 32 rfl)) (by decide) (backOf (W := 1) (rmXI l Z a0 hw [] b15 r_13 zc eD .null .null .null .null h15 n0 (Nat.le_trans (Nat.le_trans (Nat.le_trans Z0 Kq13.1) Kq14.1) E15.1) (((O0.keep Kq13 all0).keep Kq14 all0).ext E15) (by assumption) (by assumption) (by assumption) A15 F15_attributes F15_text F15_children F15_name g_b15) hZ (oW hw 32 rfl) (oW hw 29 rfl) (by decide) (by decide)) (g := (mkF m 31 #[iv i0, iv i1, iv i2, iv i3, iv 1, rv r_13, rv r_14, uu, uu] [(.ref r_13), (.ref b15), (.ref b15)])) rfl (by rw [hml]; rfl) (Steps.refl _) (a := b15) (argsL := [(.ref r_13)]) (rest := [(.ref b15)]) (lenOf own_pd14 rfl) rfl (by show 2 * 0 + _ ≤ _; exact Nat.le_of_eq rfl) (hb hby at_31) (fun _ _ => ⟨rfl, e15, (by decide : (((0 + 4) + 4) + 1) + 4 ≤ _), (by decide : (((0 + 8) + 8) + 4) + 35 ≤ _)⟩)
      dsimp only [Pt.U, Pt.locs, Pt.cells, Pt.slots] at X16 l16 y16 z16 st16 hQ16
      subst l16 y16 z16
      obtain ⟨rfl, Nq16, Kq16, f16_0⟩ := hQ16
      have N16 := Fr.app N14 Nq16
      refine ov (B := T16.setTop (mkF m 34 #[iv i0, iv i1, iv i2, iv i3, iv 1, rv r_13, rv r_14, uu, uu] [(.ref b15)])) (fun t k => st16.trans k) ?_
      refine ov (B := T16.setTop (mkF m 36 #[iv i0, iv i1, iv i2, iv i3, iv 1, rv r_13, rv r_14, rv b15, uu] [])) (fun t k => XS.astore X16.here hx rfl (hb hby at_34) rfl rfl (l' := #[iv i0, iv i1, iv i2, iv i3, iv 1, rv r_13, rv r_14, rv b15, uu]) rfl k) ?_
      refine oAL (n := 38) X16 hx (hb hby at_36) rfl rfl rfl ?_
      refine oAL (n := 40) X16 hx (hb hby at_38) rfl rfl rfl ?_
      obtain ⟨cq17, kq17, q17a, q17b, q17c⟩ := isOf hZ rfl (A15.keep Kq16)
      obtain ⟨_, _, ⟨T17, L17, k17, n17⟩, -, X17, ⟨Lc17, hQ17, l17, y17, z17⟩, st17⟩ := X16.virtualBack hx (y := (⟨sAC, "requireName", sAE⟩ : MethodName)) (z := (⟨sAC, "requireName", sAE⟩ : MethodName)) hown (mvT hZ (oW hw 110 rfl)) (mvT hZ (oW hw 111 rfl)) (notFace_of_selects (args := #[]) (mvT hZ (oW hw 113 rfl))) (mvT hZ (oW hw 113 rfl)) (mvT hZ (oW hw 112 rfl)) (by decide) (backOf (W := 0) (rmXR1 l Z a0 hw [] b15 r_14 r_13 zc t_13 t_14 kt_13 kt_14 (0 : Int32) (own_ch i1).toInt8.toInt32.toInt8.toInt32 T16.heap n0 (Nat.le_trans (Nat.le_trans (Nat.le_trans (Nat.le_trans Z0 Kq13.1) Kq14.1) E15.1) Kq16.1) ((((O0.keep Kq13 all0).keep Kq14 all0).ext E15).keep Kq16 (allS g_b15 all0)) (by assumption) (by assumption) f16_0 (((f13_0.keep Kq14).ext E15).keep Kq16) (((f13_1.keep Kq14 nin0).ext E15).keep Kq16 (ninS (Nat.ne_of_lt (Nat.lt_of_lt_of_le (f13_0.keep Kq14).lt (Nat.le_of_eq g15.symm))) nin0)) (((f13_2.keep Kq14 nin0).ext E15).keep Kq16 (ninS (Nat.ne_of_lt (Nat.lt_of_lt_of_le (f13_0.keep Kq14).lt (Nat.le_of_eq g15.symm))) nin0)) (((f13_3.keep Kq14 nin0).ext E15).keep Kq16 (ninS (Nat.ne_of_lt (Nat.lt_of_lt_of_le (f13_3.keep Kq14 nin0).lt (Nat.le_of_eq g15.symm))) nin0)) ((f14_0.ext E15).keep Kq16) ((f14_1.ext E15).keep Kq16 (ninS (Nat.ne_of_lt (Nat.lt_of_lt_of_le f14_0.lt (Nat.le_of_eq g15.symm))) nin0)) ((f14_2.ext E15).keep Kq16 (ninS (Nat.ne_of_lt (Nat.lt_of_lt_of_le f14_0.lt (Nat.le_of_eq g15.symm))) nin0)) ((f14_3.ext E15).keep Kq16 (ninS (Nat.ne_of_lt (Nat.lt_of_lt_of_le f14_3.lt (Nat.le_of_eq g15.symm))) nin0))) hZ (oW hw 114 rfl) (oW hw 29 rfl) (by decide) (by decide)) q17a q17c (g := (mkF m 40 #[iv i0, iv i1, iv i2, iv i3, iv 1, rv r_13, rv r_14, rv b15, uu] [(.ref r_14), (.ref b15)])) rfl (by rw [hml]; rfl) (Steps.refl _) (argsL := [(.ref r_14)]) (rest := []) (lenOf own_pd15 rfl) rfl (by show 2 * 0 + _ ≤ _; exact Nat.le_of_eq rfl) (hb hby at_40) (fun _ _ => ⟨rfl, rfl, (by decide : ((((0 + 4) + 4) + 1) + 4) + 0 ≤ _), (by decide : ((((0 + 8) + 8) + 4) + 35) + 0 ≤ _)⟩)
      dsimp only [Pt.U, Pt.locs, Pt.cells, Pt.slots] at X17 l17 y17 z17 st17 hQ17
      subst l17 y17 z17
      obtain ⟨rfl, Nq17, eq17⟩ := hQ17
      have N17 := Fr.app N16 Nq17
      refine ov (B := T17.setTop (mkF m 43 #[iv i0, iv i1, iv i2, iv i3, iv 1, rv r_13, rv r_14, rv b15, uu] [(.ref b15)])) (fun t k => st17.trans k) ?_
      refine ov (B := T17.setTop (mkF m 45 #[iv i0, iv i1, iv i2, iv i3, iv 1, rv r_13, rv r_14, rv b15, rv b15] [])) (fun t k => XS.astore X17.here hx rfl (hb hby at_43) rfl rfl (l' := #[iv i0, iv i1, iv i2, iv i3, iv 1, rv r_13, rv r_14, rv b15, rv b15]) rfl k) ?_
      refine oAL (n := 47) X17 hx (hb hby at_45) rfl rfl rfl ?_
      refine oAL (n := 49) X17 hx (hb hby at_47) rfl rfl rfl ?_
      have hc49 : b15 = b15 := rfl
      refine ov (B := T17.setTop (mkF m 52 #[iv i0, iv i1, iv i2, iv i3, iv 1, rv r_13, rv r_14, rv b15, rv b15] [])) (fun t k => Jvm.RoadKit.acmp (g := (mkF m 49 #[iv i0, iv i1, iv i2, iv i3, iv 1, rv r_13, rv r_14, rv b15, rv b15] [(.ref b15), (.ref b15)])) X17 hx rfl rfl rfl (pc0 := 49) (pc' := 52) (same := true) rfl (hb hby at_49) rfl (decide_eq_true (congrArg Value.ref hc49)) (by decide) (by decide) k) ?_
      refine oAL (n := 54) X17 hx (hb hby at_52) rfl rfl rfl ?_
      obtain ⟨cq18, kq18, q18a, q18b, q18c⟩ := isOf hZ eq17 (A15.keep Kq16)
      obtain ⟨_, _, ⟨T18, L18, k18, n18⟩, -, X18, ⟨Lc18, hQ18, l18, y18, z18⟩, st18⟩ := X17.virtualBack hx (y := (⟨sAC, "name", sAL⟩ : MethodName)) (z := (⟨sAC, "name", sAL⟩ : MethodName)) hown (mvT hZ (oW hw 126 rfl)) (mvT hZ (oW hw 127 rfl)) (notFace_of_selects (args := #[]) (mvT hZ (oW hw 129 rfl))) (mvT hZ (oW hw 129 rfl)) (mvT hZ (oW hw 128 rfl)) (by decide) (backOf (W := 0) (rmXN l Z a0 hw [] b15 r_13 T16.heap n0 (Nat.le_trans (Nat.le_trans (Nat.le_trans (Nat.le_trans Z0 Kq13.1) Kq14.1) E15.1) Kq16.1) f16_0) hZ (oW hw 130 rfl) (oW hw 29 rfl) (by decide) (by decide)) q18a q18c (g := (mkF m 54 #[iv i0, iv i1, iv i2, iv i3, iv 1, rv r_13, rv r_14, rv b15, rv b15] [(.ref b15)])) rfl (by rw [hml]; rfl) (Steps.refl _) (argsL := []) (rest := []) (lenOf own_pd16 rfl) rfl (by show 2 * 0 + _ ≤ _; exact Nat.le_of_eq rfl) (hb hby at_54) (fun _ _ => ⟨rfl, eq17, (by decide : (((((0 + 4) + 4) + 1) + 4) + 0) + 0 ≤ _), (by decide : (((((0 + 8) + 8) + 4) + 35) + 0) + 0 ≤ _)⟩)
      dsimp only [Pt.U, Pt.locs, Pt.cells, Pt.slots] at X18 l18 y18 z18 st18 hQ18
      subst l18 y18 z18
      obtain ⟨rfl, Nq18, eq18⟩ := hQ18
      have N18 := Fr.app N17 Nq18
      refine ov (B := T18.setTop (mkF m 57 #[iv i0, iv i1, iv i2, iv i3, iv 1, rv r_13, rv r_14, rv b15, rv b15] [(.ref r_13)])) (fun t k => st18.trans k) ?_
      refine oAL (n := 59) X18 hx (hb hby at_57) rfl rfl rfl ?_
      have hc59 : r_13 = r_13 := rfl
      refine ov (B := T18.setTop (mkF m 62 #[iv i0, iv i1, iv i2, iv i3, iv 1, rv r_13, rv r_14, rv b15, rv b15] [])) (fun t k => Jvm.RoadKit.acmp (g := (mkF m 59 #[iv i0, iv i1, iv i2, iv i3, iv 1, rv r_13, rv r_14, rv b15, rv b15] [(.ref r_13), (.ref r_13)])) X18 hx rfl rfl rfl (pc0 := 59) (pc' := 62) (same := true) rfl (hb hby at_59) rfl (decide_eq_true (congrArg Value.ref hc59)) (by decide) (by decide) k) ?_
      refine oIC (n := 63) X18 hx (1 : Int32) (hb hby at_62) (by decide) rfl ?_
      refine oGO (n := 67) X18 hx (hb hby at_63) (by decide) (by decide) ?_
      refine own_leafW X18 hx hlk hS0 (by rw [eq18]; exact (Nat.le_trans (Nat.le_trans (Nat.le_trans (Nat.le_trans hk0 Kq13.1) Kq14.1) E15.1) Kq16.1)) (t := .boolean) Bd.returns (by decide) (Or.inl ⟨rfl, by simp, _, rfl⟩) (hb hby at_67) (by decide) (by decide) ?_
      show Q0 Z i0 i1 i2 i3 zc eD h0 n0 _ T18.heap _
      rw [eq18]
      refine ⟨?_, N18⟩
      rfl
  · rcases own_bs2 (own_ch i1) (own_ch i2) with hB | ⟨hsA, hsB⟩
    · refine oIL (n := 7) X0 hx (hb hby at_5) rfl rfl ?_
      refine oILN (n := 8) X0 hx (hb hby at_7) rfl rfl ?_
      refine oILN (n := 9) X0 hx (hb hby at_8) rfl rfl ?_
      refine oILN (n := 10) X0 hx (hb hby at_9) rfl rfl ?_
      obtain ⟨_, _, ⟨T19, L19, k19, n19⟩, -, X19, ⟨Lc19, hQ19, l19, y19, z19⟩, st19⟩ := Jvm.LawKit.callS X0 hx (y := (⟨sAD, "make", sAF⟩ : MethodName)) hown (mvT hZ (oW hw 0 rfl)) (mvT hZ (oW hw 1 rfl)) (mvT hZ (oW hw 2 rfl)) (mvT hZ (oW hw 3 rfl)) (by decide) (backOf (W := 0) (rmKM21 l Z a0 hw [] i1 i2 i3 zc h0 n0 Z0 O0 (by assumption) (by assumption) (by assumption) (by assumption) (by assumption) hB (own_chU i1) (own_chU i2)) hZ (oW hw 3 rfl) (oW hw 2 rfl) (by decide) (by decide)) (g := (mkF m 10 #[iv i0, iv i1, iv i2, iv i3, iv 2, uu, uu, uu, uu] [(.int i3), (.int i2), (.int i1), (.int 2)])) rfl (by rw [hml]; rfl) (argsL := [(.int 2), (.int i1), (.int i2), (.int i3)]) (rest := []) (lenOf own_pd13 rfl) rfl (by show 2 * 0 + _ ≤ _; exact Nat.le_of_eq rfl) (hb hby at_10) (fun _ _ => ⟨rfl, e0, (by decide : 0 + 4 ≤ _), (by decide : 0 + 12 ≤ _)⟩)
      dsimp only [Pt.U, Pt.locs, Pt.cells, Pt.slots] at X19 l19 y19 z19 st19 hQ19
      subst l19 y19 z19
      obtain ⟨r_19, t_19, kt_19, rfl, Nq19, Kq19, hr_19, ht_19, f19_0, f19_1, f19_2, f19_3⟩ := hQ19
      have N19 := Fr.app N0 Nq19
      have g_r_19 : n0 ≤ r_19 := Nat.le_trans Z0 hr_19
      have g_t_19 : n0 ≤ t_19 := Nat.le_trans Z0 ht_19
      refine ov (B := T19.setTop (mkF m 13 #[iv i0, iv i1, iv i2, iv i3, iv 2, uu, uu, uu, uu] [(.ref r_19)])) (fun t k => st19 t k) ?_
      refine ov (B := T19.setTop (mkF m 15 #[iv i0, iv i1, iv i2, iv i3, iv 2, rv r_19, uu, uu, uu] [])) (fun t k => XS.astore X19.here hx rfl (hb hby at_13) rfl rfl (l' := #[iv i0, iv i1, iv i2, iv i3, iv 2, rv r_19, uu, uu, uu]) rfl k) ?_
      refine oIL (n := 17) X19 hx (hb hby at_15) rfl rfl ?_
      refine oILN (n := 18) X19 hx (hb hby at_17) rfl rfl ?_
      refine oILN (n := 19) X19 hx (hb hby at_18) rfl rfl ?_
      refine oILN (n := 20) X19 hx (hb hby at_19) rfl rfl ?_
      obtain ⟨_, _, ⟨T20, L20, k20, n20⟩, -, X20, ⟨Lc20, hQ20, l20, y20, z20⟩, st20⟩ := Jvm.LawKit.callS X19 hx (y := (⟨sAD, "make", sAF⟩ : MethodName)) hown (mvT hZ (oW hw 0 rfl)) (mvT hZ (oW hw 1 rfl)) (mvT hZ (oW hw 2 rfl)) (mvT hZ (oW hw 3 rfl)) (by decide) (backOf (W := 0) (rmKM21 l Z a0 hw [] i1 i2 i3 zc T19.heap n0 (Nat.le_trans Z0 Kq19.1) (O0.keep Kq19 all0) (by assumption) (by assumption) (by assumption) (by assumption) (by assumption) hB (own_chU i1) (own_chU i2)) hZ (oW hw 3 rfl) (oW hw 2 rfl) (by decide) (by decide)) (g := (mkF m 20 #[iv i0, iv i1, iv i2, iv i3, iv 2, rv r_19, uu, uu, uu] [(.int i3), (.int i2), (.int i1), (.int 2)])) rfl (by rw [hml]; rfl) (argsL := [(.int 2), (.int i1), (.int i2), (.int i3)]) (rest := []) (lenOf own_pd13 rfl) rfl (by show 2 * 0 + _ ≤ _; exact Nat.le_of_eq rfl) (hb hby at_20) (fun _ _ => ⟨rfl, rfl, (by decide : (0 + 4) + 4 ≤ _), (by decide : (0 + 12) + 12 ≤ _)⟩)
      dsimp only [Pt.U, Pt.locs, Pt.cells, Pt.slots] at X20 l20 y20 z20 st20 hQ20
      subst l20 y20 z20
      obtain ⟨r_20, t_20, kt_20, rfl, Nq20, Kq20, hr_20, ht_20, f20_0, f20_1, f20_2, f20_3⟩ := hQ20
      have N20 := Fr.app N19 Nq20
      have g_r_20 : n0 ≤ r_20 := Nat.le_trans (Nat.le_trans Z0 Kq19.1) hr_20
      have g_t_20 : n0 ≤ t_20 := Nat.le_trans (Nat.le_trans Z0 Kq19.1) ht_20
      refine ov (B := T20.setTop (mkF m 23 #[iv i0, iv i1, iv i2, iv i3, iv 2, rv r_19, uu, uu, uu] [(.ref r_20)])) (fun t k => st20 t k) ?_
      refine ov (B := T20.setTop (mkF m 25 #[iv i0, iv i1, iv i2, iv i3, iv 2, rv r_19, rv r_20, uu, uu] [])) (fun t k => XS.astore X20.here hx rfl (hb hby at_23) rfl rfl (l' := #[iv i0, iv i1, iv i2, iv i3, iv 2, rv r_19, rv r_20, uu, uu]) rfl k) ?_
      obtain ⟨T21, h21, X21, e21, E21, A21, D21, -, st21⟩ := newO X20 hx hZ hown (oW hw 27 rfl) (oW hw 28 rfl) (oW hw 29 rfl) rfl (g := (mkF m 25 #[iv i0, iv i1, iv i2, iv i3, iv 2, rv r_19, rv r_20, uu, uu] [])) rfl (hb hby at_25) (by decide) (by decide)
      obtain ⟨b21, g21⟩ : ∃ z, z = T20.heap.size := ⟨_, rfl⟩
      rw [← g21] at A21 D21 st21
      have g_b21 : n0 ≤ b21 := Nat.le_trans (Nat.le_trans (Nat.le_trans Z0 Kq19.1) Kq20.1) (Nat.le_of_eq g21.symm)
      have F21_attributes : Fld Z h21 b21 sAC "attributes" "Ljava/util/Map;" .null := D21 (Or.inr (oW hw 61 rfl)) (ty := (.object "java/util/Map")) (by decide)
      have F21_text : Fld Z h21 b21 sAC "text" "Ljava/lang/StringBuilder;" .null := D21 (Or.inr (oW hw 81 rfl)) (ty := (.object sAK)) (by decide)
      have F21_children : Fld Z h21 b21 sAC "children" "Ljava/util/List;" .null := D21 (Or.inr (oW hw 107 rfl)) (ty := (.object "java/util/List")) (by decide)
      have F21_name : Fld Z h21 b21 sAC "name" sAP .null := D21 (Or.inr (oW hw 109 rfl)) (ty := (.object sAA)) (by decide)
      refine ov (B := T21.setTop (mkF m 28 #[iv i0, iv i1, iv i2, iv i3, iv 2, rv r_19, rv r_20, uu, uu] [(.ref b21)])) (fun t k => st21 t k) ?_
      refine oDU (n := 29) X21 hx (hb hby at_28) rfl rfl ?_
      refine oAL (n := 31) X21 hx (hb hby at_29) rfl rfl rfl ?_
      obtain ⟨_, _, ⟨T22, L22, k22, n22⟩, -, X22, ⟨Lc22, hQ22, l22, y22, z22⟩, st22⟩ := X21.specialBack hx (y := (⟨sAC, "<init>", sAR⟩ : MethodName)) rfl hown (mvT hZ (oW hw 30 rfl)) (mvT hZ (oW hw 31 rfl)) (mvT hZ (oW hw 32 rfl)) (by decide) (backOf (W := 1) (rmXI l Z a0 hw [] b21 r_19 zc eD .null .null .null .null h21 n0 (Nat.le_trans (Nat.le_trans (Nat.le_trans Z0 Kq19.1) Kq20.1) E21.1) (((O0.keep Kq19 all0).keep Kq20 all0).ext E21) (by assumption) (by assumption) (by assumption) A21 F21_attributes F21_text F21_children F21_name g_b21) hZ (oW hw 32 rfl) (oW hw 29 rfl) (by decide) (by decide)) (g := (mkF m 31 #[iv i0, iv i1, iv i2, iv i3, iv 2, rv r_19, rv r_20, uu, uu] [(.ref r_19), (.ref b21), (.ref b21)])) rfl (by rw [hml]; rfl) (Steps.refl _) (a := b21) (argsL := [(.ref r_19)]) (rest := [(.ref b21)]) (lenOf own_pd14 rfl) rfl (by show 2 * 0 + _ ≤ _; exact Nat.le_of_eq rfl) (hb hby at_31) (fun _ _ => ⟨rfl, e21, (by decide : (((0 + 4) + 4) + 1) + 4 ≤ _), (by decide : (((0 + 12) + 12) + 4) + 35 ≤ _)⟩)
      dsimp only [Pt.U, Pt.locs, Pt.cells, Pt.slots] at X22 l22 y22 z22 st22 hQ22
      subst l22 y22 z22
      obtain ⟨rfl, Nq22, Kq22, f22_0⟩ := hQ22
      have N22 := Fr.app N20 Nq22
      refine ov (B := T22.setTop (mkF m 34 #[iv i0, iv i1, iv i2, iv i3, iv 2, rv r_19, rv r_20, uu, uu] [(.ref b21)])) (fun t k => st22.trans k) ?_
      refine ov (B := T22.setTop (mkF m 36 #[iv i0, iv i1, iv i2, iv i3, iv 2, rv r_19, rv r_20, rv b21, uu] [])) (fun t k => XS.astore X22.here hx rfl (hb hby at_34) rfl rfl (l' := #[iv i0, iv i1, iv i2, iv i3, iv 2, rv r_19, rv r_20, rv b21, uu]) rfl k) ?_
      refine oAL (n := 38) X22 hx (hb hby at_36) rfl rfl rfl ?_
      refine oAL (n := 40) X22 hx (hb hby at_38) rfl rfl rfl ?_
      obtain ⟨cq23, kq23, q23a, q23b, q23c⟩ := isOf hZ rfl (A21.keep Kq22)
      obtain ⟨_, _, ⟨T23, L23, k23, n23⟩, -, X23, ⟨Lc23, hQ23, l23, y23, z23⟩, st23⟩ := X22.virtualBack hx (y := (⟨sAC, "requireName", sAE⟩ : MethodName)) (z := (⟨sAC, "requireName", sAE⟩ : MethodName)) hown (mvT hZ (oW hw 110 rfl)) (mvT hZ (oW hw 111 rfl)) (notFace_of_selects (args := #[]) (mvT hZ (oW hw 113 rfl))) (mvT hZ (oW hw 113 rfl)) (mvT hZ (oW hw 112 rfl)) (by decide) (backOf (W := 0) (rmXR4 l Z a0 hw [] b21 r_20 r_19 zc t_19 t_20 kt_19 kt_20 (1 : Int32) ((own_ch i1) >>> ((0 : Int32) &&& 31)).toInt8.toInt32.toInt8.toInt32 ((own_ch i1) >>> ((8 : Int32) &&& 31)).toInt8.toInt32.toInt8.toInt32 ((own_ch i2) >>> ((0 : Int32) &&& 31)).toInt8.toInt32.toInt8.toInt32 ((own_ch i2) >>> ((8 : Int32) &&& 31)).toInt8.toInt32.toInt8.toInt32 T22.heap n0 (Nat.le_trans (Nat.le_trans (Nat.le_trans (Nat.le_trans Z0 Kq19.1) Kq20.1) E21.1) Kq22.1) ((((O0.keep Kq19 all0).keep Kq20 all0).ext E21).keep Kq22 (allS g_b21 all0)) (by assumption) (by assumption) f22_0 (((f19_0.keep Kq20).ext E21).keep Kq22) (((f19_1.keep Kq20 nin0).ext E21).keep Kq22 (ninS (Nat.ne_of_lt (Nat.lt_of_lt_of_le (f19_0.keep Kq20).lt (Nat.le_of_eq g21.symm))) nin0)) (((f19_2.keep Kq20 nin0).ext E21).keep Kq22 (ninS (Nat.ne_of_lt (Nat.lt_of_lt_of_le (f19_0.keep Kq20).lt (Nat.le_of_eq g21.symm))) nin0)) (((f19_3.keep Kq20 nin0).ext E21).keep Kq22 (ninS (Nat.ne_of_lt (Nat.lt_of_lt_of_le (f19_3.keep Kq20 nin0).lt (Nat.le_of_eq g21.symm))) nin0)) ((f20_0.ext E21).keep Kq22) ((f20_1.ext E21).keep Kq22 (ninS (Nat.ne_of_lt (Nat.lt_of_lt_of_le f20_0.lt (Nat.le_of_eq g21.symm))) nin0)) ((f20_2.ext E21).keep Kq22 (ninS (Nat.ne_of_lt (Nat.lt_of_lt_of_le f20_0.lt (Nat.le_of_eq g21.symm))) nin0)) ((f20_3.ext E21).keep Kq22 (ninS (Nat.ne_of_lt (Nat.lt_of_lt_of_le f20_3.lt (Nat.le_of_eq g21.symm))) nin0))) hZ (oW hw 114 rfl) (oW hw 29 rfl) (by decide) (by decide)) q23a q23c (g := (mkF m 40 #[iv i0, iv i1, iv i2, iv i3, iv 2, rv r_19, rv r_20, rv b21, uu] [(.ref r_20), (.ref b21)])) rfl (by rw [hml]; rfl) (Steps.refl _) (argsL := [(.ref r_20)]) (rest := []) (lenOf own_pd15 rfl) rfl (by show 2 * 0 + _ ≤ _; exact Nat.le_of_eq rfl) (hb hby at_40) (fun _ _ => ⟨rfl, rfl, (by decide : ((((0 + 4) + 4) + 1) + 4) + 0 ≤ _), (by decide : ((((0 + 12) + 12) + 4) + 35) + 0 ≤ _)⟩)
      dsimp only [Pt.U, Pt.locs, Pt.cells, Pt.slots] at X23 l23 y23 z23 st23 hQ23
      subst l23 y23 z23
      obtain ⟨rfl, Nq23, eq23⟩ := hQ23
      have N23 := Fr.app N22 Nq23
      refine ov (B := T23.setTop (mkF m 43 #[iv i0, iv i1, iv i2, iv i3, iv 2, rv r_19, rv r_20, rv b21, uu] [(.ref b21)])) (fun t k => st23.trans k) ?_
      refine ov (B := T23.setTop (mkF m 45 #[iv i0, iv i1, iv i2, iv i3, iv 2, rv r_19, rv r_20, rv b21, rv b21] [])) (fun t k => XS.astore X23.here hx rfl (hb hby at_43) rfl rfl (l' := #[iv i0, iv i1, iv i2, iv i3, iv 2, rv r_19, rv r_20, rv b21, rv b21]) rfl k) ?_
      refine oAL (n := 47) X23 hx (hb hby at_45) rfl rfl rfl ?_
      refine oAL (n := 49) X23 hx (hb hby at_47) rfl rfl rfl ?_
      have hc49 : b21 = b21 := rfl
      refine ov (B := T23.setTop (mkF m 52 #[iv i0, iv i1, iv i2, iv i3, iv 2, rv r_19, rv r_20, rv b21, rv b21] [])) (fun t k => Jvm.RoadKit.acmp (g := (mkF m 49 #[iv i0, iv i1, iv i2, iv i3, iv 2, rv r_19, rv r_20, rv b21, rv b21] [(.ref b21), (.ref b21)])) X23 hx rfl rfl rfl (pc0 := 49) (pc' := 52) (same := true) rfl (hb hby at_49) rfl (decide_eq_true (congrArg Value.ref hc49)) (by decide) (by decide) k) ?_
      refine oAL (n := 54) X23 hx (hb hby at_52) rfl rfl rfl ?_
      obtain ⟨cq24, kq24, q24a, q24b, q24c⟩ := isOf hZ eq23 (A21.keep Kq22)
      obtain ⟨_, _, ⟨T24, L24, k24, n24⟩, -, X24, ⟨Lc24, hQ24, l24, y24, z24⟩, st24⟩ := X23.virtualBack hx (y := (⟨sAC, "name", sAL⟩ : MethodName)) (z := (⟨sAC, "name", sAL⟩ : MethodName)) hown (mvT hZ (oW hw 126 rfl)) (mvT hZ (oW hw 127 rfl)) (notFace_of_selects (args := #[]) (mvT hZ (oW hw 129 rfl))) (mvT hZ (oW hw 129 rfl)) (mvT hZ (oW hw 128 rfl)) (by decide) (backOf (W := 0) (rmXN l Z a0 hw [] b21 r_19 T22.heap n0 (Nat.le_trans (Nat.le_trans (Nat.le_trans (Nat.le_trans Z0 Kq19.1) Kq20.1) E21.1) Kq22.1) f22_0) hZ (oW hw 130 rfl) (oW hw 29 rfl) (by decide) (by decide)) q24a q24c (g := (mkF m 54 #[iv i0, iv i1, iv i2, iv i3, iv 2, rv r_19, rv r_20, rv b21, rv b21] [(.ref b21)])) rfl (by rw [hml]; rfl) (Steps.refl _) (argsL := []) (rest := []) (lenOf own_pd16 rfl) rfl (by show 2 * 0 + _ ≤ _; exact Nat.le_of_eq rfl) (hb hby at_54) (fun _ _ => ⟨rfl, eq23, (by decide : (((((0 + 4) + 4) + 1) + 4) + 0) + 0 ≤ _), (by decide : (((((0 + 12) + 12) + 4) + 35) + 0) + 0 ≤ _)⟩)
      dsimp only [Pt.U, Pt.locs, Pt.cells, Pt.slots] at X24 l24 y24 z24 st24 hQ24
      subst l24 y24 z24
      obtain ⟨rfl, Nq24, eq24⟩ := hQ24
      have N24 := Fr.app N23 Nq24
      refine ov (B := T24.setTop (mkF m 57 #[iv i0, iv i1, iv i2, iv i3, iv 2, rv r_19, rv r_20, rv b21, rv b21] [(.ref r_19)])) (fun t k => st24.trans k) ?_
      refine oAL (n := 59) X24 hx (hb hby at_57) rfl rfl rfl ?_
      have hc59 : r_19 = r_19 := rfl
      refine ov (B := T24.setTop (mkF m 62 #[iv i0, iv i1, iv i2, iv i3, iv 2, rv r_19, rv r_20, rv b21, rv b21] [])) (fun t k => Jvm.RoadKit.acmp (g := (mkF m 59 #[iv i0, iv i1, iv i2, iv i3, iv 2, rv r_19, rv r_20, rv b21, rv b21] [(.ref r_19), (.ref r_19)])) X24 hx rfl rfl rfl (pc0 := 59) (pc' := 62) (same := true) rfl (hb hby at_59) rfl (decide_eq_true (congrArg Value.ref hc59)) (by decide) (by decide) k) ?_
      refine oIC (n := 63) X24 hx (1 : Int32) (hb hby at_62) (by decide) rfl ?_
      refine oGO (n := 67) X24 hx (hb hby at_63) (by decide) (by decide) ?_
      refine own_leafW X24 hx hlk hS0 (by rw [eq24]; exact (Nat.le_trans (Nat.le_trans (Nat.le_trans (Nat.le_trans hk0 Kq19.1) Kq20.1) E21.1) Kq22.1)) (t := .boolean) Bd.returns (by decide) (Or.inl ⟨rfl, by simp, _, rfl⟩) (hb hby at_67) (by decide) (by decide) ?_
      show Q0 Z i0 i1 i2 i3 zc eD h0 n0 _ T24.heap _
      rw [eq24]
      refine ⟨?_, N24⟩
      rfl
    · refine oIL (n := 7) X0 hx (hb hby at_5) rfl rfl ?_
      refine oILN (n := 8) X0 hx (hb hby at_7) rfl rfl ?_
      refine oILN (n := 9) X0 hx (hb hby at_8) rfl rfl ?_
      refine oILN (n := 10) X0 hx (hb hby at_9) rfl rfl ?_
      obtain ⟨_, _, ⟨T25, L25, k25, n25⟩, -, X25, ⟨Lc25, hQ25, l25, y25, z25⟩, st25⟩ := Jvm.LawKit.callS X0 hx (y := (⟨sAD, "make", sAF⟩ : MethodName)) hown (mvT hZ (oW hw 0 rfl)) (mvT hZ (oW hw 1 rfl)) (mvT hZ (oW hw 2 rfl)) (mvT hZ (oW hw 3 rfl)) (by decide) (backOf (W := 0) (rmKM20 l Z a0 hw [] i1 i2 i3 zc h0 n0 Z0 O0 (by assumption) (by assumption) hsA hsB) hZ (oW hw 3 rfl) (oW hw 2 rfl) (by decide) (by decide)) (g := (mkF m 10 #[iv i0, iv i1, iv i2, iv i3, iv 2, uu, uu, uu, uu] [(.int i3), (.int i2), (.int i1), (.int 2)])) rfl (by rw [hml]; rfl) (argsL := [(.int 2), (.int i1), (.int i2), (.int i3)]) (rest := []) (lenOf own_pd13 rfl) rfl (by show 2 * 0 + _ ≤ _; exact Nat.le_of_eq rfl) (hb hby at_10) (fun _ _ => ⟨rfl, e0, (by decide : 0 + 4 ≤ _), (by decide : 0 + 12 ≤ _)⟩)
      dsimp only [Pt.U, Pt.locs, Pt.cells, Pt.slots] at X25 l25 y25 z25 st25 hQ25
      subst l25 y25 z25
      obtain ⟨r_25, t_25, kt_25, rfl, Nq25, Kq25, hr_25, ht_25, f25_0, f25_1, f25_2, f25_3⟩ := hQ25
      have N25 := Fr.app N0 Nq25
      have g_r_25 : n0 ≤ r_25 := Nat.le_trans Z0 hr_25
      have g_t_25 : n0 ≤ t_25 := Nat.le_trans Z0 ht_25
      refine ov (B := T25.setTop (mkF m 13 #[iv i0, iv i1, iv i2, iv i3, iv 2, uu, uu, uu, uu] [(.ref r_25)])) (fun t k => st25 t k) ?_
      refine ov (B := T25.setTop (mkF m 15 #[iv i0, iv i1, iv i2, iv i3, iv 2, rv r_25, uu, uu, uu] [])) (fun t k => XS.astore X25.here hx rfl (hb hby at_13) rfl rfl (l' := #[iv i0, iv i1, iv i2, iv i3, iv 2, rv r_25, uu, uu, uu]) rfl k) ?_
      refine oIL (n := 17) X25 hx (hb hby at_15) rfl rfl ?_
      refine oILN (n := 18) X25 hx (hb hby at_17) rfl rfl ?_
      refine oILN (n := 19) X25 hx (hb hby at_18) rfl rfl ?_
      refine oILN (n := 20) X25 hx (hb hby at_19) rfl rfl ?_
      obtain ⟨_, _, ⟨T26, L26, k26, n26⟩, -, X26, ⟨Lc26, hQ26, l26, y26, z26⟩, st26⟩ := Jvm.LawKit.callS X25 hx (y := (⟨sAD, "make", sAF⟩ : MethodName)) hown (mvT hZ (oW hw 0 rfl)) (mvT hZ (oW hw 1 rfl)) (mvT hZ (oW hw 2 rfl)) (mvT hZ (oW hw 3 rfl)) (by decide) (backOf (W := 0) (rmKM20 l Z a0 hw [] i1 i2 i3 zc T25.heap n0 (Nat.le_trans Z0 Kq25.1) (O0.keep Kq25 all0) (by assumption) (by assumption) hsA hsB) hZ (oW hw 3 rfl) (oW hw 2 rfl) (by decide) (by decide)) (g := (mkF m 20 #[iv i0, iv i1, iv i2, iv i3, iv 2, rv r_25, uu, uu, uu] [(.int i3), (.int i2), (.int i1), (.int 2)])) rfl (by rw [hml]; rfl) (argsL := [(.int 2), (.int i1), (.int i2), (.int i3)]) (rest := []) (lenOf own_pd13 rfl) rfl (by show 2 * 0 + _ ≤ _; exact Nat.le_of_eq rfl) (hb hby at_20) (fun _ _ => ⟨rfl, rfl, (by decide : (0 + 4) + 4 ≤ _), (by decide : (0 + 12) + 12 ≤ _)⟩)
      dsimp only [Pt.U, Pt.locs, Pt.cells, Pt.slots] at X26 l26 y26 z26 st26 hQ26
      subst l26 y26 z26
      obtain ⟨r_26, t_26, kt_26, rfl, Nq26, Kq26, hr_26, ht_26, f26_0, f26_1, f26_2, f26_3⟩ := hQ26
      have N26 := Fr.app N25 Nq26
      have g_r_26 : n0 ≤ r_26 := Nat.le_trans (Nat.le_trans Z0 Kq25.1) hr_26
      have g_t_26 : n0 ≤ t_26 := Nat.le_trans (Nat.le_trans Z0 Kq25.1) ht_26
      refine ov (B := T26.setTop (mkF m 23 #[iv i0, iv i1, iv i2, iv i3, iv 2, rv r_25, uu, uu, uu] [(.ref r_26)])) (fun t k => st26 t k) ?_
      refine ov (B := T26.setTop (mkF m 25 #[iv i0, iv i1, iv i2, iv i3, iv 2, rv r_25, rv r_26, uu, uu] [])) (fun t k => XS.astore X26.here hx rfl (hb hby at_23) rfl rfl (l' := #[iv i0, iv i1, iv i2, iv i3, iv 2, rv r_25, rv r_26, uu, uu]) rfl k) ?_
      obtain ⟨T27, h27, X27, e27, E27, A27, D27, -, st27⟩ := newO X26 hx hZ hown (oW hw 27 rfl) (oW hw 28 rfl) (oW hw 29 rfl) rfl (g := (mkF m 25 #[iv i0, iv i1, iv i2, iv i3, iv 2, rv r_25, rv r_26, uu, uu] [])) rfl (hb hby at_25) (by decide) (by decide)
      obtain ⟨b27, g27⟩ : ∃ z, z = T26.heap.size := ⟨_, rfl⟩
      rw [← g27] at A27 D27 st27
      have g_b27 : n0 ≤ b27 := Nat.le_trans (Nat.le_trans (Nat.le_trans Z0 Kq25.1) Kq26.1) (Nat.le_of_eq g27.symm)
      have F27_attributes : Fld Z h27 b27 sAC "attributes" "Ljava/util/Map;" .null := D27 (Or.inr (oW hw 61 rfl)) (ty := (.object "java/util/Map")) (by decide)
      have F27_text : Fld Z h27 b27 sAC "text" "Ljava/lang/StringBuilder;" .null := D27 (Or.inr (oW hw 81 rfl)) (ty := (.object sAK)) (by decide)
      have F27_children : Fld Z h27 b27 sAC "children" "Ljava/util/List;" .null := D27 (Or.inr (oW hw 107 rfl)) (ty := (.object "java/util/List")) (by decide)
      have F27_name : Fld Z h27 b27 sAC "name" sAP .null := D27 (Or.inr (oW hw 109 rfl)) (ty := (.object sAA)) (by decide)
      refine ov (B := T27.setTop (mkF m 28 #[iv i0, iv i1, iv i2, iv i3, iv 2, rv r_25, rv r_26, uu, uu] [(.ref b27)])) (fun t k => st27 t k) ?_
      refine oDU (n := 29) X27 hx (hb hby at_28) rfl rfl ?_
      refine oAL (n := 31) X27 hx (hb hby at_29) rfl rfl rfl ?_
      obtain ⟨_, _, ⟨T28, L28, k28, n28⟩, -, X28, ⟨Lc28, hQ28, l28, y28, z28⟩, st28⟩ := X27.specialBack hx (y := (⟨sAC, "<init>", sAR⟩ : MethodName)) rfl hown (mvT hZ (oW hw 30 rfl)) (mvT hZ (oW hw 31 rfl)) (mvT hZ (oW hw 32 rfl)) (by decide) (backOf (W := 1) (rmXI l Z a0 hw [] b27 r_25 zc eD .null .null .null .null h27 n0 (Nat.le_trans (Nat.le_trans (Nat.le_trans Z0 Kq25.1) Kq26.1) E27.1) (((O0.keep Kq25 all0).keep Kq26 all0).ext E27) (by assumption) (by assumption) (by assumption) A27 F27_attributes F27_text F27_children F27_name g_b27) hZ (oW hw 32 rfl) (oW hw 29 rfl) (by decide) (by decide)) (g := (mkF m 31 #[iv i0, iv i1, iv i2, iv i3, iv 2, rv r_25, rv r_26, uu, uu] [(.ref r_25), (.ref b27), (.ref b27)])) rfl (by rw [hml]; rfl) (Steps.refl _) (a := b27) (argsL := [(.ref r_25)]) (rest := [(.ref b27)]) (lenOf own_pd14 rfl) rfl (by show 2 * 0 + _ ≤ _; exact Nat.le_of_eq rfl) (hb hby at_31) (fun _ _ => ⟨rfl, e27, (by decide : (((0 + 4) + 4) + 1) + 4 ≤ _), (by decide : (((0 + 12) + 12) + 4) + 35 ≤ _)⟩)
      dsimp only [Pt.U, Pt.locs, Pt.cells, Pt.slots] at X28 l28 y28 z28 st28 hQ28
      subst l28 y28 z28
      obtain ⟨rfl, Nq28, Kq28, f28_0⟩ := hQ28
      have N28 := Fr.app N26 Nq28
      refine ov (B := T28.setTop (mkF m 34 #[iv i0, iv i1, iv i2, iv i3, iv 2, rv r_25, rv r_26, uu, uu] [(.ref b27)])) (fun t k => st28.trans k) ?_
      refine ov (B := T28.setTop (mkF m 36 #[iv i0, iv i1, iv i2, iv i3, iv 2, rv r_25, rv r_26, rv b27, uu] [])) (fun t k => XS.astore X28.here hx rfl (hb hby at_34) rfl rfl (l' := #[iv i0, iv i1, iv i2, iv i3, iv 2, rv r_25, rv r_26, rv b27, uu]) rfl k) ?_
      refine oAL (n := 38) X28 hx (hb hby at_36) rfl rfl rfl ?_
      refine oAL (n := 40) X28 hx (hb hby at_38) rfl rfl rfl ?_
      obtain ⟨cq29, kq29, q29a, q29b, q29c⟩ := isOf hZ rfl (A27.keep Kq28)
      obtain ⟨_, _, ⟨T29, L29, k29, n29⟩, -, X29, ⟨Lc29, hQ29, l29, y29, z29⟩, st29⟩ := X28.virtualBack hx (y := (⟨sAC, "requireName", sAE⟩ : MethodName)) (z := (⟨sAC, "requireName", sAE⟩ : MethodName)) hown (mvT hZ (oW hw 110 rfl)) (mvT hZ (oW hw 111 rfl)) (notFace_of_selects (args := #[]) (mvT hZ (oW hw 113 rfl))) (mvT hZ (oW hw 113 rfl)) (mvT hZ (oW hw 112 rfl)) (by decide) (backOf (W := 0) (rmXR2 l Z a0 hw [] b27 r_26 r_25 zc t_25 t_26 kt_25 kt_26 (0 : Int32) (own_ch i1).toInt8.toInt32.toInt8.toInt32 (own_ch i2).toInt8.toInt32.toInt8.toInt32 T28.heap n0 (Nat.le_trans (Nat.le_trans (Nat.le_trans (Nat.le_trans Z0 Kq25.1) Kq26.1) E27.1) Kq28.1) ((((O0.keep Kq25 all0).keep Kq26 all0).ext E27).keep Kq28 (allS g_b27 all0)) (by assumption) (by assumption) f28_0 (((f25_0.keep Kq26).ext E27).keep Kq28) (((f25_1.keep Kq26 nin0).ext E27).keep Kq28 (ninS (Nat.ne_of_lt (Nat.lt_of_lt_of_le (f25_0.keep Kq26).lt (Nat.le_of_eq g27.symm))) nin0)) (((f25_2.keep Kq26 nin0).ext E27).keep Kq28 (ninS (Nat.ne_of_lt (Nat.lt_of_lt_of_le (f25_0.keep Kq26).lt (Nat.le_of_eq g27.symm))) nin0)) (((f25_3.keep Kq26 nin0).ext E27).keep Kq28 (ninS (Nat.ne_of_lt (Nat.lt_of_lt_of_le (f25_3.keep Kq26 nin0).lt (Nat.le_of_eq g27.symm))) nin0)) ((f26_0.ext E27).keep Kq28) ((f26_1.ext E27).keep Kq28 (ninS (Nat.ne_of_lt (Nat.lt_of_lt_of_le f26_0.lt (Nat.le_of_eq g27.symm))) nin0)) ((f26_2.ext E27).keep Kq28 (ninS (Nat.ne_of_lt (Nat.lt_of_lt_of_le f26_0.lt (Nat.le_of_eq g27.symm))) nin0)) ((f26_3.ext E27).keep Kq28 (ninS (Nat.ne_of_lt (Nat.lt_of_lt_of_le f26_3.lt (Nat.le_of_eq g27.symm))) nin0))) hZ (oW hw 114 rfl) (oW hw 29 rfl) (by decide) (by decide)) q29a q29c (g := (mkF m 40 #[iv i0, iv i1, iv i2, iv i3, iv 2, rv r_25, rv r_26, rv b27, uu] [(.ref r_26), (.ref b27)])) rfl (by rw [hml]; rfl) (Steps.refl _) (argsL := [(.ref r_26)]) (rest := []) (lenOf own_pd15 rfl) rfl (by show 2 * 0 + _ ≤ _; exact Nat.le_of_eq rfl) (hb hby at_40) (fun _ _ => ⟨rfl, rfl, (by decide : ((((0 + 4) + 4) + 1) + 4) + 0 ≤ _), (by decide : ((((0 + 12) + 12) + 4) + 35) + 0 ≤ _)⟩)
      dsimp only [Pt.U, Pt.locs, Pt.cells, Pt.slots] at X29 l29 y29 z29 st29 hQ29
      subst l29 y29 z29
      obtain ⟨rfl, Nq29, eq29⟩ := hQ29
      have N29 := Fr.app N28 Nq29
      refine ov (B := T29.setTop (mkF m 43 #[iv i0, iv i1, iv i2, iv i3, iv 2, rv r_25, rv r_26, rv b27, uu] [(.ref b27)])) (fun t k => st29.trans k) ?_
      refine ov (B := T29.setTop (mkF m 45 #[iv i0, iv i1, iv i2, iv i3, iv 2, rv r_25, rv r_26, rv b27, rv b27] [])) (fun t k => XS.astore X29.here hx rfl (hb hby at_43) rfl rfl (l' := #[iv i0, iv i1, iv i2, iv i3, iv 2, rv r_25, rv r_26, rv b27, rv b27]) rfl k) ?_
      refine oAL (n := 47) X29 hx (hb hby at_45) rfl rfl rfl ?_
      refine oAL (n := 49) X29 hx (hb hby at_47) rfl rfl rfl ?_
      have hc49 : b27 = b27 := rfl
      refine ov (B := T29.setTop (mkF m 52 #[iv i0, iv i1, iv i2, iv i3, iv 2, rv r_25, rv r_26, rv b27, rv b27] [])) (fun t k => Jvm.RoadKit.acmp (g := (mkF m 49 #[iv i0, iv i1, iv i2, iv i3, iv 2, rv r_25, rv r_26, rv b27, rv b27] [(.ref b27), (.ref b27)])) X29 hx rfl rfl rfl (pc0 := 49) (pc' := 52) (same := true) rfl (hb hby at_49) rfl (decide_eq_true (congrArg Value.ref hc49)) (by decide) (by decide) k) ?_
      refine oAL (n := 54) X29 hx (hb hby at_52) rfl rfl rfl ?_
      obtain ⟨cq30, kq30, q30a, q30b, q30c⟩ := isOf hZ eq29 (A27.keep Kq28)
      obtain ⟨_, _, ⟨T30, L30, k30, n30⟩, -, X30, ⟨Lc30, hQ30, l30, y30, z30⟩, st30⟩ := X29.virtualBack hx (y := (⟨sAC, "name", sAL⟩ : MethodName)) (z := (⟨sAC, "name", sAL⟩ : MethodName)) hown (mvT hZ (oW hw 126 rfl)) (mvT hZ (oW hw 127 rfl)) (notFace_of_selects (args := #[]) (mvT hZ (oW hw 129 rfl))) (mvT hZ (oW hw 129 rfl)) (mvT hZ (oW hw 128 rfl)) (by decide) (backOf (W := 0) (rmXN l Z a0 hw [] b27 r_25 T28.heap n0 (Nat.le_trans (Nat.le_trans (Nat.le_trans (Nat.le_trans Z0 Kq25.1) Kq26.1) E27.1) Kq28.1) f28_0) hZ (oW hw 130 rfl) (oW hw 29 rfl) (by decide) (by decide)) q30a q30c (g := (mkF m 54 #[iv i0, iv i1, iv i2, iv i3, iv 2, rv r_25, rv r_26, rv b27, rv b27] [(.ref b27)])) rfl (by rw [hml]; rfl) (Steps.refl _) (argsL := []) (rest := []) (lenOf own_pd16 rfl) rfl (by show 2 * 0 + _ ≤ _; exact Nat.le_of_eq rfl) (hb hby at_54) (fun _ _ => ⟨rfl, eq29, (by decide : (((((0 + 4) + 4) + 1) + 4) + 0) + 0 ≤ _), (by decide : (((((0 + 12) + 12) + 4) + 35) + 0) + 0 ≤ _)⟩)
      dsimp only [Pt.U, Pt.locs, Pt.cells, Pt.slots] at X30 l30 y30 z30 st30 hQ30
      subst l30 y30 z30
      obtain ⟨rfl, Nq30, eq30⟩ := hQ30
      have N30 := Fr.app N29 Nq30
      refine ov (B := T30.setTop (mkF m 57 #[iv i0, iv i1, iv i2, iv i3, iv 2, rv r_25, rv r_26, rv b27, rv b27] [(.ref r_25)])) (fun t k => st30.trans k) ?_
      refine oAL (n := 59) X30 hx (hb hby at_57) rfl rfl rfl ?_
      have hc59 : r_25 = r_25 := rfl
      refine ov (B := T30.setTop (mkF m 62 #[iv i0, iv i1, iv i2, iv i3, iv 2, rv r_25, rv r_26, rv b27, rv b27] [])) (fun t k => Jvm.RoadKit.acmp (g := (mkF m 59 #[iv i0, iv i1, iv i2, iv i3, iv 2, rv r_25, rv r_26, rv b27, rv b27] [(.ref r_25), (.ref r_25)])) X30 hx rfl rfl rfl (pc0 := 59) (pc' := 62) (same := true) rfl (hb hby at_59) rfl (decide_eq_true (congrArg Value.ref hc59)) (by decide) (by decide) k) ?_
      refine oIC (n := 63) X30 hx (1 : Int32) (hb hby at_62) (by decide) rfl ?_
      refine oGO (n := 67) X30 hx (hb hby at_63) (by decide) (by decide) ?_
      refine own_leafW X30 hx hlk hS0 (by rw [eq30]; exact (Nat.le_trans (Nat.le_trans (Nat.le_trans (Nat.le_trans hk0 Kq25.1) Kq26.1) E27.1) Kq28.1)) (t := .boolean) Bd.returns (by decide) (Or.inl ⟨rfl, by simp, _, rfl⟩) (hb hby at_67) (by decide) (by decide) ?_
      show Q0 Z i0 i1 i2 i3 zc eD h0 n0 _ T30.heap _
      rw [eq30]
      refine ⟨?_, N30⟩
      rfl
  · rcases own_bs3 (own_ch i1) (own_ch i2) (own_ch i3) with hB | ⟨hsA, hsB, hsC⟩
    · refine oIL (n := 7) X0 hx (hb hby at_5) rfl rfl ?_
      refine oILN (n := 8) X0 hx (hb hby at_7) rfl rfl ?_
      refine oILN (n := 9) X0 hx (hb hby at_8) rfl rfl ?_
      refine oILN (n := 10) X0 hx (hb hby at_9) rfl rfl ?_
      obtain ⟨_, _, ⟨T31, L31, k31, n31⟩, -, X31, ⟨Lc31, hQ31, l31, y31, z31⟩, st31⟩ := Jvm.LawKit.callS X0 hx (y := (⟨sAD, "make", sAF⟩ : MethodName)) hown (mvT hZ (oW hw 0 rfl)) (mvT hZ (oW hw 1 rfl)) (mvT hZ (oW hw 2 rfl)) (mvT hZ (oW hw 3 rfl)) (by decide) (backOf (W := 0) (rmKM31 l Z a0 hw [] i1 i2 i3 zc h0 n0 Z0 O0 (by assumption) (by assumption) (by assumption) (by assumption) (by assumption) hB (own_chU i1) (own_chU i2) (own_chU i3)) hZ (oW hw 3 rfl) (oW hw 2 rfl) (by decide) (by decide)) (g := (mkF m 10 #[iv i0, iv i1, iv i2, iv i3, iv 3, uu, uu, uu, uu] [(.int i3), (.int i2), (.int i1), (.int 3)])) rfl (by rw [hml]; rfl) (argsL := [(.int 3), (.int i1), (.int i2), (.int i3)]) (rest := []) (lenOf own_pd13 rfl) rfl (by show 2 * 0 + _ ≤ _; exact Nat.le_of_eq rfl) (hb hby at_10) (fun _ _ => ⟨rfl, e0, (by decide : 0 + 4 ≤ _), (by decide : 0 + 16 ≤ _)⟩)
      dsimp only [Pt.U, Pt.locs, Pt.cells, Pt.slots] at X31 l31 y31 z31 st31 hQ31
      subst l31 y31 z31
      obtain ⟨r_31, t_31, kt_31, rfl, Nq31, Kq31, hr_31, ht_31, f31_0, f31_1, f31_2, f31_3⟩ := hQ31
      have N31 := Fr.app N0 Nq31
      have g_r_31 : n0 ≤ r_31 := Nat.le_trans Z0 hr_31
      have g_t_31 : n0 ≤ t_31 := Nat.le_trans Z0 ht_31
      refine ov (B := T31.setTop (mkF m 13 #[iv i0, iv i1, iv i2, iv i3, iv 3, uu, uu, uu, uu] [(.ref r_31)])) (fun t k => st31 t k) ?_
      refine ov (B := T31.setTop (mkF m 15 #[iv i0, iv i1, iv i2, iv i3, iv 3, rv r_31, uu, uu, uu] [])) (fun t k => XS.astore X31.here hx rfl (hb hby at_13) rfl rfl (l' := #[iv i0, iv i1, iv i2, iv i3, iv 3, rv r_31, uu, uu, uu]) rfl k) ?_
      refine oIL (n := 17) X31 hx (hb hby at_15) rfl rfl ?_
      refine oILN (n := 18) X31 hx (hb hby at_17) rfl rfl ?_
      refine oILN (n := 19) X31 hx (hb hby at_18) rfl rfl ?_
      refine oILN (n := 20) X31 hx (hb hby at_19) rfl rfl ?_
      obtain ⟨_, _, ⟨T32, L32, k32, n32⟩, -, X32, ⟨Lc32, hQ32, l32, y32, z32⟩, st32⟩ := Jvm.LawKit.callS X31 hx (y := (⟨sAD, "make", sAF⟩ : MethodName)) hown (mvT hZ (oW hw 0 rfl)) (mvT hZ (oW hw 1 rfl)) (mvT hZ (oW hw 2 rfl)) (mvT hZ (oW hw 3 rfl)) (by decide) (backOf (W := 0) (rmKM31 l Z a0 hw [] i1 i2 i3 zc T31.heap n0 (Nat.le_trans Z0 Kq31.1) (O0.keep Kq31 all0) (by assumption) (by assumption) (by assumption) (by assumption) (by assumption) hB (own_chU i1) (own_chU i2) (own_chU i3)) hZ (oW hw 3 rfl) (oW hw 2 rfl) (by decide) (by decide)) (g := (mkF m 20 #[iv i0, iv i1, iv i2, iv i3, iv 3, rv r_31, uu, uu, uu] [(.int i3), (.int i2), (.int i1), (.int 3)])) rfl (by rw [hml]; rfl) (argsL := [(.int 3), (.int i1), (.int i2), (.int i3)]) (rest := []) (lenOf own_pd13 rfl) rfl (by show 2 * 0 + _ ≤ _; exact Nat.le_of_eq rfl) (hb hby at_20) (fun _ _ => ⟨rfl, rfl, (by decide : (0 + 4) + 4 ≤ _), (by decide : (0 + 16) + 16 ≤ _)⟩)
      dsimp only [Pt.U, Pt.locs, Pt.cells, Pt.slots] at X32 l32 y32 z32 st32 hQ32
      subst l32 y32 z32
      obtain ⟨r_32, t_32, kt_32, rfl, Nq32, Kq32, hr_32, ht_32, f32_0, f32_1, f32_2, f32_3⟩ := hQ32
      have N32 := Fr.app N31 Nq32
      have g_r_32 : n0 ≤ r_32 := Nat.le_trans (Nat.le_trans Z0 Kq31.1) hr_32
      have g_t_32 : n0 ≤ t_32 := Nat.le_trans (Nat.le_trans Z0 Kq31.1) ht_32
      refine ov (B := T32.setTop (mkF m 23 #[iv i0, iv i1, iv i2, iv i3, iv 3, rv r_31, uu, uu, uu] [(.ref r_32)])) (fun t k => st32 t k) ?_
      refine ov (B := T32.setTop (mkF m 25 #[iv i0, iv i1, iv i2, iv i3, iv 3, rv r_31, rv r_32, uu, uu] [])) (fun t k => XS.astore X32.here hx rfl (hb hby at_23) rfl rfl (l' := #[iv i0, iv i1, iv i2, iv i3, iv 3, rv r_31, rv r_32, uu, uu]) rfl k) ?_
      obtain ⟨T33, h33, X33, e33, E33, A33, D33, -, st33⟩ := newO X32 hx hZ hown (oW hw 27 rfl) (oW hw 28 rfl) (oW hw 29 rfl) rfl (g := (mkF m 25 #[iv i0, iv i1, iv i2, iv i3, iv 3, rv r_31, rv r_32, uu, uu] [])) rfl (hb hby at_25) (by decide) (by decide)
      obtain ⟨b33, g33⟩ : ∃ z, z = T32.heap.size := ⟨_, rfl⟩
      rw [← g33] at A33 D33 st33
      have g_b33 : n0 ≤ b33 := Nat.le_trans (Nat.le_trans (Nat.le_trans Z0 Kq31.1) Kq32.1) (Nat.le_of_eq g33.symm)
      have F33_attributes : Fld Z h33 b33 sAC "attributes" "Ljava/util/Map;" .null := D33 (Or.inr (oW hw 61 rfl)) (ty := (.object "java/util/Map")) (by decide)
      have F33_text : Fld Z h33 b33 sAC "text" "Ljava/lang/StringBuilder;" .null := D33 (Or.inr (oW hw 81 rfl)) (ty := (.object sAK)) (by decide)
      have F33_children : Fld Z h33 b33 sAC "children" "Ljava/util/List;" .null := D33 (Or.inr (oW hw 107 rfl)) (ty := (.object "java/util/List")) (by decide)
      have F33_name : Fld Z h33 b33 sAC "name" sAP .null := D33 (Or.inr (oW hw 109 rfl)) (ty := (.object sAA)) (by decide)
      refine ov (B := T33.setTop (mkF m 28 #[iv i0, iv i1, iv i2, iv i3, iv 3, rv r_31, rv r_32, uu, uu] [(.ref b33)])) (fun t k => st33 t k) ?_
      refine oDU (n := 29) X33 hx (hb hby at_28) rfl rfl ?_
      refine oAL (n := 31) X33 hx (hb hby at_29) rfl rfl rfl ?_
      obtain ⟨_, _, ⟨T34, L34, k34, n34⟩, -, X34, ⟨Lc34, hQ34, l34, y34, z34⟩, st34⟩ := X33.specialBack hx (y := (⟨sAC, "<init>", sAR⟩ : MethodName)) rfl hown (mvT hZ (oW hw 30 rfl)) (mvT hZ (oW hw 31 rfl)) (mvT hZ (oW hw 32 rfl)) (by decide) (backOf (W := 1) (rmXI l Z a0 hw [] b33 r_31 zc eD .null .null .null .null h33 n0 (Nat.le_trans (Nat.le_trans (Nat.le_trans Z0 Kq31.1) Kq32.1) E33.1) (((O0.keep Kq31 all0).keep Kq32 all0).ext E33) (by assumption) (by assumption) (by assumption) A33 F33_attributes F33_text F33_children F33_name g_b33) hZ (oW hw 32 rfl) (oW hw 29 rfl) (by decide) (by decide)) (g := (mkF m 31 #[iv i0, iv i1, iv i2, iv i3, iv 3, rv r_31, rv r_32, uu, uu] [(.ref r_31), (.ref b33), (.ref b33)])) rfl (by rw [hml]; rfl) (Steps.refl _) (a := b33) (argsL := [(.ref r_31)]) (rest := [(.ref b33)]) (lenOf own_pd14 rfl) rfl (by show 2 * 0 + _ ≤ _; exact Nat.le_of_eq rfl) (hb hby at_31) (fun _ _ => ⟨rfl, e33, (by decide : (((0 + 4) + 4) + 1) + 4 ≤ _), (by decide : (((0 + 16) + 16) + 4) + 35 ≤ _)⟩)
      dsimp only [Pt.U, Pt.locs, Pt.cells, Pt.slots] at X34 l34 y34 z34 st34 hQ34
      subst l34 y34 z34
      obtain ⟨rfl, Nq34, Kq34, f34_0⟩ := hQ34
      have N34 := Fr.app N32 Nq34
      refine ov (B := T34.setTop (mkF m 34 #[iv i0, iv i1, iv i2, iv i3, iv 3, rv r_31, rv r_32, uu, uu] [(.ref b33)])) (fun t k => st34.trans k) ?_
      refine ov (B := T34.setTop (mkF m 36 #[iv i0, iv i1, iv i2, iv i3, iv 3, rv r_31, rv r_32, rv b33, uu] [])) (fun t k => XS.astore X34.here hx rfl (hb hby at_34) rfl rfl (l' := #[iv i0, iv i1, iv i2, iv i3, iv 3, rv r_31, rv r_32, rv b33, uu]) rfl k) ?_
      refine oAL (n := 38) X34 hx (hb hby at_36) rfl rfl rfl ?_
      refine oAL (n := 40) X34 hx (hb hby at_38) rfl rfl rfl ?_
      obtain ⟨cq35, kq35, q35a, q35b, q35c⟩ := isOf hZ rfl (A33.keep Kq34)
      obtain ⟨_, _, ⟨T35, L35, k35, n35⟩, -, X35, ⟨Lc35, hQ35, l35, y35, z35⟩, st35⟩ := X34.virtualBack hx (y := (⟨sAC, "requireName", sAE⟩ : MethodName)) (z := (⟨sAC, "requireName", sAE⟩ : MethodName)) hown (mvT hZ (oW hw 110 rfl)) (mvT hZ (oW hw 111 rfl)) (notFace_of_selects (args := #[]) (mvT hZ (oW hw 113 rfl))) (mvT hZ (oW hw 113 rfl)) (mvT hZ (oW hw 112 rfl)) (by decide) (backOf (W := 0) (rmXR6 l Z a0 hw [] b33 r_32 r_31 zc t_31 t_32 kt_31 kt_32 (1 : Int32) ((own_ch i1) >>> ((0 : Int32) &&& 31)).toInt8.toInt32.toInt8.toInt32 ((own_ch i1) >>> ((8 : Int32) &&& 31)).toInt8.toInt32.toInt8.toInt32 ((own_ch i2) >>> ((0 : Int32) &&& 31)).toInt8.toInt32.toInt8.toInt32 ((own_ch i2) >>> ((8 : Int32) &&& 31)).toInt8.toInt32.toInt8.toInt32 ((own_ch i3) >>> ((0 : Int32) &&& 31)).toInt8.toInt32.toInt8.toInt32 ((own_ch i3) >>> ((8 : Int32) &&& 31)).toInt8.toInt32.toInt8.toInt32 T34.heap n0 (Nat.le_trans (Nat.le_trans (Nat.le_trans (Nat.le_trans Z0 Kq31.1) Kq32.1) E33.1) Kq34.1) ((((O0.keep Kq31 all0).keep Kq32 all0).ext E33).keep Kq34 (allS g_b33 all0)) (by assumption) (by assumption) f34_0 (((f31_0.keep Kq32).ext E33).keep Kq34) (((f31_1.keep Kq32 nin0).ext E33).keep Kq34 (ninS (Nat.ne_of_lt (Nat.lt_of_lt_of_le (f31_0.keep Kq32).lt (Nat.le_of_eq g33.symm))) nin0)) (((f31_2.keep Kq32 nin0).ext E33).keep Kq34 (ninS (Nat.ne_of_lt (Nat.lt_of_lt_of_le (f31_0.keep Kq32).lt (Nat.le_of_eq g33.symm))) nin0)) (((f31_3.keep Kq32 nin0).ext E33).keep Kq34 (ninS (Nat.ne_of_lt (Nat.lt_of_lt_of_le (f31_3.keep Kq32 nin0).lt (Nat.le_of_eq g33.symm))) nin0)) ((f32_0.ext E33).keep Kq34) ((f32_1.ext E33).keep Kq34 (ninS (Nat.ne_of_lt (Nat.lt_of_lt_of_le f32_0.lt (Nat.le_of_eq g33.symm))) nin0)) ((f32_2.ext E33).keep Kq34 (ninS (Nat.ne_of_lt (Nat.lt_of_lt_of_le f32_0.lt (Nat.le_of_eq g33.symm))) nin0)) ((f32_3.ext E33).keep Kq34 (ninS (Nat.ne_of_lt (Nat.lt_of_lt_of_le f32_3.lt (Nat.le_of_eq g33.symm))) nin0))) hZ (oW hw 114 rfl) (oW hw 29 rfl) (by decide) (by decide)) q35a q35c (g := (mkF m 40 #[iv i0, iv i1, iv i2, iv i3, iv 3, rv r_31, rv r_32, rv b33, uu] [(.ref r_32), (.ref b33)])) rfl (by rw [hml]; rfl) (Steps.refl _) (argsL := [(.ref r_32)]) (rest := []) (lenOf own_pd15 rfl) rfl (by show 2 * 0 + _ ≤ _; exact Nat.le_of_eq rfl) (hb hby at_40) (fun _ _ => ⟨rfl, rfl, (by decide : ((((0 + 4) + 4) + 1) + 4) + 0 ≤ _), (by decide : ((((0 + 16) + 16) + 4) + 35) + 0 ≤ _)⟩)
      dsimp only [Pt.U, Pt.locs, Pt.cells, Pt.slots] at X35 l35 y35 z35 st35 hQ35
      subst l35 y35 z35
      obtain ⟨rfl, Nq35, eq35⟩ := hQ35
      have N35 := Fr.app N34 Nq35
      refine ov (B := T35.setTop (mkF m 43 #[iv i0, iv i1, iv i2, iv i3, iv 3, rv r_31, rv r_32, rv b33, uu] [(.ref b33)])) (fun t k => st35.trans k) ?_
      refine ov (B := T35.setTop (mkF m 45 #[iv i0, iv i1, iv i2, iv i3, iv 3, rv r_31, rv r_32, rv b33, rv b33] [])) (fun t k => XS.astore X35.here hx rfl (hb hby at_43) rfl rfl (l' := #[iv i0, iv i1, iv i2, iv i3, iv 3, rv r_31, rv r_32, rv b33, rv b33]) rfl k) ?_
      refine oAL (n := 47) X35 hx (hb hby at_45) rfl rfl rfl ?_
      refine oAL (n := 49) X35 hx (hb hby at_47) rfl rfl rfl ?_
      have hc49 : b33 = b33 := rfl
      refine ov (B := T35.setTop (mkF m 52 #[iv i0, iv i1, iv i2, iv i3, iv 3, rv r_31, rv r_32, rv b33, rv b33] [])) (fun t k => Jvm.RoadKit.acmp (g := (mkF m 49 #[iv i0, iv i1, iv i2, iv i3, iv 3, rv r_31, rv r_32, rv b33, rv b33] [(.ref b33), (.ref b33)])) X35 hx rfl rfl rfl (pc0 := 49) (pc' := 52) (same := true) rfl (hb hby at_49) rfl (decide_eq_true (congrArg Value.ref hc49)) (by decide) (by decide) k) ?_
      refine oAL (n := 54) X35 hx (hb hby at_52) rfl rfl rfl ?_
      obtain ⟨cq36, kq36, q36a, q36b, q36c⟩ := isOf hZ eq35 (A33.keep Kq34)
      obtain ⟨_, _, ⟨T36, L36, k36, n36⟩, -, X36, ⟨Lc36, hQ36, l36, y36, z36⟩, st36⟩ := X35.virtualBack hx (y := (⟨sAC, "name", sAL⟩ : MethodName)) (z := (⟨sAC, "name", sAL⟩ : MethodName)) hown (mvT hZ (oW hw 126 rfl)) (mvT hZ (oW hw 127 rfl)) (notFace_of_selects (args := #[]) (mvT hZ (oW hw 129 rfl))) (mvT hZ (oW hw 129 rfl)) (mvT hZ (oW hw 128 rfl)) (by decide) (backOf (W := 0) (rmXN l Z a0 hw [] b33 r_31 T34.heap n0 (Nat.le_trans (Nat.le_trans (Nat.le_trans (Nat.le_trans Z0 Kq31.1) Kq32.1) E33.1) Kq34.1) f34_0) hZ (oW hw 130 rfl) (oW hw 29 rfl) (by decide) (by decide)) q36a q36c (g := (mkF m 54 #[iv i0, iv i1, iv i2, iv i3, iv 3, rv r_31, rv r_32, rv b33, rv b33] [(.ref b33)])) rfl (by rw [hml]; rfl) (Steps.refl _) (argsL := []) (rest := []) (lenOf own_pd16 rfl) rfl (by show 2 * 0 + _ ≤ _; exact Nat.le_of_eq rfl) (hb hby at_54) (fun _ _ => ⟨rfl, eq35, (by decide : (((((0 + 4) + 4) + 1) + 4) + 0) + 0 ≤ _), (by decide : (((((0 + 16) + 16) + 4) + 35) + 0) + 0 ≤ _)⟩)
      dsimp only [Pt.U, Pt.locs, Pt.cells, Pt.slots] at X36 l36 y36 z36 st36 hQ36
      subst l36 y36 z36
      obtain ⟨rfl, Nq36, eq36⟩ := hQ36
      have N36 := Fr.app N35 Nq36
      refine ov (B := T36.setTop (mkF m 57 #[iv i0, iv i1, iv i2, iv i3, iv 3, rv r_31, rv r_32, rv b33, rv b33] [(.ref r_31)])) (fun t k => st36.trans k) ?_
      refine oAL (n := 59) X36 hx (hb hby at_57) rfl rfl rfl ?_
      have hc59 : r_31 = r_31 := rfl
      refine ov (B := T36.setTop (mkF m 62 #[iv i0, iv i1, iv i2, iv i3, iv 3, rv r_31, rv r_32, rv b33, rv b33] [])) (fun t k => Jvm.RoadKit.acmp (g := (mkF m 59 #[iv i0, iv i1, iv i2, iv i3, iv 3, rv r_31, rv r_32, rv b33, rv b33] [(.ref r_31), (.ref r_31)])) X36 hx rfl rfl rfl (pc0 := 59) (pc' := 62) (same := true) rfl (hb hby at_59) rfl (decide_eq_true (congrArg Value.ref hc59)) (by decide) (by decide) k) ?_
      refine oIC (n := 63) X36 hx (1 : Int32) (hb hby at_62) (by decide) rfl ?_
      refine oGO (n := 67) X36 hx (hb hby at_63) (by decide) (by decide) ?_
      refine own_leafW X36 hx hlk hS0 (by rw [eq36]; exact (Nat.le_trans (Nat.le_trans (Nat.le_trans (Nat.le_trans hk0 Kq31.1) Kq32.1) E33.1) Kq34.1)) (t := .boolean) Bd.returns (by decide) (Or.inl ⟨rfl, by simp, _, rfl⟩) (hb hby at_67) (by decide) (by decide) ?_
      show Q0 Z i0 i1 i2 i3 zc eD h0 n0 _ T36.heap _
      rw [eq36]
      refine ⟨?_, N36⟩
      rfl
    · refine oIL (n := 7) X0 hx (hb hby at_5) rfl rfl ?_
      refine oILN (n := 8) X0 hx (hb hby at_7) rfl rfl ?_
      refine oILN (n := 9) X0 hx (hb hby at_8) rfl rfl ?_
      refine oILN (n := 10) X0 hx (hb hby at_9) rfl rfl ?_
      obtain ⟨_, _, ⟨T37, L37, k37, n37⟩, -, X37, ⟨Lc37, hQ37, l37, y37, z37⟩, st37⟩ := Jvm.LawKit.callS X0 hx (y := (⟨sAD, "make", sAF⟩ : MethodName)) hown (mvT hZ (oW hw 0 rfl)) (mvT hZ (oW hw 1 rfl)) (mvT hZ (oW hw 2 rfl)) (mvT hZ (oW hw 3 rfl)) (by decide) (backOf (W := 0) (rmKM30 l Z a0 hw [] i1 i2 i3 zc h0 n0 Z0 O0 (by assumption) (by assumption) hsA hsB hsC) hZ (oW hw 3 rfl) (oW hw 2 rfl) (by decide) (by decide)) (g := (mkF m 10 #[iv i0, iv i1, iv i2, iv i3, iv 3, uu, uu, uu, uu] [(.int i3), (.int i2), (.int i1), (.int 3)])) rfl (by rw [hml]; rfl) (argsL := [(.int 3), (.int i1), (.int i2), (.int i3)]) (rest := []) (lenOf own_pd13 rfl) rfl (by show 2 * 0 + _ ≤ _; exact Nat.le_of_eq rfl) (hb hby at_10) (fun _ _ => ⟨rfl, e0, (by decide : 0 + 4 ≤ _), (by decide : 0 + 16 ≤ _)⟩)
      dsimp only [Pt.U, Pt.locs, Pt.cells, Pt.slots] at X37 l37 y37 z37 st37 hQ37
      subst l37 y37 z37
      obtain ⟨r_37, t_37, kt_37, rfl, Nq37, Kq37, hr_37, ht_37, f37_0, f37_1, f37_2, f37_3⟩ := hQ37
      have N37 := Fr.app N0 Nq37
      have g_r_37 : n0 ≤ r_37 := Nat.le_trans Z0 hr_37
      have g_t_37 : n0 ≤ t_37 := Nat.le_trans Z0 ht_37
      refine ov (B := T37.setTop (mkF m 13 #[iv i0, iv i1, iv i2, iv i3, iv 3, uu, uu, uu, uu] [(.ref r_37)])) (fun t k => st37 t k) ?_
      refine ov (B := T37.setTop (mkF m 15 #[iv i0, iv i1, iv i2, iv i3, iv 3, rv r_37, uu, uu, uu] [])) (fun t k => XS.astore X37.here hx rfl (hb hby at_13) rfl rfl (l' := #[iv i0, iv i1, iv i2, iv i3, iv 3, rv r_37, uu, uu, uu]) rfl k) ?_
      refine oIL (n := 17) X37 hx (hb hby at_15) rfl rfl ?_
      refine oILN (n := 18) X37 hx (hb hby at_17) rfl rfl ?_
      refine oILN (n := 19) X37 hx (hb hby at_18) rfl rfl ?_
      refine oILN (n := 20) X37 hx (hb hby at_19) rfl rfl ?_
      obtain ⟨_, _, ⟨T38, L38, k38, n38⟩, -, X38, ⟨Lc38, hQ38, l38, y38, z38⟩, st38⟩ := Jvm.LawKit.callS X37 hx (y := (⟨sAD, "make", sAF⟩ : MethodName)) hown (mvT hZ (oW hw 0 rfl)) (mvT hZ (oW hw 1 rfl)) (mvT hZ (oW hw 2 rfl)) (mvT hZ (oW hw 3 rfl)) (by decide) (backOf (W := 0) (rmKM30 l Z a0 hw [] i1 i2 i3 zc T37.heap n0 (Nat.le_trans Z0 Kq37.1) (O0.keep Kq37 all0) (by assumption) (by assumption) hsA hsB hsC) hZ (oW hw 3 rfl) (oW hw 2 rfl) (by decide) (by decide)) (g := (mkF m 20 #[iv i0, iv i1, iv i2, iv i3, iv 3, rv r_37, uu, uu, uu] [(.int i3), (.int i2), (.int i1), (.int 3)])) rfl (by rw [hml]; rfl) (argsL := [(.int 3), (.int i1), (.int i2), (.int i3)]) (rest := []) (lenOf own_pd13 rfl) rfl (by show 2 * 0 + _ ≤ _; exact Nat.le_of_eq rfl) (hb hby at_20) (fun _ _ => ⟨rfl, rfl, (by decide : (0 + 4) + 4 ≤ _), (by decide : (0 + 16) + 16 ≤ _)⟩)
      dsimp only [Pt.U, Pt.locs, Pt.cells, Pt.slots] at X38 l38 y38 z38 st38 hQ38
      subst l38 y38 z38
      obtain ⟨r_38, t_38, kt_38, rfl, Nq38, Kq38, hr_38, ht_38, f38_0, f38_1, f38_2, f38_3⟩ := hQ38
      have N38 := Fr.app N37 Nq38
      have g_r_38 : n0 ≤ r_38 := Nat.le_trans (Nat.le_trans Z0 Kq37.1) hr_38
      have g_t_38 : n0 ≤ t_38 := Nat.le_trans (Nat.le_trans Z0 Kq37.1) ht_38
      refine ov (B := T38.setTop (mkF m 23 #[iv i0, iv i1, iv i2, iv i3, iv 3, rv r_37, uu, uu, uu] [(.ref r_38)])) (fun t k => st38 t k) ?_
      refine ov (B := T38.setTop (mkF m 25 #[iv i0, iv i1, iv i2, iv i3, iv 3, rv r_37, rv r_38, uu, uu] [])) (fun t k => XS.astore X38.here hx rfl (hb hby at_23) rfl rfl (l' := #[iv i0, iv i1, iv i2, iv i3, iv 3, rv r_37, rv r_38, uu, uu]) rfl k) ?_
      obtain ⟨T39, h39, X39, e39, E39, A39, D39, -, st39⟩ := newO X38 hx hZ hown (oW hw 27 rfl) (oW hw 28 rfl) (oW hw 29 rfl) rfl (g := (mkF m 25 #[iv i0, iv i1, iv i2, iv i3, iv 3, rv r_37, rv r_38, uu, uu] [])) rfl (hb hby at_25) (by decide) (by decide)
      obtain ⟨b39, g39⟩ : ∃ z, z = T38.heap.size := ⟨_, rfl⟩
      rw [← g39] at A39 D39 st39
      have g_b39 : n0 ≤ b39 := Nat.le_trans (Nat.le_trans (Nat.le_trans Z0 Kq37.1) Kq38.1) (Nat.le_of_eq g39.symm)
      have F39_attributes : Fld Z h39 b39 sAC "attributes" "Ljava/util/Map;" .null := D39 (Or.inr (oW hw 61 rfl)) (ty := (.object "java/util/Map")) (by decide)
      have F39_text : Fld Z h39 b39 sAC "text" "Ljava/lang/StringBuilder;" .null := D39 (Or.inr (oW hw 81 rfl)) (ty := (.object sAK)) (by decide)
      have F39_children : Fld Z h39 b39 sAC "children" "Ljava/util/List;" .null := D39 (Or.inr (oW hw 107 rfl)) (ty := (.object "java/util/List")) (by decide)
      have F39_name : Fld Z h39 b39 sAC "name" sAP .null := D39 (Or.inr (oW hw 109 rfl)) (ty := (.object sAA)) (by decide)
      refine ov (B := T39.setTop (mkF m 28 #[iv i0, iv i1, iv i2, iv i3, iv 3, rv r_37, rv r_38, uu, uu] [(.ref b39)])) (fun t k => st39 t k) ?_
      refine oDU (n := 29) X39 hx (hb hby at_28) rfl rfl ?_
      refine oAL (n := 31) X39 hx (hb hby at_29) rfl rfl rfl ?_
      obtain ⟨_, _, ⟨T40, L40, k40, n40⟩, -, X40, ⟨Lc40, hQ40, l40, y40, z40⟩, st40⟩ := X39.specialBack hx (y := (⟨sAC, "<init>", sAR⟩ : MethodName)) rfl hown (mvT hZ (oW hw 30 rfl)) (mvT hZ (oW hw 31 rfl)) (mvT hZ (oW hw 32 rfl)) (by decide) (backOf (W := 1) (rmXI l Z a0 hw [] b39 r_37 zc eD .null .null .null .null h39 n0 (Nat.le_trans (Nat.le_trans (Nat.le_trans Z0 Kq37.1) Kq38.1) E39.1) (((O0.keep Kq37 all0).keep Kq38 all0).ext E39) (by assumption) (by assumption) (by assumption) A39 F39_attributes F39_text F39_children F39_name g_b39) hZ (oW hw 32 rfl) (oW hw 29 rfl) (by decide) (by decide)) (g := (mkF m 31 #[iv i0, iv i1, iv i2, iv i3, iv 3, rv r_37, rv r_38, uu, uu] [(.ref r_37), (.ref b39), (.ref b39)])) rfl (by rw [hml]; rfl) (Steps.refl _) (a := b39) (argsL := [(.ref r_37)]) (rest := [(.ref b39)]) (lenOf own_pd14 rfl) rfl (by show 2 * 0 + _ ≤ _; exact Nat.le_of_eq rfl) (hb hby at_31) (fun _ _ => ⟨rfl, e39, (by decide : (((0 + 4) + 4) + 1) + 4 ≤ _), (by decide : (((0 + 16) + 16) + 4) + 35 ≤ _)⟩)
      dsimp only [Pt.U, Pt.locs, Pt.cells, Pt.slots] at X40 l40 y40 z40 st40 hQ40
      subst l40 y40 z40
      obtain ⟨rfl, Nq40, Kq40, f40_0⟩ := hQ40
      have N40 := Fr.app N38 Nq40
      refine ov (B := T40.setTop (mkF m 34 #[iv i0, iv i1, iv i2, iv i3, iv 3, rv r_37, rv r_38, uu, uu] [(.ref b39)])) (fun t k => st40.trans k) ?_
      refine ov (B := T40.setTop (mkF m 36 #[iv i0, iv i1, iv i2, iv i3, iv 3, rv r_37, rv r_38, rv b39, uu] [])) (fun t k => XS.astore X40.here hx rfl (hb hby at_34) rfl rfl (l' := #[iv i0, iv i1, iv i2, iv i3, iv 3, rv r_37, rv r_38, rv b39, uu]) rfl k) ?_
      refine oAL (n := 38) X40 hx (hb hby at_36) rfl rfl rfl ?_
      refine oAL (n := 40) X40 hx (hb hby at_38) rfl rfl rfl ?_
      obtain ⟨cq41, kq41, q41a, q41b, q41c⟩ := isOf hZ rfl (A39.keep Kq40)
      obtain ⟨_, _, ⟨T41, L41, k41, n41⟩, -, X41, ⟨Lc41, hQ41, l41, y41, z41⟩, st41⟩ := X40.virtualBack hx (y := (⟨sAC, "requireName", sAE⟩ : MethodName)) (z := (⟨sAC, "requireName", sAE⟩ : MethodName)) hown (mvT hZ (oW hw 110 rfl)) (mvT hZ (oW hw 111 rfl)) (notFace_of_selects (args := #[]) (mvT hZ (oW hw 113 rfl))) (mvT hZ (oW hw 113 rfl)) (mvT hZ (oW hw 112 rfl)) (by decide) (backOf (W := 0) (rmXR3 l Z a0 hw [] b39 r_38 r_37 zc t_37 t_38 kt_37 kt_38 (0 : Int32) (own_ch i1).toInt8.toInt32.toInt8.toInt32 (own_ch i2).toInt8.toInt32.toInt8.toInt32 (own_ch i3).toInt8.toInt32.toInt8.toInt32 T40.heap n0 (Nat.le_trans (Nat.le_trans (Nat.le_trans (Nat.le_trans Z0 Kq37.1) Kq38.1) E39.1) Kq40.1) ((((O0.keep Kq37 all0).keep Kq38 all0).ext E39).keep Kq40 (allS g_b39 all0)) (by assumption) (by assumption) f40_0 (((f37_0.keep Kq38).ext E39).keep Kq40) (((f37_1.keep Kq38 nin0).ext E39).keep Kq40 (ninS (Nat.ne_of_lt (Nat.lt_of_lt_of_le (f37_0.keep Kq38).lt (Nat.le_of_eq g39.symm))) nin0)) (((f37_2.keep Kq38 nin0).ext E39).keep Kq40 (ninS (Nat.ne_of_lt (Nat.lt_of_lt_of_le (f37_0.keep Kq38).lt (Nat.le_of_eq g39.symm))) nin0)) (((f37_3.keep Kq38 nin0).ext E39).keep Kq40 (ninS (Nat.ne_of_lt (Nat.lt_of_lt_of_le (f37_3.keep Kq38 nin0).lt (Nat.le_of_eq g39.symm))) nin0)) ((f38_0.ext E39).keep Kq40) ((f38_1.ext E39).keep Kq40 (ninS (Nat.ne_of_lt (Nat.lt_of_lt_of_le f38_0.lt (Nat.le_of_eq g39.symm))) nin0)) ((f38_2.ext E39).keep Kq40 (ninS (Nat.ne_of_lt (Nat.lt_of_lt_of_le f38_0.lt (Nat.le_of_eq g39.symm))) nin0)) ((f38_3.ext E39).keep Kq40 (ninS (Nat.ne_of_lt (Nat.lt_of_lt_of_le f38_3.lt (Nat.le_of_eq g39.symm))) nin0))) hZ (oW hw 114 rfl) (oW hw 29 rfl) (by decide) (by decide)) q41a q41c (g := (mkF m 40 #[iv i0, iv i1, iv i2, iv i3, iv 3, rv r_37, rv r_38, rv b39, uu] [(.ref r_38), (.ref b39)])) rfl (by rw [hml]; rfl) (Steps.refl _) (argsL := [(.ref r_38)]) (rest := []) (lenOf own_pd15 rfl) rfl (by show 2 * 0 + _ ≤ _; exact Nat.le_of_eq rfl) (hb hby at_40) (fun _ _ => ⟨rfl, rfl, (by decide : ((((0 + 4) + 4) + 1) + 4) + 0 ≤ _), (by decide : ((((0 + 16) + 16) + 4) + 35) + 0 ≤ _)⟩)
      dsimp only [Pt.U, Pt.locs, Pt.cells, Pt.slots] at X41 l41 y41 z41 st41 hQ41
      subst l41 y41 z41
      obtain ⟨rfl, Nq41, eq41⟩ := hQ41
      have N41 := Fr.app N40 Nq41
      refine ov (B := T41.setTop (mkF m 43 #[iv i0, iv i1, iv i2, iv i3, iv 3, rv r_37, rv r_38, rv b39, uu] [(.ref b39)])) (fun t k => st41.trans k) ?_
      refine ov (B := T41.setTop (mkF m 45 #[iv i0, iv i1, iv i2, iv i3, iv 3, rv r_37, rv r_38, rv b39, rv b39] [])) (fun t k => XS.astore X41.here hx rfl (hb hby at_43) rfl rfl (l' := #[iv i0, iv i1, iv i2, iv i3, iv 3, rv r_37, rv r_38, rv b39, rv b39]) rfl k) ?_
      refine oAL (n := 47) X41 hx (hb hby at_45) rfl rfl rfl ?_
      refine oAL (n := 49) X41 hx (hb hby at_47) rfl rfl rfl ?_
      have hc49 : b39 = b39 := rfl
      refine ov (B := T41.setTop (mkF m 52 #[iv i0, iv i1, iv i2, iv i3, iv 3, rv r_37, rv r_38, rv b39, rv b39] [])) (fun t k => Jvm.RoadKit.acmp (g := (mkF m 49 #[iv i0, iv i1, iv i2, iv i3, iv 3, rv r_37, rv r_38, rv b39, rv b39] [(.ref b39), (.ref b39)])) X41 hx rfl rfl rfl (pc0 := 49) (pc' := 52) (same := true) rfl (hb hby at_49) rfl (decide_eq_true (congrArg Value.ref hc49)) (by decide) (by decide) k) ?_
      refine oAL (n := 54) X41 hx (hb hby at_52) rfl rfl rfl ?_
      obtain ⟨cq42, kq42, q42a, q42b, q42c⟩ := isOf hZ eq41 (A39.keep Kq40)
      obtain ⟨_, _, ⟨T42, L42, k42, n42⟩, -, X42, ⟨Lc42, hQ42, l42, y42, z42⟩, st42⟩ := X41.virtualBack hx (y := (⟨sAC, "name", sAL⟩ : MethodName)) (z := (⟨sAC, "name", sAL⟩ : MethodName)) hown (mvT hZ (oW hw 126 rfl)) (mvT hZ (oW hw 127 rfl)) (notFace_of_selects (args := #[]) (mvT hZ (oW hw 129 rfl))) (mvT hZ (oW hw 129 rfl)) (mvT hZ (oW hw 128 rfl)) (by decide) (backOf (W := 0) (rmXN l Z a0 hw [] b39 r_37 T40.heap n0 (Nat.le_trans (Nat.le_trans (Nat.le_trans (Nat.le_trans Z0 Kq37.1) Kq38.1) E39.1) Kq40.1) f40_0) hZ (oW hw 130 rfl) (oW hw 29 rfl) (by decide) (by decide)) q42a q42c (g := (mkF m 54 #[iv i0, iv i1, iv i2, iv i3, iv 3, rv r_37, rv r_38, rv b39, rv b39] [(.ref b39)])) rfl (by rw [hml]; rfl) (Steps.refl _) (argsL := []) (rest := []) (lenOf own_pd16 rfl) rfl (by show 2 * 0 + _ ≤ _; exact Nat.le_of_eq rfl) (hb hby at_54) (fun _ _ => ⟨rfl, eq41, (by decide : (((((0 + 4) + 4) + 1) + 4) + 0) + 0 ≤ _), (by decide : (((((0 + 16) + 16) + 4) + 35) + 0) + 0 ≤ _)⟩)
      dsimp only [Pt.U, Pt.locs, Pt.cells, Pt.slots] at X42 l42 y42 z42 st42 hQ42
      subst l42 y42 z42
      obtain ⟨rfl, Nq42, eq42⟩ := hQ42
      have N42 := Fr.app N41 Nq42
      refine ov (B := T42.setTop (mkF m 57 #[iv i0, iv i1, iv i2, iv i3, iv 3, rv r_37, rv r_38, rv b39, rv b39] [(.ref r_37)])) (fun t k => st42.trans k) ?_
      refine oAL (n := 59) X42 hx (hb hby at_57) rfl rfl rfl ?_
      have hc59 : r_37 = r_37 := rfl
      refine ov (B := T42.setTop (mkF m 62 #[iv i0, iv i1, iv i2, iv i3, iv 3, rv r_37, rv r_38, rv b39, rv b39] [])) (fun t k => Jvm.RoadKit.acmp (g := (mkF m 59 #[iv i0, iv i1, iv i2, iv i3, iv 3, rv r_37, rv r_38, rv b39, rv b39] [(.ref r_37), (.ref r_37)])) X42 hx rfl rfl rfl (pc0 := 59) (pc' := 62) (same := true) rfl (hb hby at_59) rfl (decide_eq_true (congrArg Value.ref hc59)) (by decide) (by decide) k) ?_
      refine oIC (n := 63) X42 hx (1 : Int32) (hb hby at_62) (by decide) rfl ?_
      refine oGO (n := 67) X42 hx (hb hby at_63) (by decide) (by decide) ?_
      refine own_leafW X42 hx hlk hS0 (by rw [eq42]; exact (Nat.le_trans (Nat.le_trans (Nat.le_trans (Nat.le_trans hk0 Kq37.1) Kq38.1) E39.1) Kq40.1)) (t := .boolean) Bd.returns (by decide) (Or.inl ⟨rfl, by simp, _, rfl⟩) (hb hby at_67) (by decide) (by decide) ?_
      show Q0 Z i0 i1 i2 i3 zc eD h0 n0 _ T42.heap _
      rw [eq42]
      refine ⟨?_, N42⟩
      rfl
set_option maxRecDepth 65536 in
set_option maxHeartbeats 40000000 in
theorem comes_1 {Post : Tables → Env → Array Value → State → Outcome → State → Prop} (hpost : ∀ tb e args s v u, (limb_1_1.after args s (.returned v) u = true ∧ limb_1_2.after args s (.returned v) u = true ∧ True) → ReturnedEndW s (.returned v) u (Jvm.fieldLocs frame_1_writes args s ++ Jvm.arrayLocs frame_1_arrays args s ++ Jvm.staticLocs frame_1_statics s) 40 1280 → Post tb e args s (.returned v) u) :
    ArmFor flags0 classFile x code maxLocals ret World_1 tables_1 room_1 Calls_1 rest_1 Pre_1 Post := by
  intro l hfl _ _ p e ha hc hk s m args below hf hA hF happ hP
  obtain ⟨hcalls, hrest, hpre⟩ := hP
  obtain ⟨-, -, -, hnamed, -, -, -, hat⟩ := (Spec.applies_iff hf).mp happ
  obtain ⟨hg, hn⟩ := and_e (Cond.before_iff.mp (show (Jvm.Cond.and given_1 narrow_1).before args s = true from hpre))
  obtain ⟨g1, g2⟩ := and_e hg
  obtain ⟨g3, g4⟩ := and_e g2
  obtain ⟨g5, g6⟩ := and_e g4
  obtain ⟨g7, g8⟩ := and_e g6
  obtain ⟨w0, w1, w2, w3, rfl⟩ : ∃ w0 w1 w2 w3 : Value, args = #[w0, w1, w2, w3] := by
    have hs : args.size = 4 := by simpa [Cond.value, given_1] using g1
    obtain ⟨L⟩ := args
    match L, hs with
    | [w0, w1, w2, w3], _ => exact ⟨w0, w1, w2, w3, rfl⟩
  have hw := fun d (hd : d ∈ tables_1) => atoms_spec (ws := Jvm.Cond.code x code maxLocals ret :: tables_1) hat d (List.mem_cons_of_mem _ hd)
  have hfit : Fit s := fun {y c} hc i hi => by
    obtain ⟨ha, rfl⟩ := Array.getElem?_eq_some_iff.mp hc
    have q := List.all_eq_true.mp ((Array.all_eq_true_iff_forall_mem.mp hF) _ (Array.getElem_mem ha)) i (List.mem_range.mpr hi)
    simpa [Array.getElem?_eq_getElem hi] using q
  obtain ⟨i0, ei0⟩ := is_v g3
  obtain rfl : w0 = (.int i0) := Option.some.inj ei0
  obtain ⟨i1, ei1⟩ := is_v g5
  obtain rfl : w1 = (.int i1) := Option.some.inj ei1
  obtain ⟨i2, ei2⟩ := is_v g7
  obtain rfl : w2 = (.int i2) := Option.some.inj ei2
  obtain ⟨i3, ei3⟩ := is_v g8
  obtain rfl : w3 = (.int i3) := Option.some.inj ei3
  obtain ⟨hsets, hown0⟩ := atoms_of _ (rest_1_c_eq ▸ (show rest_1_c.before _ s = true from hrest))
  have hr0 := Cond.before_iff.mp hown0
  obtain ⟨zc, evz⟩ := is_v (Cond.before_iff.mp (hsets _ (List.mem_of_getElem? (i := 1) rfl)))
  have Scz : Sta s s.heap sAA "COMPACT_STRINGS" "Z" (.int zc) := Sta.start evz (Or.inl (hsets _ (List.mem_of_getElem? (i := 0) rfl)))
  have hcz : ¬ zc = 0 := fun q => by have z := not_v (Cond.before_iff.mp (hsets _ (List.mem_of_getElem? (i := 2) rfl))); rw [eq_i evz rfl (by rw [q])] at z; cases z
  have hcw : Jvm.Lit.compactW.before _ s = true := (hsets _ (List.mem_of_getElem? (i := 2) rfl))
  have hch : Jvm.Lit.constHeld s sAA 7 := hcalls.1 _ (List.mem_of_getElem? (i := 0) rfl)
  have SA : Sta s s.heap sAB sAH "Z" (.int 1) := Sta.start (own_eqI (Cond.before_iff.mp (hsets _ (List.mem_of_getElem? (i := 21) rfl)))) (Or.inl (hsets _ (List.mem_of_getElem? (i := 20) rfl)))
  have SH : Sta s s.heap sAB "HI_BYTE_SHIFT" "I" (.int 0) := Sta.start (own_eqI (Cond.before_iff.mp (hsets _ (List.mem_of_getElem? (i := 24) rfl)))) (Or.inl (hsets _ (List.mem_of_getElem? (i := 23) rfl)))
  have SL : Sta s s.heap sAB "LO_BYTE_SHIFT" "I" (.int 8) := Sta.start (own_eqI (Cond.before_iff.mp (hsets _ (List.mem_of_getElem? (i := 27) rfl)))) (Or.inl (hsets _ (List.mem_of_getElem? (i := 26) rfl)))
  obtain ⟨eD, evD⟩ := exa_v (Cond.before_iff.mp (hsets _ (List.mem_of_getElem? (i := 16) rfl)))
  have SD : Sta s s.heap sAQ "DEFAULTCAPACITY_EMPTY_ELEMENTDATA" "[Ljava/lang/Object;" (.ref eD) := Sta.start evD (Or.inr ⟨(oW hw 84 rfl), (hsets _ (List.mem_of_getElem? (i := 11) rfl))⟩)
  obtain ⟨n, o, h1, h2, h3, _, L, rfl, ⟨rfl, N⟩, hq⟩ := rm0 l s _ hw tables_1 i0 i1 i2 i3 zc eD s.heap s.heap.size (Nat.le_refl _) (Old.start s) Scz hcz SA SH SL SD hch hcw p e ha hc hk s m _ below hf ((Spec.applies_iff_loose hf).mp happ).1 ⟨rfl, State.Warmed39.refl s, rfl, IB.start⟩ trivial
  refine ⟨n, _, h1, h2, h3, hpost _ _ _ _ _ _ ⟨Cond.after_iff.mpr rfl, Cond.after_iff.mpr (eq_i res_at (Term.int_eval (1)) rfl), trivial⟩ ⟨hq.1, hq.2.1, hq.2.2.1, (hq.2.2.2.sift fun y hy => Or.inr (N y hy)).mono (by decide) (by decide)⟩⟩
theorem main_1_1 : Claimed_1_1 := comes_1 fun _ _ _ _ _ _ h hF => ⟨h.1, hF⟩
theorem main_1_2 : Claimed_1_2 := comes_1 fun _ _ _ _ _ _ h hF => ⟨h.2.1, hF⟩
end Jvm.Pilot.@@N@@
namespace Jvm.Pilot.@@N@@
open Jvm Jvm.ClassFile Sem Op Lib Jvm.Free Jvm.Stand Jvm.Pilot.@@N@@.Jvm.D
/-! MADE BY PROGRAM (witnessworld.py) out of the Statement's table words and the real class files: 37 classes; the members and pool entries that the words name. The judged class is class 1, her method 2. -/
namespace start1
open Jvm.ClassFile
def u (s : String) : CpInfo := .utf8 (stringToUtf16 s)
/-- a pool by its gaps: so many unusable entries, then the entry; so many at the end -/
def gap : Nat → List CpInfo → List CpInfo
  | 0, r => r
  | n + 1, r => .unusable :: gap n r
def poolList (es : List (Nat × CpInfo)) (last : Nat) : List CpInfo := es.foldr (fun e r => gap e.1 (e.2 :: r)) (gap last [])
def pool (es : List (Nat × CpInfo)) (last : Nat) : Array CpInfo := ⟨poolList es last⟩
def fileOf (pool : Array CpInfo) (this : Nat) (attrs : Array Attribute := #[]) (ms : Array MethodInfo := #[]) (fl : Nat := 33) (sup : Nat := 0) (ifs : Array Nat := #[]) (fds : Array FieldInfo := #[]) : ClassFile where
  minorVersion := 0
  majorVersion := 65
  constantPool := pool
  accessFlags := fl
  thisClass := this
  superClass := sup
  interfaces := ifs
  fields := fds
  methods := ms
  attributes := attrs
def plain (name : String) (sup : Option ClassId) : Class where
  name := name
  kind := .ordinary
  loader := none
  accessFlags := 33
  super := sup
  interfaces := #[]
  cf := none
  fields := #[]
  methods := #[]
  instanceTypes := #[]
  staticTypes := #[]
  resolved := #[]
  callSites := []
  init := .initialized
  statics := none
  mirror := none

def pool0 : Array CpInfo := pool [(5, u "<init>"), (0, u "()V"), (1, .class_ 10), (1, u "java/lang/Object")] 113

def k0c0 : Code := { maxStack := 0, maxLocals := 1, code := object_method_1_code, exceptionTable := #[], attributes := #[] }
def k0m0 : Method := { name := "<init>", desc := "()V", sig := { parameters := [], returnType := none }, accessFlags := 1, code := some k0c0 }
/-- java/lang/Object -/
def k0 : Class := { plain "java/lang/Object" none with
  accessFlags := 33
  interfaces := #[]
  cf := some (fileOf pool0 8 #[] #[{ accessFlags := 1, nameIndex := 5, descriptorIndex := 6, attributes := #[] }] 33 0 #[] #[])
  fields := #[]
  methods := #[k0m0]
  instanceTypes := #[]
  staticTypes := #[]
  resolved := Array.replicate 124 none
  statics := none }

def pool1 : Array CpInfo := pool [(2, .class_ 4), (1, u "java/lang/Object"), (0, u "<init>"), (0, u "()V"), (0, .integer 65535), (0, .class_ 9), (0, u "java/lang/String"), (0, .methodref 8 11), (0, .nameAndType 5 12), (0, u "([C)V"), (0, .methodref 14 15), (0, .class_ 16), (0, .nameAndType 17 18), (0, u "portcullis/xml/XmlElementRequireNamePinLaw"), (0, u "make"), (0, u "(IIII)Ljava/lang/String;"), (0, .class_ 20), (0, u "portcullis/xml/XmlElement"), (0, .methodref 19 22), (0, .nameAndType 5 23), (0, u "(Ljava/lang/String;)V"), (0, .methodref 19 25), (0, .nameAndType 26 27), (0, u "requireName"), (0, u "(Ljava/lang/String;)Lportcullis/xml/XmlElement;"), (0, .methodref 19 29), (0, .nameAndType 30 31), (0, u "name"), (0, u "()Ljava/lang/String;"), (3, u "law"), (0, u "(IIII)Z")] 2

def k1m0 : Method := { name := "<init>", desc := "()V", sig := { parameters := [], returnType := none }, accessFlags := 2, code := none }
def k1c1 : Code := { maxStack := 6, maxLocals := 7, code := method_2_code, exceptionTable := #[], attributes := #[] }
def k1m1 : Method := { name := "make", desc := "(IIII)Ljava/lang/String;", sig := { parameters := [.int, .int, .int, .int], returnType := some (.object "java/lang/String") }, accessFlags := 10, code := some k1c1 }
def k1c2 : Code := { maxStack := 4, maxLocals := 9, code := code, exceptionTable := #[], attributes := #[] }
def k1m2 : Method := { name := "law", desc := "(IIII)Z", sig := { parameters := [.int, .int, .int, .int], returnType := some .boolean }, accessFlags := 9, code := some k1c2 }
/-- portcullis/xml/XmlElementRequireNamePinLaw -/
def k1 : Class := { plain "portcullis/xml/XmlElementRequireNamePinLaw" (some 0) with
  accessFlags := 49
  interfaces := #[]
  cf := some (fileOf pool1 14 #[] #[{ accessFlags := 2, nameIndex := 5, descriptorIndex := 6, attributes := #[] }, { accessFlags := 10, nameIndex := 17, descriptorIndex := 18, attributes := #[] }, { accessFlags := 9, nameIndex := 35, descriptorIndex := 36, attributes := #[] }] 49 2 #[] #[])
  fields := #[]
  methods := #[k1m0, k1m1, k1m2]
  instanceTypes := #[]
  staticTypes := #[]
  resolved := Array.replicate 39 none
  statics := none }

def pool2 : Array CpInfo := pool [(1, .class_ 2), (0, u "java/io/Serializable"), (0, .class_ 4), (0, u "java/lang/Object")] 2

/-- java/io/Serializable -/
def k2 : Class := { plain "java/io/Serializable" (some 0) with
  accessFlags := 1537
  interfaces := #[]
  cf := some (fileOf pool2 1 #[] #[] 1537 3 #[] #[])
  fields := #[]
  methods := #[]
  instanceTypes := #[]
  staticTypes := #[]
  resolved := Array.replicate 7 none
  statics := none }

def pool3 : Array CpInfo := pool [(1, .class_ 2), (0, u "java/lang/Comparable"), (0, .class_ 4), (0, u "java/lang/Object")] 7

/-- java/lang/Comparable -/
def k3 : Class := { plain "java/lang/Comparable" (some 0) with
  accessFlags := 1537
  interfaces := #[]
  cf := some (fileOf pool3 1 #[] #[] 1537 3 #[] #[])
  fields := #[]
  methods := #[]
  instanceTypes := #[]
  staticTypes := #[]
  resolved := Array.replicate 12 none
  statics := none }

def pool4 : Array CpInfo := pool [(2, .class_ 4), (1, u "java/lang/CharSequence"), (42, .class_ 48), (0, u "java/lang/CharSequence$1CodePointIterator"), (10, .class_ 60), (0, u "java/lang/CharSequence$1CharIterator"), (5, .class_ 67), (0, u "java/lang/Object")] 63

/-- java/lang/CharSequence -/
def k4 : Class := { plain "java/lang/CharSequence" (some 0) with
  accessFlags := 1537
  interfaces := #[]
  cf := some (fileOf pool4 2 #[.nestMembers #[47, 59]] #[] 1537 66 #[] #[])
  fields := #[]
  methods := #[]
  instanceTypes := #[]
  staticTypes := #[]
  resolved := Array.replicate 131 none
  statics := none }

def pool5 : Array CpInfo := pool [(1, .class_ 2), (0, u "java/lang/constant/Constable"), (0, .class_ 4), (0, u "java/lang/Object")] 6

/-- java/lang/constant/Constable -/
def k5 : Class := { plain "java/lang/constant/Constable" (some 0) with
  accessFlags := 1537
  interfaces := #[]
  cf := some (fileOf pool5 1 #[] #[] 1537 3 #[] #[])
  fields := #[]
  methods := #[]
  instanceTypes := #[]
  staticTypes := #[]
  resolved := Array.replicate 11 none
  statics := none }

def pool6 : Array CpInfo := pool [(1, .class_ 2), (0, u "java/lang/constant/ConstantDesc"), (0, .class_ 4), (0, u "java/lang/Object")] 32

/-- java/lang/constant/ConstantDesc -/
def k6 : Class := { plain "java/lang/constant/ConstantDesc" (some 0) with
  accessFlags := 1537
  interfaces := #[]
  cf := some (fileOf pool6 1 #[] #[] 1537 3 #[] #[])
  fields := #[]
  methods := #[]
  instanceTypes := #[]
  staticTypes := #[]
  resolved := Array.replicate 37 none
  statics := none }

def pool7 : Array CpInfo := pool [(1, .methodref 2 3), (0, .class_ 4), (0, .nameAndType 5 6), (0, u "java/lang/Object"), (0, u "<init>"), (0, u "()V"), (0, .string 8), (0, u ""), (0, .fieldref 10 11), (0, .class_ 12), (0, .nameAndType 13 14), (0, u "java/lang/String"), (0, u "value"), (0, u "[B"), (0, .fieldref 10 16), (0, .nameAndType 17 18), (0, u "coder"), (0, u "B"), (2, u "hash"), (0, u "I"), (2, u "hashIsZero"), (0, u "Z"), (0, .methodref 10 28), (0, .nameAndType 5 29), (0, u "([CIILjava/lang/Void;)V"), (8, .fieldref 10 39), (0, .nameAndType 40 26), (0, u "COMPACT_STRINGS"), (1, .class_ 44), (1, u "java/lang/StringUTF16"), (0, u "compress"), (1, .methodref 42 48), (0, .nameAndType 49 50), (0, u "coderFromArrayLen"), (0, u "([BI)B"), (56, .class_ 109), (1, u "java/lang/StringLatin1"), (67, .methodref 42 178), (0, .nameAndType 45 179), (0, u "([CII)[B"), (361, .methodref 107 542), (0, .nameAndType 543 544), (0, u "equals"), (0, u "([B[B)Z"), (28, u "(Ljava/lang/Object;)Z"), (1, .class_ 576), (0, u "java/lang/CharSequence"), (22, u "CASE_INSENSITIVE_ORDER"), (0, u "Ljava/util/Comparator;"), (409, u "([C)V"), (90, u "serialPersistentFields"), (0, u "[Ljava/io/ObjectStreamField;"), (0, .class_ 1104), (0, u "java/lang/String$CaseInsensitiveComparator"), (1, .class_ 1107), (0, u "java/io/Serializable"), (0, .class_ 1109), (0, u "java/lang/Comparable"), (0, .class_ 1111), (0, u "java/lang/constant/Constable"), (0, .class_ 1113), (0, u "java/lang/constant/ConstantDesc"), (2, u "serialVersionUID"), (0, u "J"), (3, u "REPL"), (0, u "C"), (2, u "LATIN1"), (1, u "UTF16")] 323

def k7m0 : Method := { name := "<init>", desc := "()V", sig := { parameters := [], returnType := none }, accessFlags := 1, code := none }
def k7c1 : Code := { maxStack := 5, maxLocals := 2, code := jdk_42_method_3_code, exceptionTable := #[], attributes := #[] }
def k7m1 : Method := { name := "<init>", desc := "([C)V", sig := { parameters := [(.array .char)], returnType := none }, accessFlags := 1, code := some k7c1 }
def k7c2 : Code := { maxStack := 2, maxLocals := 3, code := jdk_42_method_66_code, exceptionTable := #[], attributes := #[] }
def k7m2 : Method := { name := "equals", desc := "(Ljava/lang/Object;)Z", sig := { parameters := [(.object "java/lang/Object")], returnType := some .boolean }, accessFlags := 1, code := some k7c2 }
def k7c3 : Code := { maxStack := 4, maxLocals := 6, code := jdk_42_method_149_code, exceptionTable := #[], attributes := #[] }
def k7m3 : Method := { name := "<init>", desc := "([CIILjava/lang/Void;)V", sig := { parameters := [(.array .char), .int, .int, (.object "java/lang/Void")], returnType := none }, accessFlags := 2, code := some k7c3 }
/-- java/lang/String -/
def k7 : Class := { plain "java/lang/String" (some 0) with
  accessFlags := 49
  interfaces := #[2, 3, 4, 5, 6]
  cf := some (fileOf pool7 10 #[.nestMembers #[1103]] #[{ accessFlags := 1, nameIndex := 5, descriptorIndex := 6, attributes := #[] }, { accessFlags := 1, nameIndex := 5, descriptorIndex := 1010, attributes := #[] }, { accessFlags := 1, nameIndex := 543, descriptorIndex := 573, attributes := #[] }, { accessFlags := 2, nameIndex := 5, descriptorIndex := 29, attributes := #[] }] 49 2 #[1106, 1108, 575, 1110, 1112] #[{ accessFlags := 18, nameIndex := 13, descriptorIndex := 14, attributes := #[] }, { accessFlags := 18, nameIndex := 17, descriptorIndex := 18, attributes := #[] }, { accessFlags := 2, nameIndex := 21, descriptorIndex := 22, attributes := #[] }, { accessFlags := 2, nameIndex := 25, descriptorIndex := 26, attributes := #[] }, { accessFlags := 26, nameIndex := 1116, descriptorIndex := 1117, attributes := #[] }, { accessFlags := 24, nameIndex := 40, descriptorIndex := 26, attributes := #[] }, { accessFlags := 26, nameIndex := 1101, descriptorIndex := 1102, attributes := #[] }, { accessFlags := 26, nameIndex := 1121, descriptorIndex := 1122, attributes := #[] }, { accessFlags := 25, nameIndex := 599, descriptorIndex := 600, attributes := #[] }, { accessFlags := 24, nameIndex := 1125, descriptorIndex := 18, attributes := #[] }, { accessFlags := 24, nameIndex := 1127, descriptorIndex := 18, attributes := #[] }])
  fields := #[{ name := "value", type := (.array .byte), accessFlags := 18, slot := 0, constantValue := 0 }, { name := "coder", type := .byte, accessFlags := 18, slot := 1, constantValue := 0 }, { name := "hash", type := .int, accessFlags := 2, slot := 2, constantValue := 0 }, { name := "hashIsZero", type := .boolean, accessFlags := 2, slot := 3, constantValue := 0 }, { name := "serialVersionUID", type := .long, accessFlags := 26, slot := 0, constantValue := 0 }, { name := "COMPACT_STRINGS", type := .boolean, accessFlags := 24, slot := 1, constantValue := 0 }, { name := "serialPersistentFields", type := (.array (.object "java/io/ObjectStreamField")), accessFlags := 26, slot := 2, constantValue := 0 }, { name := "REPL", type := .char, accessFlags := 26, slot := 3, constantValue := 0 }, { name := "CASE_INSENSITIVE_ORDER", type := (.object "java/util/Comparator"), accessFlags := 25, slot := 4, constantValue := 0 }, { name := "LATIN1", type := .byte, accessFlags := 24, slot := 5, constantValue := 0 }, { name := "UTF16", type := .byte, accessFlags := 24, slot := 6, constantValue := 0 }]
  methods := #[k7m0, k7m1, k7m2, k7m3]
  instanceTypes := #[(.array .byte), .byte, .int, .boolean]
  staticTypes := #[.long, .boolean, (.array (.object "java/io/ObjectStreamField")), .char, (.object "java/util/Comparator"), .byte, .byte]
  resolved := Array.replicate 1451 none
  statics := some 0 }

def pool8 : Array CpInfo := pool [(1, .methodref 2 3), (0, .class_ 4), (0, .nameAndType 5 6), (0, u "java/lang/Object"), (0, u "<init>"), (0, u "()V"), (0, .class_ 8), (0, u "java/util/LinkedHashMap"), (0, .methodref 7 3), (0, .fieldref 11 12), (0, .class_ 13), (0, .nameAndType 14 15), (0, u "portcullis/xml/XmlElement"), (0, u "attributes"), (0, u "Ljava/util/Map;"), (0, .class_ 17), (0, u "java/lang/StringBuilder"), (0, .methodref 16 3), (0, .fieldref 11 20), (0, .nameAndType 21 22), (0, u "text"), (0, u "Ljava/lang/StringBuilder;"), (0, .class_ 24), (0, u "java/util/ArrayList"), (0, .methodref 23 3), (0, .fieldref 11 27), (0, .nameAndType 28 29), (0, u "children"), (0, u "Ljava/util/List;"), (0, .fieldref 11 31), (0, .nameAndType 32 33), (0, u "name"), (0, u "Ljava/lang/String;"), (20, .class_ 55), (0, u "portcullis/xml/XmlElement$FailureKeepingStream"), (11, u "()Ljava/lang/String;"), (22, .class_ 92), (1, u "java/lang/String"), (26, u "(Ljava/lang/String;)V"), (37, u "(Ljava/lang/Object;)Z"), (185, .methodref 90 344), (0, .nameAndType 345 157), (0, u "equals"), (27, u "(Ljava/lang/String;)Lportcullis/xml/XmlElement;"), (29, u "requireName"), (10, .class_ 415), (0, u "portcullis/xml/XmlElement$FailureKeepingStream$StreamCall")] 47

def k8c0 : Code := { maxStack := 3, maxLocals := 2, code := prog_42_method_1_code, exceptionTable := #[], attributes := #[] }
def k8m0 : Method := { name := "<init>", desc := "(Ljava/lang/String;)V", sig := { parameters := [(.object "java/lang/String")], returnType := none }, accessFlags := 1, code := some k8c0 }
def k8c1 : Code := { maxStack := 1, maxLocals := 1, code := prog_42_method_15_code, exceptionTable := #[], attributes := #[] }
def k8m1 : Method := { name := "name", desc := "()Ljava/lang/String;", sig := { parameters := [], returnType := some (.object "java/lang/String") }, accessFlags := 1, code := some k8c1 }
def k8c2 : Code := { maxStack := 4, maxLocals := 2, code := prog_42_method_18_code, exceptionTable := #[], attributes := #[] }
def k8m2 : Method := { name := "requireName", desc := "(Ljava/lang/String;)Lportcullis/xml/XmlElement;", sig := { parameters := [(.object "java/lang/String")], returnType := some (.object "portcullis/xml/XmlElement") }, accessFlags := 1, code := some k8c2 }
/-- portcullis/xml/XmlElement -/
def k8 : Class := { plain "portcullis/xml/XmlElement" (some 0) with
  accessFlags := 49
  interfaces := #[]
  cf := some (fileOf pool8 11 #[.nestMembers #[54, 414]] #[{ accessFlags := 1, nameIndex := 5, descriptorIndex := 119, attributes := #[] }, { accessFlags := 1, nameIndex := 32, descriptorIndex := 67, attributes := #[] }, { accessFlags := 1, nameIndex := 403, descriptorIndex := 373, attributes := #[] }] 49 2 #[] #[{ accessFlags := 18, nameIndex := 32, descriptorIndex := 33, attributes := #[] }, { accessFlags := 18, nameIndex := 14, descriptorIndex := 15, attributes := #[] }, { accessFlags := 18, nameIndex := 21, descriptorIndex := 22, attributes := #[] }, { accessFlags := 18, nameIndex := 28, descriptorIndex := 29, attributes := #[] }])
  fields := #[{ name := "name", type := (.object "java/lang/String"), accessFlags := 18, slot := 0, constantValue := 0 }, { name := "attributes", type := (.object "java/util/Map"), accessFlags := 18, slot := 1, constantValue := 0 }, { name := "text", type := (.object "java/lang/StringBuilder"), accessFlags := 18, slot := 2, constantValue := 0 }, { name := "children", type := (.object "java/util/List"), accessFlags := 18, slot := 3, constantValue := 0 }]
  methods := #[k8m0, k8m1, k8m2]
  instanceTypes := #[(.object "java/lang/String"), (.object "java/util/Map"), (.object "java/lang/StringBuilder"), (.object "java/util/List")]
  staticTypes := #[]
  resolved := Array.replicate 463 none
  statics := none }

def pool9 : Array CpInfo := pool [(2, .class_ 4), (1, u "java/util/Map"), (31, .class_ 37), (0, u "java/util/Map$Entry"), (55, .class_ 94), (0, u "java/lang/Object")] 168

/-- java/util/Map -/
def k9 : Class := { plain "java/util/Map" (some 0) with
  accessFlags := 1537
  interfaces := #[]
  cf := some (fileOf pool9 2 #[.nestMembers #[36]] #[] 1537 93 #[] #[])
  fields := #[]
  methods := #[]
  instanceTypes := #[]
  staticTypes := #[]
  resolved := Array.replicate 263 none
  statics := none }

def pool10 : Array CpInfo := pool [(1, .methodref 2 3), (0, .class_ 4), (0, .nameAndType 5 6), (0, u "java/lang/Object"), (0, u "<init>"), (0, u "()V"), (1, .class_ 10), (1, u "java/util/AbstractMap"), (42, .class_ 54), (0, u "java/util/Map"), (9, u "keySet"), (0, u "Ljava/util/Set;"), (0, .class_ 67), (0, u "java/util/AbstractMap$1"), (5, u "values"), (0, u "Ljava/util/Collection;"), (0, .class_ 76), (0, u "java/util/AbstractMap$2"), (104, .class_ 182), (0, u "java/util/AbstractMap$ViewCollection"), (0, .class_ 184), (0, u "java/util/AbstractMap$SimpleImmutableEntry"), (0, .class_ 186), (0, u "java/util/AbstractMap$SimpleEntry"), (0, .class_ 188), (0, u "java/util/AbstractMap$2$1"), (0, .class_ 190), (0, u "java/util/AbstractMap$1$1")] 5

def k10c0 : Code := { maxStack := 1, maxLocals := 1, code := jdk_71_method_1_code, exceptionTable := #[], attributes := #[] }
def k10m0 : Method := { name := "<init>", desc := "()V", sig := { parameters := [], returnType := none }, accessFlags := 4, code := some k10c0 }
/-- java/util/AbstractMap -/
def k10 : Class := { plain "java/util/AbstractMap" (some 0) with
  accessFlags := 1057
  interfaces := #[9]
  cf := some (fileOf pool10 8 #[.nestMembers #[181, 183, 185, 75, 187, 66, 189]] #[{ accessFlags := 4, nameIndex := 5, descriptorIndex := 6, attributes := #[] }] 1057 2 #[53] #[{ accessFlags := 128, nameIndex := 64, descriptorIndex := 65, attributes := #[] }, { accessFlags := 128, nameIndex := 73, descriptorIndex := 74, attributes := #[] }])
  fields := #[{ name := "keySet", type := (.object "java/util/Set"), accessFlags := 128, slot := 0, constantValue := 0 }, { name := "values", type := (.object "java/util/Collection"), accessFlags := 128, slot := 1, constantValue := 0 }]
  methods := #[k10m0]
  instanceTypes := #[(.object "java/util/Set"), (.object "java/util/Collection")]
  staticTypes := #[]
  resolved := Array.replicate 196 none
  statics := none }

def pool11 : Array CpInfo := pool [(1, .class_ 2), (0, u "java/lang/Cloneable"), (0, .class_ 4), (0, u "java/lang/Object")] 2

/-- java/lang/Cloneable -/
def k11 : Class := { plain "java/lang/Cloneable" (some 0) with
  accessFlags := 1537
  interfaces := #[]
  cf := some (fileOf pool11 1 #[] #[] 1537 3 #[] #[])
  fields := #[]
  methods := #[]
  instanceTypes := #[]
  staticTypes := #[]
  resolved := Array.replicate 7 none
  statics := none }

def pool12 : Array CpInfo := pool [(40, .class_ 41), (0, u "java/util/HashMap"), (1, .methodref 44 45), (0, .class_ 46), (0, .nameAndType 47 48), (0, u "java/util/AbstractMap"), (0, u "<init>"), (0, u "()V"), (32, .fieldref 40 82), (0, .nameAndType 83 84), (0, u "loadFactor"), (0, u "F"), (5, u "threshold"), (0, u "I"), (0, .float 1061158912), (8, .class_ 103), (1, u "java/util/Map"), (0, u "size"), (2, u "table"), (0, u "[Ljava/util/HashMap$Node;"), (14, u "entrySet"), (39, .class_ 165), (1, u "java/util/HashMap$Node"), (14, .class_ 181), (0, u "java/util/HashMap$TreeNode"), (22, u "modCount"), (37, u "Ljava/util/Set;"), (0, .class_ 244), (0, u "java/util/HashMap$KeySet"), (18, .class_ 264), (0, u "java/util/HashMap$Values"), (3, .class_ 269), (0, u "java/util/HashMap$EntrySet"), (76, .class_ 348), (1, u "java/util/HashMap$UnsafeHolder"), (43, .class_ 393), (0, u "java/lang/Cloneable"), (0, .class_ 395), (0, u "java/io/Serializable"), (0, u "serialVersionUID"), (0, u "J"), (3, u "DEFAULT_INITIAL_CAPACITY"), (1, u "MAXIMUM_CAPACITY"), (0, u "DEFAULT_LOAD_FACTOR"), (0, u "TREEIFY_THRESHOLD"), (1, u "UNTREEIFY_THRESHOLD"), (1, u "MIN_TREEIFY_CAPACITY"), (186, .class_ 597), (0, u "java/util/HashMap$EntrySpliterator"), (0, .class_ 599), (0, u "java/util/HashMap$ValueSpliterator"), (0, .class_ 601), (0, u "java/util/HashMap$KeySpliterator"), (0, .class_ 603), (0, u "java/util/HashMap$HashMapSpliterator"), (0, .class_ 605), (0, u "java/util/HashMap$EntryIterator"), (0, .class_ 607), (0, u "java/util/HashMap$ValueIterator"), (0, .class_ 609), (0, u "java/util/HashMap$KeyIterator"), (0, .class_ 611), (0, u "java/util/HashMap$HashIterator")] 17

def k12c0 : Code := { maxStack := 2, maxLocals := 1, code := jdk_69_method_7_code, exceptionTable := #[], attributes := #[] }
def k12m0 : Method := { name := "<init>", desc := "()V", sig := { parameters := [], returnType := none }, accessFlags := 1, code := some k12c0 }
/-- java/util/HashMap -/
def k12 : Class := { plain "java/util/HashMap" (some 10) with
  accessFlags := 33
  interfaces := #[9, 11, 2]
  cf := some (fileOf pool12 40 #[.nestMembers #[180, 596, 598, 600, 602, 604, 606, 608, 610, 346, 268, 263, 243, 163]] #[{ accessFlags := 1, nameIndex := 47, descriptorIndex := 48, attributes := #[] }] 33 44 #[101, 392, 394] #[{ accessFlags := 26, nameIndex := 396, descriptorIndex := 397, attributes := #[] }, { accessFlags := 24, nameIndex := 401, descriptorIndex := 91, attributes := #[] }, { accessFlags := 24, nameIndex := 403, descriptorIndex := 91, attributes := #[] }, { accessFlags := 24, nameIndex := 404, descriptorIndex := 84, attributes := #[] }, { accessFlags := 24, nameIndex := 405, descriptorIndex := 91, attributes := #[] }, { accessFlags := 24, nameIndex := 407, descriptorIndex := 91, attributes := #[] }, { accessFlags := 24, nameIndex := 409, descriptorIndex := 91, attributes := #[] }, { accessFlags := 128, nameIndex := 107, descriptorIndex := 108, attributes := #[] }, { accessFlags := 128, nameIndex := 123, descriptorIndex := 242, attributes := #[] }, { accessFlags := 128, nameIndex := 104, descriptorIndex := 91, attributes := #[] }, { accessFlags := 128, nameIndex := 204, descriptorIndex := 91, attributes := #[] }, { accessFlags := 0, nameIndex := 90, descriptorIndex := 91, attributes := #[] }, { accessFlags := 16, nameIndex := 83, descriptorIndex := 84, attributes := #[] }])
  fields := #[{ name := "serialVersionUID", type := .long, accessFlags := 26, slot := 0, constantValue := 0 }, { name := "DEFAULT_INITIAL_CAPACITY", type := .int, accessFlags := 24, slot := 1, constantValue := 0 }, { name := "MAXIMUM_CAPACITY", type := .int, accessFlags := 24, slot := 2, constantValue := 0 }, { name := "DEFAULT_LOAD_FACTOR", type := .float, accessFlags := 24, slot := 3, constantValue := 0 }, { name := "TREEIFY_THRESHOLD", type := .int, accessFlags := 24, slot := 4, constantValue := 0 }, { name := "UNTREEIFY_THRESHOLD", type := .int, accessFlags := 24, slot := 5, constantValue := 0 }, { name := "MIN_TREEIFY_CAPACITY", type := .int, accessFlags := 24, slot := 6, constantValue := 0 }, { name := "table", type := (.array (.object "java/util/HashMap$Node")), accessFlags := 128, slot := 2, constantValue := 0 }, { name := "entrySet", type := (.object "java/util/Set"), accessFlags := 128, slot := 3, constantValue := 0 }, { name := "size", type := .int, accessFlags := 128, slot := 4, constantValue := 0 }, { name := "modCount", type := .int, accessFlags := 128, slot := 5, constantValue := 0 }, { name := "threshold", type := .int, accessFlags := 0, slot := 6, constantValue := 0 }, { name := "loadFactor", type := .float, accessFlags := 16, slot := 7, constantValue := 0 }]
  methods := #[k12m0]
  instanceTypes := #[(.object "java/util/Set"), (.object "java/util/Collection"), (.array (.object "java/util/HashMap$Node")), (.object "java/util/Set"), .int, .int, .int, .float]
  staticTypes := #[.long, .int, .int, .float, .int, .int, .int]
  resolved := Array.replicate 629 none
  statics := none }

def pool13 : Array CpInfo := pool [(2, .class_ 4), (1, u "java/util/SequencedMap"), (38, .class_ 44), (0, u "java/util/SequencedMap$1SeqKeySet"), (3, .class_ 49), (0, u "java/util/SequencedMap$1SeqValues"), (1, .class_ 52), (0, u "java/util/SequencedMap$1SeqEntrySet"), (1, .class_ 55), (0, u "java/lang/Object"), (0, .class_ 57), (0, u "java/util/Map")] 48

/-- java/util/SequencedMap -/
def k13 : Class := { plain "java/util/SequencedMap" (some 0) with
  accessFlags := 1537
  interfaces := #[9]
  cf := some (fileOf pool13 2 #[.nestMembers #[51, 48, 43]] #[] 1537 54 #[56] #[])
  fields := #[]
  methods := #[]
  instanceTypes := #[]
  staticTypes := #[]
  resolved := Array.replicate 106 none
  statics := none }

def pool14 : Array CpInfo := pool [(1, .fieldref 2 3), (0, .class_ 4), (0, .nameAndType 5 6), (0, u "java/util/LinkedHashMap"), (0, u "putMode"), (0, u "I"), (2, u "head"), (0, u "Ljava/util/LinkedHashMap$Entry;"), (2, u "tail"), (1, .class_ 17), (1, u "java/util/LinkedHashMap$Entry"), (5, .class_ 25), (1, u "java/util/HashMap"), (1, u "()V"), (2, u "<init>"), (33, .fieldref 2 65), (0, .nameAndType 66 67), (0, u "accessOrder"), (0, u "Z"), (19, .methodref 23 88), (0, .nameAndType 30 27), (32, .class_ 122), (0, u "java/util/LinkedHashMap$LinkedKeySet"), (20, .class_ 144), (0, u "java/util/LinkedHashMap$LinkedValues"), (9, .class_ 155), (0, u "java/util/LinkedHashMap$LinkedEntrySet"), (44, .class_ 201), (0, u "java/util/LinkedHashMap$ReversedLinkedHashMapView"), (3, .class_ 206), (0, u "java/util/SequencedMap"), (0, u "serialVersionUID"), (0, u "J"), (5, u "PUT_NORM"), (1, u "PUT_FIRST"), (1, u "PUT_LAST"), (143, .class_ 363), (0, u "java/util/LinkedHashMap$LinkedEntryIterator"), (0, .class_ 365), (0, u "java/util/LinkedHashMap$LinkedValueIterator"), (0, .class_ 367), (0, u "java/util/LinkedHashMap$LinkedKeyIterator"), (0, .class_ 369), (0, u "java/util/LinkedHashMap$LinkedHashIterator")] 16

def k14c0 : Code := { maxStack := 2, maxLocals := 1, code := jdk_94_method_16_code, exceptionTable := #[], attributes := #[] }
def k14m0 : Method := { name := "<init>", desc := "()V", sig := { parameters := [], returnType := none }, accessFlags := 1, code := some k14c0 }
/-- java/util/LinkedHashMap -/
def k14 : Class := { plain "java/util/LinkedHashMap" (some 12) with
  accessFlags := 33
  interfaces := #[13]
  cf := some (fileOf pool14 2 #[.nestMembers #[200, 362, 364, 366, 368, 154, 143, 121, 15]] #[{ accessFlags := 1, nameIndex := 30, descriptorIndex := 27, attributes := #[] }] 33 23 #[205] #[{ accessFlags := 26, nameIndex := 207, descriptorIndex := 208, attributes := #[] }, { accessFlags := 128, nameIndex := 9, descriptorIndex := 10, attributes := #[] }, { accessFlags := 128, nameIndex := 13, descriptorIndex := 10, attributes := #[] }, { accessFlags := 16, nameIndex := 66, descriptorIndex := 67, attributes := #[] }, { accessFlags := 24, nameIndex := 214, descriptorIndex := 6, attributes := #[] }, { accessFlags := 24, nameIndex := 216, descriptorIndex := 6, attributes := #[] }, { accessFlags := 24, nameIndex := 218, descriptorIndex := 6, attributes := #[] }, { accessFlags := 128, nameIndex := 5, descriptorIndex := 6, attributes := #[] }])
  fields := #[{ name := "serialVersionUID", type := .long, accessFlags := 26, slot := 0, constantValue := 0 }, { name := "head", type := (.object "java/util/LinkedHashMap$Entry"), accessFlags := 128, slot := 8, constantValue := 0 }, { name := "tail", type := (.object "java/util/LinkedHashMap$Entry"), accessFlags := 128, slot := 9, constantValue := 0 }, { name := "accessOrder", type := .boolean, accessFlags := 16, slot := 10, constantValue := 0 }, { name := "PUT_NORM", type := .int, accessFlags := 24, slot := 1, constantValue := 0 }, { name := "PUT_FIRST", type := .int, accessFlags := 24, slot := 2, constantValue := 0 }, { name := "PUT_LAST", type := .int, accessFlags := 24, slot := 3, constantValue := 0 }, { name := "putMode", type := .int, accessFlags := 128, slot := 11, constantValue := 0 }]
  methods := #[k14m0]
  instanceTypes := #[(.object "java/util/Set"), (.object "java/util/Collection"), (.array (.object "java/util/HashMap$Node")), (.object "java/util/Set"), .int, .int, .int, .float, (.object "java/util/LinkedHashMap$Entry"), (.object "java/util/LinkedHashMap$Entry"), .boolean, .int]
  staticTypes := #[.long, .int, .int, .int]
  resolved := Array.replicate 386 none
  statics := none }

def pool15 : Array CpInfo := pool [(1, .class_ 2), (0, u "java/lang/Appendable"), (0, .class_ 4), (0, u "java/lang/Object")] 9

/-- java/lang/Appendable -/
def k15 : Class := { plain "java/lang/Appendable" (some 0) with
  accessFlags := 1537
  interfaces := #[]
  cf := some (fileOf pool15 1 #[] #[] 1537 3 #[] #[])
  fields := #[]
  methods := #[]
  instanceTypes := #[]
  staticTypes := #[]
  resolved := Array.replicate 14 none
  statics := none }

def pool16 : Array CpInfo := pool [(1, .class_ 2), (0, u "java/lang/String"), (0, .methodref 4 5), (0, .class_ 6), (0, .nameAndType 7 8), (0, u "java/lang/Object"), (0, u "<init>"), (0, u "()V"), (1, .class_ 12), (1, u "java/lang/AbstractStringBuilder"), (0, u "EMPTYVALUE"), (0, u "[B"), (0, .fieldref 10 16), (0, .nameAndType 17 14), (0, u "value"), (0, .fieldref 1 19), (0, .nameAndType 20 21), (0, u "COMPACT_STRINGS"), (0, u "Z"), (0, .fieldref 10 23), (0, .nameAndType 24 25), (0, u "coder"), (0, u "B"), (22, .class_ 49), (0, u "java/lang/CharSequence"), (25, u "maybeLatin1"), (5, u "count"), (0, u "I"), (20, u "(I)V"), (340, .class_ 445), (0, u "java/lang/Appendable")] 163

def k16m0 : Method := { name := "<init>", desc := "()V", sig := { parameters := [], returnType := none }, accessFlags := 0, code := none }
def k16c1 : Code := { maxStack := 2, maxLocals := 2, code := jdk_68_method_2_code, exceptionTable := #[], attributes := #[] }
def k16m1 : Method := { name := "<init>", desc := "(I)V", sig := { parameters := [.int], returnType := none }, accessFlags := 0, code := some k16c1 }
/-- java/lang/AbstractStringBuilder -/
def k16 : Class := { plain "java/lang/AbstractStringBuilder" (some 0) with
  accessFlags := 1056
  interfaces := #[15, 4]
  cf := some (fileOf pool16 10 #[] #[{ accessFlags := 0, nameIndex := 7, descriptorIndex := 8, attributes := #[] }, { accessFlags := 0, nameIndex := 7, descriptorIndex := 103, attributes := #[] }] 1056 4 #[444, 48] #[{ accessFlags := 0, nameIndex := 17, descriptorIndex := 14, attributes := #[] }, { accessFlags := 0, nameIndex := 24, descriptorIndex := 25, attributes := #[] }, { accessFlags := 0, nameIndex := 75, descriptorIndex := 21, attributes := #[] }, { accessFlags := 0, nameIndex := 81, descriptorIndex := 82, attributes := #[] }, { accessFlags := 26, nameIndex := 13, descriptorIndex := 14, attributes := #[] }])
  fields := #[{ name := "value", type := (.array .byte), accessFlags := 0, slot := 0, constantValue := 0 }, { name := "coder", type := .byte, accessFlags := 0, slot := 1, constantValue := 0 }, { name := "maybeLatin1", type := .boolean, accessFlags := 0, slot := 2, constantValue := 0 }, { name := "count", type := .int, accessFlags := 0, slot := 3, constantValue := 0 }, { name := "EMPTYVALUE", type := (.array .byte), accessFlags := 26, slot := 0, constantValue := 0 }]
  methods := #[k16m0, k16m1]
  instanceTypes := #[(.array .byte), .byte, .boolean, .int]
  staticTypes := #[(.array .byte)]
  resolved := Array.replicate 609 none
  statics := none }

def pool17 : Array CpInfo := pool [(1, .methodref 2 3), (0, .class_ 4), (0, .nameAndType 5 6), (0, u "java/lang/AbstractStringBuilder"), (0, u "<init>"), (0, u "(I)V"), (17, .class_ 26), (1, u "java/lang/StringBuilder"), (118, u "()V"), (203, .class_ 350), (0, u "java/lang/Appendable"), (0, .class_ 352), (0, u "java/io/Serializable"), (0, .class_ 354), (0, u "java/lang/Comparable"), (0, .class_ 356), (0, u "java/lang/CharSequence"), (0, u "serialVersionUID"), (0, u "J")] 63

def k17c0 : Code := { maxStack := 2, maxLocals := 1, code := jdk_67_method_1_code, exceptionTable := #[], attributes := #[] }
def k17m0 : Method := { name := "<init>", desc := "()V", sig := { parameters := [], returnType := none }, accessFlags := 1, code := some k17c0 }
/-- java/lang/StringBuilder -/
def k17 : Class := { plain "java/lang/StringBuilder" (some 16) with
  accessFlags := 49
  interfaces := #[15, 2, 3, 4]
  cf := some (fileOf pool17 24 #[] #[{ accessFlags := 1, nameIndex := 5, descriptorIndex := 145, attributes := #[] }] 49 2 #[349, 351, 353, 355] #[{ accessFlags := 24, nameIndex := 357, descriptorIndex := 358, attributes := #[] }])
  fields := #[{ name := "serialVersionUID", type := .long, accessFlags := 24, slot := 0, constantValue := 0 }]
  methods := #[k17m0]
  instanceTypes := #[(.array .byte), .byte, .boolean, .int]
  staticTypes := #[.long]
  resolved := Array.replicate 422 none
  statics := none }

def pool18 : Array CpInfo := pool [(8, .class_ 10), (1, u "java/lang/Iterable"), (24, .class_ 36), (0, u "java/lang/Object")] 25

/-- java/lang/Iterable -/
def k18 : Class := { plain "java/lang/Iterable" (some 0) with
  accessFlags := 1537
  interfaces := #[]
  cf := some (fileOf pool18 8 #[] #[] 1537 35 #[] #[])
  fields := #[]
  methods := #[]
  instanceTypes := #[]
  staticTypes := #[]
  resolved := Array.replicate 62 none
  statics := none }

def pool19 : Array CpInfo := pool [(10, .class_ 12), (1, u "java/util/Collection"), (47, .class_ 61), (0, u "java/lang/Object"), (0, .class_ 63), (0, u "java/lang/Iterable")] 51

/-- java/util/Collection -/
def k19 : Class := { plain "java/util/Collection" (some 0) with
  accessFlags := 1537
  interfaces := #[18]
  cf := some (fileOf pool19 10 #[] #[] 1537 60 #[62] #[])
  fields := #[]
  methods := #[]
  instanceTypes := #[]
  staticTypes := #[]
  resolved := Array.replicate 115 none
  statics := none }

def pool20 : Array CpInfo := pool [(1, .methodref 2 3), (0, .class_ 4), (0, .nameAndType 5 6), (0, u "java/lang/Object"), (0, u "<init>"), (0, u "()V"), (1, .class_ 10), (1, u "java/util/AbstractCollection"), (66, .class_ 78), (0, u "java/util/Collection")] 81

def k20c0 : Code := { maxStack := 1, maxLocals := 1, code := jdk_22_method_1_code, exceptionTable := #[], attributes := #[] }
def k20m0 : Method := { name := "<init>", desc := "()V", sig := { parameters := [], returnType := none }, accessFlags := 4, code := some k20c0 }
/-- java/util/AbstractCollection -/
def k20 : Class := { plain "java/util/AbstractCollection" (some 0) with
  accessFlags := 1057
  interfaces := #[19]
  cf := some (fileOf pool20 8 #[] #[{ accessFlags := 4, nameIndex := 5, descriptorIndex := 6, attributes := #[] }] 1057 2 #[77] #[])
  fields := #[]
  methods := #[k20m0]
  instanceTypes := #[]
  staticTypes := #[]
  resolved := Array.replicate 160 none
  statics := none }

def pool21 : Array CpInfo := pool [(8, .class_ 10), (1, u "java/util/SequencedCollection"), (15, .class_ 27), (0, u "java/lang/Object"), (0, .class_ 29), (0, u "java/util/Collection")] 27

/-- java/util/SequencedCollection -/
def k21 : Class := { plain "java/util/SequencedCollection" (some 0) with
  accessFlags := 1537
  interfaces := #[19]
  cf := some (fileOf pool21 8 #[] #[] 1537 26 #[28] #[])
  fields := #[]
  methods := #[]
  instanceTypes := #[]
  staticTypes := #[]
  resolved := Array.replicate 57 none
  statics := none }

def pool22 : Array CpInfo := pool [(8, .class_ 10), (1, u "java/util/List"), (92, .class_ 104), (0, u "java/lang/Object"), (15, .class_ 121), (0, u "java/util/SequencedCollection")] 129

/-- java/util/List -/
def k22 : Class := { plain "java/util/List" (some 0) with
  accessFlags := 1537
  interfaces := #[21]
  cf := some (fileOf pool22 8 #[] #[] 1537 103 #[120] #[])
  fields := #[]
  methods := #[]
  instanceTypes := #[]
  staticTypes := #[]
  resolved := Array.replicate 251 none
  statics := none }

def pool23 : Array CpInfo := pool [(1, .methodref 2 3), (0, .class_ 4), (0, .nameAndType 5 6), (0, u "java/util/AbstractCollection"), (0, u "<init>"), (0, u "()V"), (0, .fieldref 8 9), (0, .class_ 10), (0, .nameAndType 11 12), (0, u "java/util/AbstractList"), (0, u "modCount"), (0, u "I"), (64, .class_ 78), (0, u "java/util/AbstractList$Itr"), (3, .class_ 83), (0, u "java/util/AbstractList$ListItr"), (9, .class_ 94), (0, u "java/util/AbstractList$RandomAccessSubList"), (3, .class_ 99), (0, u "java/util/AbstractList$SubList"), (33, .class_ 134), (0, u "java/util/List"), (73, .class_ 209), (0, u "java/util/AbstractList$SubList$1"), (0, .class_ 211), (0, u "java/util/AbstractList$RandomAccessSpliterator")] 6

def k23c0 : Code := { maxStack := 2, maxLocals := 1, code := jdk_39_method_1_code, exceptionTable := #[], attributes := #[] }
def k23m0 : Method := { name := "<init>", desc := "()V", sig := { parameters := [], returnType := none }, accessFlags := 4, code := some k23c0 }
/-- java/util/AbstractList -/
def k23 : Class := { plain "java/util/AbstractList" (some 20) with
  accessFlags := 1057
  interfaces := #[22]
  cf := some (fileOf pool23 8 #[.nestMembers #[93, 98, 208, 210, 82, 77]] #[{ accessFlags := 4, nameIndex := 5, descriptorIndex := 6, attributes := #[] }] 1057 2 #[133] #[{ accessFlags := 132, nameIndex := 11, descriptorIndex := 12, attributes := #[] }])
  fields := #[{ name := "modCount", type := .int, accessFlags := 132, slot := 0, constantValue := 0 }]
  methods := #[k23m0]
  instanceTypes := #[.int]
  staticTypes := #[]
  resolved := Array.replicate 218 none
  statics := none }

def pool24 : Array CpInfo := pool [(1, .class_ 2), (0, u "java/util/RandomAccess"), (0, .class_ 4), (0, u "java/lang/Object")] 2

/-- java/util/RandomAccess -/
def k24 : Class := { plain "java/util/RandomAccess" (some 0) with
  accessFlags := 1537
  interfaces := #[]
  cf := some (fileOf pool24 1 #[] #[] 1537 3 #[] #[])
  fields := #[]
  methods := #[]
  instanceTypes := #[]
  staticTypes := #[]
  resolved := Array.replicate 7 none
  statics := none }

def pool25 : Array CpInfo := pool [(1, .methodref 2 3), (0, .class_ 4), (0, .nameAndType 5 6), (0, u "java/util/AbstractList"), (0, u "<init>"), (0, u "()V"), (2, .fieldref 10 11), (0, .class_ 12), (0, .nameAndType 13 14), (0, u "java/util/ArrayList"), (0, u "elementData"), (0, u "[Ljava/lang/Object;"), (2, u "EMPTY_ELEMENTDATA"), (21, .fieldref 10 40), (0, .nameAndType 41 14), (0, u "DEFAULTCAPACITY_EMPTY_ELEMENTDATA"), (8, u "size"), (0, u "I"), (96, .class_ 149), (0, u "java/util/List"), (112, .class_ 263), (0, u "java/util/ArrayList$ListItr"), (3, .class_ 268), (0, u "java/util/ArrayList$Itr"), (7, .class_ 277), (0, u "java/util/ArrayList$SubList"), (12, .class_ 291), (0, u "java/util/ArrayList$ArrayListSpliterator"), (37, .class_ 330), (0, u "java/util/RandomAccess"), (0, .class_ 332), (0, u "java/lang/Cloneable"), (0, .class_ 334), (0, u "java/io/Serializable"), (0, u "serialVersionUID"), (0, u "J"), (3, u "DEFAULT_CAPACITY"), (159, .class_ 501), (0, u "java/util/ArrayList$SubList$2"), (0, .class_ 503), (0, u "java/util/ArrayList$SubList$1")] 5

def k25c0 : Code := { maxStack := 2, maxLocals := 1, code := jdk_38_method_2_code, exceptionTable := #[], attributes := #[] }
def k25m0 : Method := { name := "<init>", desc := "()V", sig := { parameters := [], returnType := none }, accessFlags := 1, code := some k25c0 }
/-- java/util/ArrayList -/
def k25 : Class := { plain "java/util/ArrayList" (some 23) with
  accessFlags := 33
  interfaces := #[22, 24, 11, 2]
  cf := some (fileOf pool25 10 #[.nestMembers #[290, 276, 500, 502, 262, 267]] #[{ accessFlags := 1, nameIndex := 5, descriptorIndex := 6, attributes := #[] }] 33 2 #[148, 329, 331, 333] #[{ accessFlags := 26, nameIndex := 335, descriptorIndex := 336, attributes := #[] }, { accessFlags := 26, nameIndex := 340, descriptorIndex := 51, attributes := #[] }, { accessFlags := 26, nameIndex := 17, descriptorIndex := 14, attributes := #[] }, { accessFlags := 26, nameIndex := 41, descriptorIndex := 14, attributes := #[] }, { accessFlags := 128, nameIndex := 13, descriptorIndex := 14, attributes := #[] }, { accessFlags := 2, nameIndex := 50, descriptorIndex := 51, attributes := #[] }])
  fields := #[{ name := "serialVersionUID", type := .long, accessFlags := 26, slot := 0, constantValue := 0 }, { name := "DEFAULT_CAPACITY", type := .int, accessFlags := 26, slot := 1, constantValue := 0 }, { name := "EMPTY_ELEMENTDATA", type := (.array (.object "java/lang/Object")), accessFlags := 26, slot := 2, constantValue := 0 }, { name := "DEFAULTCAPACITY_EMPTY_ELEMENTDATA", type := (.array (.object "java/lang/Object")), accessFlags := 26, slot := 3, constantValue := 0 }, { name := "elementData", type := (.array (.object "java/lang/Object")), accessFlags := 128, slot := 1, constantValue := 0 }, { name := "size", type := .int, accessFlags := 2, slot := 2, constantValue := 0 }]
  methods := #[k25m0]
  instanceTypes := #[.int, (.array (.object "java/lang/Object")), .int]
  staticTypes := #[.long, .int, (.array (.object "java/lang/Object")), (.array (.object "java/lang/Object"))]
  resolved := Array.replicate 509 none
  statics := some 1 }

def pool26 : Array CpInfo := pool [(4, .class_ 6), (1, u "java/lang/Object"), (0, u "<init>"), (0, u "()V"), (5, .class_ 16), (1, u "java/lang/StringLatin1"), (104, u "$assertionsDisabled"), (0, u "Z"), (98, .class_ 223), (1, u "java/lang/StringLatin1$LinesSpliterator"), (57, u "equals"), (0, u "([B[B)Z"), (107, .class_ 391), (0, u "java/lang/StringLatin1$CharsSpliterator")] 3

def k26m0 : Method := { name := "<init>", desc := "()V", sig := { parameters := [], returnType := none }, accessFlags := 0, code := none }
def k26c1 : Code := { maxStack := 3, maxLocals := 3, code := jdk_43_method_13_code, exceptionTable := #[], attributes := #[] }
def k26m1 : Method := { name := "equals", desc := "([B[B)Z", sig := { parameters := [(.array .byte), (.array .byte)], returnType := some .boolean }, accessFlags := 9, code := some k26c1 }
/-- java/lang/StringLatin1 -/
def k26 : Class := { plain "java/lang/StringLatin1" (some 0) with
  accessFlags := 48
  interfaces := #[]
  cf := some (fileOf pool26 14 #[.nestMembers #[390, 221]] #[{ accessFlags := 0, nameIndex := 7, descriptorIndex := 8, attributes := #[] }, { accessFlags := 9, nameIndex := 281, descriptorIndex := 282, attributes := #[] }] 48 4 #[] #[{ accessFlags := 4120, nameIndex := 121, descriptorIndex := 122, attributes := #[] }])
  fields := #[{ name := "$assertionsDisabled", type := .boolean, accessFlags := 4120, slot := 0, constantValue := 0 }]
  methods := #[k26m0, k26m1]
  instanceTypes := #[]
  staticTypes := #[.boolean]
  resolved := Array.replicate 395 none
  statics := none }

def pool27 : Array CpInfo := pool [(6, .class_ 8), (1, u "java/lang/Object"), (0, u "<init>"), (0, u "()V"), (0, .methodref 12 13), (0, .class_ 14), (0, .nameAndType 15 16), (0, u "java/lang/StringUTF16"), (0, u "newBytesLength"), (0, u "(I)I"), (3, .integer 1073741823), (23, .fieldref 12 45), (0, .nameAndType 46 47), (0, u "$assertionsDisabled"), (0, u "Z"), (11, .fieldref 12 60), (0, .nameAndType 61 62), (0, u "HI_BYTE_SHIFT"), (0, u "I"), (0, .fieldref 12 64), (0, .nameAndType 65 62), (0, u "LO_BYTE_SHIFT"), (5, .methodref 12 72), (0, .nameAndType 73 74), (0, u "getChar"), (0, u "([BI)C"), (32, .methodref 12 108), (0, .nameAndType 109 110), (0, u "newBytesFor"), (0, u "(I)[B"), (0, .methodref 12 112), (0, .nameAndType 113 114), (0, u "putChar"), (0, u "([BII)V"), (0, .methodref 12 116), (0, .nameAndType 117 118), (0, u "compress"), (0, u "([CI[BII)I"), (0, .methodref 12 120), (0, .nameAndType 121 122), (0, u "toBytes"), (0, u "([CII)[B"), (138, u "coderFromArrayLen"), (0, u "([BI)B"), (106, .class_ 371), (1, u "java/lang/StringUTF16$LinesSpliterator"), (58, u "MAX_LENGTH"), (196, .class_ 628), (0, u "java/lang/StringUTF16$CodePointsSpliterator"), (0, .class_ 630), (0, u "java/lang/StringUTF16$CharsSpliterator")] 4

def k27m0 : Method := { name := "<init>", desc := "()V", sig := { parameters := [], returnType := none }, accessFlags := 0, code := none }
def k27c1 : Code := { maxStack := 1, maxLocals := 1, code := jdk_52_method_2_code, exceptionTable := #[], attributes := #[] }
def k27m1 : Method := { name := "newBytesFor", desc := "(I)[B", sig := { parameters := [.int], returnType := some (.array .byte) }, accessFlags := 9, code := some k27c1 }
def k27c2 : Code := { maxStack := 4, maxLocals := 1, code := jdk_52_method_3_code, exceptionTable := #[], attributes := #[] }
def k27m2 : Method := { name := "newBytesLength", desc := "(I)I", sig := { parameters := [.int], returnType := some .int }, accessFlags := 9, code := some k27c2 }
def k27c3 : Code := { maxStack := 4, maxLocals := 3, code := jdk_52_method_4_code, exceptionTable := #[], attributes := #[] }
def k27m3 : Method := { name := "putChar", desc := "([BII)V", sig := { parameters := [(.array .byte), .int, .int], returnType := none }, accessFlags := 8, code := some k27c3 }
def k27c4 : Code := { maxStack := 3, maxLocals := 2, code := jdk_52_method_5_code, exceptionTable := #[], attributes := #[] }
def k27m4 : Method := { name := "getChar", desc := "([BI)C", sig := { parameters := [(.array .byte), .int], returnType := some .char }, accessFlags := 8, code := some k27c4 }
def k27c5 : Code := { maxStack := 4, maxLocals := 5, code := jdk_52_method_14_code, exceptionTable := #[], attributes := #[] }
def k27m5 : Method := { name := "toBytes", desc := "([CII)[B", sig := { parameters := [(.array .char), .int, .int], returnType := some (.array .byte) }, accessFlags := 9, code := some k27c5 }
def k27c6 : Code := { maxStack := 2, maxLocals := 2, code := jdk_52_method_15_code, exceptionTable := #[], attributes := #[] }
def k27m6 : Method := { name := "coderFromArrayLen", desc := "([BI)B", sig := { parameters := [(.array .byte), .int], returnType := some .byte }, accessFlags := 8, code := some k27c6 }
def k27c7 : Code := { maxStack := 5, maxLocals := 6, code := jdk_52_method_16_code, exceptionTable := #[], attributes := #[] }
def k27m7 : Method := { name := "compress", desc := "([CII)[B", sig := { parameters := [(.array .char), .int, .int], returnType := some (.array .byte) }, accessFlags := 9, code := some k27c7 }
def k27c8 : Code := { maxStack := 3, maxLocals := 7, code := jdk_52_method_21_code, exceptionTable := #[], attributes := #[] }
def k27m8 : Method := { name := "compress", desc := "([CI[BII)I", sig := { parameters := [(.array .char), .int, (.array .byte), .int, .int], returnType := some .int }, accessFlags := 9, code := some k27c8 }
/-- java/lang/StringUTF16 -/
def k27 : Class := { plain "java/lang/StringUTF16" (some 0) with
  accessFlags := 48
  interfaces := #[]
  cf := some (fileOf pool27 12 #[.nestMembers #[627, 629, 369]] #[{ accessFlags := 0, nameIndex := 9, descriptorIndex := 10, attributes := #[] }, { accessFlags := 9, nameIndex := 109, descriptorIndex := 110, attributes := #[] }, { accessFlags := 9, nameIndex := 15, descriptorIndex := 16, attributes := #[] }, { accessFlags := 8, nameIndex := 113, descriptorIndex := 114, attributes := #[] }, { accessFlags := 8, nameIndex := 73, descriptorIndex := 74, attributes := #[] }, { accessFlags := 9, nameIndex := 121, descriptorIndex := 122, attributes := #[] }, { accessFlags := 8, nameIndex := 261, descriptorIndex := 262, attributes := #[] }, { accessFlags := 9, nameIndex := 117, descriptorIndex := 122, attributes := #[] }, { accessFlags := 9, nameIndex := 117, descriptorIndex := 118, attributes := #[] }] 48 6 #[] #[{ accessFlags := 26, nameIndex := 61, descriptorIndex := 62, attributes := #[] }, { accessFlags := 26, nameIndex := 65, descriptorIndex := 62, attributes := #[] }, { accessFlags := 24, nameIndex := 430, descriptorIndex := 62, attributes := #[] }, { accessFlags := 4120, nameIndex := 46, descriptorIndex := 47, attributes := #[] }])
  fields := #[{ name := "HI_BYTE_SHIFT", type := .int, accessFlags := 26, slot := 0, constantValue := 0 }, { name := "LO_BYTE_SHIFT", type := .int, accessFlags := 26, slot := 1, constantValue := 0 }, { name := "MAX_LENGTH", type := .int, accessFlags := 24, slot := 2, constantValue := 0 }, { name := "$assertionsDisabled", type := .boolean, accessFlags := 4120, slot := 3, constantValue := 0 }]
  methods := #[k27m0, k27m1, k27m2, k27m3, k27m4, k27m5, k27m6, k27m7, k27m8]
  instanceTypes := #[]
  staticTypes := #[.int, .int, .int, .boolean]
  resolved := Array.replicate 635 none
  statics := some 2 }

def pool28 : Array CpInfo := pool [(2, .class_ 4), (1, u "java/lang/Object"), (0, u "<init>"), (0, u "()V"), (17, .class_ 26), (1, u "jdk/internal/util/Preconditions"), (28, .class_ 56), (0, u "jdk/internal/util/Preconditions$4"), (57, .class_ 115), (0, u "jdk/internal/util/Preconditions$1"), (7, u "SIOOBE_FORMATTER"), (0, u "Ljava/util/function/BiFunction;"), (0, .class_ 126), (0, u "jdk/internal/util/Preconditions$2"), (3, u "AIOOBE_FORMATTER"), (0, .class_ 132), (0, u "jdk/internal/util/Preconditions$3"), (3, u "IOOBE_FORMATTER")] 57

def k28m0 : Method := { name := "<init>", desc := "()V", sig := { parameters := [], returnType := none }, accessFlags := 1, code := none }
/-- jdk/internal/util/Preconditions -/
def k28 : Class := { plain "jdk/internal/util/Preconditions" (some 0) with
  accessFlags := 33
  interfaces := #[]
  cf := some (fileOf pool28 24 #[.nestMembers #[55, 131, 125, 114]] #[{ accessFlags := 1, nameIndex := 5, descriptorIndex := 6, attributes := #[] }] 33 2 #[] #[{ accessFlags := 25, nameIndex := 123, descriptorIndex := 124, attributes := #[] }, { accessFlags := 25, nameIndex := 130, descriptorIndex := 124, attributes := #[] }, { accessFlags := 25, nameIndex := 136, descriptorIndex := 124, attributes := #[] }])
  fields := #[{ name := "SIOOBE_FORMATTER", type := (.object "java/util/function/BiFunction"), accessFlags := 25, slot := 0, constantValue := 0 }, { name := "AIOOBE_FORMATTER", type := (.object "java/util/function/BiFunction"), accessFlags := 25, slot := 1, constantValue := 0 }, { name := "IOOBE_FORMATTER", type := (.object "java/util/function/BiFunction"), accessFlags := 25, slot := 2, constantValue := 0 }]
  methods := #[k28m0]
  instanceTypes := #[]
  staticTypes := #[(.object "java/util/function/BiFunction"), (.object "java/util/function/BiFunction"), (.object "java/util/function/BiFunction")]
  resolved := Array.replicate 194 none
  statics := some 3 }

def pool29 : Array CpInfo := pool [(9, u "<init>"), (6, .class_ 18), (1, u "java/lang/Object"), (0, u "()V"), (1, .class_ 23), (1, u "jdk/internal/util/ArraysSupport"), (0, u "LOG2_ARRAY_LONG_INDEX_SCALE"), (0, u "I"), (2, u "U"), (0, u "Ljdk/internal/misc/Unsafe;"), (8, u "BIG_ENDIAN"), (0, u "Z"), (8, u "LOG2_BYTE_BIT_SIZE"), (4, u "LOG2_ARRAY_INT_INDEX_SCALE"), (54, u "JLA"), (0, u "Ljdk/internal/access/JavaLangAccess;"), (11, u "LOG2_ARRAY_BOOLEAN_INDEX_SCALE"), (9, u "LOG2_ARRAY_BYTE_INDEX_SCALE"), (5, u "LOG2_ARRAY_CHAR_INDEX_SCALE"), (5, u "LOG2_ARRAY_SHORT_INDEX_SCALE"), (18, u "LOG2_ARRAY_FLOAT_INDEX_SCALE"), (24, u "LOG2_ARRAY_DOUBLE_INDEX_SCALE"), (89, u "T_BOOLEAN"), (2, u "T_CHAR"), (1, u "T_FLOAT"), (1, u "T_DOUBLE"), (1, u "T_BYTE"), (1, u "T_SHORT"), (1, u "T_INT"), (1, u "T_LONG"), (1, u "SOFT_MAX_ARRAY_LENGTH")] 83

def k29m0 : Method := { name := "<init>", desc := "()V", sig := { parameters := [], returnType := none }, accessFlags := 2, code := none }
/-- jdk/internal/util/ArraysSupport -/
def k29 : Class := { plain "jdk/internal/util/ArraysSupport" (some 0) with
  accessFlags := 33
  interfaces := #[]
  cf := some (fileOf pool29 21 #[] #[{ accessFlags := 2, nameIndex := 9, descriptorIndex := 19, attributes := #[] }] 33 16 #[] #[{ accessFlags := 24, nameIndex := 28, descriptorIndex := 29, attributes := #[] }, { accessFlags := 26, nameIndex := 38, descriptorIndex := 39, attributes := #[] }, { accessFlags := 25, nameIndex := 121, descriptorIndex := 25, attributes := #[] }, { accessFlags := 25, nameIndex := 131, descriptorIndex := 25, attributes := #[] }, { accessFlags := 25, nameIndex := 137, descriptorIndex := 25, attributes := #[] }, { accessFlags := 25, nameIndex := 143, descriptorIndex := 25, attributes := #[] }, { accessFlags := 25, nameIndex := 53, descriptorIndex := 25, attributes := #[] }, { accessFlags := 25, nameIndex := 24, descriptorIndex := 25, attributes := #[] }, { accessFlags := 25, nameIndex := 162, descriptorIndex := 25, attributes := #[] }, { accessFlags := 25, nameIndex := 187, descriptorIndex := 25, attributes := #[] }, { accessFlags := 26, nameIndex := 48, descriptorIndex := 25, attributes := #[] }, { accessFlags := 25, nameIndex := 277, descriptorIndex := 25, attributes := #[] }, { accessFlags := 25, nameIndex := 280, descriptorIndex := 25, attributes := #[] }, { accessFlags := 25, nameIndex := 282, descriptorIndex := 25, attributes := #[] }, { accessFlags := 25, nameIndex := 284, descriptorIndex := 25, attributes := #[] }, { accessFlags := 25, nameIndex := 286, descriptorIndex := 25, attributes := #[] }, { accessFlags := 25, nameIndex := 288, descriptorIndex := 25, attributes := #[] }, { accessFlags := 25, nameIndex := 290, descriptorIndex := 25, attributes := #[] }, { accessFlags := 25, nameIndex := 292, descriptorIndex := 25, attributes := #[] }, { accessFlags := 26, nameIndex := 108, descriptorIndex := 109, attributes := #[] }, { accessFlags := 25, nameIndex := 294, descriptorIndex := 25, attributes := #[] }])
  fields := #[{ name := "U", type := (.object "jdk/internal/misc/Unsafe"), accessFlags := 24, slot := 0, constantValue := 0 }, { name := "BIG_ENDIAN", type := .boolean, accessFlags := 26, slot := 1, constantValue := 0 }, { name := "LOG2_ARRAY_BOOLEAN_INDEX_SCALE", type := .int, accessFlags := 25, slot := 2, constantValue := 0 }, { name := "LOG2_ARRAY_BYTE_INDEX_SCALE", type := .int, accessFlags := 25, slot := 3, constantValue := 0 }, { name := "LOG2_ARRAY_CHAR_INDEX_SCALE", type := .int, accessFlags := 25, slot := 4, constantValue := 0 }, { name := "LOG2_ARRAY_SHORT_INDEX_SCALE", type := .int, accessFlags := 25, slot := 5, constantValue := 0 }, { name := "LOG2_ARRAY_INT_INDEX_SCALE", type := .int, accessFlags := 25, slot := 6, constantValue := 0 }, { name := "LOG2_ARRAY_LONG_INDEX_SCALE", type := .int, accessFlags := 25, slot := 7, constantValue := 0 }, { name := "LOG2_ARRAY_FLOAT_INDEX_SCALE", type := .int, accessFlags := 25, slot := 8, constantValue := 0 }, { name := "LOG2_ARRAY_DOUBLE_INDEX_SCALE", type := .int, accessFlags := 25, slot := 9, constantValue := 0 }, { name := "LOG2_BYTE_BIT_SIZE", type := .int, accessFlags := 26, slot := 10, constantValue := 0 }, { name := "T_BOOLEAN", type := .int, accessFlags := 25, slot := 11, constantValue := 0 }, { name := "T_CHAR", type := .int, accessFlags := 25, slot := 12, constantValue := 0 }, { name := "T_FLOAT", type := .int, accessFlags := 25, slot := 13, constantValue := 0 }, { name := "T_DOUBLE", type := .int, accessFlags := 25, slot := 14, constantValue := 0 }, { name := "T_BYTE", type := .int, accessFlags := 25, slot := 15, constantValue := 0 }, { name := "T_SHORT", type := .int, accessFlags := 25, slot := 16, constantValue := 0 }, { name := "T_INT", type := .int, accessFlags := 25, slot := 17, constantValue := 0 }, { name := "T_LONG", type := .int, accessFlags := 25, slot := 18, constantValue := 0 }, { name := "JLA", type := (.object "jdk/internal/access/JavaLangAccess"), accessFlags := 26, slot := 19, constantValue := 0 }, { name := "SOFT_MAX_ARRAY_LENGTH", type := .int, accessFlags := 25, slot := 20, constantValue := 0 }]
  methods := #[k29m0]
  instanceTypes := #[]
  staticTypes := #[(.object "jdk/internal/misc/Unsafe"), .boolean, .int, .int, .int, .int, .int, .int, .int, .int, .int, .int, .int, .int, .int, .int, .int, .int, .int, (.object "jdk/internal/access/JavaLangAccess"), .int]
  resolved := Array.replicate 378 none
  statics := none }

/-- the primitive byte -/
def k30 : Class := { plain "byte" none with kind := .primitive 'B', accessFlags := 0x411 }
/-- [B -/
def k31 : Class := { plain "[B" (some 0) with kind := .array 30 .byte, interfaces := #[11, 2], accessFlags := 1041 }

/-- the primitive char -/
def k32 : Class := { plain "char" none with kind := .primitive 'C', accessFlags := 0x411 }
/-- [C -/
def k33 : Class := { plain "[C" (some 0) with kind := .array 32 .char, interfaces := #[11, 2], accessFlags := 1041 }

/-- the primitive int -/
def k34 : Class := { plain "int" none with kind := .primitive 'I', accessFlags := 0x411 }
/-- [I -/
def k35 : Class := { plain "[I" (some 0) with kind := .array 34 .int, interfaces := #[11, 2], accessFlags := 1041 }

/-- [Ljava/lang/Object; -/
def k36 : Class := { plain "[Ljava/lang/Object;" (some 0) with kind := .array 0 (.object "java/lang/Object"), interfaces := #[11, 2], accessFlags := 1041 }

def heap : Heap := #[{ cls := 7, slots := #[.long 0, .int 1, .null, .int 0, .null, .int 0, .int 0], vm := .statics 7 },
  { cls := 25, slots := #[.long 0, .int 0, .ref 4, .ref 5], vm := .statics 25 },
  { cls := 27, slots := #[.int 0, .int 8, .int 0, .int 1], vm := .statics 27 },
  { cls := 28, slots := #[.null, .null, .null], vm := .statics 28 },
  { cls := 36, slots := #[], vm := .none },
  { cls := 36, slots := #[], vm := .none }]
def classes : Array Class := #[k0, k1, k2, k3, k4, k5, k6, k7, k8, k9, k10, k11, k12, k13, k14, k15, k16, k17, k18, k19, k20, k21, k22, k23, k24, k25, k26, k27, k28, k29, k30, k31, k32, k33, k34, k35, k36]
def interned : List (Array UInt16 × Addr) := []
def slotsUsed : Nat := 18
def theMethod : MethodId := ⟨1, 2⟩
def args0 : Array Value := #[.int 5, .int 6, .int 7, .int 8]
def aboutOver (below : List Frame) : State where
  vm := { classes := classes, interned := interned.toArray }
  heap := heap
  slotsUsed := slotsUsed
  threads := #[{ frames := .invoking theMethod args0 :: below }]
def below0 : List Frame := [.native { method := ⟨0, 0⟩, args := #[] }]
def about1 : State := aboutOver below0
def p0 : Program := .bare "" "" ""
def e0 : Env := launch0.env 0 0 0
theorem w_frames : about1.frames = Frame.invoking theMethod args0 :: below0 := rfl
set_option maxRecDepth 65536 in
theorem w_args : argsFit about1.vm theMethod args0 = true := by decide +kernel
set_option maxRecDepth 65536 in
theorem w_heap : heapFits about1 = true := by decide +kernel
set_option maxRecDepth 65536 in
theorem w_runnable : about1.curStatus? = some .runnable := by decide +kernel
set_option maxRecDepth 65536 in
theorem w_alone : about1.alone = true := by decide +kernel
set_option maxRecDepth 65536 in
theorem w_named : about1.methodNamed? x = some theMethod := by decide +kernel
set_option maxRecDepth 65536 in
theorem w_hears : about1.hears theMethod below0 = true := by decide +kernel
set_option maxRecDepth 65536 in
theorem w_ripe : about1.ripe theMethod args0 below0 = true := by decide +kernel
theorem w_running : about1.status = .running := rfl
set_option maxRecDepth 65536 in
theorem w_room : about1.hasRoom e0.platform room_1 = true :=
  launch0.hasRoom_least _ room_1 (by decide +kernel) (by decide +kernel) (by decide +kernel) (by decide +kernel) (by decide +kernel) (by decide +kernel)
theorem allAtoms_all (ts : List Jvm.Cond) (a : Array Jvm.Value) (st : Jvm.State) : (allAtoms ts).before a st = ts.all (fun c => c.before a st) := by
  induction ts with
  | nil => rfl
  | cons c t ih =>
    show (Jvm.Cond.and c (allAtoms t)).before a st = _
    rw [Jvm.Cond.before_and, ih, List.all_cons]
def words1 : List Jvm.Cond := Jvm.Cond.code x code maxLocals ret :: tables_1
/-- a 'code' word, met by the world's own term for the bytes: nothing is compared byte by byte -/
theorem code_word {y : MethodName} {bytes : ByteArray} {mx : Nat} {rt : Option FieldType} {a : Array Value} {s : State} {m : MethodId} {meth : Method} {c : Code} (h1 : s.methodNamed? y = some m) (h2 : s.vm.method? m = some meth) (h3 : meth.code = some c) (h4 : c.code = bytes)
    (h5 : (c.maxLocals == mx && c.exceptionTable.isEmpty && decide (c.maxStack ≤ mostOperands) && decide (meth.sig.returnType = rt) && !meth.locks && decide (parseMethodDescriptor y.desc = some meth.sig)) = true) : (Jvm.Cond.code y bytes mx rt).before a s = true := by
  simp only [Bool.and_eq_true, beq_iff_eq, Bool.not_eq_true', decide_eq_true_eq] at h5
  obtain ⟨⟨⟨⟨⟨g1, g2⟩, g3⟩, g4⟩, g5⟩, g6⟩ := h5
  simp [Cond.before, Cond.holds, Cond.value, h1, h2, h3, h4, g1, g2, g3, g4, g5, g6]
def isCode : Jvm.Cond → Bool
  | .code _ _ _ _ => true
  | _ => false
theorem all_split {L : List Jvm.Cond} {P : Jvm.Cond → Bool} (h1 : L.all (fun c => isCode c || P c) = true) (h2 : ∀ c ∈ L.filter isCode, P c = true) : L.all P = true := by
  refine List.all_eq_true.mpr fun c hc => ?_
  have h := List.all_eq_true.mp h1 c hc
  rcases Bool.eq_false_or_eq_true (isCode c) with hi | hi
  · exact h2 c (List.mem_filter.mpr ⟨hc, hi⟩)
  · simpa [hi] using h
set_option maxRecDepth 65536 in
theorem w_c0 : (Jvm.Cond.code x code maxLocals ret).before args0 about1 = true := code_word (m := ⟨1, 2⟩) (meth := k1m2) (c := k1c2) (by decide +kernel) rfl rfl rfl (by decide +kernel)
set_option maxRecDepth 65536 in
theorem w_c1 : (Jvm.Cond.code ({ cls := "portcullis/xml/XmlElementRequireNamePinLaw", name := "make", desc := "(IIII)Ljava/lang/String;" } : Jvm.MethodName) method_2_code (7 : Nat) (Option.some (Jvm.ClassFile.FieldType.object "java/lang/String"))).before args0 about1 = true := code_word (m := ⟨1, 1⟩) (meth := k1m1) (c := k1c1) (by decide +kernel) rfl rfl rfl (by decide +kernel)
set_option maxRecDepth 65536 in
theorem w_c2 : (Jvm.Cond.code ({ cls := "java/lang/String", name := "<init>", desc := "([C)V" } : Jvm.MethodName) jdk_42_method_3_code (2 : Nat) (Option.none : Option Jvm.ClassFile.FieldType)).before args0 about1 = true := code_word (m := ⟨7, 1⟩) (meth := k7m1) (c := k7c1) (by decide +kernel) rfl rfl rfl (by decide +kernel)
set_option maxRecDepth 65536 in
theorem w_c3 : (Jvm.Cond.code ({ cls := "java/lang/String", name := "<init>", desc := "([CIILjava/lang/Void;)V" } : Jvm.MethodName) jdk_42_method_149_code (6 : Nat) (Option.none : Option Jvm.ClassFile.FieldType)).before args0 about1 = true := code_word (m := ⟨7, 3⟩) (meth := k7m3) (c := k7c3) (by decide +kernel) rfl rfl rfl (by decide +kernel)
set_option maxRecDepth 65536 in
theorem w_c4 : (Jvm.Cond.code ({ cls := "java/lang/Object", name := "<init>", desc := "()V" } : Jvm.MethodName) object_method_1_code (1 : Nat) (Option.none : Option Jvm.ClassFile.FieldType)).before args0 about1 = true := code_word (m := ⟨0, 0⟩) (meth := k0m0) (c := k0c0) (by decide +kernel) rfl rfl rfl (by decide +kernel)
set_option maxRecDepth 65536 in
theorem w_c5 : (Jvm.Cond.code ({ cls := "portcullis/xml/XmlElement", name := "<init>", desc := "(Ljava/lang/String;)V" } : Jvm.MethodName) prog_42_method_1_code (2 : Nat) (Option.none : Option Jvm.ClassFile.FieldType)).before args0 about1 = true := code_word (m := ⟨8, 0⟩) (meth := k8m0) (c := k8c0) (by decide +kernel) rfl rfl rfl (by decide +kernel)
set_option maxRecDepth 65536 in
theorem w_c6 : (Jvm.Cond.code ({ cls := "java/util/LinkedHashMap", name := "<init>", desc := "()V" } : Jvm.MethodName) jdk_94_method_16_code (1 : Nat) (Option.none : Option Jvm.ClassFile.FieldType)).before args0 about1 = true := code_word (m := ⟨14, 0⟩) (meth := k14m0) (c := k14c0) (by decide +kernel) rfl rfl rfl (by decide +kernel)
set_option maxRecDepth 65536 in
theorem w_c7 : (Jvm.Cond.code ({ cls := "java/util/HashMap", name := "<init>", desc := "()V" } : Jvm.MethodName) jdk_69_method_7_code (1 : Nat) (Option.none : Option Jvm.ClassFile.FieldType)).before args0 about1 = true := code_word (m := ⟨12, 0⟩) (meth := k12m0) (c := k12c0) (by decide +kernel) rfl rfl rfl (by decide +kernel)
set_option maxRecDepth 65536 in
theorem w_c8 : (Jvm.Cond.code ({ cls := "java/util/AbstractMap", name := "<init>", desc := "()V" } : Jvm.MethodName) jdk_71_method_1_code (1 : Nat) (Option.none : Option Jvm.ClassFile.FieldType)).before args0 about1 = true := code_word (m := ⟨10, 0⟩) (meth := k10m0) (c := k10c0) (by decide +kernel) rfl rfl rfl (by decide +kernel)
set_option maxRecDepth 65536 in
theorem w_c9 : (Jvm.Cond.code ({ cls := "java/lang/StringBuilder", name := "<init>", desc := "()V" } : Jvm.MethodName) jdk_67_method_1_code (1 : Nat) (Option.none : Option Jvm.ClassFile.FieldType)).before args0 about1 = true := code_word (m := ⟨17, 0⟩) (meth := k17m0) (c := k17c0) (by decide +kernel) rfl rfl rfl (by decide +kernel)
set_option maxRecDepth 65536 in
theorem w_c10 : (Jvm.Cond.code ({ cls := "java/lang/AbstractStringBuilder", name := "<init>", desc := "(I)V" } : Jvm.MethodName) jdk_68_method_2_code (2 : Nat) (Option.none : Option Jvm.ClassFile.FieldType)).before args0 about1 = true := code_word (m := ⟨16, 1⟩) (meth := k16m1) (c := k16c1) (by decide +kernel) rfl rfl rfl (by decide +kernel)
set_option maxRecDepth 65536 in
theorem w_c11 : (Jvm.Cond.code ({ cls := "java/util/ArrayList", name := "<init>", desc := "()V" } : Jvm.MethodName) jdk_38_method_2_code (1 : Nat) (Option.none : Option Jvm.ClassFile.FieldType)).before args0 about1 = true := code_word (m := ⟨25, 0⟩) (meth := k25m0) (c := k25c0) (by decide +kernel) rfl rfl rfl (by decide +kernel)
set_option maxRecDepth 65536 in
theorem w_c12 : (Jvm.Cond.code ({ cls := "java/util/AbstractList", name := "<init>", desc := "()V" } : Jvm.MethodName) jdk_39_method_1_code (1 : Nat) (Option.none : Option Jvm.ClassFile.FieldType)).before args0 about1 = true := code_word (m := ⟨23, 0⟩) (meth := k23m0) (c := k23c0) (by decide +kernel) rfl rfl rfl (by decide +kernel)
set_option maxRecDepth 65536 in
theorem w_c13 : (Jvm.Cond.code ({ cls := "java/util/AbstractCollection", name := "<init>", desc := "()V" } : Jvm.MethodName) jdk_22_method_1_code (1 : Nat) (Option.none : Option Jvm.ClassFile.FieldType)).before args0 about1 = true := code_word (m := ⟨20, 0⟩) (meth := k20m0) (c := k20c0) (by decide +kernel) rfl rfl rfl (by decide +kernel)
set_option maxRecDepth 65536 in
theorem w_c14 : (Jvm.Cond.code ({ cls := "portcullis/xml/XmlElement", name := "requireName", desc := "(Ljava/lang/String;)Lportcullis/xml/XmlElement;" } : Jvm.MethodName) prog_42_method_18_code (2 : Nat) (Option.some (Jvm.ClassFile.FieldType.object "portcullis/xml/XmlElement"))).before args0 about1 = true := code_word (m := ⟨8, 2⟩) (meth := k8m2) (c := k8c2) (by decide +kernel) rfl rfl rfl (by decide +kernel)
set_option maxRecDepth 65536 in
theorem w_c15 : (Jvm.Cond.code ({ cls := "java/lang/String", name := "equals", desc := "(Ljava/lang/Object;)Z" } : Jvm.MethodName) jdk_42_method_66_code (3 : Nat) (Option.some Jvm.ClassFile.FieldType.boolean)).before args0 about1 = true := code_word (m := ⟨7, 2⟩) (meth := k7m2) (c := k7c2) (by decide +kernel) rfl rfl rfl (by decide +kernel)
set_option maxRecDepth 65536 in
theorem w_c16 : (Jvm.Cond.code ({ cls := "java/lang/StringLatin1", name := "equals", desc := "([B[B)Z" } : Jvm.MethodName) jdk_43_method_13_code (3 : Nat) (Option.some Jvm.ClassFile.FieldType.boolean)).before args0 about1 = true := code_word (m := ⟨26, 1⟩) (meth := k26m1) (c := k26c1) (by decide +kernel) rfl rfl rfl (by decide +kernel)
set_option maxRecDepth 65536 in
theorem w_c17 : (Jvm.Cond.code ({ cls := "portcullis/xml/XmlElement", name := "name", desc := "()Ljava/lang/String;" } : Jvm.MethodName) prog_42_method_15_code (1 : Nat) (Option.some (Jvm.ClassFile.FieldType.object "java/lang/String"))).before args0 about1 = true := code_word (m := ⟨8, 1⟩) (meth := k8m1) (c := k8c1) (by decide +kernel) rfl rfl rfl (by decide +kernel)
set_option maxRecDepth 65536 in
theorem w_c18 : (Jvm.Cond.code ({ cls := "java/lang/StringUTF16", name := "compress", desc := "([CII)[B" } : Jvm.MethodName) jdk_52_method_16_code (6 : Nat) (Option.some (Jvm.ClassFile.FieldType.array Jvm.ClassFile.FieldType.byte))).before args0 about1 = true := code_word (m := ⟨27, 7⟩) (meth := k27m7) (c := k27c7) (by decide +kernel) rfl rfl rfl (by decide +kernel)
set_option maxRecDepth 65536 in
theorem w_c19 : (Jvm.Cond.code ({ cls := "java/lang/StringUTF16", name := "compress", desc := "([CI[BII)I" } : Jvm.MethodName) jdk_52_method_21_code (7 : Nat) (Option.some Jvm.ClassFile.FieldType.int)).before args0 about1 = true := code_word (m := ⟨27, 8⟩) (meth := k27m8) (c := k27c8) (by decide +kernel) rfl rfl rfl (by decide +kernel)
set_option maxRecDepth 65536 in
theorem w_c20 : (Jvm.Cond.code ({ cls := "java/lang/StringUTF16", name := "coderFromArrayLen", desc := "([BI)B" } : Jvm.MethodName) jdk_52_method_15_code (2 : Nat) (Option.some Jvm.ClassFile.FieldType.byte)).before args0 about1 = true := code_word (m := ⟨27, 6⟩) (meth := k27m6) (c := k27c6) (by decide +kernel) rfl rfl rfl (by decide +kernel)
set_option maxRecDepth 65536 in
theorem w_c21 : (Jvm.Cond.code ({ cls := "java/lang/StringUTF16", name := "toBytes", desc := "([CII)[B" } : Jvm.MethodName) jdk_52_method_14_code (5 : Nat) (Option.some (Jvm.ClassFile.FieldType.array Jvm.ClassFile.FieldType.byte))).before args0 about1 = true := code_word (m := ⟨27, 5⟩) (meth := k27m5) (c := k27c5) (by decide +kernel) rfl rfl rfl (by decide +kernel)
set_option maxRecDepth 65536 in
theorem w_c22 : (Jvm.Cond.code ({ cls := "java/lang/StringUTF16", name := "newBytesFor", desc := "(I)[B" } : Jvm.MethodName) jdk_52_method_2_code (1 : Nat) (Option.some (Jvm.ClassFile.FieldType.array Jvm.ClassFile.FieldType.byte))).before args0 about1 = true := code_word (m := ⟨27, 1⟩) (meth := k27m1) (c := k27c1) (by decide +kernel) rfl rfl rfl (by decide +kernel)
set_option maxRecDepth 65536 in
theorem w_c23 : (Jvm.Cond.code ({ cls := "java/lang/StringUTF16", name := "newBytesLength", desc := "(I)I" } : Jvm.MethodName) jdk_52_method_3_code (1 : Nat) (Option.some Jvm.ClassFile.FieldType.int)).before args0 about1 = true := code_word (m := ⟨27, 2⟩) (meth := k27m2) (c := k27c2) (by decide +kernel) rfl rfl rfl (by decide +kernel)
set_option maxRecDepth 65536 in
theorem w_c24 : (Jvm.Cond.code ({ cls := "java/lang/StringUTF16", name := "putChar", desc := "([BII)V" } : Jvm.MethodName) jdk_52_method_4_code (3 : Nat) (Option.none : Option Jvm.ClassFile.FieldType)).before args0 about1 = true := code_word (m := ⟨27, 3⟩) (meth := k27m3) (c := k27c3) (by decide +kernel) rfl rfl rfl (by decide +kernel)
set_option maxRecDepth 65536 in
theorem w_c25 : (Jvm.Cond.code ({ cls := "java/lang/StringUTF16", name := "getChar", desc := "([BI)C" } : Jvm.MethodName) jdk_52_method_5_code (2 : Nat) (Option.some Jvm.ClassFile.FieldType.char)).before args0 about1 = true := code_word (m := ⟨27, 4⟩) (meth := k27m4) (c := k27c4) (by decide +kernel) rfl rfl rfl (by decide +kernel)
def codes1 : List Jvm.Cond := [Jvm.Cond.code x code maxLocals ret, Jvm.Cond.code ({ cls := "portcullis/xml/XmlElementRequireNamePinLaw", name := "make", desc := "(IIII)Ljava/lang/String;" } : Jvm.MethodName) method_2_code (7 : Nat) (Option.some (Jvm.ClassFile.FieldType.object "java/lang/String")), Jvm.Cond.code ({ cls := "java/lang/String", name := "<init>", desc := "([C)V" } : Jvm.MethodName) jdk_42_method_3_code (2 : Nat) (Option.none : Option Jvm.ClassFile.FieldType), Jvm.Cond.code ({ cls := "java/lang/String", name := "<init>", desc := "([CIILjava/lang/Void;)V" } : Jvm.MethodName) jdk_42_method_149_code (6 : Nat) (Option.none : Option Jvm.ClassFile.FieldType), Jvm.Cond.code ({ cls := "java/lang/Object", name := "<init>", desc := "()V" } : Jvm.MethodName) object_method_1_code (1 : Nat) (Option.none : Option Jvm.ClassFile.FieldType), Jvm.Cond.code ({ cls := "portcullis/xml/XmlElement", name := "<init>", desc := "(Ljava/lang/String;)V" } : Jvm.MethodName) prog_42_method_1_code (2 : Nat) (Option.none : Option Jvm.ClassFile.FieldType), Jvm.Cond.code ({ cls := "java/util/LinkedHashMap", name := "<init>", desc := "()V" } : Jvm.MethodName) jdk_94_method_16_code (1 : Nat) (Option.none : Option Jvm.ClassFile.FieldType), Jvm.Cond.code ({ cls := "java/util/HashMap", name := "<init>", desc := "()V" } : Jvm.MethodName) jdk_69_method_7_code (1 : Nat) (Option.none : Option Jvm.ClassFile.FieldType), Jvm.Cond.code ({ cls := "java/util/AbstractMap", name := "<init>", desc := "()V" } : Jvm.MethodName) jdk_71_method_1_code (1 : Nat) (Option.none : Option Jvm.ClassFile.FieldType), Jvm.Cond.code ({ cls := "java/lang/StringBuilder", name := "<init>", desc := "()V" } : Jvm.MethodName) jdk_67_method_1_code (1 : Nat) (Option.none : Option Jvm.ClassFile.FieldType), Jvm.Cond.code ({ cls := "java/lang/AbstractStringBuilder", name := "<init>", desc := "(I)V" } : Jvm.MethodName) jdk_68_method_2_code (2 : Nat) (Option.none : Option Jvm.ClassFile.FieldType), Jvm.Cond.code ({ cls := "java/util/ArrayList", name := "<init>", desc := "()V" } : Jvm.MethodName) jdk_38_method_2_code (1 : Nat) (Option.none : Option Jvm.ClassFile.FieldType), Jvm.Cond.code ({ cls := "java/util/AbstractList", name := "<init>", desc := "()V" } : Jvm.MethodName) jdk_39_method_1_code (1 : Nat) (Option.none : Option Jvm.ClassFile.FieldType), Jvm.Cond.code ({ cls := "java/util/AbstractCollection", name := "<init>", desc := "()V" } : Jvm.MethodName) jdk_22_method_1_code (1 : Nat) (Option.none : Option Jvm.ClassFile.FieldType), Jvm.Cond.code ({ cls := "portcullis/xml/XmlElement", name := "requireName", desc := "(Ljava/lang/String;)Lportcullis/xml/XmlElement;" } : Jvm.MethodName) prog_42_method_18_code (2 : Nat) (Option.some (Jvm.ClassFile.FieldType.object "portcullis/xml/XmlElement")), Jvm.Cond.code ({ cls := "java/lang/String", name := "equals", desc := "(Ljava/lang/Object;)Z" } : Jvm.MethodName) jdk_42_method_66_code (3 : Nat) (Option.some Jvm.ClassFile.FieldType.boolean), Jvm.Cond.code ({ cls := "java/lang/StringLatin1", name := "equals", desc := "([B[B)Z" } : Jvm.MethodName) jdk_43_method_13_code (3 : Nat) (Option.some Jvm.ClassFile.FieldType.boolean), Jvm.Cond.code ({ cls := "portcullis/xml/XmlElement", name := "name", desc := "()Ljava/lang/String;" } : Jvm.MethodName) prog_42_method_15_code (1 : Nat) (Option.some (Jvm.ClassFile.FieldType.object "java/lang/String")), Jvm.Cond.code ({ cls := "java/lang/StringUTF16", name := "compress", desc := "([CII)[B" } : Jvm.MethodName) jdk_52_method_16_code (6 : Nat) (Option.some (Jvm.ClassFile.FieldType.array Jvm.ClassFile.FieldType.byte)), Jvm.Cond.code ({ cls := "java/lang/StringUTF16", name := "compress", desc := "([CI[BII)I" } : Jvm.MethodName) jdk_52_method_21_code (7 : Nat) (Option.some Jvm.ClassFile.FieldType.int), Jvm.Cond.code ({ cls := "java/lang/StringUTF16", name := "coderFromArrayLen", desc := "([BI)B" } : Jvm.MethodName) jdk_52_method_15_code (2 : Nat) (Option.some Jvm.ClassFile.FieldType.byte), Jvm.Cond.code ({ cls := "java/lang/StringUTF16", name := "toBytes", desc := "([CII)[B" } : Jvm.MethodName) jdk_52_method_14_code (5 : Nat) (Option.some (Jvm.ClassFile.FieldType.array Jvm.ClassFile.FieldType.byte)), Jvm.Cond.code ({ cls := "java/lang/StringUTF16", name := "newBytesFor", desc := "(I)[B" } : Jvm.MethodName) jdk_52_method_2_code (1 : Nat) (Option.some (Jvm.ClassFile.FieldType.array Jvm.ClassFile.FieldType.byte)), Jvm.Cond.code ({ cls := "java/lang/StringUTF16", name := "newBytesLength", desc := "(I)I" } : Jvm.MethodName) jdk_52_method_3_code (1 : Nat) (Option.some Jvm.ClassFile.FieldType.int), Jvm.Cond.code ({ cls := "java/lang/StringUTF16", name := "putChar", desc := "([BII)V" } : Jvm.MethodName) jdk_52_method_4_code (3 : Nat) (Option.none : Option Jvm.ClassFile.FieldType), Jvm.Cond.code ({ cls := "java/lang/StringUTF16", name := "getChar", desc := "([BI)C" } : Jvm.MethodName) jdk_52_method_5_code (2 : Nat) (Option.some Jvm.ClassFile.FieldType.char)]
set_option maxRecDepth 65536 in
theorem codes_eq : words1.filter isCode = codes1 := rfl
theorem w_codes : ∀ c ∈ words1.filter isCode, c.before args0 about1 = true := by
  rw [codes_eq]
  intro c hc
  simp only [codes1, List.mem_cons, List.not_mem_nil, or_false] at hc
  rcases hc with rfl | rfl | rfl | rfl | rfl | rfl | rfl | rfl | rfl | rfl | rfl | rfl | rfl | rfl | rfl | rfl | rfl | rfl | rfl | rfl | rfl | rfl | rfl | rfl | rfl | rfl
  · exact w_c0
  · exact w_c1
  · exact w_c2
  · exact w_c3
  · exact w_c4
  · exact w_c5
  · exact w_c6
  · exact w_c7
  · exact w_c8
  · exact w_c9
  · exact w_c10
  · exact w_c11
  · exact w_c12
  · exact w_c13
  · exact w_c14
  · exact w_c15
  · exact w_c16
  · exact w_c17
  · exact w_c18
  · exact w_c19
  · exact w_c20
  · exact w_c21
  · exact w_c22
  · exact w_c23
  · exact w_c24
  · exact w_c25
set_option maxRecDepth 65536 in
theorem w_t1 : (words1.take 24).all (fun c => isCode c || c.before args0 about1) = true := by decide +kernel
set_option maxRecDepth 65536 in
theorem w_t2 : ((words1.drop 24).take 24).all (fun c => isCode c || c.before args0 about1) = true := by decide +kernel
set_option maxRecDepth 65536 in
theorem w_t3 : (((words1.drop 24).drop 24).take 24).all (fun c => isCode c || c.before args0 about1) = true := by decide +kernel
set_option maxRecDepth 65536 in
theorem w_t4 : ((((words1.drop 24).drop 24).drop 24).take 24).all (fun c => isCode c || c.before args0 about1) = true := by decide +kernel
set_option maxRecDepth 65536 in
theorem w_t5 : (((((words1.drop 24).drop 24).drop 24).drop 24).take 24).all (fun c => isCode c || c.before args0 about1) = true := by decide +kernel
set_option maxRecDepth 65536 in
theorem w_t6 : ((((((words1.drop 24).drop 24).drop 24).drop 24).drop 24).take 24).all (fun c => isCode c || c.before args0 about1) = true := by decide +kernel
set_option maxRecDepth 65536 in
theorem w_t7 : ((((((words1.drop 24).drop 24).drop 24).drop 24).drop 24).drop 24).all (fun c => isCode c || c.before args0 about1) = true := by decide +kernel
theorem w_tables : (allAtoms (Jvm.Cond.code x code maxLocals ret :: tables_1)).before args0 about1 = true := by
  rw [allAtoms_all]
  show words1.all (fun c => c.before args0 about1) = true
  refine all_split ?_ w_codes
  rw [← List.take_append_drop 24 words1, List.all_append, w_t1, ← List.take_append_drop 24 (words1.drop 24), List.all_append, w_t2, ← List.take_append_drop 24 ((words1.drop 24).drop 24), List.all_append, w_t3, ← List.take_append_drop 24 (((words1.drop 24).drop 24).drop 24), List.all_append, w_t4, ← List.take_append_drop 24 ((((words1.drop 24).drop 24).drop 24).drop 24), List.all_append, w_t5, ← List.take_append_drop 24 (((((words1.drop 24).drop 24).drop 24).drop 24).drop 24), List.all_append, w_t6, w_t7]
  rfl
set_option maxRecDepth 65536 in
theorem w_rest : rest_1_c.before args0 about1 = true := by decide +kernel
set_option maxRecDepth 65536 in
theorem w_case : (Jvm.Cond.and given_1 narrow_1).before args0 about1 = true := by decide +kernel
set_option maxRecDepth 65536 in
theorem w_consts : constsHeld consts_1 about1 := Jvm.Lit.constsHeldB_iff.mp (by decide +kernel)
theorem w_applies : (headSpec (Jvm.Cond.code x code maxLocals ret :: tables_1) room_1).applies x e0.platform about1 = true :=
  (Spec.applies_iff w_frames).mpr ⟨w_running, w_runnable, w_alone, w_named, w_hears, w_ripe, w_room, w_tables⟩
theorem atStart : AtStart classFile x code maxLocals ret World_1 tables_1 room_1 Calls_1 rest_1 Pre_1 launch0 p0 e0 about1 theMethod args0 below0 :=
  ⟨lists_1, trivial, launch0.admits_env _ _ _, launch0.least_env, fairChoices_fair.cas, fairChoices_fair.clock, w_frames, w_args, w_heap, w_applies, ⟨w_consts, trivial⟩, w_rest, w_case⟩
end start1
theorem witness_1 : WitnessClaimed_1 := ⟨start1.p0, start1.e0, start1.about1, start1.theMethod, start1.args0, start1.below0, start1.atStart⟩
end Jvm.Pilot.@@N@@
