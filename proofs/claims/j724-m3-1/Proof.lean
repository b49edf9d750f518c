import JvmDerived
import JvmDerived.Pilot.@@N@@Statement
import JvmDerived.Pilot.@@N@@Code
set_option linter.unusedVariables false
set_option linter.unusedSimpArgs false
/- laws to paste: Road.backV, Road.empW, Road.eqW, Road.codOf (cut by pick.py; bodies as the Statement names them) -/
namespace Jvm.Pilot.@@N@@
namespace StrChars
open Jvm Sem ClassFile Op Lib Jvm.Stand Jvm.Free.XT Jvm.Free.ALB Jvm.Free.JM Jvm.Free
open Jvm.Lib.Cold (StaticIs)
/-- a char array whose places are chars -/
def Ch (a : Addr) (A : Cell) (U : State) : Prop := Arr .char a A U ∧ Typed .char A
theorem Ch.mv {a : Addr} {A : Cell} {U U' : State} (h : Ch a A U) (hal : U.vm.Alike U'.vm) (hh : U'.heap = U.heap) : Ch a A U' := ⟨h.1.mv hal hh, h.2⟩
theorem Ch.keep {a : Addr} {A : Cell} {U U' : State} (h : Ch a A U) (hal : U.vm.Alike U'.vm) (hk : U'.heap[a]? = some A) : Ch a A U' := ⟨h.1.keep hal hk, h.2⟩
/-- what place i of a char[]'s cell holds -/
def cv (A : Cell) (i : Nat) : Int32 := match A.slots[i]? with | some (.int x) => x | _ => 0
theorem Ch.get {a : Addr} {A : Cell} {U : State} (h : Ch a A U) {i : Nat} (hi : i < A.slots.size) : A.slots[i]? = some (.int (cv A i)) := by
  have e := Array.getElem?_eq_getElem hi
  have f := h.2 i _ e
  unfold cv; rw [e]
  generalize A.slots[i] = v at f
  cases v <;> simp [fits] at f ⊢
/-- the byte that i2b leaves of a char -/
def lo8 (x : Int32) : Int32 := x.toInt8.toInt32
theorem fits_lo8 (y : Int32) : fits .byte (.int (lo8 y)) = true := by
  have h1 := y.toInt8.le_toInt
  have h2 := y.toInt8.toInt_lt
  simp only [lo8, fits, Bool.and_eq_true, decide_eq_true_eq, Int32.le_iff_toInt_le, Int8.toInt_toInt32, show (-128 : Int32).toInt = -128 from by decide, show (127 : Int32).toInt = 127 from by decide]
  omega
/-- A' is A but that each place j of lo .. hi - 1 holds f j -/
def Laid (A A' : Cell) (lo hi : Nat) (f : Nat → Value) : Prop := A'.cls = A.cls ∧ A'.vm = A.vm ∧ A'.slots.size = A.slots.size ∧ ∀ i, A'.slots[i]? = if lo ≤ i ∧ i < hi then some (f i) else A.slots[i]?
theorem Laid.zero (A : Cell) (lo : Nat) (f : Nat → Value) : Laid A A lo (lo + 0) f := ⟨rfl, rfl, rfl, fun i => by rw [if_neg (by omega)]⟩
theorem Laid.step {A Ak : Cell} {lo k : Nat} {f : Nat → Value} {v : Value} (h : Laid A Ak lo k f) (hlo : lo ≤ k) (hk : k < Ak.slots.size) (hv : v = f k) : Laid A (Ak.setSlot k v) lo (k + 1) f := by
  refine ⟨h.1, h.2.1, by simpa [Cell.setSlot] using h.2.2.1, fun i => ?_⟩
  by_cases e : k = i
  · subst e; rw [Cell.slots_setSlot_self v hk, if_pos (by omega), hv]
  · rw [Cell.slots_setSlot_ne v e, h.2.2.2 i]
    by_cases q : lo ≤ i ∧ i < k
    · rw [if_pos q, if_pos (by omega)]
    · rw [if_neg q, if_neg (by omega)]
def U16 : String := "java/lang/StringUTF16"
namespace Cmp5
def yN : MethodName := ⟨"java/lang/StringUTF16", "compress", "([CI[BII)I"⟩
abbrev yB : ByteArray := jdk_52_method_21_code
theorem d0 : decode yB 0 = .ok (.iconst 0, 1) := by decide +kernel
theorem d1 : decode yB 1 = .ok (.istore 5, 2) := by decide +kernel
theorem d3 : decode yB 3 = .ok (.iload 5, 2) := by decide +kernel
theorem d5 : decode yB 5 = .ok (.iload 4, 2) := by decide +kernel
theorem d7 : decode yB 7 = .ok (.if_icmp (.ge) 37, 3) := by decide +kernel
theorem d10 : decode yB 10 = .ok (.aload_n 0, 1) := by decide +kernel
theorem d11 : decode yB 11 = .ok (.iload_n 1, 1) := by decide +kernel
theorem d12 : decode yB 12 = .ok (.caload, 1) := by decide +kernel
theorem d13 : decode yB 13 = .ok (.istore 6, 2) := by decide +kernel
theorem d15 : decode yB 15 = .ok (.iload 6, 2) := by decide +kernel
theorem d17 : decode yB 17 = .ok (.sipush 255, 3) := by decide +kernel
theorem d20 : decode yB 20 = .ok (.if_icmp (.le) 6, 3) := by decide +kernel
theorem d26 : decode yB 26 = .ok (.aload_n 2, 1) := by decide +kernel
theorem d27 : decode yB 27 = .ok (.iload_n 3, 1) := by decide +kernel
theorem d28 : decode yB 28 = .ok (.iload 6, 2) := by decide +kernel
theorem d30 : decode yB 30 = .ok (.i2b, 1) := by decide +kernel
theorem d31 : decode yB 31 = .ok (.bastore, 1) := by decide +kernel
theorem d32 : decode yB 32 = .ok (.iinc 1 1, 3) := by decide +kernel
theorem d35 : decode yB 35 = .ok (.iinc 3 1, 3) := by decide +kernel
theorem d38 : decode yB 38 = .ok (.iinc 5 1, 3) := by decide +kernel
theorem d41 : decode yB 41 = .ok (.goto (-38), 3) := by decide +kernel
theorem d44 : decode yB 44 = .ok (.iload 4, 2) := by decide +kernel
theorem d46 : decode yB 46 = .ok (.ireturn, 1) := by decide +kernel
def site : List Cond := []
def tab : Cond := tabOf yN yB 7 (some .int) site
def P (b : Addr) (A : Cell) (d : Addr) (B : Cell) (o q len : Nat) (args : Array Value) (s : State) : Prop := args = #[.ref b, .int (Int32.ofNat o), .ref d, .int (Int32.ofNat q), .int (Int32.ofNat len)] ∧ Ch b A s ∧ Arr .byte d B s ∧ b ≠ d ∧ o + len ≤ A.slots.size ∧ q + len ≤ B.slots.size ∧ ∀ i, i < len → ¬ 255 < cv A (o + i)
def E (b : Addr) (A : Cell) (d : Addr) (B : Cell) (o q len : Nat) (r : Option Value) (s u : State) : Prop := r = some (.int (Int32.ofNat len)) ∧ ∃ B', Put d B' s u ∧ Laid B B' q (q + len) (fun j => Value.int (lo8 (cv A (o + (j - q)))))
/-- no char of the range above 255: len; the places written hold each char's low byte -/
theorem law (l : Launch) (b : Addr) (A : Cell) (d : Addr) (B : Cell) (o q len : Nat) : Law l yN 5 5 0 0 yB 7 (some .int) site (P b A d B o q len) (E b A d B o q len) (copyLocs d q len) 0 0 := by
  refine Law.of_walk (plainFor_of_name (by decide +kernel)) (by decide +kernel) (by decide +kernel) (by decide) (fun _ _ h => by rw [h.1]; rfl) (fun _ U U' hal hh h => ⟨h.1, h.2.1.mv hal hh, h.2.2.1.mv hal hh, h.2.2.2⟩) (fun r U U' V V' h1 hal h2 h => ⟨h.1, h.2.elim fun B' q => ⟨B', q.1.mv h1 h2, q.2⟩⟩) ?_
  intro p e s m args below meth c s₁ X0 hexec hbytes hml hret hlk hnm hown hh0 W hP
  obtain ⟨rfl, hA, hB, hne, l1, l2, hp⟩ := hP
  have c1 : Steps p.tables e below (s₁.setTop (entryFrame m #[.ref b, .int (Int32.ofNat o), .ref d, .int (Int32.ofNat q), .int (Int32.ofNat len)] 7)) (s₁.setTop (mkF m 0 #[.val (.ref b), .val (.int (Int32.ofNat o)), .val (.ref d), .val (.int (Int32.ofNat q)), .val (.int (Int32.ofNat len)), .unset, .unset] [])) := entry rfl
  have hA0 := hA.1.mv X0.warmed.alike hh0
  have hB0 := hB.mv X0.warmed.alike hh0
  have a31 := hA.1.2.2.2
  have c2 : Steps p.tables e below (s₁.setTop (entryFrame m #[.ref b, .int (Int32.ofNat o), .ref d, .int (Int32.ofNat q), .int (Int32.ofNat len)] 7)) (s₁.setTop (mkF m 3 #[.val (.ref b), .val (.int (Int32.ofNat o)), .val (.ref d), .val (.int (Int32.ofNat q)), .val (.int (Int32.ofNat len)), .val (.int 0), .unset] [])) := c1.trans (by
    refine iconstV X0.here hexec rfl 0 (hb hbytes d0) (by decide) ?_
    refine XS.istore X0.here hexec rfl (hb hbytes d1) rfl rfl ?_
    exact Steps.refl _)
  have loop : ∀ (r i : Nat), i + r = len → ∀ (z : Slot), (z = .unset ∨ ∃ w, z = .val w ∧ w.category = 1) → ∀ (Tl : State) (Bk : Cell), Stand p l e { frames := 0, locals := 0, cells := 0, slots := 0 } s m #[.ref b, .int (Int32.ofNat o), .ref d, .int (Int32.ofNat q), .int (Int32.ofNat len)] below meth c Tl ([] ++ copyLocs d q i) 0 0 → Put d Bk s₁ Tl → Laid B Bk q (q + i) (fun j => Value.int (lo8 (cv A (o + (j - q))))) →
      Steps p.tables e below (s₁.setTop (entryFrame m #[.ref b, .int (Int32.ofNat o), .ref d, .int (Int32.ofNat q), .int (Int32.ofNat len)] 7)) (Tl.setTop (mkF m 3 #[.val (.ref b), .val (.int (Int32.ofNat (o + i))), .val (.ref d), .val (.int (Int32.ofNat (q + i))), .val (.int (Int32.ofNat len)), .val (.int (Int32.ofNat i)), z] [])) → ∃ (T' : State) (B' : Cell) (z' : Slot), Stand p l e { frames := 0, locals := 0, cells := 0, slots := 0 } s m #[.ref b, .int (Int32.ofNat o), .ref d, .int (Int32.ofNat q), .int (Int32.ofNat len)] below meth c T' ([] ++ copyLocs d q len) 0 0 ∧ Put d B' s₁ T' ∧ Laid B B' q (q + len) (fun j => Value.int (lo8 (cv A (o + (j - q))))) ∧
      Steps p.tables e below (s₁.setTop (entryFrame m #[.ref b, .int (Int32.ofNat o), .ref d, .int (Int32.ofNat q), .int (Int32.ofNat len)] 7)) (T'.setTop (mkF m 3 #[.val (.ref b), .val (.int (Int32.ofNat (o + len))), .val (.ref d), .val (.int (Int32.ofNat (q + len))), .val (.int (Int32.ofNat len)), .val (.int (Int32.ofNat len)), z'] [])) := by
    intro r
    induction r with
    | zero =>
      intro i hi z hz Tl Bk Xl pl fl cl
      have hil : i = len := by omega
      rw [hil] at Xl fl cl
      exact ⟨Tl, Bk, z, Xl, pl, fl, cl⟩
    | succ r ih =>
      intro i hi z hz Tl Bk Xl pl fl cl
      have all := X0.warmed.alike.symm.trans Xl.warmed.alike
      have hAl := hA0.keep all (pl.other hne hA0.1)
      have hBk := hB0.like all pl.1 fl.1 fl.2.1 fl.2.2.1
      have hlt : q + i < Bk.slots.size := by rw [fl.2.2.1]; omega
      have c3 : Steps p.tables e below (s₁.setTop (entryFrame m #[.ref b, .int (Int32.ofNat o), .ref d, .int (Int32.ofNat q), .int (Int32.ofNat len)] 7)) (Tl.setTop (mkF m 12 #[.val (.ref b), .val (.int (Int32.ofNat (o + i))), .val (.ref d), .val (.int (Int32.ofNat (q + i))), .val (.int (Int32.ofNat len)), .val (.int (Int32.ofNat i)), z] [.int (Int32.ofNat (o + i)), .ref b])) := cl.trans (by
        refine XS.iload Xl.here hexec rfl (hb hbytes d3) rfl ?_
        refine XS.iload Xl.here hexec rfl (hb hbytes d5) rfl ?_
        refine XS.icmpNo Xl.here hexec rfl (hb hbytes d7) rfl (ii_ge_f (lt32 (by omega) (by omega))) ?_
        refine XS.aloadN Xl.here hexec rfl (hb hbytes d10) rfl rfl ?_
        refine XS.iloadN Xl.here hexec rfl (hb hbytes d11) rfl ?_
        exact Steps.refl _)
      have c4 : Steps p.tables e below (s₁.setTop (entryFrame m #[.ref b, .int (Int32.ofNat o), .ref d, .int (Int32.ofNat q), .int (Int32.ofNat len)] 7)) (Tl.setTop (mkF m 13 #[.val (.ref b), .val (.int (Int32.ofNat (o + i))), .val (.ref d), .val (.int (Int32.ofNat (q + i))), .val (.int (Int32.ofNat len)), .val (.int (Int32.ofNat i)), z] [.int (cv A (o + i))])) := c3.trans (by
        refine Xl.aget hexec hAl rfl (hA.get (i := o + i) (by omega)) rfl rfl (hb hbytes d12) ?_
        exact Steps.refl _)
      have c5 : Steps p.tables e below (s₁.setTop (entryFrame m #[.ref b, .int (Int32.ofNat o), .ref d, .int (Int32.ofNat q), .int (Int32.ofNat len)] 7)) (Tl.setTop (mkF m 15 #[.val (.ref b), .val (.int (Int32.ofNat (o + i))), .val (.ref d), .val (.int (Int32.ofNat (q + i))), .val (.int (Int32.ofNat len)), .val (.int (Int32.ofNat i)), .val (.int (cv A (o + i)))] [])) := c4.trans (by
        refine XS.istoreS Xl.here hexec rfl (hb hbytes d13) rfl rfl hz ?_
        exact Steps.refl _)
      have c6 : Steps p.tables e below (s₁.setTop (entryFrame m #[.ref b, .int (Int32.ofNat o), .ref d, .int (Int32.ofNat q), .int (Int32.ofNat len)] 7)) (Tl.setTop (mkF m 31 #[.val (.ref b), .val (.int (Int32.ofNat (o + i))), .val (.ref d), .val (.int (Int32.ofNat (q + i))), .val (.int (Int32.ofNat len)), .val (.int (Int32.ofNat i)), .val (.int (cv A (o + i)))] [.int (lo8 (cv A (o + i))), .int (Int32.ofNat (q + i)), .ref d])) := c5.trans (by
        refine XS.iload Xl.here hexec rfl (hb hbytes d15) rfl ?_
        refine sipushV Xl.here hexec rfl 255 (hb hbytes d17) (by decide) ?_
        refine XS.icmpYes Xl.here hexec rfl (pc0 := 20) rfl (hb hbytes d20) rfl (ii_le_t (hp i (by omega))) (by decide) rfl ?_
        refine XS.aloadN Xl.here hexec rfl (hb hbytes d26) rfl rfl ?_
        refine XS.iloadN Xl.here hexec rfl (hb hbytes d27) rfl ?_
        refine XS.iload Xl.here hexec rfl (hb hbytes d28) rfl ?_
        refine i2b Xl.here hexec rfl (hb hbytes d30) rfl ?_
        exact Steps.refl _)
      obtain ⟨T7, X7, p7, st7⟩ := Xl.aput hexec hBk rfl hlt rfl (fits_lo8 (cv A (o + i))) (g := (mkF m 31 #[.val (.ref b), .val (.int (Int32.ofNat (o + i))), .val (.ref d), .val (.int (Int32.ofNat (q + i))), .val (.int (Int32.ofNat len)), .val (.int (Int32.ofNat i)), .val (.int (cv A (o + i)))] [.int (lo8 (cv A (o + i))), .int (Int32.ofNat (q + i)), .ref d])) rfl (rest := []) rfl (hb hbytes d31)
      have c8 : Steps p.tables e below (s₁.setTop (entryFrame m #[.ref b, .int (Int32.ofNat o), .ref d, .int (Int32.ofNat q), .int (Int32.ofNat len)] 7)) (T7.setTop (mkF m 32 #[.val (.ref b), .val (.int (Int32.ofNat (o + i))), .val (.ref d), .val (.int (Int32.ofNat (q + i))), .val (.int (Int32.ofNat len)), .val (.int (Int32.ofNat i)), .val (.int (cv A (o + i)))] [])) := c6.trans (st7 _ (Steps.refl _))
      have c9 : Steps p.tables e below (s₁.setTop (entryFrame m #[.ref b, .int (Int32.ofNat o), .ref d, .int (Int32.ofNat q), .int (Int32.ofNat len)] 7)) (T7.setTop (mkF m 3 #[.val (.ref b), .val (.int (Int32.ofNat (o + i) + 1)), .val (.ref d), .val (.int (Int32.ofNat (q + i) + 1)), .val (.int (Int32.ofNat len)), .val (.int (Int32.ofNat i + 1)), .val (.int (cv A (o + i)))] [])) := c8.trans (by
        refine iincV X7.here hexec rfl 1 (hb hbytes d32) (by decide) rfl rfl ?_
        refine iincV X7.here hexec rfl 1 (hb hbytes d35) (by decide) rfl rfl ?_
        refine iincV X7.here hexec rfl 1 (hb hbytes d38) (by decide) rfl rfl ?_
        refine XS.goto X7.here hexec rfl (pc0 := 41) rfl (hb hbytes d41) (by decide) rfl ?_
        exact Steps.refl _)
      have c10 : Steps p.tables e below (s₁.setTop (entryFrame m #[.ref b, .int (Int32.ofNat o), .ref d, .int (Int32.ofNat q), .int (Int32.ofNat len)] 7)) (T7.setTop (mkF m 3 #[.val (.ref b), .val (.int (Int32.ofNat (o + (i + 1)))), .val (.ref d), .val (.int (Int32.ofNat (q + (i + 1)))), .val (.int (Int32.ofNat len)), .val (.int (Int32.ofNat (i + 1))), .val (.int (cv A (o + i)))] [])) := by
        have := c9
        rw [succ32, succ32, succ32] at this
        exact this
      exact ih (i + 1) (by omega) _ (Or.inr ⟨_, rfl, rfl⟩) T7 _ (by rw [copyLocs_step, ← List.append_assoc]; exact X7) (pl.trans p7) (fl.step (by omega) hlt (by simp)) c10
  obtain ⟨T9, B9, z9, X9, p9, f9, g9⟩ := loop len 0 (by omega) .unset (Or.inl rfl) s₁ B (by simpa [copyLocs] using X0) ⟨hB0.1, fun _ _ => rfl, rfl⟩ (Laid.zero _ _ _) c2
  have c11 : Steps p.tables e below (s₁.setTop (entryFrame m #[.ref b, .int (Int32.ofNat o), .ref d, .int (Int32.ofNat q), .int (Int32.ofNat len)] 7)) (T9.setTop (mkF m 46 #[.val (.ref b), .val (.int (Int32.ofNat (o + len))), .val (.ref d), .val (.int (Int32.ofNat (q + len))), .val (.int (Int32.ofNat len)), .val (.int (Int32.ofNat len)), z9] [.int (Int32.ofNat len)])) := g9.trans (by
    refine XS.iload X9.here hexec rfl (hb hbytes d3) rfl ?_
    refine XS.iload X9.here hexec rfl (hb hbytes d5) rfl ?_
    refine XS.icmpYes X9.here hexec rfl (pc0 := 7) rfl (hb hbytes d7) rfl (ii_ge_t (nlt32 (by omega) (Nat.le_refl _))) (by decide) rfl ?_
    refine XS.iload X9.here hexec rfl (hb hbytes d44) rfl ?_
    exact Steps.refl _)
  exact ⟨T9, some (.int (Int32.ofNat len)), _, _, _, X9, by simp, rfl, rfl, (fun h => by cases h), ⟨rfl, B9, p9.from hh0, f9⟩, fun fs hl => c11.trans (X9.ireturnOut hexec hret rfl (Or.inl rfl) (hb hbytes d46) hl)⟩
end Cmp5
namespace Cmp3
def yN : MethodName := ⟨"java/lang/StringUTF16", "compress", "([CII)[B"⟩
abbrev yB : ByteArray := jdk_52_method_16_code
theorem d0 : decode yB 0 = .ok (.iload_n 2, 1) := by decide +kernel
theorem d1 : decode yB 1 = .ok (.newarray .byte, 2) := by decide +kernel
theorem d3 : decode yB 3 = .ok (.astore_n 3, 1) := by decide +kernel
theorem d4 : decode yB 4 = .ok (.aload_n 0, 1) := by decide +kernel
theorem d5 : decode yB 5 = .ok (.iload_n 1, 1) := by decide +kernel
theorem d6 : decode yB 6 = .ok (.aload_n 3, 1) := by decide +kernel
theorem d7 : decode yB 7 = .ok (.iconst 0, 1) := by decide +kernel
theorem d8 : decode yB 8 = .ok (.iload_n 2, 1) := by decide +kernel
theorem d9 : decode yB 9 = .ok (.invokestatic 115, 3) := by decide +kernel
theorem d12 : decode yB 12 = .ok (.istore 4, 2) := by decide +kernel
theorem d14 : decode yB 14 = .ok (.iload 4, 2) := by decide +kernel
theorem d16 : decode yB 16 = .ok (.iload_n 2, 1) := by decide +kernel
theorem d17 : decode yB 17 = .ok (.if_icmp (.eq) 40, 3) := by decide +kernel
theorem d57 : decode yB 57 = .ok (.aload_n 3, 1) := by decide +kernel
theorem d58 : decode yB 58 = .ok (.areturn, 1) := by decide +kernel
def site : List Cond := [.arrayClass .byte, Cmp5.tab] ++ staticW U16 115 Cmp5.yN
def tab : Cond := tabOf yN yB 6 (some (.array .byte)) site
def P (b : Addr) (A : Cell) (o len : Nat) (args : Array Value) (s : State) : Prop := args = #[.ref b, .int (Int32.ofNat o), .int (Int32.ofNat len)] ∧ Ch b A s ∧ o + len ≤ A.slots.size ∧ len ≤ 536870912 ∧ ∀ i, i < len → ¬ 255 < cv A (o + i)
def E (b : Addr) (A : Cell) (o len : Nat) (r : Option Value) (s u : State) : Prop := NewArr .byte "[B" len (fun j => .int (lo8 (cv A (o + j)))) r s u ∧ u.heap.size = s.heap.size + 1
/-- no char of the range above 255: a new byte[] of their low bytes -/
theorem law (l : Launch) (b : Addr) (A : Cell) (o len : Nat) : Law l yN 3 3 1 18 yB 6 (some (.array .byte)) site (P b A o len) (E b A o len) [] 1 len := by
  refine Law.of_walk (plainFor_of_name (by decide +kernel)) (by decide +kernel) (by decide +kernel) (by decide) (fun _ _ h => by rw [h.1]; rfl) (fun _ U U' hal hh h => ⟨h.1, h.2.1.mv hal hh, h.2.2⟩) (fun r U U' V V' h1 hal h2 h => ⟨NewArr.mv r U U' V V' h1 hal h2 h.1, by rw [h1, h2]; exact h.2⟩) ?_
  intro p e s m args below meth c s₁ X0 hexec hbytes hml hret hlk hnm hown hh0 W hP
  obtain ⟨rfl, hA, l1, l2, hp⟩ := hP
  have a31 := hA.1.2.2.2
  have c1 : Steps p.tables e below (s₁.setTop (entryFrame m #[.ref b, .int (Int32.ofNat o), .int (Int32.ofNat len)] 6)) (s₁.setTop (mkF m 0 #[.val (.ref b), .val (.int (Int32.ofNat o)), .val (.int (Int32.ofNat len)), .unset, .unset, .unset] [])) := entry rfl
  have c2 : Steps p.tables e below (s₁.setTop (entryFrame m #[.ref b, .int (Int32.ofNat o), .int (Int32.ofNat len)] 6)) (s₁.setTop (mkF m 1 #[.val (.ref b), .val (.int (Int32.ofNat o)), .val (.int (Int32.ofNat len)), .unset, .unset, .unset] [.int (Int32.ofNat len)])) := c1.trans (by
    refine XS.iloadN X0.here hexec rfl (hb hbytes d0) rfl ?_
    exact Steps.refl _)
  obtain ⟨T3, B3, X3, ba3, bs3, bv3, bh3, bf3, st3⟩ := X0.anew hexec (atype := .byte) (wk W (.arrayClass .byte)) rfl (by show len * 1 ≤ _; omega) (by omega) (g := (mkF m 1 #[.val (.ref b), .val (.int (Int32.ofNat o)), .val (.int (Int32.ofNat len)), .unset, .unset, .unset] [.int (Int32.ofNat len)])) rfl (hb hbytes d1) (rest := []) rfl (Nat.le_refl _) (by show 0 + len ≤ len; omega)
  rw [hh0] at ba3 st3
  have kp3 : XT.Kept s T3 := (XT.Kept.of_eq hh0).push bh3
  have hA3 := hA.keep X3.warmed.alike (kp3 _ _ hA.1.1)
  have hne : b ≠ s.heap.size := hA.1.ne
  have c4 : Steps p.tables e below (s₁.setTop (entryFrame m #[.ref b, .int (Int32.ofNat o), .int (Int32.ofNat len)] 6)) (T3.setTop (mkF m 3 #[.val (.ref b), .val (.int (Int32.ofNat o)), .val (.int (Int32.ofNat len)), .unset, .unset, .unset] [.ref s.heap.size])) := c2.trans (st3 _ (Steps.refl _))
  have c5 : Steps p.tables e below (s₁.setTop (entryFrame m #[.ref b, .int (Int32.ofNat o), .int (Int32.ofNat len)] 6)) (T3.setTop (mkF m 9 #[.val (.ref b), .val (.int (Int32.ofNat o)), .val (.int (Int32.ofNat len)), .val (.ref s.heap.size), .unset, .unset] [.int (Int32.ofNat len), .int 0, .ref s.heap.size, .int (Int32.ofNat o), .ref b])) := c4.trans (by
    refine XS.astoreN X3.here hexec rfl (hb hbytes d3) rfl rfl rfl ?_
    refine XS.aloadN X3.here hexec rfl (hb hbytes d4) rfl rfl ?_
    refine XS.iloadN X3.here hexec rfl (hb hbytes d5) rfl ?_
    refine XS.aloadN X3.here hexec rfl (hb hbytes d6) rfl rfl ?_
    refine iconstV X3.here hexec rfl 0 (hb hbytes d7) (by decide) ?_
    refine XS.iloadN X3.here hexec rfl (hb hbytes d8) rfl ?_
    exact Steps.refl _)
  obtain ⟨v6, T6, X6, E6, g6⟩ := X3.callS hexec (Cmp5.law l b A s.heap.size B3 o 0 len) hown (wks W (staticW U16 115 Cmp5.yN)) (wk W Cmp5.tab) (W := 0) (Nat.le_of_ble_eq_true rfl) (Nat.le_of_ble_eq_true rfl) (Nat.le_refl _) (by show 0 + len + 0 ≤ len; omega) (g := (mkF m 9 #[.val (.ref b), .val (.int (Int32.ofNat o)), .val (.int (Int32.ofNat len)), .val (.ref s.heap.size), .unset, .unset] [.int (Int32.ofNat len), .int (Int32.ofNat 0), .ref s.heap.size, .int (Int32.ofNat o), .ref b])) rfl (by rw [hml]; rfl) c5 (argsL := [.ref b, .int (Int32.ofNat o), .ref s.heap.size, .int (Int32.ofNat 0), .int (Int32.ofNat len)]) (rest := []) rfl rfl (by show 2 * 0 + 0 ≤ _; decide) (hb hbytes d9) (⟨rfl, hA3, ba3, hne, l1, by rw [bs3]; simp, hp⟩)
  obtain ⟨rfl, B6, p6, f6⟩ := E6
  have c7 : Steps p.tables e below (s₁.setTop (entryFrame m #[.ref b, .int (Int32.ofNat o), .int (Int32.ofNat len)] 6)) (T6.setTop (mkF m 12 #[.val (.ref b), .val (.int (Int32.ofNat o)), .val (.int (Int32.ofNat len)), .val (.ref s.heap.size), .unset, .unset] [.int (Int32.ofNat len)])) := g6
  have c8 : Steps p.tables e below (s₁.setTop (entryFrame m #[.ref b, .int (Int32.ofNat o), .int (Int32.ofNat len)] 6)) (T6.setTop (mkF m 58 #[.val (.ref b), .val (.int (Int32.ofNat o)), .val (.int (Int32.ofNat len)), .val (.ref s.heap.size), .val (.int (Int32.ofNat len)), .unset] [.ref s.heap.size])) := c7.trans (by
    refine XS.istore X6.here hexec rfl (hb hbytes d12) rfl rfl ?_
    refine XS.iload X6.here hexec rfl (hb hbytes d14) rfl ?_
    refine XS.iloadN X6.here hexec rfl (hb hbytes d16) rfl ?_
    refine XS.icmpYes X6.here hexec rfl (pc0 := 17) rfl (hb hbytes d17) rfl (ii_eq_t rfl) (by decide) rfl ?_
    refine XS.aloadN X6.here hexec rfl (hb hbytes d57) rfl rfl ?_
    exact Steps.refl _)
  have X8 := X6.wide (L' := []) (cells' := 1) (slots' := len) (fun x hx hlt => by
    simp only [List.nil_append, copyLocs, List.mem_map, List.mem_range] at hx
    obtain ⟨i, -, rfl⟩ := hx
    exact absurd hlt (Nat.lt_irrefl _)) (Nat.le_refl _) (by omega)
  exact ⟨T6, some (.ref s.heap.size), _, _, _, X8, rfl, rfl, rfl, (fun h => by cases h), ⟨⟨rfl, B6, ba3.like (X3.warmed.alike.symm.trans X6.warmed.alike) p6.1 f6.1 f6.2.1 f6.2.2.1, f6.2.1.trans bv3, by rw [X6.warmed.alike.findClass, f6.1]; exact bf3, by rw [f6.2.2.1, bs3]; simp, fun j hj => by rw [f6.2.2.2 j, if_pos (by omega)]; rfl, kp3.put p6 (Nat.le_refl _)⟩, by rw [p6.2.2, bh3, hh0]; simp⟩, fun fs hl => c8.trans (X8.areturnOut hexec rfl hret rfl (hb hbytes d58) hl)⟩
end Cmp3
namespace CodL
def yN : MethodName := ⟨"java/lang/StringUTF16", "coderFromArrayLen", "([BI)B"⟩
abbrev yB : ByteArray := jdk_52_method_15_code
theorem d0 : decode yB 0 = .ok (.iload_n 1, 1) := by decide +kernel
theorem d1 : decode yB 1 = .ok (.aload_n 0, 1) := by decide +kernel
theorem d2 : decode yB 2 = .ok (.arraylength, 1) := by decide +kernel
theorem d3 : decode yB 3 = .ok (.isub, 1) := by decide +kernel
theorem d4 : decode yB 4 = .ok (.bipush 31, 2) := by decide +kernel
theorem d6 : decode yB 6 = .ok (.iushr, 1) := by decide +kernel
theorem d7 : decode yB 7 = .ok (.i2b, 1) := by decide +kernel
theorem d8 : decode yB 8 = .ok (.ireturn, 1) := by decide +kernel
def site : List Cond := []
def tab : Cond := tabOf yN yB 2 (some .byte) site
def P (d : Addr) (B : Cell) (args : Array Value) (s : State) : Prop := args = #[.ref d, .int (Int32.ofNat B.slots.size)] ∧ Arr .byte d B s
def E (r : Option Value) (s u : State) : Prop := XT.PureE (some (.int 0)) r s u
/-- an array as long as the number of chars: LATIN1 -/
theorem law (l : Launch) (d : Addr) (B : Cell) : Law l yN 2 2 0 0 yB 2 (some .byte) site (P d B) E [] 0 0 := by
  refine Law.of_walk (plainFor_of_name (by decide +kernel)) (by decide +kernel) (by decide +kernel) (by decide) (fun _ _ h => by rw [h.1]; rfl) (fun _ U U' hal hh h => ⟨h.1, h.2.mv hal hh⟩) (fun r U U' V V' h1 hal h2 h => XT.PureE.mv r U U' V V' h1 hal h2 h) ?_
  intro p e s m args below meth c s₁ X0 hexec hbytes hml hret hlk hnm hown hh0 W hP
  obtain ⟨rfl, hB⟩ := hP
  have hB0 := hB.mv X0.warmed.alike hh0
  have c1 : Steps p.tables e below (s₁.setTop (entryFrame m #[.ref d, .int (Int32.ofNat B.slots.size)] 2)) (s₁.setTop (mkF m 0 #[.val (.ref d), .val (.int (Int32.ofNat B.slots.size))] [])) := entry rfl
  have c2 : Steps p.tables e below (s₁.setTop (entryFrame m #[.ref d, .int (Int32.ofNat B.slots.size)] 2)) (s₁.setTop (mkF m 2 #[.val (.ref d), .val (.int (Int32.ofNat B.slots.size))] [.ref d, .int (Int32.ofNat B.slots.size)])) := c1.trans (by
    refine XS.iloadN X0.here hexec rfl (hb hbytes d0) rfl ?_
    refine XS.aloadN X0.here hexec rfl (hb hbytes d1) rfl rfl ?_
    exact Steps.refl _)
  have c3 : Steps p.tables e below (s₁.setTop (entryFrame m #[.ref d, .int (Int32.ofNat B.slots.size)] 2)) (s₁.setTop (mkF m 8 #[.val (.ref d), .val (.int (Int32.ofNat B.slots.size))] [.int (lo8 (ushr (Int32.ofNat B.slots.size - Int32.ofNat B.slots.size) 31))])) := c2.trans (by
    refine X0.alen hexec hB0 rfl rfl (hb hbytes d2) ?_
    refine XS.isub X0.here hexec rfl (hb hbytes d3) rfl ?_
    refine bipushV X0.here hexec rfl 31 (hb hbytes d4) (by decide) ?_
    refine iushr X0.here hexec rfl (hb hbytes d6) rfl ?_
    refine i2b X0.here hexec rfl (hb hbytes d7) rfl ?_
    exact Steps.refl _)
  have e0 : lo8 (ushr (Int32.ofNat B.slots.size - Int32.ofNat B.slots.size) 31) = 0 := by rw [Int32.sub_self]; decide
  rw [e0] at c3
  exact ⟨s₁, some (.int 0), _, _, _, X0, rfl, rfl, rfl, (fun h => by cases h), ⟨rfl, hh0⟩, fun fs hl => c3.trans (X0.ireturnOut hexec hret rfl (Or.inr (Or.inr (Or.inl rfl))) (hb hbytes d8) hl)⟩
end CodL
/-- the String at a is Latin-1 over a new byte[] (the heap's one new cell): the low bytes of the len chars of A from o on; every cell but a is kept -/
def Got (a : Addr) (D : Cell) (fV fC : Field) (A : Cell) (o len : Nat) (r : Option Value) (s u : State) : Prop := r = none ∧ ∃ D' V : Cell, Blank "java/lang/String" a D' u ∧ Same D D' [fV.slot, fC.slot] ∧ D'.slots[fV.slot]? = some (.ref s.heap.size) ∧ D'.slots[fC.slot]? = some (.int 0) ∧ Arr .byte s.heap.size V u ∧ V.vm = .none ∧ u.vm.findClass "[B" = some V.cls ∧ V.slots.size = len ∧ (∀ j, j < len → V.slots[j]? = some (.int (lo8 (cv A (o + j))))) ∧ (∀ (y : Addr) (c : Cell), y ≠ a → s.heap[y]? = some c → u.heap[y]? = some c) ∧ u.heap.size = s.heap.size + 1
theorem Got.mv {a : Addr} {D A : Cell} {fV fC : Field} {o len : Nat} : ∀ r (U U' V V' : State), U'.heap = U.heap → V.vm.Alike V'.vm → V'.heap = V.heap → Got a D fV fC A o len r U V → Got a D fV fC A o len r U' V' :=
  fun r U U' V V' h1 hal h2 ⟨e0, D', X, a1, a2, a3, a4, a5, a6, a7, a8, a9, a10, a11⟩ => ⟨e0, D', X, a1.mv hal h2, a2, by rw [h1]; exact a3, a4, by rw [h1]; exact a5.mv hal h2, a6, by rw [hal.findClass]; exact a7, a8, a9, by rw [h1, h2]; exact a10, by rw [h1, h2]; exact a11⟩
namespace New4
def yN : MethodName := ⟨"java/lang/String", "<init>", "([CIILjava/lang/Void;)V"⟩
abbrev yB : ByteArray := jdk_42_method_149_code
theorem d0 : decode yB 0 = .ok (.aload_n 0, 1) := by decide +kernel
theorem d1 : decode yB 1 = .ok (.invokespecial 1, 3) := by decide +kernel
theorem d4 : decode yB 4 = .ok (.iload_n 3, 1) := by decide +kernel
theorem d5 : decode yB 5 = .ok (.ifCond (.ne) 22, 3) := by decide +kernel
theorem d27 : decode yB 27 = .ok (.getstatic 38, 3) := by decide +kernel
theorem d30 : decode yB 30 = .ok (.ifCond (.eq) 28, 3) := by decide +kernel
theorem d33 : decode yB 33 = .ok (.aload_n 1, 1) := by decide +kernel
theorem d34 : decode yB 34 = .ok (.iload_n 2, 1) := by decide +kernel
theorem d35 : decode yB 35 = .ok (.iload_n 3, 1) := by decide +kernel
theorem d36 : decode yB 36 = .ok (.invokestatic 177, 3) := by decide +kernel
theorem d39 : decode yB 39 = .ok (.astore 5, 2) := by decide +kernel
theorem d41 : decode yB 41 = .ok (.aload_n 0, 1) := by decide +kernel
theorem d42 : decode yB 42 = .ok (.aload 5, 2) := by decide +kernel
theorem d44 : decode yB 44 = .ok (.iload_n 3, 1) := by decide +kernel
theorem d45 : decode yB 45 = .ok (.invokestatic 47, 3) := by decide +kernel
theorem d48 : decode yB 48 = .ok (.putfield 15, 3) := by decide +kernel
theorem d51 : decode yB 51 = .ok (.aload_n 0, 1) := by decide +kernel
theorem d52 : decode yB 52 = .ok (.aload 5, 2) := by decide +kernel
theorem d54 : decode yB 54 = .ok (.putfield 9, 3) := by decide +kernel
theorem d57 : decode yB 57 = .ok (.return_, 1) := by decide +kernel
def site : List Cond := [.fieldLink "java/lang/String" 38 "java/lang/String" "COMPACT_STRINGS" "Z", Cmp3.tab, CodL.tab, .laysFinal "java/lang/String" "java/lang/String" "value" "[B", .fieldLink "java/lang/String" 9 "java/lang/String" "value" "[B", .laysFinal "java/lang/String" "java/lang/String" "coder" "B", .fieldLink "java/lang/String" 15 "java/lang/String" "coder" "B"] ++ objW "java/lang/String" 1 ++ staticW "java/lang/String" 177 Cmp3.yN ++ staticW "java/lang/String" 47 CodL.yN
def tab : Cond := tabOf yN yB 6 none site
def P (a : Addr) (D : Cell) (fV fC : Field) (b : Addr) (A : Cell) (z : Int32) (o len : Nat) (args : Array Value) (s : State) : Prop := args = #[.ref a, .ref b, .int (Int32.ofNat o), .int (Int32.ofNat len), .null] ∧ Blank "java/lang/String" a D s ∧ Found "java/lang/String" "value" "[B" fV s ∧ Found "java/lang/String" "coder" "B" fC s ∧ Ch b A s ∧ StaticIs s "java/lang/String" "COMPACT_STRINGS" "Z" (.int z) ∧ ¬ z = 0 ∧ 0 < len ∧ o + len ≤ A.slots.size ∧ len ≤ 536870912 ∧ ∀ i, i < len → ¬ 255 < cv A (o + i)
def E (a : Addr) (D : Cell) (fV fC : Field) (A : Cell) (o len : Nat) (r : Option Value) (s u : State) : Prop := Got a D fV fC A o len r s u
/-- len > 0, no char of the range above 255: a Latin-1 String of their low bytes -/
theorem law (l : Launch) (a : Addr) (D : Cell) (fV fC : Field) (b : Addr) (A : Cell) (z : Int32) (o len : Nat) : Law l yN 5 4 2 35 yB 6 none site (P a D fV fC b A z o len) (E a D fV fC A o len) [⟨a, fC.slot⟩, ⟨a, fV.slot⟩] 1 len := by
  refine Law.of_walk (plainFor_of_name (by decide +kernel)) (by decide +kernel) (by decide +kernel) (by decide) (fun _ _ h => by rw [h.1]; rfl) (fun _ U U' hal hh h => ⟨h.1, h.2.1.mv hal hh, h.2.2.1.al hal, h.2.2.2.1.al hal, h.2.2.2.2.1.mv hal hh, h.2.2.2.2.2.1.there hal hh, h.2.2.2.2.2.2⟩) (fun r U U' V V' h1 hal h2 h => Got.mv r U U' V V' h1 hal h2 h) ?_
  intro p e s m args below meth c s₁ X0 hexec hbytes hml hret hlk hnm hown hh0 W hP
  obtain ⟨rfl, hB, f1, f2, hA, s1, hz, l0, l1, l2, hp⟩ := hP
  have a31 := hA.1.2.2.2
  have c1 : Steps p.tables e below (s₁.setTop (entryFrame m #[.ref a, .ref b, .int (Int32.ofNat o), .int (Int32.ofNat len), .null] 6)) (s₁.setTop (mkF m 0 #[.val (.ref a), .val (.ref b), .val (.int (Int32.ofNat o)), .val (.int (Int32.ofNat len)), .val .null, .unset] [])) := entry rfl
  have c2 : Steps p.tables e below (s₁.setTop (entryFrame m #[.ref a, .ref b, .int (Int32.ofNat o), .int (Int32.ofNat len), .null] 6)) (s₁.setTop (mkF m 1 #[.val (.ref a), .val (.ref b), .val (.int (Int32.ofNat o)), .val (.int (Int32.ofNat len)), .val .null, .unset] [.ref a])) := c1.trans (by
    refine XS.aloadN X0.here hexec rfl (hb hbytes d0) rfl rfl ?_
    exact Steps.refl _)
  obtain ⟨T3, X3, q3, st3⟩ := X0.oinit hexec hown (wks W (objW "java/lang/String" 1)) (g := (mkF m 1 #[.val (.ref a), .val (.ref b), .val (.int (Int32.ofNat o)), .val (.int (Int32.ofNat len)), .val .null, .unset] [.ref a])) rfl (by rw [hml]; rfl) (rest := []) rfl (hb hbytes d1) (W := 0) (by show 2 * 0 + 0 ≤ _; decide) (Nat.le_of_ble_eq_true rfl) (Nat.le_of_ble_eq_true rfl)
  have hh3 := q3.trans hh0
  have c4 : Steps p.tables e below (s₁.setTop (entryFrame m #[.ref a, .ref b, .int (Int32.ofNat o), .int (Int32.ofNat len), .null] 6)) (T3.setTop (mkF m 27 #[.val (.ref a), .val (.ref b), .val (.int (Int32.ofNat o)), .val (.int (Int32.ofNat len)), .val .null, .unset] [])) := (c2.trans (st3 _ (Steps.refl _))).trans (by
    refine XS.iloadN X3.here hexec rfl (hb hbytes d4) rfl ?_
    refine XS.ifYes X3.here hexec rfl (pc0 := 5) rfl (hb hbytes d5) rfl (i0_ne_t (nz32 (by omega) l0)) (by decide) rfl ?_
    exact Steps.refl _)
  obtain ⟨T5, X5, q5, st5⟩ := X3.sget hexec hown (wk W (.fieldLink "java/lang/String" 38 "java/lang/String" "COMPACT_STRINGS" "Z")) s1 (fun _ _ h => by rw [hh3]; exact h) (g := (mkF m 27 #[.val (.ref a), .val (.ref b), .val (.int (Int32.ofNat o)), .val (.int (Int32.ofNat len)), .val .null, .unset] [])) rfl (hb hbytes d27)
  have hh5 := q5.trans hh3
  have c6 : Steps p.tables e below (s₁.setTop (entryFrame m #[.ref a, .ref b, .int (Int32.ofNat o), .int (Int32.ofNat len), .null] 6)) (T5.setTop (mkF m 30 #[.val (.ref a), .val (.ref b), .val (.int (Int32.ofNat o)), .val (.int (Int32.ofNat len)), .val .null, .unset] [.int z])) := c4.trans (st5 _ (Steps.refl _))
  have c7 : Steps p.tables e below (s₁.setTop (entryFrame m #[.ref a, .ref b, .int (Int32.ofNat o), .int (Int32.ofNat len), .null] 6)) (T5.setTop (mkF m 36 #[.val (.ref a), .val (.ref b), .val (.int (Int32.ofNat o)), .val (.int (Int32.ofNat len)), .val .null, .unset] [.int (Int32.ofNat len), .int (Int32.ofNat o), .ref b])) := c6.trans (by
    refine XS.ifNo X5.here hexec rfl (hb hbytes d30) rfl (i0_eq_f hz) ?_
    refine XS.aloadN X5.here hexec rfl (hb hbytes d33) rfl rfl ?_
    refine XS.iloadN X5.here hexec rfl (hb hbytes d34) rfl ?_
    refine XS.iloadN X5.here hexec rfl (hb hbytes d35) rfl ?_
    exact Steps.refl _)
  obtain ⟨v8, T8, X8, E8, g8⟩ := X5.callS hexec (Cmp3.law l b A o len) hown (wks W (staticW "java/lang/String" 177 Cmp3.yN)) (wk W Cmp3.tab) (W := 0) (Nat.le_of_ble_eq_true rfl) (Nat.le_of_ble_eq_true rfl) (Nat.le_refl _) (by show 0 + len ≤ len; omega) (g := (mkF m 36 #[.val (.ref a), .val (.ref b), .val (.int (Int32.ofNat o)), .val (.int (Int32.ofNat len)), .val .null, .unset] [.int (Int32.ofNat len), .int (Int32.ofNat o), .ref b])) rfl (by rw [hml]; rfl) c7 (argsL := [.ref b, .int (Int32.ofNat o), .int (Int32.ofNat len)]) (rest := []) rfl rfl (by show 2 * 0 + 0 ≤ _; decide) (hb hbytes d36) (⟨rfl, hA.mv X5.warmed.alike hh5, l1, l2, hp⟩)
  obtain ⟨e8, z8⟩ := E8
  obtain ⟨rfl, N, n1, n2, n3, n4, n5, n6⟩ := NewArr.mv _ T5 s _ _ hh5.symm (Vm.Alike.refl _) rfl e8
  rw [hh5] at z8
  have hB1 := hB.keep X8.warmed.alike (n6 _ _ hB.1)
  have hne : s.heap.size ≠ a := (Nat.ne_of_lt (Array.getElem?_eq_some_iff.mp hB.1).1).symm
  have c9 : Steps p.tables e below (s₁.setTop (entryFrame m #[.ref a, .ref b, .int (Int32.ofNat o), .int (Int32.ofNat len), .null] 6)) (T8.setTop (mkF m 39 #[.val (.ref a), .val (.ref b), .val (.int (Int32.ofNat o)), .val (.int (Int32.ofNat len)), .val .null, .unset] [.ref s.heap.size])) := g8
  have c10 : Steps p.tables e below (s₁.setTop (entryFrame m #[.ref a, .ref b, .int (Int32.ofNat o), .int (Int32.ofNat len), .null] 6)) (T8.setTop (mkF m 45 #[.val (.ref a), .val (.ref b), .val (.int (Int32.ofNat o)), .val (.int (Int32.ofNat len)), .val .null, .val (.ref s.heap.size)] [.int (Int32.ofNat N.slots.size), .ref s.heap.size, .ref a])) := by
    have hc : Steps p.tables e below (s₁.setTop (entryFrame m #[.ref a, .ref b, .int (Int32.ofNat o), .int (Int32.ofNat len), .null] 6)) (T8.setTop (mkF m 45 #[.val (.ref a), .val (.ref b), .val (.int (Int32.ofNat o)), .val (.int (Int32.ofNat len)), .val .null, .val (.ref s.heap.size)] [.int (Int32.ofNat len), .ref s.heap.size, .ref a])) := c9.trans (by
      refine XS.astore X8.here hexec rfl (hb hbytes d39) rfl rfl rfl ?_
      refine XS.aloadN X8.here hexec rfl (hb hbytes d41) rfl rfl ?_
      refine XS.aload X8.here hexec rfl (hb hbytes d42) rfl rfl ?_
      refine XS.iloadN X8.here hexec rfl (hb hbytes d44) rfl ?_
      exact Steps.refl _)
    rw [n4]; exact hc
  obtain ⟨v11, T11, X11, E11, g11⟩ := X8.callS hexec (CodL.law l s.heap.size N) hown (wks W (staticW "java/lang/String" 47 CodL.yN)) (wk W CodL.tab) (W := 1) (Nat.le_of_ble_eq_true rfl) (Nat.le_of_ble_eq_true rfl) (Nat.le_refl _) (by show 0 + len + 0 ≤ len; omega) (g := (mkF m 45 #[.val (.ref a), .val (.ref b), .val (.int (Int32.ofNat o)), .val (.int (Int32.ofNat len)), .val .null, .val (.ref s.heap.size)] [.int (Int32.ofNat N.slots.size), .ref s.heap.size, .ref a])) rfl (by rw [hml]; rfl) c10 (argsL := [.ref s.heap.size, .int (Int32.ofNat N.slots.size)]) (rest := [.ref a]) rfl rfl (by show 2 * 0 + (1 + 0) ≤ _; decide) (hb hbytes d45) (⟨rfl, n1⟩)
  obtain ⟨rfl, q11⟩ := E11
  have hB11 := hB1.mv (X8.warmed.alike.symm.trans X11.warmed.alike) q11
  have c12 : Steps p.tables e below (s₁.setTop (entryFrame m #[.ref a, .ref b, .int (Int32.ofNat o), .int (Int32.ofNat len), .null] 6)) (T11.setTop (mkF m 48 #[.val (.ref a), .val (.ref b), .val (.int (Int32.ofNat o)), .val (.int (Int32.ofNat len)), .val .null, .val (.ref s.heap.size)] [.int 0, .ref a])) := g11
  obtain ⟨T13, X13, p13, bl13, sl13, st13⟩ := X11.finit hexec hown (wk W (.fieldLink "java/lang/String" 15 "java/lang/String" "coder" "B")) (Or.inr ⟨_, (wk W (.laysFinal "java/lang/String" "java/lang/String" "coder" "B"))⟩) (Or.inl ⟨rfl, hnm⟩) f2 (Or.inl rfl) hB11 (t := .byte) (by decide +kernel) rfl (g := (mkF m 48 #[.val (.ref a), .val (.ref b), .val (.int (Int32.ofNat o)), .val (.int (Int32.ofNat len)), .val .null, .val (.ref s.heap.size)] [.int 0, .ref a])) rfl (rest := []) rfl (hb hbytes d48)
  have c14 : Steps p.tables e below (s₁.setTop (entryFrame m #[.ref a, .ref b, .int (Int32.ofNat o), .int (Int32.ofNat len), .null] 6)) (T13.setTop (mkF m 54 #[.val (.ref a), .val (.ref b), .val (.int (Int32.ofNat o)), .val (.int (Int32.ofNat len)), .val .null, .val (.ref s.heap.size)] [.ref s.heap.size, .ref a])) := (c12.trans (st13 _ (Steps.refl _))).trans (by
    refine XS.aloadN X13.here hexec rfl (hb hbytes d51) rfl rfl ?_
    refine XS.aload X13.here hexec rfl (hb hbytes d52) rfl rfl ?_
    exact Steps.refl _)
  obtain ⟨T15, X15, p15, bl15, sl15, st15⟩ := X13.finit hexec hown (wk W (.fieldLink "java/lang/String" 9 "java/lang/String" "value" "[B")) (Or.inr ⟨_, (wk W (.laysFinal "java/lang/String" "java/lang/String" "value" "[B"))⟩) (Or.inl ⟨rfl, hnm⟩) f1 (Or.inl rfl) bl13 (t := (.array .byte)) (by decide +kernel) rfl (g := (mkF m 54 #[.val (.ref a), .val (.ref b), .val (.int (Int32.ofNat o)), .val (.int (Int32.ofNat len)), .val .null, .val (.ref s.heap.size)] [.ref s.heap.size, .ref a])) rfl (rest := []) rfl (hb hbytes d54)
  have c16 : Steps p.tables e below (s₁.setTop (entryFrame m #[.ref a, .ref b, .int (Int32.ofNat o), .int (Int32.ofNat len), .null] 6)) (T15.setTop (mkF m 57 #[.val (.ref a), .val (.ref b), .val (.int (Int32.ofNat o)), .val (.int (Int32.ofNat len)), .val .null, .val (.ref s.heap.size)] [])) := c14.trans (st15 _ (Steps.refl _))
  have ap := apart (Or.inr ⟨_, (wk W (.laysFinal "java/lang/String" "java/lang/String" "value" "[B"))⟩) (Or.inr ⟨_, (wk W (.laysFinal "java/lang/String" "java/lang/String" "coder" "B"))⟩) f1 f2 (t₁ := .array .byte) (t₂ := .byte) (by decide +kernel) (by decide +kernel) (by decide)
  have al := X8.warmed.alike.symm.trans X15.warmed.alike
  have n7 : T11.heap[s.heap.size]? = some N := by rw [q11]; exact n1.1
  exact ⟨T15, none, _, _, _, X15, by simp, rfl, by omega, (fun _ => rfl), ⟨rfl, _, N, bl15, ((Same.refl D _).set _ (by simp)).set _ (by simp), sl15, (Cell.slots_setSlot_ne _ ap).trans sl13, n1.keep al (p15.other hne (p13.other hne n7)), n2, by rw [al.findClass]; exact n3, n4, n5, fun y c h1 h2 => p15.other h1 (p13.other h1 (by rw [q11]; exact n6 y c h2)), by rw [p15.2.2, p13.2.2, q11]; exact z8⟩, fun fs hl => c16.trans (X15.returnOut hexec hret (hb hbytes d57) hl)⟩
end New4
namespace New1
def yN : MethodName := ⟨"java/lang/String", "<init>", "([C)V"⟩
abbrev yB : ByteArray := jdk_42_method_3_code
theorem d0 : decode yB 0 = .ok (.aload_n 0, 1) := by decide +kernel
theorem d1 : decode yB 1 = .ok (.aload_n 1, 1) := by decide +kernel
theorem d2 : decode yB 2 = .ok (.iconst 0, 1) := by decide +kernel
theorem d3 : decode yB 3 = .ok (.aload_n 1, 1) := by decide +kernel
theorem d4 : decode yB 4 = .ok (.arraylength, 1) := by decide +kernel
theorem d5 : decode yB 5 = .ok (.aconst_null, 1) := by decide +kernel
theorem d6 : decode yB 6 = .ok (.invokespecial 27, 3) := by decide +kernel
theorem d9 : decode yB 9 = .ok (.return_, 1) := by decide +kernel
def site : List Cond := [New4.tab] ++ initW "java/lang/String" 27 New4.yN
def tab : Cond := tabOf yN yB 2 none site
def P (a : Addr) (D : Cell) (fV fC : Field) (b : Addr) (A : Cell) (z : Int32) (args : Array Value) (s : State) : Prop := args = #[.ref a, .ref b] ∧ Blank "java/lang/String" a D s ∧ Found "java/lang/String" "value" "[B" fV s ∧ Found "java/lang/String" "coder" "B" fC s ∧ Ch b A s ∧ StaticIs s "java/lang/String" "COMPACT_STRINGS" "Z" (.int z) ∧ ¬ z = 0 ∧ 0 < A.slots.size ∧ A.slots.size ≤ 536870912 ∧ ∀ i, i < A.slots.size → ¬ 255 < cv A i
def E (a : Addr) (D : Cell) (fV fC : Field) (A : Cell) (r : Option Value) (s u : State) : Prop := Got a D fV fC A 0 A.slots.size r s u
/-- new String(chars), not empty, no char above 255: a Latin-1 String of their low bytes -/
theorem law (l : Launch) (a : Addr) (D : Cell) (fV fC : Field) (b : Addr) (A : Cell) (z : Int32) : Law l yN 2 1 3 52 yB 2 none site (P a D fV fC b A z) (E a D fV fC A) [⟨a, fC.slot⟩, ⟨a, fV.slot⟩] 1 A.slots.size := by
  refine Law.of_walk (plainFor_of_name (by decide +kernel)) (by decide +kernel) (by decide +kernel) (by decide) (fun _ _ h => by rw [h.1]; rfl) (fun _ U U' hal hh h => ⟨h.1, h.2.1.mv hal hh, h.2.2.1.al hal, h.2.2.2.1.al hal, h.2.2.2.2.1.mv hal hh, h.2.2.2.2.2.1.there hal hh, h.2.2.2.2.2.2⟩) (fun r U U' V V' h1 hal h2 h => Got.mv r U U' V V' h1 hal h2 h) ?_
  intro p e s m args below meth c s₁ X0 hexec hbytes hml hret hlk hnm hown hh0 W hP
  obtain ⟨rfl, hB, f1, f2, hA, s1, hz, l0, l2, hp⟩ := hP
  have c1 : Steps p.tables e below (s₁.setTop (entryFrame m #[.ref a, .ref b] 2)) (s₁.setTop (mkF m 0 #[.val (.ref a), .val (.ref b)] [])) := entry rfl
  have c2 : Steps p.tables e below (s₁.setTop (entryFrame m #[.ref a, .ref b] 2)) (s₁.setTop (mkF m 6 #[.val (.ref a), .val (.ref b)] [.null, .int (Int32.ofNat A.slots.size), .int 0, .ref b, .ref a])) := c1.trans (by
    refine XS.aloadN X0.here hexec rfl (hb hbytes d0) rfl rfl ?_
    refine XS.aloadN X0.here hexec rfl (hb hbytes d1) rfl rfl ?_
    refine iconstV X0.here hexec rfl 0 (hb hbytes d2) (by decide) ?_
    refine XS.aloadN X0.here hexec rfl (hb hbytes d3) rfl rfl ?_
    refine X0.alen hexec (hA.1.mv X0.warmed.alike hh0) rfl rfl (hb hbytes d4) ?_
    refine XS.aconstNull X0.here hexec rfl (hb hbytes d5) ?_
    exact Steps.refl _)
  obtain ⟨v3, T3, X3, E3, g3⟩ := X0.callN hexec (New4.law l a D fV fC b A z 0 A.slots.size) rfl hown (wks W (initW "java/lang/String" 27 New4.yN)) (W New4.tab (by simp only [site, List.mem_cons, List.mem_append, true_or, or_true])) (W := 0) (Nat.le_of_ble_eq_true rfl) (Nat.le_of_ble_eq_true rfl) (Nat.le_refl _) (by show 0 + A.slots.size ≤ A.slots.size; omega) (g := (mkF m 6 #[.val (.ref a), .val (.ref b)] [.null, .int (Int32.ofNat A.slots.size), .int (Int32.ofNat 0), .ref b, .ref a])) rfl (by rw [hml]; rfl) c2 (argsL := [.ref b, .int (Int32.ofNat 0), .int (Int32.ofNat A.slots.size), .null]) (rest := []) rfl rfl (by show 2 * 0 + 0 ≤ _; decide) (hb hbytes d6) (⟨rfl, hB.mv X0.warmed.alike hh0, f1.al X0.warmed.alike, f2.al X0.warmed.alike, hA.mv X0.warmed.alike hh0, s1.there X0.warmed.alike hh0, hz, l0, by omega, l2, fun i hi => by rw [Nat.zero_add]; exact hp i hi⟩)
  have e0 := Got.mv _ s₁ s _ _ hh0.symm (Vm.Alike.refl _) rfl E3
  obtain rfl := e0.1
  have c4 : Steps p.tables e below (s₁.setTop (entryFrame m #[.ref a, .ref b] 2)) (T3.setTop (mkF m 9 #[.val (.ref a), .val (.ref b)] [])) := g3
  exact ⟨T3, none, _, _, _, X3, by simp, rfl, by omega, (fun _ => rfl), e0, fun fs hl => c4.trans (X3.returnOut hexec hret (hb hbytes d9) hl)⟩
theorem pays {l : Launch} {R : Room} {p : Program} {e : Env} {below : List Frame} {s : State} {sargs : Array Value} {len W : Nat} (a : Addr) (D : Cell) (fV fC : Field) (b : Addr) (A : Cell) (z : Int32) (htab : tab.before sargs s = true) (hfr : 4 ≤ R.frames) (hlo : W + 65 ≤ R.locals) :
    Back l R p e below s sargs yN len W (fun A₁ a₁ => A₁.cells + 1 ≤ R.cells ∧ A₁.slots + A.slots.size ≤ R.slots ∧ P a D fV fC b A z a₁ A₁.U) (fun A₁ _ v₁ B₁ => E a D fV fC A v₁ A₁.U B₁.U ∧ B₁.locs = A₁.locs ++ [⟨a, fC.slot⟩, ⟨a, fV.slot⟩] ∧ B₁.cells = A₁.cells + 1 ∧ B₁.slots = A₁.slots + A.slots.size) :=
  (law l a D fV fC b A z).pays htab hfr (by omega)
end New1
/-- the byte, read back as charAt reads it, is the char -/
theorem lo8_mask {x : Int32} (h0 : ¬ x < 0) (h1 : ¬ 255 < x) : lo8 x &&& 255 = x := by
  have t : ∀ k : Fin 256, lo8 (Int32.ofNat k.val) &&& 255 = Int32.ofNat k.val := by decide +kernel
  rw [Int32.lt_iff_toInt_lt] at h0 h1
  have e0 : (0 : Int32).toInt = 0 := rfl
  have e1 : (255 : Int32).toInt = 255 := rfl
  obtain ⟨k, hk⟩ : ∃ k : Nat, x.toInt = k := ⟨x.toInt.toNat, by omega⟩
  have hx : x = Int32.ofNat k := Int32.toInt_inj.mp (by rw [hk, Int32.toInt_ofNat_small (by omega)])
  rw [hx]
  exact t ⟨k, by omega⟩
end StrChars
namespace StrChars.Road
open Jvm Sem ClassFile Op Lib Jvm.Stand Jvm.Free Jvm.Free.XT
open Jvm.Lib.Cold (StaticIs)
abbrev ST : String := "java/lang/String"
/-- every table word that New1's law asks, flat -/
abbrev words : List Jvm.Cond := [.code New1.yN New1.yB 2 none, .initialized ST, .methodLink ST 27 New4.yN, .instanceMethod New4.yN,
  .code New4.yN New4.yB 6 none, .fieldLink ST 38 ST "COMPACT_STRINGS" "Z", .laysFinal ST ST "value" "[B", .fieldLink ST 9 ST "value" "[B", .laysFinal ST ST "coder" "B", .fieldLink ST 15 ST "coder" "B",
  .methodLink ST 1 Lib.objectInit, .instanceMethod Lib.objectInit, .code Lib.objectInit ⟨#[0xb1]⟩ 1 none, .methodLink ST 177 Cmp3.yN, .static Cmp3.yN, .methodLink ST 47 CodL.yN, .static CodL.yN,
  .code Cmp3.yN Cmp3.yB 6 (some (.array .byte)), .initialized U16, .arrayClass .byte, .methodLink U16 115 Cmp5.yN, .static Cmp5.yN, .code Cmp5.yN Cmp5.yB 7 (some .int), .code CodL.yN CodL.yB 2 (some .byte)]
theorem tab_of {a : Array Value} {s : State} (h : ∀ w ∈ words, w.before a s = true) : New1.tab.before a s = true := by
  have h5 : Cmp5.tab.before a s = true := unparts (wk h (.code Cmp5.yN Cmp5.yB 7 (some .int))) (wks h (.initialized Cmp5.yN.cls :: Cmp5.site))
  have hc : CodL.tab.before a s = true := unparts (wk h (.code CodL.yN CodL.yB 2 (some .byte))) (wks h (.initialized CodL.yN.cls :: CodL.site))
  have q5 : ∀ w ∈ Cmp5.tab :: words, w.before a s = true := fun w hw => (List.mem_cons.mp hw).elim (fun e => e ▸ h5) (h w)
  have h3 : Cmp3.tab.before a s = true := unparts (wk q5 (.code Cmp3.yN Cmp3.yB 6 (some (.array .byte)))) (wks q5 (.initialized Cmp3.yN.cls :: Cmp3.site))
  have q3 : ∀ w ∈ Cmp3.tab :: CodL.tab :: words, w.before a s = true := fun w hw => (List.mem_cons.mp hw).elim (fun e => e ▸ h3) fun hw => (List.mem_cons.mp hw).elim (fun e => e ▸ hc) (h w)
  have h4 : New4.tab.before a s = true := unparts (wk q3 (.code New4.yN New4.yB 6 none)) (wks q3 (.initialized New4.yN.cls :: New4.site))
  have q4 : ∀ w ∈ New4.tab :: words, w.before a s = true := fun w hw => (List.mem_cons.mp hw).elim (fun e => e ▸ h4) (h w)
  exact unparts (wk q4 (.code New1.yN New1.yB 2 none)) (wks q4 (.initialized New1.yN.cls :: New1.site))
/-- the words ride from the start Z to the walk's own state -/
theorem moved {Z s : State} {a0 args : Array Value} (hZ : Z.Warmed39 s.vm) (hw : ∀ d ∈ words, d.before a0 Z = true) : ∀ d ∈ words, d.before args s = true := fun d hd => by
  have q := hw d hd
  have t : ∀ d ∈ words, d = .arrayClass .byte ∨ (d.onTables && d.keepsFace) = true := by decide +kernel
  rcases t d hd with rfl | t
  · exact RoadKit.mvA hZ q
  · exact RoadKit.mv hZ q t
/-- WHAT COMES BACK, over the tables of the start Z: h the heap at the call, h' behind it -/
def Q (Z : State) (x : Addr) (A : Cell) (h : Heap) (v : Option Value) (h' : Heap) (L : List Loc) : Prop := v = none ∧ (∀ y ∈ L, y.base = x) ∧ RoadKit.Keep h h' [x] ∧ h'.size = h.size + 1 ∧ RoadKit.Exa Z h' x ST ∧ RoadKit.Fld Z h' x ST "value" "[B" (.ref h.size) ∧ RoadKit.Fld Z h' x ST "coder" "B" (.int 0) ∧
  (∃ V : Cell, RoadKit.Arr Z h' h.size V .byte ∧ V.vm = .none ∧ Z.vm.findClass "[B" = some V.cls ∧ V.slots.size = A.slots.size ∧ ∀ j, j < A.slots.size → V.slots[j]? = some (.int (lo8 (cv A j)))) ∧
  ∀ (O n d : String) (w : Value), RoadKit.Fld Z h x O n d w → RoadKit.slotOf Z O n d ≠ RoadKit.slotOf Z ST "value" "[B" → RoadKit.slotOf Z O n d ≠ RoadKit.slotOf Z ST "coder" "B" → RoadKit.Fld Z h' x O n d w
/-- **new String(chars) AT A CALL, IN THE ROAD'S FORM**: for specialBack behind newO: x the fresh String, b the char[] with the cell A -/
theorem back {p : Program} {l : Launch} {e : Env} {R : Room} {s : State} {args : Array Value} {below : List Frame} {len W : Nat} {Z : State} {a0 : Array Value} {h : Heap} (hZ : Z.Warmed39 s.vm) (hw : ∀ d ∈ words, d.before a0 Z = true) {kI : Nat} (wi : (Jvm.Cond.instantiable ST kI).before a0 Z = true)
    {x b : Addr} {A : Cell} {z : Int32} {v0 c0 : Value} (E : RoadKit.Exa Z h x ST) (V : RoadKit.Fld Z h x ST "value" "[B" v0) (C : RoadKit.Fld Z h x ST "coder" "B" c0) (K : RoadKit.Arr Z h b A .char) (hty : Typed .char A) (S : RoadKit.Sta Z h ST "COMPACT_STRINGS" "Z" (.int z)) (hz : ¬ z = 0)
    (l0 : 0 < A.slots.size) (l2 : A.slots.size ≤ 536870912) (hp : ∀ i, i < A.slots.size → ¬ 255 < cv A i) (hfr : 4 ≤ R.frames) (hlo : W + 65 ≤ R.locals) :
    Back l R p e below s args New1.yN len W (fun P a => a = #[.ref x, .ref b] ∧ P.U.heap = h ∧ P.cells + 1 ≤ R.cells ∧ P.slots + A.slots.size ≤ R.slots)
      (fun P _ v B => ∃ L, Q Z x A h v B.U.heap L ∧ B.locs = P.locs ++ L ∧ B.cells = P.cells + 1 ∧ B.slots = P.slots + A.slots.size) := by
  intro m meth c P g ig mk a X hg hsize hdg hW hn hp'
  obtain ⟨rfl, rfl, r1, r2⟩ := hp'
  have al : Z.vm.Alike P.U.vm := hZ.alike.trans X.warmed.alike
  obtain ⟨D, cfV, kV, iV, fV, hD, gV, stV, knV, obV, asV, slV⟩ := id V
  obtain ⟨D', cfC, kC, iC, fC, hD', gC, stC, -, -, asC, slC⟩ := id C
  cases hD.symm.trans hD'
  obtain ⟨D2, kD, e1, e2, e3, e4, e5⟩ := id E
  cases hD.symm.trans e1
  obtain ⟨c2, k2, i1, i2, i3, -⟩ := Cond.instantiable_spec wi
  cases e2.symm.trans i1
  cases e3.symm.trans i2
  obtain ⟨kU, u1, u2⟩ := al.2.2 _ _ e3
  have hB : Blank ST x D P.U := ⟨hD, ⟨knV, fun q hq => by rw [hq] at obV; cases obV⟩, by rw [al.findClass]; exact e2, kU, u1, by rw [u2]; exact i3, by rw [u2]; exact e5 i3⟩
  have F1 : Found ST "value" "[B" fV P.U := ⟨SBG.found_only al ⟨cfV, kV, iV, gV⟩, stV⟩
  have F2 : Found ST "coder" "B" fC P.U := ⟨SBG.found_only al ⟨cfC, kC, iC, gC⟩, stC⟩
  have hA : Ch b A P.U := ⟨⟨K.1, State.isArrayOf_alike al K.2.1, K.2.2, by omega⟩, hty⟩
  have hS : StaticIs P.U ST "COMPACT_STRINGS" "Z" (.int z) := by
    obtain ⟨cfS, iS, kS, fS, st, cS, t1, t2, t3, t4, t5, t6, t7⟩ := S
    exact StaticIs.there (s := { Z with heap := P.U.heap }) ⟨cfS, iS, kS, fS, st, cS, t1, t2, t3, t4, t5, (fun q => by rw [q] at t6; cases t6), t7⟩ al rfl
  obtain ⟨v, B, X', ⟨⟨hv, E', V', q1, q2, q3, q4, q5, q6, q7, q8, q9, q10, q11⟩, hl, hc, hs⟩, st⟩ := New1.pays x D fV fC b A z (tab_of (moved hZ hw)) hfr hlo m meth c P g ig mk _ X hg hsize hdg hW hn ⟨r1, r2, rfl, hB, F1, F2, hA, hS, hz, l0, l2, hp⟩
  have al' : Z.vm.Alike B.U.vm := hZ.alike.trans X'.warmed.alike
  have hsz : E'.slots.size = D.slots.size := by
    obtain ⟨-, -, -, kB, w1, w2, w3⟩ := q1
    obtain ⟨kB', y1, y2⟩ := al'.2.2 _ _ e3
    rw [q2.2.1] at w1
    cases w1.symm.trans y1
    rw [w3, e5 i3, y2]
  refine ⟨v, B, X', ⟨_, ⟨hv, ?_, ⟨by omega, fun y cy hy hn' => q10 y cy (by simpa using hn') hy, fun y cy hy => ?_⟩, q11, ⟨E', _, q1.1, by rw [q2.2.1]; exact e2, by rw [q2.2.1]; exact e3, by rw [q2.1]; exact obV, fun _ => by rw [hsz]; exact e5 i3⟩,
    ⟨E', cfV, kV, iV, fV, q1.1, gV, stV, by rw [q2.1]; exact knV, by rw [q2.1]; exact obV, by rw [q2.2.1]; exact asV, q3⟩, ⟨E', cfC, kC, iC, fC, q1.1, gC, stC, by rw [q2.1]; exact knV, by rw [q2.1]; exact obV, by rw [q2.2.1]; exact asC, q4⟩,
    ⟨V', ⟨q5.1, State.isArrayOf_alike al'.symm q5.2.1, q5.2.2.1⟩, q6, by rw [← al'.findClass]; exact q7, q8, fun j hj => by have := q9 j hj; rwa [Nat.zero_add] at this⟩, fun O n d w F n1 n2 => ?_⟩, hl, hc, hs⟩, st⟩
  · intro y hy
    simp only [List.mem_cons, List.not_mem_nil, or_false] at hy
    rcases hy with rfl | rfl <;> rfl
  · by_cases q : y = x
    · subst q
      cases hD.symm.trans hy
      exact ⟨E', q1.1, q2.2.1, q2.1, hsz⟩
    · exact ⟨cy, q10 y cy q hy, rfl, rfl, rfl⟩
  · obtain ⟨D3, cf, k, i, f, g1, g2, g3, g4, g5, g6, g7⟩ := F
    cases hD.symm.trans g1
    simp only [RoadKit.slotOf, g2, gV, gC, Option.map_some, Option.getD_some] at n1 n2
    exact ⟨E', cf, k, i, f, q1.1, g2, g3, by rw [q2.1]; exact g4, by rw [q2.1]; exact g5, by rw [q2.2.1]; exact g6, by rw [q2.2.2 f.slot (by simp [n1, n2])]; exact g7⟩
end StrChars.Road
namespace StrChars.Road
open Jvm Sem ClassFile Op Lib Jvm.Stand Jvm.Free Jvm.Free.XT
/-- WHAT COMES BACK, the byte[] as a list of values -/
def QA (Z : State) (x : Addr) (zn : Int32) (cs : List Int32) (h : Heap) (v : Option Value) (h' : Heap) (L : List Loc) : Prop := v = none ∧ (∀ y ∈ L, y.base = x) ∧ RoadKit.Keep h h' [x] ∧ h'.size = h.size + 1 ∧ RoadKit.Exa Z h' x ST ∧ RoadKit.Fld Z h' x ST "value" "[B" (.ref h.size) ∧ RoadKit.Fld Z h' x ST "coder" "B" (.int 0) ∧
  (∃ kb, Z.vm.findClass "[B" = some kb ∧ RoadKit.Arv Z h' h.size kb .byte zn (cs.map fun c => .int (lo8 c)) (.int 0)) ∧
  ∀ (O n d : String) (w : Value), RoadKit.Fld Z h x O n d w → RoadKit.slotOf Z O n d ≠ RoadKit.slotOf Z ST "value" "[B" → RoadKit.slotOf Z O n d ≠ RoadKit.slotOf Z ST "coder" "B" → RoadKit.Fld Z h' x O n d w
/-- **new String(chars) AT A CALL, THE ARRAYS AS LISTS**: the char[] at b holds cs, not empty, no char above 255 -/
theorem backArv {p : Program} {l : Launch} {e : Env} {R : Room} {s : State} {args : Array Value} {below : List Frame} {len W : Nat} {Z : State} {a0 : Array Value} {h : Heap} (hZ : Z.Warmed39 s.vm) (hw : ∀ d ∈ words, d.before a0 Z = true) {kI : Nat} (wi : (Jvm.Cond.instantiable ST kI).before a0 Z = true)
    {x b : Addr} {k : ClassId} {zn z : Int32} {cs : List Int32} {dv v0 c0 : Value} (E : RoadKit.Exa Z h x ST) (V : RoadKit.Fld Z h x ST "value" "[B" v0) (C : RoadKit.Fld Z h x ST "coder" "B" c0) (K : RoadKit.Arv Z h b k .char zn (cs.map Value.int) dv) (S : RoadKit.Sta Z h ST "COMPACT_STRINGS" "Z" (.int z)) (hz : ¬ z = 0)
    (hlen : zn.toNatClampNeg = cs.length) (h0 : 0 < cs.length) (hbig : cs.length ≤ 536870912) (hall : ∀ c ∈ cs, ¬ 255 < c) (hfr : 4 ≤ R.frames) (hlo : W + 65 ≤ R.locals) :
    Back l R p e below s args New1.yN len W (fun P a => a = #[.ref x, .ref b] ∧ P.U.heap = h ∧ P.cells + 1 ≤ R.cells ∧ P.slots + cs.length ≤ R.slots)
      (fun P _ v B => ∃ L, QA Z x zn cs h v B.U.heap L ∧ B.locs = P.locs ++ L ∧ B.cells = P.cells + 1 ∧ B.slots = P.slots + cs.length) := by
  obtain ⟨A, K1, K2, K3, K4, K5, K6⟩ := K
  have e : A.slots.size = cs.length := K3.trans hlen
  have hat : ∀ (i : Nat) (hi : i < cs.length), A.slots[i]? = some (.int cs[i]) := fun i hi => by rw [K5 i (by omega)]; simp [List.getD_eq_getElem?_getD, hi]
  have hcv : ∀ (i : Nat) (hi : i < cs.length), cv A i = cs[i] := fun i hi => by unfold cv; rw [hat i hi]
  have hty : Typed .char A := fun i v hv => by
    have hi : i < A.slots.size := (Array.getElem?_eq_some_iff.mp hv).1
    have q := K5 i hi
    rw [hv] at q
    rw [Option.some.inj q]
    exact K6 i hi
  refine Back.mono (back hZ hw wi E V C K1 hty S hz (by omega) (by omega) (fun i hi => by rw [hcv i (by omega)]; exact hall _ (List.getElem_mem _)) hfr hlo) (fun P a hp => ⟨hp.1, hp.2.1, hp.2.2.1, by rw [e]; exact hp.2.2.2⟩) (fun P a v B hp hq => ?_)
  obtain ⟨L, ⟨q1, q2, q3, q4, q5, q6, q7, ⟨V', v1, v2, v3, v4, v5⟩, q9⟩, hl, hc, hs⟩ := hq
  refine ⟨L, ⟨q1, q2, q3, q4, q5, q6, q7, ⟨V'.cls, v3, V', v1, rfl, by rw [v4, e, hlen], K4, fun i hi => ?_, fun i hi => ?_⟩, q9⟩, hl, hc, by rw [hs, e]⟩
  · have hi' : i < cs.length := by omega
    rw [v5 i (by omega), hcv i hi']; simp [List.getD_eq_getElem?_getD, hi']
  · have hi' : i < cs.length := by omega
    simp only [List.getD_eq_getElem?_getD, List.getElem?_map, List.getElem?_eq_getElem hi', Option.map_some, Option.getD_some]
    exact fits_lo8 _
end StrChars.Road
namespace StrChars.Road
open Jvm Sem ClassFile Op Lib Jvm.Stand Jvm.Free Jvm.Free.XT
/-- WHAT COMES BACK, in the writer's own shape -/
def QV (Z : State) (x : Addr) (N : Int32) (bs : List Int32) (h : Heap) (n0 : Nat) (v : Option Value) (h' : Heap) (L : List Loc) : Prop := v = none ∧ RoadKit.Fr n0 L ∧ RoadKit.Keep h h' [x] ∧ RoadKit.Exa Z h' x ST ∧ RoadKit.Fld Z h' x ST "coder" "B" (.int 0) ∧
  ∃ (t : Addr) (kb : ClassId), n0 ≤ t ∧ h.size ≤ t ∧ ¬ t = x ∧ RoadKit.Fld Z h' x ST "value" "[B" (.ref t) ∧ RoadKit.Arv Z h' t kb .byte N (bs.map Value.int) (.int 0)
/-- **new String(chars) AT A CALL, FOR THE WRITER**: a char[] of n known ints, each 0 to 255 -/
theorem backV {p : Program} {l : Launch} {e : Env} {R : Room} {s : State} {args : Array Value} {below : List Frame} {len W : Nat} {Z : State} {a0 : Array Value} {h : Heap} (hZ : Z.Warmed39 s.vm) (hw : ∀ d ∈ words, d.before a0 Z = true) {kI : Nat} (wi : (Jvm.Cond.instantiable ST kI).before a0 Z = true)
    {x b : Addr} {kC : ClassId} {cs bs : List Int32} {d v0 c0 : Value} {z N : Int32} {n n0 : Nat} (hx0 : n0 ≤ x) (hh0 : n0 ≤ h.size) (E : RoadKit.Exa Z h x ST) (V : RoadKit.Fld Z h x ST "value" "[B" v0) (C : RoadKit.Fld Z h x ST "coder" "B" c0) (K : RoadKit.Arv Z h b kC .char N (cs.map Value.int) d) (S : RoadKit.Sta Z h ST "COMPACT_STRINGS" "Z" (.int z)) (hz : ¬ z = 0)
    (hn : cs.length = n) (hN : N = Int32.ofNat n) (l0 : 0 < n) (l2 : n ≤ 4000) (hp : ∀ c ∈ cs, ¬ c < 0 ∧ ¬ (255 : Int32) < c) (hb : bs = cs.map (fun c => c.toInt8.toInt32)) (hfr : 4 ≤ R.frames) (hlo : W + 65 ≤ R.locals) :
    Back l R p e below s args (⟨"java/lang/String", "<init>", "([C)V"⟩ : MethodName) len W (fun P a => a = #[.ref x, .ref b] ∧ P.U.heap = h ∧ P.cells + 1 ≤ R.cells ∧ P.slots + n ≤ R.slots)
      (fun P _ v B => ∃ L, QV Z x N bs h n0 v B.U.heap L ∧ B.locs = P.locs ++ L ∧ B.cells = P.cells + 1 ∧ B.slots = P.slots + n) := by
  subst hn hN hb
  refine Back.mono (backArv hZ hw wi E V C K S hz (n32 (by omega)) l0 (by omega) (fun c hc => (hp c hc).2) hfr hlo) (fun P a hp => hp) (fun P a v B hp hq => ?_)
  obtain ⟨L, ⟨q1, q2, q3, q4, q5, q6, q7, ⟨kb, v1, v2⟩, q9⟩, hl, hc, hs⟩ := hq
  exact ⟨L, ⟨q1, fun y hy => by rw [q2 y hy]; exact hx0, q3, q5, q7, h.size, kb, hh0, Nat.le_refl _, Nat.ne_of_gt E.lt, q6, by rw [List.map_map]; exact v2⟩, hl, hc, hs⟩
end StrChars.Road
namespace StrChars
open Jvm Sem ClassFile Op Lib Jvm.Stand Jvm.Free.XT Jvm.Free.ALB Jvm.Free.JM Jvm.Free
open Jvm.Lib.Cold (StaticIs)
def hi8 (x : Int32) : Int32 := lo8 (x >>> ((8 : Int32) &&& 31))
/-- what StringUTF16.getChar makes of two bytes -/
def pairCh (u v : Int32) : Int32 := (((u &&& 255) <<< ((0 : Int32) &&& 31)) ||| ((v &&& 255) <<< ((8 : Int32) &&& 31))).toUInt32.toUInt16.toUInt32.toInt32
theorem lo8_and (x : Int32) : (lo8 x &&& 255).toBitVec.toNat = x.toBitVec.toNat % 256 := by
  have h : (lo8 x).toBitVec = (x.toBitVec.signExtend 8).signExtend 32 := by rw [lo8, Int8.toBitVec_toInt32, Int32.toBitVec_toInt8]
  rw [Int32.toBitVec_and, BitVec.toNat_and, h]
  have e : ((x.toBitVec.signExtend 8).signExtend 32).toNat % 256 = x.toBitVec.toNat % 256 := by
    rw [BitVec.toNat_signExtend]
    have hlt := x.toBitVec.isLt
    simp only [BitVec.toNat_setWidth, BitVec.toNat_signExtend]
    split <;> split <;> omega
  rw [← e]
  exact Nat.and_two_pow_sub_one_eq_mod _ 8
theorem pair_says {c : Int32} (h0 : ¬ c < 0) (h1 : ¬ 65535 < c) : pairCh (lo8 c) (hi8 c) = c := by
  rw [Int32.lt_iff_toInt_lt] at h0 h1
  have e0 : (0 : Int32).toInt = 0 := rfl
  have e1 : (65535 : Int32).toInt = 65535 := rfl
  have hc : c.toInt = c.toBitVec.toNat := by
    have := c.toBitVec.isLt
    have e : c.toInt = c.toBitVec.toInt := rfl
    rw [e] at h0 h1
    rw [e]
    rw [BitVec.toInt_eq_toNat_cond] at h0 h1 ⊢
    split at h0 <;> split <;> omega
  have hn : c.toBitVec.toNat < 65536 := by omega
  have a1 := lo8_and c
  have a2 : (hi8 c &&& 255).toBitVec.toNat = c.toBitVec.toNat / 256 := by
    rw [hi8, lo8_and]
    have e : ((8 : Int32) &&& 31) = 8 := by decide
    rw [e, Int32.toBitVec_shiftRight]
    have e2 : ((8 : Int32).toBitVec.smod 32) = 8#32 := by decide
    rw [e2, BitVec.sshiftRight_eq', BitVec.toNat_sshiftRight_of_msb_false (by rw [BitVec.msb_eq_false_iff_two_mul_lt]; omega)]
    show c.toBitVec.toNat >>> 8 % 256 = _
    rw [Nat.shiftRight_eq_div_pow]
    omega
  unfold pairCh
  apply Int32.toBitVec_inj.mp
  apply BitVec.eq_of_toNat_eq
  have f0 : ((0 : Int32) &&& 31) = 0 := by decide
  have f8 : ((8 : Int32) &&& 31) = 8 := by decide
  rw [f0, f8]
  have g : (((lo8 c &&& 255) <<< (0 : Int32)) ||| ((hi8 c &&& 255) <<< (8 : Int32))).toBitVec.toNat = c.toBitVec.toNat := by
    rw [Int32.toBitVec_or, Int32.toBitVec_shiftLeft, Int32.toBitVec_shiftLeft]
    have s0 : ((0 : Int32).toBitVec.smod 32) = 0#32 := by decide
    have s8 : ((8 : Int32).toBitVec.smod 32) = 8#32 := by decide
    rw [s0, s8, BitVec.toNat_or]
    simp only [BitVec.shiftLeft_eq', BitVec.toNat_shiftLeft, a1, a2]
    show (c.toBitVec.toNat % 256) <<< 0 % 2 ^ 32 ||| (c.toBitVec.toNat / 256) <<< 8 % 2 ^ 32 = _
    rw [Nat.shiftLeft_zero, Nat.mod_eq_of_lt (show c.toBitVec.toNat % 256 < 2 ^ 32 by omega), Nat.mod_eq_of_lt (show (c.toBitVec.toNat / 256) <<< 8 < 2 ^ 32 by rw [Nat.shiftLeft_eq]; omega), Nat.or_comm, ← Nat.shiftLeft_add_eq_or_of_lt (by omega), Nat.shiftLeft_eq]
    omega
  show BitVec.toNat (((((lo8 c &&& 255) <<< (0 : Int32)) ||| ((hi8 c &&& 255) <<< (8 : Int32))).toBitVec.setWidth 16).setWidth 32) = _
  rw [BitVec.toNat_setWidth, BitVec.toNat_setWidth, g]
  omega
end StrChars
namespace StrChars
open Jvm Sem ClassFile Op Lib Jvm.Stand Jvm.Free.XT Jvm.Free.ALB Jvm.Free.JM Jvm.Free
open Jvm.Lib.Cold (StaticIs)
/-- the array's cell V codes the n chars f 0 .. f (n - 1) by the coder cd, as the JDK does: coder 1 just where some char is above 255 -/
def Cod (cd : Int32) (n : Nat) (f : Nat → Int32) (V : Cell) : Prop := (cd = 0 ∧ V.slots.size = n ∧ ∀ j, j < n → V.slots[j]? = some (.int (lo8 (f j))) ∧ ¬ 255 < f j) ∨ (cd = 1 ∧ V.slots.size = 2 * n ∧ (∀ j, j < n → V.slots[2 * j]? = some (.int (lo8 (f j))) ∧ V.slots[2 * j + 1]? = some (.int (hi8 (f j)))) ∧ ∃ j, j < n ∧ 255 < f j)
/-- **x is a String of the n chars f 0 .. f (n - 1)**, Latin-1 or UTF-16; its array at t has the cell V -/
def Txt (x t : Addr) (V : Cell) (cd : Int32) (n : Nat) (f : Nat → Int32) (U : State) : Prop := Exact "java/lang/String" x U ∧ Has x "java/lang/String" "value" "[B" (.ref t) U ∧ Has x "java/lang/String" "coder" "B" (.int cd) U ∧ XT.Arr .byte t V U ∧ Cod cd n f V ∧ ∀ j, j < n → ¬ f j < 0 ∧ ¬ 65535 < f j
theorem Txt.mv {x t : Addr} {V : Cell} {cd : Int32} {n : Nat} {f : Nat → Int32} {U U' : State} (h : Txt x t V cd n f U) (hal : U.vm.Alike U'.vm) (hh : U'.heap = U.heap) : Txt x t V cd n f U' := ⟨h.1.mv hal hh, h.2.1.mv hal hh, h.2.2.1.mv hal hh, h.2.2.2.1.mv hal hh, h.2.2.2.2⟩
end StrChars
namespace StrChars.Road
open Jvm Sem ClassFile Op Lib Jvm.Stand Jvm.Free Jvm.Free.XT
open Jvm.Lib.Cold (StaticIs)
theorem consq {a : Array Value} {s : State} {c : Jvm.Cond} {L : List Jvm.Cond} (h0 : c.before a s = true) (h : ∀ w ∈ L, w.before a s = true) : ∀ w ∈ c :: L, w.before a s = true := fun w hw => (List.mem_cons.mp hw).elim (fun e => e ▸ h0) (h w)
/-- the bytes of the chars cs, low before high -/
def wideBytes : List Int32 → List Value
  | [] => []
  | c :: cs => .int (lo8 c) :: .int (hi8 c) :: wideBytes cs
theorem wide_lo (d : Value) : ∀ (cs : List Int32) (j : Nat), j < cs.length → (wideBytes cs).getD (2 * j) d = .int (lo8 (cs.getD j 0))
  | [], j, h => absurd h (Nat.not_lt_zero j)
  | c :: cs, 0, _ => rfl
  | c :: cs, j + 1, h => by
    have q := wide_lo d cs j (by simpa using h)
    rw [show 2 * (j + 1) = 2 * j + 1 + 1 from by omega]
    simpa [wideBytes] using q
theorem wide_hi (d : Value) : ∀ (cs : List Int32) (j : Nat), j < cs.length → (wideBytes cs).getD (2 * j + 1) d = .int (hi8 (cs.getD j 0))
  | [], j, h => absurd h (Nat.not_lt_zero j)
  | c :: cs, 0, _ => rfl
  | c :: cs, j + 1, h => by
    have q := wide_hi d cs j (by simpa using h)
    rw [show 2 * (j + 1) + 1 = 2 * j + 1 + 1 + 1 from by omega]
    simpa [wideBytes] using q
theorem low_at (d : Value) (cs : List Int32) (j : Nat) (h : j < cs.length) : (cs.map fun c => Value.int (lo8 c)).getD j d = .int (lo8 (cs.getD j 0)) := by
  simp [List.getD_eq_getElem?_getD, h]
/-- an array of N2 bytes vs codes the chars cs by the coder cd -/
def CodA (cs : List Int32) (cd N2 : Int32) (vs : List Value) : Prop := (cd = 0 ∧ N2 = Int32.ofNat cs.length ∧ vs = (cs.map fun c => Value.int (lo8 c)) ∧ ∀ c ∈ cs, ¬ 255 < c) ∨ (cd = 1 ∧ N2 = Int32.ofNat (2 * cs.length) ∧ vs = wideBytes cs ∧ ∃ c ∈ cs, 255 < c)
theorem CodA.cod {cs : List Int32} {cd N2 : Int32} {vs : List Value} {V : Cell} (h : CodA cs cd N2 vs) (hn : 2 * cs.length < 2 ^ 31) (hs : V.slots.size = N2.toNatClampNeg) (hv : RoadKit.Has V vs (.int 0)) : Cod cd cs.length (fun j => cs.getD j 0) V := by
  rcases h with ⟨rfl, rfl, rfl, h⟩ | ⟨rfl, rfl, rfl, c, hc, hw⟩
  · rw [n32 (by omega)] at hs
    exact Or.inl ⟨rfl, hs, fun j hj => ⟨by rw [hv j (by omega), low_at _ _ _ hj], by
      have e : cs.getD j 0 = cs[j] := by simp [List.getD_eq_getElem?_getD, hj]
      show ¬ 255 < cs.getD j 0
      rw [e]; exact h _ (List.getElem_mem _)⟩⟩
  · rw [n32 (by omega)] at hs
    obtain ⟨j, hj, rfl⟩ := List.getElem_of_mem hc
    exact Or.inr ⟨rfl, hs, fun j hj => ⟨by rw [hv _ (by omega), wide_lo _ _ _ hj], by rw [hv _ (by omega), wide_hi _ _ _ hj]⟩, j, hj, by
      have e : cs.getD j 0 = cs[j] := by simp [List.getD_eq_getElem?_getD, hj]
      show 255 < cs.getD j 0
      rw [e]; exact hw⟩
/-- an object of exactly java/lang/String, its two fields found: as the laws ask it -/
theorem strObj {Z U : State} {a0 : Array Value} {kI : Nat} (wi : (Jvm.Cond.instantiable ST kI).before a0 Z = true) (al : Z.vm.Alike U.vm) {x : Addr} {v0 c0 : Value} (E : RoadKit.Exa Z U.heap x ST) (V : RoadKit.Fld Z U.heap x ST "value" "[B" v0) (C : RoadKit.Fld Z U.heap x ST "coder" "B" c0) :
    ∃ (D : Cell) (fV fC : Field), Blank ST x D U ∧ Found ST "value" "[B" fV U ∧ Found ST "coder" "B" fC U ∧ D.slots[fV.slot]? = some v0 ∧ D.slots[fC.slot]? = some c0 ∧ RoadKit.slotOf Z ST "value" "[B" = fV.slot ∧ RoadKit.slotOf Z ST "coder" "B" = fC.slot := by
  obtain ⟨D, cfV, kV, iV, fV, hD, gV, stV, knV, obV, asV, slV⟩ := V
  obtain ⟨D', cfC, kC, iC, fC, hD', gC, stC, -, -, asC, slC⟩ := C
  cases hD.symm.trans hD'
  obtain ⟨D2, kD, e1, e2, e3, e4, e5⟩ := E
  cases hD.symm.trans e1
  obtain ⟨c2, k2, i1, i2, i3, -⟩ := Cond.instantiable_spec wi
  cases e2.symm.trans i1
  cases e3.symm.trans i2
  obtain ⟨kU, u1, u2⟩ := al.2.2 _ _ e3
  exact ⟨D, fV, fC, ⟨hD, ⟨knV, fun q hq => by rw [hq] at obV; cases obV⟩, by rw [al.findClass]; exact e2, kU, u1, by rw [u2]; exact i3, by rw [u2]; exact e5 i3⟩, ⟨SBG.found_only al ⟨cfV, kV, iV, gV⟩, stV⟩, ⟨SBG.found_only al ⟨cfC, kC, iC, gC⟩, stC⟩, slV, slC, by simp [RoadKit.slotOf, gV], by simp [RoadKit.slotOf, gC]⟩
theorem sta_is {Z U : State} (al : Z.vm.Alike U.vm) {C n d : String} {v : Value} (S : RoadKit.Sta Z U.heap C n d v) : StaticIs U C n d v := by
  obtain ⟨cfS, iS, kS, fS, st, cS, t1, t2, t3, t4, t5, t6, t7⟩ := S
  exact StaticIs.there (s := { Z with heap := U.heap }) ⟨cfS, iS, kS, fS, st, cS, t1, t2, t3, t4, t5, (fun q => by rw [q] at t6; cases t6), t7⟩ al rfl
end StrChars.Road
namespace StrChars
open Jvm Sem ClassFile Op Lib Jvm.Stand Jvm.Free.XT Jvm.Free.ALB Jvm.Free.JM Jvm.Free
open Jvm.Lib.Cold (StaticIs)
namespace Emp
def yN : MethodName := ⟨"java/lang/String", "isEmpty", "()Z"⟩
abbrev yB : ByteArray := jdk_42_method_55_code
theorem d0 : decode yB 0 = .ok (.aload_n 0, 1) := by decide +kernel
theorem d1 : decode yB 1 = .ok (.getfield 9, 3) := by decide +kernel
theorem d4 : decode yB 4 = .ok (.arraylength, 1) := by decide +kernel
theorem d5 : decode yB 5 = .ok (.ifCond (.ne) 7, 3) := by decide +kernel
theorem d8 : decode yB 8 = .ok (.iconst 1, 1) := by decide +kernel
theorem d9 : decode yB 9 = .ok (.goto 4, 3) := by decide +kernel
theorem d12 : decode yB 12 = .ok (.iconst 0, 1) := by decide +kernel
theorem d13 : decode yB 13 = .ok (.ireturn, 1) := by decide +kernel
def site : List Cond := [.fieldLink "java/lang/String" 9 "java/lang/String" "value" "[B"]
def tab : Cond := tabOf yN yB 1 (some .boolean) site
def P (x t : Addr) (V : Cell) (cd : Int32) (n : Nat) (f : Nat → Int32) (args : Array Value) (s : State) : Prop := args = #[.ref x] ∧ Txt x t V cd n f s
def E (n : Nat) (r : Option Value) (s u : State) : Prop := XT.PureE (some (.int (if n = 0 then 1 else 0))) r s u
/-- isEmpty() of a String of n chars -/
theorem law (l : Launch) (x t : Addr) (V : Cell) (cd : Int32) (n : Nat) (f : Nat → Int32) : Law l yN 1 0 0 0 yB 1 (some .boolean) site (P x t V cd n f) (E n) [] 0 0 := by
  refine Law.of_walk (plainFor_of_name (by decide +kernel)) (by decide +kernel) (by decide +kernel) (by decide) (fun _ _ h => by rw [h.1]; rfl) (fun _ U U' hal hh h => ⟨h.1, h.2.mv hal hh⟩) (fun r U U' V V' h1 hal h2 h => XT.PureE.mv r U U' V V' h1 hal h2 h) ?_
  intro p e s m args below meth c s₁ X0 hexec hbytes hml hret hlk hnm hown hh0 W hP
  obtain ⟨rfl, hx⟩ := hP
  have v31 := hx.2.2.2.1.2.2.2
  have c1 : Steps p.tables e below (s₁.setTop (entryFrame m #[.ref x] 1)) (s₁.setTop (mkF m 1 #[.val (.ref x)] [.ref x])) := Steps.trans (entry rfl) (by
    show Steps p.tables e below (s₁.setTop (mkF m 0 #[.val (.ref x)] [])) _
    refine XS.aloadN X0.here hexec rfl (hb hbytes d0) rfl rfl ?_
    exact Steps.refl _)
  obtain ⟨T2, X2, q2, st2⟩ := X0.hget hexec hown (wk W (.fieldLink "java/lang/String" 9 "java/lang/String" "value" "[B")) (hx.mv X0.warmed.alike hh0).2.1 (g := (mkF m 1 #[.val (.ref x)] [.ref x])) rfl (rest := []) rfl (hb hbytes d1)
  have hh2 := q2.trans hh0
  have hx2 := hx.mv X2.warmed.alike hh2
  have c3 : Steps p.tables e below (s₁.setTop (entryFrame m #[.ref x] 1)) (T2.setTop (mkF m 5 #[.val (.ref x)] [.int (Int32.ofNat V.slots.size)])) := (c1.trans (st2 _ (Steps.refl _))).trans (by
    refine X2.alen hexec hx2.2.2.2.1 rfl rfl (hb hbytes d4) ?_
    exact Steps.refl _)
  have hz : V.slots.size = 0 ↔ n = 0 := by
    rcases hx.2.2.2.2.1 with ⟨-, q, -⟩ | ⟨-, q, -⟩ <;> omega
  by_cases h0 : n = 0
  · have c4 : Steps p.tables e below (s₁.setTop (entryFrame m #[.ref x] 1)) (T2.setTop (mkF m 13 #[.val (.ref x)] [.int 1])) := c3.trans (by
      refine XS.ifNo X2.here hexec rfl (hb hbytes d5) rfl (i0_ne_f (by rw [hz.mpr h0]; rfl)) ?_
      refine iconstV X2.here hexec rfl 1 (hb hbytes d8) (by decide) ?_
      refine XS.goto X2.here hexec rfl (pc0 := 9) rfl (hb hbytes d9) (by decide) rfl ?_
      exact Steps.refl _)
    exact ⟨T2, some (.int 1), _, _, _, X2, rfl, rfl, rfl, (fun h => by cases h), ⟨by rw [if_pos h0], hh2⟩, fun fs hl => c4.trans (X2.ireturnOut hexec hret rfl (Or.inr (Or.inl rfl)) (hb hbytes d13) hl)⟩
  · have c4 : Steps p.tables e below (s₁.setTop (entryFrame m #[.ref x] 1)) (T2.setTop (mkF m 13 #[.val (.ref x)] [.int 0])) := c3.trans (by
      refine XS.ifYes X2.here hexec rfl (pc0 := 5) rfl (hb hbytes d5) rfl (i0_ne_t (nz32 v31 (by omega))) (by decide) rfl ?_
      refine iconstV X2.here hexec rfl 0 (hb hbytes d12) (by decide) ?_
      exact Steps.refl _)
    exact ⟨T2, some (.int 0), _, _, _, X2, rfl, rfl, rfl, (fun h => by cases h), ⟨by rw [if_neg h0], hh2⟩, fun fs hl => c4.trans (X2.ireturnOut hexec hret rfl (Or.inr (Or.inl rfl)) (hb hbytes d13) hl)⟩
theorem pays {l : Launch} {R : Room} {p : Program} {e : Env} {below : List Frame} {s : State} {sargs : Array Value} {len W : Nat} (x t : Addr) (V : Cell) (cd : Int32) (n : Nat) (f : Nat → Int32) (htab : tab.before sargs s = true) (hfr : 1 ≤ R.frames) (hlo : W + 12 ≤ R.locals) :
    Back l R p e below s sargs yN len W (fun A₁ a₁ => A₁.cells + 0 ≤ R.cells ∧ A₁.slots + 0 ≤ R.slots ∧ P x t V cd n f a₁ A₁.U) (fun A₁ _ v₁ B₁ => E n v₁ A₁.U B₁.U ∧ B₁.locs = A₁.locs ++ [] ∧ B₁.cells = A₁.cells + 0 ∧ B₁.slots = A₁.slots + 0) :=
  (law l x t V cd n f).pays htab hfr (by omega)
end Emp
/-- what place i of a byte[]'s cell holds -/
def yv (A : Cell) (i : Nat) : Int32 := match A.slots[i]? with | some (.int x) => x | _ => 0
theorem yv_get {a : Addr} {A : Cell} {U : State} (h : XT.Arr .byte a A U) (ht : Typed .byte A) {i : Nat} (hi : i < A.slots.size) : A.slots[i]? = some (.int (yv A i)) := by
  have e := Array.getElem?_eq_getElem hi
  have f := ht i _ e
  unfold yv; rw [e]
  generalize A.slots[i] = v at f
  cases v <;> simp [fits] at f ⊢
/-- the two arrays are equal, place for place -/
def EqC (A B : Cell) : Prop := A.slots.size = B.slots.size ∧ ∀ i, i < A.slots.size → yv A i = yv B i
/-- a boolean that says whether p -/
def Says01 (q : Prop) (r : Option Value) (s u : State) : Prop := ∃ v : Int32, r = some (.int v) ∧ u.heap = s.heap ∧ ((v = 1 ∧ q) ∨ (v = 0 ∧ ¬ q))
theorem Says01.mv {q : Prop} : ∀ r (U U' V V' : State), U'.heap = U.heap → V.vm.Alike V'.vm → V'.heap = V.heap → Says01 q r U V → Says01 q r U' V' :=
  fun r U U' V V' h1 _ h2 ⟨v, a, b, c⟩ => ⟨v, a, by rw [h1, h2]; exact b, c⟩
namespace LEq
def yN : MethodName := ⟨"java/lang/StringLatin1", "equals", "([B[B)Z"⟩
abbrev yB : ByteArray := jdk_43_method_13_code
theorem d0 : decode yB 0 = .ok (.aload_n 0, 1) := by decide +kernel
theorem d1 : decode yB 1 = .ok (.arraylength, 1) := by decide +kernel
theorem d2 : decode yB 2 = .ok (.aload_n 1, 1) := by decide +kernel
theorem d3 : decode yB 3 = .ok (.arraylength, 1) := by decide +kernel
theorem d4 : decode yB 4 = .ok (.if_icmp (.ne) 30, 3) := by decide +kernel
theorem d7 : decode yB 7 = .ok (.iconst 0, 1) := by decide +kernel
theorem d8 : decode yB 8 = .ok (.istore_n 2, 1) := by decide +kernel
theorem d9 : decode yB 9 = .ok (.iload_n 2, 1) := by decide +kernel
theorem d10 : decode yB 10 = .ok (.aload_n 0, 1) := by decide +kernel
theorem d11 : decode yB 11 = .ok (.arraylength, 1) := by decide +kernel
theorem d12 : decode yB 12 = .ok (.if_icmp (.ge) 20, 3) := by decide +kernel
theorem d15 : decode yB 15 = .ok (.aload_n 0, 1) := by decide +kernel
theorem d16 : decode yB 16 = .ok (.iload_n 2, 1) := by decide +kernel
theorem d17 : decode yB 17 = .ok (.baload, 1) := by decide +kernel
theorem d18 : decode yB 18 = .ok (.aload_n 1, 1) := by decide +kernel
theorem d19 : decode yB 19 = .ok (.iload_n 2, 1) := by decide +kernel
theorem d20 : decode yB 20 = .ok (.baload, 1) := by decide +kernel
theorem d21 : decode yB 21 = .ok (.if_icmp (.eq) 5, 3) := by decide +kernel
theorem d24 : decode yB 24 = .ok (.iconst 0, 1) := by decide +kernel
theorem d25 : decode yB 25 = .ok (.ireturn, 1) := by decide +kernel
theorem d26 : decode yB 26 = .ok (.iinc 2 1, 3) := by decide +kernel
theorem d29 : decode yB 29 = .ok (.goto (-20), 3) := by decide +kernel
theorem d32 : decode yB 32 = .ok (.iconst 1, 1) := by decide +kernel
theorem d33 : decode yB 33 = .ok (.ireturn, 1) := by decide +kernel
theorem d34 : decode yB 34 = .ok (.iconst 0, 1) := by decide +kernel
theorem d35 : decode yB 35 = .ok (.ireturn, 1) := by decide +kernel
def site : List Cond := []
def tab : Cond := tabOf yN yB 3 (some .boolean) site
def P (a : Addr) (A : Cell) (b : Addr) (B : Cell) (args : Array Value) (s : State) : Prop := args = #[.ref a, .ref b] ∧ XT.Arr .byte a A s ∧ Typed .byte A ∧ XT.Arr .byte b B s ∧ Typed .byte B
/-- whether two byte[] are equal, place for place -/
theorem law (l : Launch) (a : Addr) (A : Cell) (b : Addr) (B : Cell) : Law l yN 2 2 0 0 yB 3 (some .boolean) site (P a A b B) (Says01 (EqC A B)) [] 0 0 := by
  refine Law.of_walk (plainFor_of_name (by decide +kernel)) (by decide +kernel) (by decide +kernel) (by decide) (fun _ _ h => by rw [h.1]; rfl) (fun _ U U' hal hh h => ⟨h.1, h.2.1.mv hal hh, h.2.2.1, h.2.2.2.1.mv hal hh, h.2.2.2.2⟩) (fun r U U' V V' h1 hal h2 h => Says01.mv r U U' V V' h1 hal h2 h) ?_
  intro p e s m args below meth c s₁ X0 hexec hbytes hml hret hlk hnm hown hh0 W hP
  obtain ⟨rfl, hA, tA, hB, tB⟩ := hP
  have a31 := hA.2.2.2
  have b31 := hB.2.2.2
  have hA0 := hA.mv X0.warmed.alike hh0
  have hB0 := hB.mv X0.warmed.alike hh0
  have c1 : Steps p.tables e below (s₁.setTop (entryFrame m #[.ref a, .ref b] 3)) (s₁.setTop (mkF m 0 #[.val (.ref a), .val (.ref b), .unset] [])) := entry rfl
  have c2 : Steps p.tables e below (s₁.setTop (entryFrame m #[.ref a, .ref b] 3)) (s₁.setTop (mkF m 4 #[.val (.ref a), .val (.ref b), .unset] [.int (Int32.ofNat B.slots.size), .int (Int32.ofNat A.slots.size)])) := c1.trans (by
    refine XS.aloadN X0.here hexec rfl (hb hbytes d0) rfl rfl ?_
    refine X0.alen hexec hA0 rfl rfl (hb hbytes d1) ?_
    refine XS.aloadN X0.here hexec rfl (hb hbytes d2) rfl rfl ?_
    refine X0.alen hexec hB0 rfl rfl (hb hbytes d3) ?_
    exact Steps.refl _)
  by_cases hs : A.slots.size = B.slots.size
  · have c3 : Steps p.tables e below (s₁.setTop (entryFrame m #[.ref a, .ref b] 3)) (s₁.setTop (mkF m 9 #[.val (.ref a), .val (.ref b), .val (.int 0)] [])) := c2.trans (by
      refine XS.icmpNo X0.here hexec rfl (hb hbytes d4) rfl (ii_ne_f (by rw [hs])) ?_
      refine iconstV X0.here hexec rfl 0 (hb hbytes d7) (by decide) ?_
      refine XS.istoreN X0.here hexec rfl (hb hbytes d8) rfl rfl ?_
      exact Steps.refl _)
    have loop : ∀ (r i : Nat), i + r = A.slots.size → (∀ j, j < i → yv A j = yv B j) → Steps p.tables e below (s₁.setTop (entryFrame m #[.ref a, .ref b] 3)) (s₁.setTop (mkF m 9 #[.val (.ref a), .val (.ref b), .val (.int (Int32.ofNat i))] [])) → ∃ (pc : Nat) (Ls : Array Slot) (v : Int32), (pc = 25 ∨ pc = 33) ∧ ((v = 1 ∧ EqC A B) ∨ (v = 0 ∧ ¬ EqC A B)) ∧ Steps p.tables e below (s₁.setTop (entryFrame m #[.ref a, .ref b] 3)) (s₁.setTop (mkF m pc Ls [.int v])) := by
      intro r
      induction r with
      | zero =>
        intro i hi he cl
        exact ⟨33, _, 1, Or.inr rfl, Or.inl ⟨rfl, hs, fun j hj => he j (by omega)⟩, cl.trans (by
          refine XS.iloadN X0.here hexec rfl (hb hbytes d9) rfl ?_
          refine XS.aloadN X0.here hexec rfl (hb hbytes d10) rfl rfl ?_
          refine X0.alen hexec hA0 rfl rfl (hb hbytes d11) ?_
          refine XS.icmpYes X0.here hexec rfl (pc0 := 12) rfl (hb hbytes d12) rfl (ii_ge_t (nlt32 (by omega) (by omega))) (by decide) rfl ?_
          refine iconstV X0.here hexec rfl 1 (hb hbytes d32) (by decide) ?_
          exact Steps.refl _)⟩
      | succ r ih =>
        intro i hi he cl
        have c4 : Steps p.tables e below (s₁.setTop (entryFrame m #[.ref a, .ref b] 3)) (s₁.setTop (mkF m 21 #[.val (.ref a), .val (.ref b), .val (.int (Int32.ofNat i))] [.int (yv B i), .int (yv A i)])) := cl.trans (by
          refine XS.iloadN X0.here hexec rfl (hb hbytes d9) rfl ?_
          refine XS.aloadN X0.here hexec rfl (hb hbytes d10) rfl rfl ?_
          refine X0.alen hexec hA0 rfl rfl (hb hbytes d11) ?_
          refine XS.icmpNo X0.here hexec rfl (hb hbytes d12) rfl (ii_ge_f (lt32 (by omega) (by omega))) ?_
          refine XS.aloadN X0.here hexec rfl (hb hbytes d15) rfl rfl ?_
          refine XS.iloadN X0.here hexec rfl (hb hbytes d16) rfl ?_
          refine X0.aget hexec hA0 rfl (yv_get hA tA (i := i) (by omega)) rfl rfl (hb hbytes d17) ?_
          refine XS.aloadN X0.here hexec rfl (hb hbytes d18) rfl rfl ?_
          refine XS.iloadN X0.here hexec rfl (hb hbytes d19) rfl ?_
          refine X0.aget hexec hB0 rfl (yv_get hB tB (i := i) (by omega)) rfl rfl (hb hbytes d20) ?_
          exact Steps.refl _)
        by_cases hv : yv A i = yv B i
        · have c5 : Steps p.tables e below (s₁.setTop (entryFrame m #[.ref a, .ref b] 3)) (s₁.setTop (mkF m 9 #[.val (.ref a), .val (.ref b), .val (.int (Int32.ofNat i + 1))] [])) := c4.trans (by
            refine XS.icmpYes X0.here hexec rfl (pc0 := 21) rfl (hb hbytes d21) rfl (ii_eq_t hv) (by decide) rfl ?_
            refine iincV X0.here hexec rfl 1 (hb hbytes d26) (by decide) rfl rfl ?_
            refine XS.goto X0.here hexec rfl (pc0 := 29) rfl (hb hbytes d29) (by decide) rfl ?_
            exact Steps.refl _)
          rw [succ32] at c5
          exact ih (i + 1) (by omega) (fun j hj => by
            by_cases e : j = i
            · rw [e]; exact hv
            · exact he j (by omega)) c5
        · exact ⟨25, _, 0, Or.inl rfl, Or.inr ⟨rfl, fun q => hv (q.2 i (by omega))⟩, c4.trans (by
            refine XS.icmpNo X0.here hexec rfl (hb hbytes d21) rfl (ii_eq_f hv) ?_
            refine iconstV X0.here hexec rfl 0 (hb hbytes d24) (by decide) ?_
            exact Steps.refl _)⟩
    obtain ⟨pc, Ls, v, hpc, hv, cz⟩ := loop A.slots.size 0 (by omega) (fun j hj => absurd hj (Nat.not_lt_zero j)) c3
    have nv : narrow .boolean (.int v) = .int v := by rcases hv with ⟨rfl, -⟩ | ⟨rfl, -⟩ <;> rfl
    rcases hpc with rfl | rfl
    · exact ⟨s₁, some (.int v), _, _, _, X0, rfl, rfl, rfl, (fun h => by cases h), ⟨v, rfl, hh0, hv⟩, fun fs hl => cz.trans (X0.ireturnOut hexec hret nv (Or.inr (Or.inl rfl)) (hb hbytes d25) hl)⟩
    · exact ⟨s₁, some (.int v), _, _, _, X0, rfl, rfl, rfl, (fun h => by cases h), ⟨v, rfl, hh0, hv⟩, fun fs hl => cz.trans (X0.ireturnOut hexec hret nv (Or.inr (Or.inl rfl)) (hb hbytes d33) hl)⟩
  · have c3 : Steps p.tables e below (s₁.setTop (entryFrame m #[.ref a, .ref b] 3)) (s₁.setTop (mkF m 35 #[.val (.ref a), .val (.ref b), .unset] [.int 0])) := c2.trans (by
      refine XS.icmpYes X0.here hexec rfl (pc0 := 4) rfl (hb hbytes d4) rfl (ii_ne_t (ne32 a31 b31 hs)) (by decide) rfl ?_
      refine iconstV X0.here hexec rfl 0 (hb hbytes d34) (by decide) ?_
      exact Steps.refl _)
    exact ⟨s₁, some (.int 0), _, _, _, X0, rfl, rfl, rfl, (fun h => by cases h), ⟨0, rfl, hh0, Or.inr ⟨rfl, fun q => hs q.1⟩⟩, fun fs hl => c3.trans (X0.ireturnOut hexec hret rfl (Or.inr (Or.inl rfl)) (hb hbytes d35) hl)⟩
end LEq
theorem Cod.ty {cd : Int32} {n : Nat} {f : Nat → Int32} {V : Cell} (h : Cod cd n f V) : Typed .byte V := fun i v hv => by
  have hi : i < V.slots.size := (Array.getElem?_eq_some_iff.mp hv).1
  rcases h with ⟨-, k1, k2⟩ | ⟨-, k1, k2, -⟩
  · rw [(k2 i (by omega)).1] at hv; cases hv; exact fits_lo8 _
  · rcases Nat.mod_two_eq_zero_or_one i with e | e
    · obtain ⟨j, rfl⟩ : ∃ j, i = 2 * j := ⟨i / 2, by omega⟩
      rw [(k2 j (by omega)).1] at hv; cases hv; exact fits_lo8 _
    · obtain ⟨j, rfl⟩ : ∃ j, i = 2 * j + 1 := ⟨i / 2, by omega⟩
      rw [(k2 j (by omega)).2] at hv; cases hv; exact fits_lo8 _
/-- the same text -/
def SameT (n : Nat) (f : Nat → Int32) (k : Nat) (g : Nat → Int32) : Prop := n = k ∧ ∀ j, j < n → f j = g j
theorem lo8_inj {x y : Int32} (h0 : ¬ x < 0) (h1 : ¬ 255 < x) (k0 : ¬ y < 0) (k1 : ¬ 255 < y) (h : lo8 x = lo8 y) : x = y := by
  rw [← lo8_mask h0 h1, ← lo8_mask k0 k1, h]
/-- arrays coded by one coder are equal just where the texts are -/
theorem Cod.eqv {cd : Int32} {n k : Nat} {f g : Nat → Int32} {V V' : Cell} (h : Cod cd n f V) (h' : Cod cd k g V') (hf : ∀ j, j < n → ¬ f j < 0 ∧ ¬ 65535 < f j) (hg : ∀ j, j < k → ¬ g j < 0 ∧ ¬ 65535 < g j) : EqC V V' ↔ SameT n f k g := by
  have yvv : ∀ {W : Cell} {i : Nat} {x : Int32}, W.slots[i]? = some (.int x) → yv W i = x := fun q => by unfold yv; rw [q]
  rcases h with ⟨rfl, k1, k2⟩ | ⟨rfl, k1, k2, -⟩
  · rcases h' with ⟨-, m1, m2⟩ | ⟨e, -⟩
    · constructor
      · rintro ⟨e1, e2⟩
        refine ⟨by omega, fun j hj => ?_⟩
        have q := e2 j (by omega)
        rw [yvv (k2 j hj).1, yvv (m2 j (by omega)).1] at q
        exact lo8_inj (hf j hj).1 (k2 j hj).2 (hg j (by omega)).1 (m2 j (by omega)).2 q
      · rintro ⟨rfl, e2⟩
        refine ⟨by omega, fun j hj => ?_⟩
        rw [yvv (k2 j (by omega)).1, yvv (m2 j (by omega)).1, e2 j (by omega)]
    · exact absurd e (by decide)
  · rcases h' with ⟨e, -⟩ | ⟨-, m1, m2, -⟩
    · exact absurd e (by decide)
    · constructor
      · rintro ⟨e1, e2⟩
        refine ⟨by omega, fun j hj => ?_⟩
        have q1 := e2 (2 * j) (by omega)
        have q2 := e2 (2 * j + 1) (by omega)
        rw [yvv (k2 j hj).1, yvv (m2 j (by omega)).1] at q1
        rw [yvv (k2 j hj).2, yvv (m2 j (by omega)).2] at q2
        rw [← pair_says (hf j hj).1 (hf j hj).2, ← pair_says (hg j (by omega)).1 (hg j (by omega)).2, q1, q2]
      · rintro ⟨rfl, e2⟩
        refine ⟨by omega, fun i hi => ?_⟩
        rcases Nat.mod_two_eq_zero_or_one i with e | e
        · obtain ⟨j, rfl⟩ : ∃ j, i = 2 * j := ⟨i / 2, by omega⟩
          rw [yvv (k2 j (by omega)).1, yvv (m2 j (by omega)).1, e2 j (by omega)]
        · obtain ⟨j, rfl⟩ : ∃ j, i = 2 * j + 1 := ⟨i / 2, by omega⟩
          rw [yvv (k2 j (by omega)).2, yvv (m2 j (by omega)).2, e2 j (by omega)]
/-- two codings differ: so do the texts -/
theorem Cod.dif {cd cd' : Int32} {n k : Nat} {f g : Nat → Int32} {V V' : Cell} (h : Cod cd n f V) (h' : Cod cd' k g V') (hne : ¬ cd = cd') : ¬ SameT n f k g := by
  rintro ⟨rfl, e⟩
  rcases h with ⟨rfl, -, k2⟩ | ⟨rfl, -, -, j, hj, hw⟩
  · rcases h' with ⟨rfl, -⟩ | ⟨-, -, -, j, hj, hw⟩
    · exact hne rfl
    · exact (k2 j hj).2 (by rw [e j hj]; exact hw)
  · rcases h' with ⟨-, -, m2⟩ | ⟨rfl, -⟩
    · exact (m2 j hj).2 (by rw [← e j hj]; exact hw)
    · exact hne rfl
/-- an object of exactly C is an instance of C -/
theorem cinst {p : Program} {l : Launch} {e : Env} {R : Room} {s : State} {m : MethodId} {args : Array Value} {below : List Frame} {meth : Method} {c : Code} {T : State} {locs : List Loc} {cells slots : Nat} (X : Stand p l e R s m args below meth c T locs cells slots) (hexec : p.tables.exec = Jvm.exec) {own C : String} {index : Nat} (hown : s.vm.findClass own = some m.cls) (hlink : (Cond.classLink own index C).before args s = true) {a : Addr} (hE : Exact C a T)
    {g : JFrame} (hg : g.method = m) {rest : List Value} (hstack : g.stack = .ref a :: rest) (hdg : decode c.code g.pc = .ok (.instanceof index, 3)) :
    ∃ T', Stand p l e R s m args below meth c T' locs cells slots ∧ T'.heap = T.heap ∧ ∀ target, Steps p.tables e below (T'.setTop { g with pc := g.pc + 3, stack := .int 1 :: rest }) target → Steps p.tables e below (T.setTop g) target := by
  obtain ⟨cB, h1, D, h2, h3, h4⟩ := hE
  have h1' : s.vm.findClass C = some cB := by rw [← X.warmed.alike.findClass]; exact h1
  obtain ⟨vm', X', st⟩ := X.instanceofYes hexec hown hlink h2 h4 h1' (by rw [h3]; exact Jvm.Free.SB.assignable_self _ _) hg hstack hdg
  exact ⟨_, X', rfl, st⟩
theorem cself {p : Program} {l : Launch} {e : Env} {R : Room} {s : State} {m : MethodId} {args : Array Value} {below : List Frame} {meth : Method} {c : Code} {T : State} {locs : List Loc} {cells slots : Nat} (X : Stand p l e R s m args below meth c T locs cells slots) (hexec : p.tables.exec = Jvm.exec) {own C : String} {index : Nat} (hown : s.vm.findClass own = some m.cls) (hlink : (Cond.classLink own index C).before args s = true) {a : Addr} (hE : Exact C a T)
    {g : JFrame} (hg : g.method = m) {rest : List Value} (hstack : g.stack = .ref a :: rest) (hdg : decode c.code g.pc = .ok (.checkcast index, 3)) :
    ∃ T', Stand p l e R s m args below meth c T' locs cells slots ∧ T'.heap = T.heap ∧ ∀ target, Steps p.tables e below (T'.setTop { g with pc := g.pc + 3, stack := .ref a :: rest }) target → Steps p.tables e below (T.setTop g) target := by
  obtain ⟨cB, h1, D, h2, h3, h4⟩ := hE
  have h1' : s.vm.findClass C = some cB := by rw [← X.warmed.alike.findClass]; exact h1
  obtain ⟨vm', X', st⟩ := X.checkcastYes hexec hown hlink h2 h4 h1' (by rw [h3]; exact Jvm.Free.SB.assignable_self _ _) hg hstack hdg
  exact ⟨_, X', rfl, fun t h => st t (by rw [← hstack] at h; exact h)⟩
namespace SEq
def yN : MethodName := ⟨"java/lang/String", "equals", "(Ljava/lang/Object;)Z"⟩
abbrev yB : ByteArray := jdk_42_method_66_code
theorem d0 : decode yB 0 = .ok (.aload_n 0, 1) := by decide +kernel
theorem d1 : decode yB 1 = .ok (.aload_n 1, 1) := by decide +kernel
theorem d2 : decode yB 2 = .ok (.if_acmp (.ne) 5, 3) := by decide +kernel
theorem d5 : decode yB 5 = .ok (.iconst 1, 1) := by decide +kernel
theorem d6 : decode yB 6 = .ok (.ireturn, 1) := by decide +kernel
theorem d7 : decode yB 7 = .ok (.aload_n 1, 1) := by decide +kernel
theorem d8 : decode yB 8 = .ok (.instanceof 10, 3) := by decide +kernel
theorem d11 : decode yB 11 = .ok (.ifCond (.eq) 43, 3) := by decide +kernel
theorem d14 : decode yB 14 = .ok (.aload_n 1, 1) := by decide +kernel
theorem d15 : decode yB 15 = .ok (.checkcast 10, 3) := by decide +kernel
theorem d18 : decode yB 18 = .ok (.astore_n 2, 1) := by decide +kernel
theorem d19 : decode yB 19 = .ok (.getstatic 38, 3) := by decide +kernel
theorem d22 : decode yB 22 = .ok (.ifCond (.eq) 14, 3) := by decide +kernel
theorem d25 : decode yB 25 = .ok (.aload_n 0, 1) := by decide +kernel
theorem d26 : decode yB 26 = .ok (.getfield 15, 3) := by decide +kernel
theorem d29 : decode yB 29 = .ok (.aload_n 2, 1) := by decide +kernel
theorem d30 : decode yB 30 = .ok (.getfield 15, 3) := by decide +kernel
theorem d33 : decode yB 33 = .ok (.if_icmp (.ne) 21, 3) := by decide +kernel
theorem d36 : decode yB 36 = .ok (.aload_n 0, 1) := by decide +kernel
theorem d37 : decode yB 37 = .ok (.getfield 9, 3) := by decide +kernel
theorem d40 : decode yB 40 = .ok (.aload_n 2, 1) := by decide +kernel
theorem d41 : decode yB 41 = .ok (.getfield 9, 3) := by decide +kernel
theorem d44 : decode yB 44 = .ok (.invokestatic 541, 3) := by decide +kernel
theorem d47 : decode yB 47 = .ok (.ifCond (.eq) 7, 3) := by decide +kernel
theorem d50 : decode yB 50 = .ok (.iconst 1, 1) := by decide +kernel
theorem d51 : decode yB 51 = .ok (.goto 4, 3) := by decide +kernel
theorem d54 : decode yB 54 = .ok (.iconst 0, 1) := by decide +kernel
theorem d55 : decode yB 55 = .ok (.ireturn, 1) := by decide +kernel
def site : List Cond := [.classLink "java/lang/String" 10 "java/lang/String", .fieldLink "java/lang/String" 38 "java/lang/String" "COMPACT_STRINGS" "Z", .fieldLink "java/lang/String" 15 "java/lang/String" "coder" "B", .fieldLink "java/lang/String" 9 "java/lang/String" "value" "[B", LEq.tab] ++ staticW "java/lang/String" 541 LEq.yN
def tab : Cond := tabOf yN yB 3 (some .boolean) site
def P (x t : Addr) (V : Cell) (cd : Int32) (n : Nat) (f : Nat → Int32) (y t' : Addr) (V' : Cell) (cd' : Int32) (k : Nat) (g : Nat → Int32) (z : Int32) (args : Array Value) (s : State) : Prop := args = #[.ref x, .ref y] ∧ Txt x t V cd n f s ∧ Txt y t' V' cd' k g s ∧ StaticIs s "java/lang/String" "COMPACT_STRINGS" "Z" (.int z) ∧ ¬ z = 0
/-- equals(Object) of two Strings: whether the texts are the same -/
theorem law (l : Launch) (x t : Addr) (V : Cell) (cd : Int32) (n : Nat) (f : Nat → Int32) (y t' : Addr) (V' : Cell) (cd' : Int32) (k : Nat) (g : Nat → Int32) (z : Int32) : Law l yN 2 1 1 14 yB 3 (some .boolean) site (P x t V cd n f y t' V' cd' k g z) (Says01 (SameT n f k g)) [] 0 0 := by
  refine Law.of_walk (plainFor_of_name (by decide +kernel)) (by decide +kernel) (by decide +kernel) (by decide) (fun _ _ h => by rw [h.1]; rfl) (fun _ U U' hal hh h => ⟨h.1, h.2.1.mv hal hh, h.2.2.1.mv hal hh, h.2.2.2.1.there hal hh, h.2.2.2.2⟩) (fun r U U' V V' h1 hal h2 h => Says01.mv r U U' V V' h1 hal h2 h) ?_
  intro p e s m args below meth c s₁ X0 hexec hbytes hml hret hlk hnm hown hh0 W hP
  obtain ⟨rfl, hx, hy, s1, hz⟩ := hP
  have c1 : Steps p.tables e below (s₁.setTop (entryFrame m #[.ref x, .ref y] 3)) (s₁.setTop (mkF m 2 #[.val (.ref x), .val (.ref y), .unset] [.ref y, .ref x])) := Steps.trans (entry rfl) (by
    show Steps p.tables e below (s₁.setTop (mkF m 0 #[.val (.ref x), .val (.ref y), .unset] [])) _
    refine XS.aloadN X0.here hexec rfl (hb hbytes d0) rfl rfl ?_
    refine XS.aloadN X0.here hexec rfl (hb hbytes d1) rfl rfl ?_
    exact Steps.refl _)
  by_cases hxy : x = y
  · have c2 : Steps p.tables e below (s₁.setTop (entryFrame m #[.ref x, .ref y] 3)) (s₁.setTop (mkF m 6 #[.val (.ref x), .val (.ref y), .unset] [.int 1])) := c1.trans (by
      refine acmpNo X0.here hexec rfl (hb hbytes d2) rfl rfl rfl (by simp [acmp, hxy]) ?_
      refine iconstV X0.here hexec rfl 1 (hb hbytes d5) (by decide) ?_
      exact Steps.refl _)
    subst hxy
    have ec : cd = cd' := by
      obtain ⟨D, fd, a1, a2, a3⟩ := hx.2.2.1
      obtain ⟨D', fd', b1, b2, b3⟩ := hy.2.2.1
      cases a1.symm.trans b1
      obtain ⟨q1, q2, q3, q4⟩ := a2.1
      obtain ⟨r1, r2, r3, r4⟩ := b2.1
      cases q4.symm.trans r4
      cases a3.symm.trans b3; rfl
    have et : t = t' := by
      obtain ⟨D, fd, a1, a2, a3⟩ := hx.2.1
      obtain ⟨D', fd', b1, b2, b3⟩ := hy.2.1
      cases a1.symm.trans b1
      obtain ⟨q1, q2, q3, q4⟩ := a2.1
      obtain ⟨r1, r2, r3, r4⟩ := b2.1
      cases q4.symm.trans r4
      cases a3.symm.trans b3; rfl
    subst ec et
    have ev : V = V' := by cases hx.2.2.2.1.1.symm.trans hy.2.2.2.1.1; rfl
    subst ev
    have hs : SameT n f k g := (Cod.eqv hx.2.2.2.2.1 hy.2.2.2.2.1 hx.2.2.2.2.2 hy.2.2.2.2.2).mp ⟨rfl, fun _ _ => rfl⟩
    exact ⟨s₁, some (.int 1), _, _, _, X0, rfl, rfl, rfl, (fun h => by cases h), ⟨1, rfl, hh0, Or.inl ⟨rfl, hs⟩⟩, fun fs hl => c2.trans (X0.ireturnOut hexec hret rfl (Or.inr (Or.inl rfl)) (hb hbytes d6) hl)⟩
  · have c2 : Steps p.tables e below (s₁.setTop (entryFrame m #[.ref x, .ref y] 3)) (s₁.setTop (mkF m 8 #[.val (.ref x), .val (.ref y), .unset] [.ref y])) := c1.trans (by
      refine acmpYes X0.here hexec rfl (pc0 := 2) rfl (hb hbytes d2) rfl rfl rfl (by simp [acmp, hxy]) (by decide) rfl ?_
      refine XS.aloadN X0.here hexec rfl (hb hbytes d7) rfl rfl ?_
      exact Steps.refl _)
    obtain ⟨T3, X3, q3, st3⟩ := cinst X0 hexec hown (wk W (.classLink "java/lang/String" 10 "java/lang/String")) (hy.mv X0.warmed.alike hh0).1 (g := (mkF m 8 #[.val (.ref x), .val (.ref y), .unset] [.ref y])) rfl (rest := []) rfl (hb hbytes d8)
    have hh3 := q3.trans hh0
    have c4 : Steps p.tables e below (s₁.setTop (entryFrame m #[.ref x, .ref y] 3)) (T3.setTop (mkF m 15 #[.val (.ref x), .val (.ref y), .unset] [.ref y])) := (c2.trans (st3 _ (Steps.refl _))).trans (by
      refine XS.ifNo X3.here hexec rfl (hb hbytes d11) rfl (i0_eq_f (by decide)) ?_
      refine XS.aloadN X3.here hexec rfl (hb hbytes d14) rfl rfl ?_
      exact Steps.refl _)
    obtain ⟨T5, X5, q5, st5⟩ := cself X3 hexec hown (wk W (.classLink "java/lang/String" 10 "java/lang/String")) (hy.mv X3.warmed.alike hh3).1 (g := (mkF m 15 #[.val (.ref x), .val (.ref y), .unset] [.ref y])) rfl (rest := []) rfl (hb hbytes d15)
    have hh5 := q5.trans hh3
    have c6 : Steps p.tables e below (s₁.setTop (entryFrame m #[.ref x, .ref y] 3)) (T5.setTop (mkF m 19 #[.val (.ref x), .val (.ref y), .val (.ref y)] [])) := (c4.trans (st5 _ (Steps.refl _))).trans (by
      refine XS.astoreN X5.here hexec rfl (hb hbytes d18) rfl rfl rfl ?_
      exact Steps.refl _)
    obtain ⟨T7, X7, q7, st7⟩ := X5.sget hexec hown (wk W (.fieldLink "java/lang/String" 38 "java/lang/String" "COMPACT_STRINGS" "Z")) s1 (fun _ _ h => by rw [hh5]; exact h) (g := (mkF m 19 #[.val (.ref x), .val (.ref y), .val (.ref y)] [])) rfl (hb hbytes d19)
    have hh7 := q7.trans hh5
    have c8 : Steps p.tables e below (s₁.setTop (entryFrame m #[.ref x, .ref y] 3)) (T7.setTop (mkF m 26 #[.val (.ref x), .val (.ref y), .val (.ref y)] [.ref x])) := (c6.trans (st7 _ (Steps.refl _))).trans (by
      refine XS.ifNo X7.here hexec rfl (hb hbytes d22) rfl (i0_eq_f hz) ?_
      refine XS.aloadN X7.here hexec rfl (hb hbytes d25) rfl rfl ?_
      exact Steps.refl _)
    obtain ⟨T9, X9, q9, st9⟩ := X7.hget hexec hown (wk W (.fieldLink "java/lang/String" 15 "java/lang/String" "coder" "B")) (hx.mv X7.warmed.alike hh7).2.2.1 (g := (mkF m 26 #[.val (.ref x), .val (.ref y), .val (.ref y)] [.ref x])) rfl (rest := []) rfl (hb hbytes d26)
    have hh9 := q9.trans hh7
    have c10 : Steps p.tables e below (s₁.setTop (entryFrame m #[.ref x, .ref y] 3)) (T9.setTop (mkF m 30 #[.val (.ref x), .val (.ref y), .val (.ref y)] [.ref y, .int cd])) := (c8.trans (st9 _ (Steps.refl _))).trans (by
      refine XS.aloadN X9.here hexec rfl (hb hbytes d29) rfl rfl ?_
      exact Steps.refl _)
    obtain ⟨T11, X11, q11, st11⟩ := X9.hget hexec hown (wk W (.fieldLink "java/lang/String" 15 "java/lang/String" "coder" "B")) (hy.mv X9.warmed.alike hh9).2.2.1 (g := (mkF m 30 #[.val (.ref x), .val (.ref y), .val (.ref y)] [.ref y, .int cd])) rfl (rest := [.int cd]) rfl (hb hbytes d30)
    have hh11 := q11.trans hh9
    have c12 : Steps p.tables e below (s₁.setTop (entryFrame m #[.ref x, .ref y] 3)) (T11.setTop (mkF m 33 #[.val (.ref x), .val (.ref y), .val (.ref y)] [.int cd', .int cd])) := c10.trans (st11 _ (Steps.refl _))
    by_cases hcd : cd = cd'
    · subst hcd
      have c13 : Steps p.tables e below (s₁.setTop (entryFrame m #[.ref x, .ref y] 3)) (T11.setTop (mkF m 37 #[.val (.ref x), .val (.ref y), .val (.ref y)] [.ref x])) := c12.trans (by
        refine XS.icmpNo X11.here hexec rfl (hb hbytes d33) rfl (ii_ne_f rfl) ?_
        refine XS.aloadN X11.here hexec rfl (hb hbytes d36) rfl rfl ?_
        exact Steps.refl _)
      obtain ⟨T14, X14, q14, st14⟩ := X11.hget hexec hown (wk W (.fieldLink "java/lang/String" 9 "java/lang/String" "value" "[B")) (hx.mv X11.warmed.alike hh11).2.1 (g := (mkF m 37 #[.val (.ref x), .val (.ref y), .val (.ref y)] [.ref x])) rfl (rest := []) rfl (hb hbytes d37)
      have hh14 := q14.trans hh11
      have c15 : Steps p.tables e below (s₁.setTop (entryFrame m #[.ref x, .ref y] 3)) (T14.setTop (mkF m 41 #[.val (.ref x), .val (.ref y), .val (.ref y)] [.ref y, .ref t])) := (c13.trans (st14 _ (Steps.refl _))).trans (by
        refine XS.aloadN X14.here hexec rfl (hb hbytes d40) rfl rfl ?_
        exact Steps.refl _)
      obtain ⟨T16, X16, q16, st16⟩ := X14.hget hexec hown (wk W (.fieldLink "java/lang/String" 9 "java/lang/String" "value" "[B")) (hy.mv X14.warmed.alike hh14).2.1 (g := (mkF m 41 #[.val (.ref x), .val (.ref y), .val (.ref y)] [.ref y, .ref t])) rfl (rest := [.ref t]) rfl (hb hbytes d41)
      have hh16 := q16.trans hh14
      have c17 : Steps p.tables e below (s₁.setTop (entryFrame m #[.ref x, .ref y] 3)) (T16.setTop (mkF m 44 #[.val (.ref x), .val (.ref y), .val (.ref y)] [.ref t', .ref t])) := c15.trans (st16 _ (Steps.refl _))
      obtain ⟨v18, T18, X18, E18, g18⟩ := X16.callS hexec (LEq.law l t V t' V') hown (wks W (staticW "java/lang/String" 541 LEq.yN)) (wk W LEq.tab) (W := 0) (Nat.le_of_ble_eq_true rfl) (Nat.le_of_ble_eq_true rfl) (Nat.le_refl _) (Nat.le_refl _) (g := (mkF m 44 #[.val (.ref x), .val (.ref y), .val (.ref y)] [.ref t', .ref t])) rfl (by rw [hml]; rfl) c17 (argsL := [.ref t, .ref t']) (rest := []) rfl rfl (by show 2 * 0 + 0 ≤ _; decide) (hb hbytes d44) (⟨rfl, hx.2.2.2.1.mv X16.warmed.alike hh16, hx.2.2.2.2.1.ty, hy.2.2.2.1.mv X16.warmed.alike hh16, hy.2.2.2.2.1.ty⟩)
      obtain ⟨v, rfl, q18, hv⟩ := E18
      have iff := Cod.eqv hx.2.2.2.2.1 hy.2.2.2.2.1 hx.2.2.2.2.2 hy.2.2.2.2.2
      rcases hv with ⟨rfl, he⟩ | ⟨rfl, he⟩
      · have c19 : Steps p.tables e below (s₁.setTop (entryFrame m #[.ref x, .ref y] 3)) (T18.setTop (mkF m 55 #[.val (.ref x), .val (.ref y), .val (.ref y)] [.int 1])) := Steps.trans g18 (by
          refine XS.ifNo X18.here hexec rfl (hb hbytes d47) rfl (i0_eq_f (by decide)) ?_
          refine iconstV X18.here hexec rfl 1 (hb hbytes d50) (by decide) ?_
          refine XS.goto X18.here hexec rfl (pc0 := 51) rfl (hb hbytes d51) (by decide) rfl ?_
          exact Steps.refl _)
        exact ⟨T18, some (.int 1), _, _, _, X18, rfl, rfl, rfl, (fun h => by cases h), ⟨1, rfl, q18.trans hh16, Or.inl ⟨rfl, iff.mp he⟩⟩, fun fs hl => c19.trans (X18.ireturnOut hexec hret rfl (Or.inr (Or.inl rfl)) (hb hbytes d55) hl)⟩
      · have c19 : Steps p.tables e below (s₁.setTop (entryFrame m #[.ref x, .ref y] 3)) (T18.setTop (mkF m 55 #[.val (.ref x), .val (.ref y), .val (.ref y)] [.int 0])) := Steps.trans g18 (by
          refine XS.ifYes X18.here hexec rfl (pc0 := 47) rfl (hb hbytes d47) rfl (i0_eq_t rfl) (by decide) rfl ?_
          refine iconstV X18.here hexec rfl 0 (hb hbytes d54) (by decide) ?_
          exact Steps.refl _)
        exact ⟨T18, some (.int 0), _, _, _, X18, rfl, rfl, rfl, (fun h => by cases h), ⟨0, rfl, q18.trans hh16, Or.inr ⟨rfl, fun q => he (iff.mpr q)⟩⟩, fun fs hl => c19.trans (X18.ireturnOut hexec hret rfl (Or.inr (Or.inl rfl)) (hb hbytes d55) hl)⟩
    · have c13 : Steps p.tables e below (s₁.setTop (entryFrame m #[.ref x, .ref y] 3)) (T11.setTop (mkF m 55 #[.val (.ref x), .val (.ref y), .val (.ref y)] [.int 0])) := c12.trans (by
        refine XS.icmpYes X11.here hexec rfl (pc0 := 33) rfl (hb hbytes d33) rfl (ii_ne_t hcd) (by decide) rfl ?_
        refine iconstV X11.here hexec rfl 0 (hb hbytes d54) (by decide) ?_
        exact Steps.refl _)
      exact ⟨T11, some (.int 0), _, _, _, X11, rfl, rfl, rfl, (fun h => by cases h), ⟨0, rfl, hh11, Or.inr ⟨rfl, Cod.dif hx.2.2.2.2.1 hy.2.2.2.2.1 hcd⟩⟩, fun fs hl => c13.trans (X11.ireturnOut hexec hret rfl (Or.inr (Or.inl rfl)) (hb hbytes d55) hl)⟩
theorem pays {l : Launch} {R : Room} {p : Program} {e : Env} {below : List Frame} {s : State} {sargs : Array Value} {len W : Nat} (x t : Addr) (V : Cell) (cd : Int32) (n : Nat) (f : Nat → Int32) (y t' : Addr) (V' : Cell) (cd' : Int32) (k : Nat) (g : Nat → Int32) (z : Int32) (htab : tab.before sargs s = true) (hfr : 2 ≤ R.frames) (hlo : W + 28 ≤ R.locals) :
    Back l R p e below s sargs yN len W (fun A₁ a₁ => A₁.cells + 0 ≤ R.cells ∧ A₁.slots + 0 ≤ R.slots ∧ P x t V cd n f y t' V' cd' k g z a₁ A₁.U) (fun A₁ _ v₁ B₁ => Says01 (SameT n f k g) v₁ A₁.U B₁.U ∧ B₁.locs = A₁.locs ++ [] ∧ B₁.cells = A₁.cells + 0 ∧ B₁.slots = A₁.slots + 0) :=
  (law l x t V cd n f y t' V' cd' k g z).pays htab hfr (by omega)
end SEq
end StrChars
namespace StrChars.Road
open Jvm Sem ClassFile Op Lib Jvm.Stand Jvm.Free Jvm.Free.XT
open Jvm.Lib.Cold (StaticIs)
/-- the words of String.isEmpty() -/
abbrev wordsEmp : List Jvm.Cond := [.code Emp.yN Emp.yB 1 (some .boolean), .initialized ST, .fieldLink ST 9 ST "value" "[B"]
theorem tabEmp_of {a : Array Value} {s : State} (h : ∀ w ∈ wordsEmp, w.before a s = true) : Emp.tab.before a s = true := unparts (wk h (.code Emp.yN Emp.yB 1 (some .boolean))) (wks h (.initialized Emp.yN.cls :: Emp.site))
theorem movedEmp {Z s : State} {a0 args : Array Value} (hZ : Z.Warmed39 s.vm) (hw : ∀ d ∈ wordsEmp, d.before a0 Z = true) : ∀ d ∈ wordsEmp, d.before args s = true := fun d hd => by
  have t : ∀ d ∈ wordsEmp, (d.onTables && d.keepsFace) = true := by decide +kernel
  exact RoadKit.mv hZ (hw d hd) (t d hd)
/-- the words of String.equals(Object) -/
abbrev wordsEq : List Jvm.Cond := [.code SEq.yN SEq.yB 3 (some .boolean), .initialized ST, .classLink ST 10 ST, .fieldLink ST 38 ST "COMPACT_STRINGS" "Z", .fieldLink ST 15 ST "coder" "B", .fieldLink ST 9 ST "value" "[B", .methodLink ST 541 LEq.yN, .static LEq.yN, .code LEq.yN LEq.yB 3 (some .boolean), .initialized "java/lang/StringLatin1"]
theorem tabEq_of {a : Array Value} {s : State} (h : ∀ w ∈ wordsEq, w.before a s = true) : SEq.tab.before a s = true := by
  have hl : LEq.tab.before a s = true := unparts (wk h (.code LEq.yN LEq.yB 3 (some .boolean))) (wks h (.initialized LEq.yN.cls :: LEq.site))
  have q := consq hl h
  exact unparts (wk q (.code SEq.yN SEq.yB 3 (some .boolean))) (wks q (.initialized SEq.yN.cls :: SEq.site))
theorem movedEq {Z s : State} {a0 args : Array Value} (hZ : Z.Warmed39 s.vm) (hw : ∀ d ∈ wordsEq, d.before a0 Z = true) : ∀ d ∈ wordsEq, d.before args s = true := fun d hd => by
  have t : ∀ d ∈ wordsEq, (d.onTables && d.keepsFace) = true := by decide +kernel
  exact RoadKit.mv hZ (hw d hd) (t d hd)
/-- the road's facts of a String, as the laws ask it -/
theorem txt_of {Z U : State} {a0 : Array Value} {kI : Nat} (wi : (Jvm.Cond.instantiable ST kI).before a0 Z = true) (al : Z.vm.Alike U.vm) {x t : Addr} {kb : ClassId} {cs : List Int32} {cd N2 : Int32} {vs : List Value} (E : RoadKit.Exa Z U.heap x ST) (V : RoadKit.Fld Z U.heap x ST "value" "[B" (.ref t)) (C : RoadKit.Fld Z U.heap x ST "coder" "B" (.int cd)) (K : RoadKit.Arv Z U.heap t kb .byte N2 vs (.int 0)) (hc : CodA cs cd N2 vs) (hb : ∀ c ∈ cs, ¬ c < 0 ∧ ¬ (65535 : Int32) < c) (l2 : cs.length ≤ 4000) :
    ∃ A, Txt x t A cd cs.length (fun j => cs.getD j 0) U := by
  obtain ⟨A, K1, K2, K3, K4, K5, K6⟩ := K
  have hcod := hc.cod (by omega) K3 K5
  obtain ⟨D, fV, fC, hB, F1, F2, g1, g2, -, -⟩ := strObj wi al E V C
  exact ⟨A, ⟨_, hB.2.2.1, D, hB.1, rfl, by cases q : D.vm <;> first | rfl | exact absurd q (hB.2.1.2 _)⟩, Has.of hB F1 g1, Has.of hB F2 g2, ⟨K1.1, State.isArrayOf_alike al K1.2.1, K1.2.2, by rcases hcod with ⟨-, q, -⟩ | ⟨-, q, -⟩ <;> omega⟩, hcod, fun j hj => by
    have e : cs.getD j 0 = cs[j] := by simp [List.getD_eq_getElem?_getD, hj]
    show ¬ cs.getD j 0 < 0 ∧ ¬ 65535 < cs.getD j 0
    rw [e]; exact hb _ (List.getElem_mem _)⟩
theorem same_list (cs ds : List Int32) : SameT cs.length (fun j => cs.getD j 0) ds.length (fun j => ds.getD j 0) ↔ cs = ds := by
  constructor
  · rintro ⟨e, q⟩
    refine List.ext_getElem e fun j h1 h2 => ?_
    have := q j h1
    simpa [List.getD_eq_getElem?_getD, h1, h2] using this
  · rintro rfl
    exact ⟨rfl, fun _ _ => rfl⟩
/-- **isEmpty() OF SUCH A STRING** -/
theorem empW {p : Program} {l : Launch} {e : Env} {R : Room} {s : State} {args : Array Value} {below : List Frame} {len W : Nat} {Z : State} {a0 : Array Value} {h : Heap} (hZ : Z.Warmed39 s.vm) (hw : ∀ d ∈ wordsEmp, d.before a0 Z = true) {kI : Nat} (wi : (Jvm.Cond.instantiable ST kI).before a0 Z = true)
    {x t : Addr} {kb : ClassId} {cs : List Int32} {cd N2 : Int32} {vs : List Value} (E : RoadKit.Exa Z h x ST) (V : RoadKit.Fld Z h x ST "value" "[B" (.ref t)) (C : RoadKit.Fld Z h x ST "coder" "B" (.int cd)) (K : RoadKit.Arv Z h t kb .byte N2 vs (.int 0)) (hc : CodA cs cd N2 vs) (hb : ∀ c ∈ cs, ¬ c < 0 ∧ ¬ (65535 : Int32) < c) (l2 : cs.length ≤ 4000) (hfr : 1 ≤ R.frames) (hlo : W + 12 ≤ R.locals) :
    Back l R p e below s args (⟨"java/lang/String", "isEmpty", "()Z"⟩ : MethodName) len W (fun P a => a = #[.ref x] ∧ P.U.heap = h ∧ P.cells + 0 ≤ R.cells ∧ P.slots + 0 ≤ R.slots)
      (fun P _ v B => ∃ L, (v = some (.int (if cs.length = 0 then 1 else 0)) ∧ L = [] ∧ B.U.heap = h) ∧ B.locs = P.locs ++ L ∧ B.cells = P.cells + 0 ∧ B.slots = P.slots + 0) := by
  intro m meth c P g ig mk a X hg hsize hdg hW hn hp'
  obtain ⟨rfl, rfl, r1, r2⟩ := hp'
  have al : Z.vm.Alike P.U.vm := hZ.alike.trans X.warmed.alike
  obtain ⟨A, hx⟩ := txt_of wi al E V C K hc hb l2
  obtain ⟨v, B, X', ⟨⟨hv, hh⟩, hl, hk, hs⟩, st⟩ := Emp.pays x t A cd cs.length (fun j => cs.getD j 0) (tabEmp_of (movedEmp hZ hw)) hfr hlo m meth c P g ig mk _ X hg hsize hdg hW hn ⟨r1, r2, rfl, hx⟩
  exact ⟨v, B, X', ⟨[], ⟨hv, rfl, hh⟩, hl, hk, hs⟩, st⟩
/-- **equals(Object) OF TWO SUCH STRINGS**: 1 just where the chars are the same -/
theorem eqW {p : Program} {l : Launch} {e : Env} {R : Room} {s : State} {args : Array Value} {below : List Frame} {len W : Nat} {Z : State} {a0 : Array Value} {h : Heap} (hZ : Z.Warmed39 s.vm) (hw : ∀ d ∈ wordsEq, d.before a0 Z = true) {kI : Nat} (wi : (Jvm.Cond.instantiable ST kI).before a0 Z = true)
    {x t : Addr} {kb : ClassId} {cs : List Int32} {cd N2 : Int32} {vs : List Value} (E : RoadKit.Exa Z h x ST) (V : RoadKit.Fld Z h x ST "value" "[B" (.ref t)) (C : RoadKit.Fld Z h x ST "coder" "B" (.int cd)) (K : RoadKit.Arv Z h t kb .byte N2 vs (.int 0)) (hc : CodA cs cd N2 vs) (hb : ∀ c ∈ cs, ¬ c < 0 ∧ ¬ (65535 : Int32) < c) (l2 : cs.length ≤ 4000)
    {y t' : Addr} {kb' : ClassId} {ds : List Int32} {cd' N2' : Int32} {vs' : List Value} (E' : RoadKit.Exa Z h y ST) (V' : RoadKit.Fld Z h y ST "value" "[B" (.ref t')) (C' : RoadKit.Fld Z h y ST "coder" "B" (.int cd')) (K' : RoadKit.Arv Z h t' kb' .byte N2' vs' (.int 0)) (hc' : CodA ds cd' N2' vs') (hb' : ∀ c ∈ ds, ¬ c < 0 ∧ ¬ (65535 : Int32) < c) (l2' : ds.length ≤ 4000)
    {z : Int32} (S : RoadKit.Sta Z h ST "COMPACT_STRINGS" "Z" (.int z)) (hz : ¬ z = 0) (hfr : 2 ≤ R.frames) (hlo : W + 28 ≤ R.locals) :
    Back l R p e below s args (⟨"java/lang/String", "equals", "(Ljava/lang/Object;)Z"⟩ : MethodName) len W (fun P a => a = #[.ref x, .ref y] ∧ P.U.heap = h ∧ P.cells + 0 ≤ R.cells ∧ P.slots + 0 ≤ R.slots)
      (fun P _ v B => ∃ L, (((v = some (.int 1) ∧ cs = ds) ∨ (v = some (.int 0) ∧ ¬ cs = ds)) ∧ L = [] ∧ B.U.heap = h) ∧ B.locs = P.locs ++ L ∧ B.cells = P.cells + 0 ∧ B.slots = P.slots + 0) := by
  intro m meth c P g ig mk a X hg hsize hdg hW hn hp'
  obtain ⟨rfl, rfl, r1, r2⟩ := hp'
  have al : Z.vm.Alike P.U.vm := hZ.alike.trans X.warmed.alike
  obtain ⟨A, hx⟩ := txt_of wi al E V C K hc hb l2
  obtain ⟨A', hy⟩ := txt_of wi al E' V' C' K' hc' hb' l2'
  obtain ⟨v, B, X', ⟨⟨w, hv, hh, hq⟩, hl, hk, hs⟩, st⟩ := SEq.pays x t A cd cs.length (fun j => cs.getD j 0) y t' A' cd' ds.length (fun j => ds.getD j 0) z (tabEq_of (movedEq hZ hw)) hfr hlo m meth c P g ig mk _ X hg hsize hdg hW hn ⟨r1, r2, rfl, hx, hy, sta_is al S, hz⟩
  refine ⟨v, B, X', ⟨[], ⟨?_, rfl, hh⟩, hl, hk, hs⟩, st⟩
  rcases hq with ⟨rfl, q⟩ | ⟨rfl, q⟩
  · exact Or.inl ⟨hv, (same_list cs ds).mp q⟩
  · exact Or.inr ⟨hv, fun e => q ((same_list cs ds).mpr e)⟩
end StrChars.Road
namespace StrChars.Road
open Jvm Sem ClassFile Op Lib Jvm.Stand Jvm.Free Jvm.Free.XT
open Jvm.Lib.Cold (StaticIs)
/-- what backV says of its String, as the contracts of this text ask it: cs's low bytes, coder 0 -/
theorem codOf {cs : List Int32} {n : Nat} (hn : cs.length = n) (hb : ∀ c ∈ cs, ¬ 255 < c) : CodA cs 0 (Int32.ofNat n) ((cs.map lo8).map Value.int) := Or.inl ⟨rfl, by rw [hn], by simp [List.map_map, Function.comp_def], hb⟩
end StrChars.Road
end Jvm.Pilot.@@N@@
namespace Jvm.Pilot.@@N@@
open Jvm Jvm.ClassFile Sem Op Lib Jvm.Free Jvm.Stand Jvm.LawKit Jvm.RoadKit Bundle Jvm.Pilot.@@N@@.Jvm.D
/-- what a walk owes from a state on: the run comes to a state of which G speaks -/
def own_Go (p : Program) (e : Env) (below : List Frame) (A : State) (G : State → Prop) : Prop := ∃ B, (∀ t, Steps p.tables e below B t → Steps p.tables e below A t) ∧ G B
theorem own_via {p : Program} {e : Env} {below : List Frame} {A B : State} {G : State → Prop} (h : ∀ t, Steps p.tables e below B t → Steps p.tables e below A t) (k : own_Go p e below B G) : own_Go p e below A G := by
  obtain ⟨C, h1, h2⟩ := k
  exact ⟨C, fun t q => h t (h1 t q), h2⟩
abbrev uu : Slot := .unset
theorem ov {p : Program} {e : Env} {below : List Frame} {A B : State} {G : State → Prop} (h : ∀ t, Steps p.tables e below B t → Steps p.tables e below A t) (k : own_Go p e below B G) : own_Go p e below A G := own_via h k
theorem own_done {p : Program} {e : Env} {below : List Frame} {A : State} {G : State → Prop} (g : G A) : own_Go p e below A G := ⟨A, fun _ q => q, g⟩
theorem own_bind {p : Program} {e : Env} {below : List Frame} {A : State} {G G' : State → Prop} (h : own_Go p e below A G) (k : ∀ B, G B → own_Go p e below B G') : own_Go p e below A G' := by
  obtain ⟨B, h1, h2⟩ := h
  exact own_via h1 (k B h2)
/-- the method ends here -/
def own_End (p : Program) (e : Env) (below : List Frame) (s : State) (Q : Option Value → Heap → List Loc → Prop) (C S : Nat) (B : State) : Prop :=
  ∃ s₂ o, Steps p.tables e below B s₂ ∧ s₂.status = .running ∧ Ended s₂ below o ∧ ∃ v L, o = .returned v ∧ Q v s₂.heap L ∧ FrameEnd s o s₂ L C S
theorem own_body {p : Program} {e : Env} {below : List Frame} {s A A' : State} {Q : Option Value → Heap → List Loc → Prop} {C S : Nat} (q : ∀ t, Steps p.tables e below A t → Steps p.tables e below A' t) (h : own_Go p e below A (own_End p e below s Q C S)) :
    ∃ s₂ o, Steps p.tables e below A' s₂ ∧ s₂.status = .running ∧ Ended s₂ below o ∧ ∃ v L, o = .returned v ∧ Q v s₂.heap L ∧ FrameEnd s o s₂ L C S := by
  obtain ⟨B, h1, s₂, o, h2, h3⟩ := h
  exact ⟨s₂, o, q _ (h1 _ h2), h3⟩
theorem oW {Z : State} {a0 : Array Value} (hw : ∀ d ∈ tables_1, d.before a0 Z = true) (i : Nat) {d : Jvm.Cond} (h : tables_1[i]? = some d) : d.before a0 Z = true := hw _ (List.mem_of_getElem? h)
section Short
variable {p : Program} {l : Launch} {e : Env} {R : Room} {s : State} {m : MethodId} {args : Array Value} {below : List Frame} {meth : Method} {c : Code} {T : State} {locs : List Loc} {cells slots : Nat} {G : State → Prop} {pc n : Nat} {Ls : Array Slot} {st : List Value}
theorem oAL (X : Stand p l e R s m args below meth c T locs cells slots) (hx : p.tables.exec = Jvm.exec) {k : Nat} {v : Value} (hd : decode c.code pc = .ok (.aload k, 2)) (hl : Ls[k]? = some (.val v)) (hv : v.isRef = true) (hn : n = pc + 2) (K : own_Go p e below (T.setTop (mkF m n Ls (v :: st))) G) : own_Go p e below (T.setTop (mkF m pc Ls st)) G := by
  subst hn; exact own_via (fun t k => XS.aload X.here hx rfl hd hl hv k) K
theorem oALN (X : Stand p l e R s m args below meth c T locs cells slots) (hx : p.tables.exec = Jvm.exec) {k : Fin 4} {v : Value} (hd : decode c.code pc = .ok (.aload_n k, 1)) (hl : Ls[k.val]? = some (.val v)) (hv : v.isRef = true) (hn : n = pc + 1) (K : own_Go p e below (T.setTop (mkF m n Ls (v :: st))) G) : own_Go p e below (T.setTop (mkF m pc Ls st)) G := by
  subst hn; exact own_via (fun t k => XS.aloadN X.here hx rfl hd hl hv k) K
theorem oIL (X : Stand p l e R s m args below meth c T locs cells slots) (hx : p.tables.exec = Jvm.exec) {k : Nat} {v : Int32} (hd : decode c.code pc = .ok (.iload k, 2)) (hl : Ls[k]? = some (.val (.int v))) (hn : n = pc + 2) (K : own_Go p e below (T.setTop (mkF m n Ls (.int v :: st))) G) : own_Go p e below (T.setTop (mkF m pc Ls st)) G := by
  subst hn; exact own_via (fun t k => XS.iload X.here hx rfl hd hl k) K
theorem oILN (X : Stand p l e R s m args below meth c T locs cells slots) (hx : p.tables.exec = Jvm.exec) {k : Fin 4} {v : Int32} (hd : decode c.code pc = .ok (.iload_n k, 1)) (hl : Ls[k.val]? = some (.val (.int v))) (hn : n = pc + 1) (K : own_Go p e below (T.setTop (mkF m n Ls (.int v :: st))) G) : own_Go p e below (T.setTop (mkF m pc Ls st)) G := by
  subst hn; exact own_via (fun t k => XS.iloadN X.here hx rfl hd hl k) K
theorem oIC (X : Stand p l e R s m args below meth c T locs cells slots) (hx : p.tables.exec = Jvm.exec) {i : Int} (z : Int32) (hd : decode c.code pc = .ok (.iconst i, 1)) (hz : Int32.ofInt i = z) (hn : n = pc + 1) (K : own_Go p e below (T.setTop (mkF m n Ls (.int z :: st))) G) : own_Go p e below (T.setTop (mkF m pc Ls st)) G := by
  subst hn hz; exact own_via (fun t k => XS.iconst X.here hx rfl hd k) K
theorem oBP (X : Stand p l e R s m args below meth c T locs cells slots) (hx : p.tables.exec = Jvm.exec) {i : Int} (z : Int32) (hd : decode c.code pc = .ok (.bipush i, 2)) (hz : (Int8.ofInt i).toInt32 = z) (hn : n = pc + 2) (K : own_Go p e below (T.setTop (mkF m n Ls (.int z :: st))) G) : own_Go p e below (T.setTop (mkF m pc Ls st)) G := by
  subst hn hz; exact own_via (fun t k => XS.bipush X.here hx rfl hd k) K
theorem oSP (X : Stand p l e R s m args below meth c T locs cells slots) (hx : p.tables.exec = Jvm.exec) {i : Int} (z : Int32) (hd : decode c.code pc = .ok (.sipush i, 3)) (hz : (Int16.ofInt i).toInt32 = z) (hn : n = pc + 3) (K : own_Go p e below (T.setTop (mkF m n Ls (.int z :: st))) G) : own_Go p e below (T.setTop (mkF m pc Ls st)) G := by
  subst hn hz; exact own_via (fun t k => XS.sipush X.here hx rfl hd k) K
theorem oNU (X : Stand p l e R s m args below meth c T locs cells slots) (hx : p.tables.exec = Jvm.exec) (hd : decode c.code pc = .ok (.aconst_null, 1)) (hn : n = pc + 1) (K : own_Go p e below (T.setTop (mkF m n Ls (.null :: st))) G) : own_Go p e below (T.setTop (mkF m pc Ls st)) G := by
  subst hn; exact own_via (fun t k => XS.aconstNull X.here hx rfl hd k) K
theorem oDU (X : Stand p l e R s m args below meth c T locs cells slots) (hx : p.tables.exec = Jvm.exec) {x : Value} (hd : decode c.code pc = .ok (.dup, 1)) (hc : x.category = 1) (hn : n = pc + 1) (K : own_Go p e below (T.setTop (mkF m n Ls (x :: x :: st))) G) : own_Go p e below (T.setTop (mkF m pc Ls (x :: st))) G := by
  subst hn; exact own_via (fun t k => XS.dup X.here hx rfl hd rfl hc k) K
theorem oPO (X : Stand p l e R s m args below meth c T locs cells slots) (hx : p.tables.exec = Jvm.exec) {x : Value} (hd : decode c.code pc = .ok (.pop, 1)) (hc : x.category = 1) (hn : n = pc + 1) (K : own_Go p e below (T.setTop (mkF m n Ls st)) G) : own_Go p e below (T.setTop (mkF m pc Ls (x :: st))) G := by
  subst hn; exact own_via (fun t k => XS.pop X.here hx rfl hd rfl hc k) K
theorem oGO (X : Stand p l e R s m args below meth c T locs cells slots) (hx : p.tables.exec = Jvm.exec) {o : Int} (hd : decode c.code pc = .ok (.goto o, 3)) (ho : 0 ≤ (pc : Int) + o) (hn : ((pc : Int) + o).toNat = n) (K : own_Go p e below (T.setTop (mkF m n Ls st)) G) : own_Go p e below (T.setTop (mkF m pc Ls st)) G :=
  own_via (fun t k => XS.goto X.here hx rfl (pc0 := pc) (pc' := n) rfl hd ho hn k) K
end Short
section Leaf
variable {p : Program} {l : Launch} {e : Env} {R : Room} {s : State} {m : MethodId} {args : Array Value} {below : List Frame} {meth : Method} {c : Code} {T : State} {locs : List Loc} {cells slots : Nat}
theorem own_leaf (X : Stand p l e R s m args below meth c T locs cells slots) (hx : p.tables.exec = Jvm.exec) (hlk : meth.locks = false) {pc : Nat} {Ls : Array Slot} {w : Value} {t : FieldType} {i : Instr} {rest : List Value} (hret : meth.sig.returnType = some t) (hn : narrow t w = w)
    (hi : (i = .ireturn ∧ (t = .int ∨ t = .boolean ∨ t = .byte ∨ t = .char ∨ t = .short) ∧ ∃ z, w = .int z) ∨ (i = .lreturn ∧ t = .long ∧ ∃ z, w = .long z) ∨ (i = .dreturn ∧ t = .double ∧ ∃ z, w = .double z) ∨ (i = .freturn ∧ t = .float ∧ ∃ z, w = .float z) ∨ (i = .areturn ∧ t.isReference = true ∧ w.isRef = true))
    (hd : decode c.code pc = .ok (i, 1)) {Q : Option Value → Heap → List Loc → Prop} {C S : Nat} (hC : cells ≤ C) (hS : slots ≤ S) (hq : Q (some w) T.heap locs) : own_Go p e below (T.setTop (mkF m pc Ls (w :: rest))) (own_End p e below s Q C S) := by
  obtain ⟨fs, hr, hrun, hended, hW, hsame⟩ := X.leave (v := some w) (fun h => by rw [hret] at h; cases h) hlk
  exact own_done ⟨_, _, retOut X hx hret hn hi hd hr, hrun, hended, _, _, rfl, hq, ⟨_, rfl⟩, hW, hsame.mono hC hS⟩
theorem own_leafV (X : Stand p l e R s m args below meth c T locs cells slots) (hx : p.tables.exec = Jvm.exec) (hlk : meth.locks = false) {pc : Nat} {Ls : Array Slot} (hret : meth.sig.returnType = none)
    (hd : decode c.code pc = .ok (.return_, 1)) {Q : Option Value → Heap → List Loc → Prop} {C S : Nat} (hC : cells ≤ C) (hS : slots ≤ S) (hq : Q none T.heap locs) : own_Go p e below (T.setTop (mkF m pc Ls [])) (own_End p e below s Q C S) := by
  obtain ⟨fs, hr, hrun, hended, hW, hsame⟩ := X.leave (v := none) (fun _ => rfl) hlk
  exact own_done ⟨_, _, X.returnOut hx hret hd hr, hrun, hended, _, _, rfl, hq, ⟨_, rfl⟩, hW, hsame.mono hC hS⟩
theorem own_getFR {Z : State} {a0 : Array Value} {h : Heap} (X : Stand p l e R s m args below meth c T locs cells slots) (hx : p.tables.exec = Jvm.exec) (hZ : Z.Warmed39 s.vm) {own R0 O n d : String} {index : Nat} (hown : s.vm.findClass own = some m.cls) (w : (Cond.fieldRef own index R0 n d).before a0 Z = true) (via : Via Z R0 O n d)
    (eT : T.heap = h) {a : Addr} {v : Value} (F : Fld Z h a O n d v) {g : JFrame} (hg : g.method = m) {rest : List Value} (hs : g.stack = .ref a :: rest) (hd : decode c.code g.pc = .ok (.getfield index, 3)) : ∃ T', Stand p l e R s m args below meth c T' locs cells slots ∧ T'.heap = h ∧ ∀ target, Steps p.tables e below (T'.setTop { g with pc := g.pc + 3, stack := v :: rest }) target → Steps p.tables e below (T.setTop g) target := by
  obtain ⟨cell, cf, k, i, f, h1, h2, h3, h4, -, -, h7⟩ := F
  have hW : Z.Warmed39 T.vm := wtrans hZ X.warmed
  have w1 := Cond.fieldRef_warmed39 hW w
  obtain ⟨c', k', i', f', hi, hr⟩ := Cond.fieldRef_spec (cur := m.cls) (show (Z.setVm T.vm).vm.findClass own = some m.cls by show T.vm.findClass own = _; rw [X.warmed.alike.findClass]; exact hown) w1
  obtain ⟨k'', hi', -⟩ := State.fieldFound?_setVm (s := Z) hW.alike (via _ h2)
  cases hi.symm.trans hi'
  refine ⟨T, X, eT, fun target hrest => ?_⟩
  subst hg
  jvm_step X.here [hx, hd, getfield.wp_ready (e := e) (s := T) (f := g) X.here.top hr h3 hs (by rw [eT]; exact h1) h4 h7]
  exact hrest
def own_EndW (p : Program) (e : Env) (below : List Frame) (s : State) (Q : Option Value → Heap → List Loc → Prop) (C S : Nat) (B : State) : Prop :=
  ∃ s₂ o, Steps p.tables e below B s₂ ∧ s₂.status = .running ∧ Ended s₂ below o ∧ ∃ v L, o = .returned v ∧ Q v s₂.heap L ∧ ReturnedEndW s o s₂ L C S
theorem own_bodyW {A A' : State} {Q : Option Value → Heap → List Loc → Prop} {C S : Nat} (q : ∀ t, Steps p.tables e below A t → Steps p.tables e below A' t) (h : own_Go p e below A (own_EndW p e below s Q C S)) :
    ∃ s₂ o, Steps p.tables e below A' s₂ ∧ s₂.status = .running ∧ Ended s₂ below o ∧ ∃ v L, o = .returned v ∧ Q v s₂.heap L ∧ ReturnedEndW s o s₂ L C S := by
  obtain ⟨B, h1, s₂, o, h2, h3⟩ := h
  exact ⟨s₂, o, q _ (h1 _ h2), h3⟩
theorem own_leafW {vm₁ : Vm} (X : Stand p l e R (s.setVm vm₁) m args below meth c T locs cells slots) (hx : p.tables.exec = Jvm.exec) (hlk : meth.locks = false) {n : Nat} (hS : s.Since vm₁ n) (hk : n ≤ T.heap.size) {pc : Nat} {Ls : Array Slot} {w : Value} {t : FieldType} {i : Instr} {rest : List Value} (hret : meth.sig.returnType = some t) (hn : narrow t w = w)
    (hi : (i = .ireturn ∧ (t = .int ∨ t = .boolean ∨ t = .byte ∨ t = .char ∨ t = .short) ∧ ∃ z, w = .int z) ∨ (i = .lreturn ∧ t = .long ∧ ∃ z, w = .long z) ∨ (i = .dreturn ∧ t = .double ∧ ∃ z, w = .double z) ∨ (i = .freturn ∧ t = .float ∧ ∃ z, w = .float z) ∨ (i = .areturn ∧ t.isReference = true ∧ w.isRef = true))
    (hd : decode c.code pc = .ok (i, 1)) {Q : Option Value → Heap → List Loc → Prop} {C S : Nat} (hC : cells ≤ C) (hS' : slots ≤ S) (hq : Q (some w) T.heap locs) : own_Go p e below (T.setTop (mkF m pc Ls (w :: rest))) (own_EndW p e below s Q C S) := by
  obtain ⟨fs, hr, hrun, hended, h1, h2, h3, hsame⟩ := X.leaveW hS hk (v := some w) (fun h => by rw [hret] at h; cases h) hlk
  exact own_done ⟨_, _, retOut X hx hret hn hi hd hr, hrun, hended, _, _, rfl, hq, h1, h2, h3, hsame.mono hC hS'⟩
theorem own_leafVW {vm₁ : Vm} (X : Stand p l e R (s.setVm vm₁) m args below meth c T locs cells slots) (hx : p.tables.exec = Jvm.exec) (hlk : meth.locks = false) {n : Nat} (hS : s.Since vm₁ n) (hk : n ≤ T.heap.size) {pc : Nat} {Ls : Array Slot} (hret : meth.sig.returnType = none)
    (hd : decode c.code pc = .ok (.return_, 1)) {Q : Option Value → Heap → List Loc → Prop} {C S : Nat} (hC : cells ≤ C) (hS' : slots ≤ S) (hq : Q none T.heap locs) : own_Go p e below (T.setTop (mkF m pc Ls [])) (own_EndW p e below s Q C S) := by
  obtain ⟨fs, hr, hrun, hended, h1, h2, h3, hsame⟩ := X.leaveW hS hk (v := none) (fun _ => rfl) hlk
  exact own_done ⟨_, _, X.returnOut hx hret hd hr, hrun, hended, _, _, rfl, hq, h1, h2, h3, hsame.mono hC hS'⟩
def own_bit (P : Prop) [Decidable P] : Int32 := if P then 1 else 0
theorem own_bit01 (P : Prop) [Decidable P] : own_bit P = 0 ∨ own_bit P = 1 := by unfold own_bit; split <;> simp
theorem own_bitT {P : Prop} [Decidable P] (h : P) : own_bit P = 1 := if_pos h
theorem own_bitF {P : Prop} [Decidable P] (h : ¬ P) : own_bit P = 0 := if_neg h
theorem own_bit0 {P : Prop} [Decidable P] : own_bit P = 0 ↔ ¬ P := by unfold own_bit; split <;> simp_all
theorem own_bit1 {P : Prop} [Decidable P] : own_bit P = 1 ↔ P := by unfold own_bit; split <;> simp_all
theorem own_bits {P P' : Prop} [Decidable P] [Decidable P'] (h : P ↔ P') : own_bit P = own_bit P' := by unfold own_bit; simp [h]
theorem own_lt (x y : Int32) : x < y ↔ x.toInt < y.toInt := Int32.lt_iff_toInt_lt
theorem own_eq (x y : Int32) : x = y ↔ x.toInt = y.toInt := Int32.toInt_inj.symm
theorem own_ltL (x y : Int64) : x < y ↔ x.toInt < y.toInt := Int64.lt_iff_toInt_lt
theorem own_eqL (x y : Int64) : x = y ↔ x.toInt = y.toInt := Int64.toInt_inj.symm
theorem own_mask (x : Int32) : 0 ≤ (x &&& (2147483647 : Int32)).toInt := by
  have h : (x &&& (2147483647 : Int32)).toBitVec.msb = false := by
    show (x.toBitVec &&& 2147483647#32).msb = false
    have e : (2147483647#32).msb = false := by decide
    rw [BitVec.msb_and, e]; simp
  have := BitVec.toInt_eq_msb_cond (x &&& (2147483647 : Int32)).toBitVec
  rw [h] at this
  show 0 ≤ (x &&& (2147483647 : Int32)).toBitVec.toInt
  rw [this]
  simp only [Bool.false_eq_true, if_false]
  exact Int.natCast_nonneg _
theorem own_modm (x m : Int32) (hm : 0 < m.toInt) : 0 ≤ ((x &&& (2147483647 : Int32)) % m).toInt ∧ ((x &&& (2147483647 : Int32)) % m).toInt < m.toInt := by
  have h := own_mask x
  rw [Int32.toInt_mod, Int.tmod_eq_emod_of_nonneg h]
  exact ⟨Int.emod_nonneg _ (by omega), Int.emod_lt_of_pos _ hm⟩
theorem own_fb {x : Int32} (h : x = 0 ∨ x = 1) : fits .boolean (.int x) = true := by rcases h with rfl | rfl <;> decide
theorem own_eqI {t : Term} {k : Int32} {args : Array Value} {s : State} (h : (Cond.eq t (Term.int k)).value args s none s [] = some true) : t.eval args s none [] s = some (.int k) := by
  simp only [Cond.value] at h
  have hn : (Term.int k).eval args s none [] s = some (.int k) := rfl
  rw [hn] at h
  cases ht : t.eval args s none [] s with
  | none => simp [ht] at h
  | some v => cases v <;> simp [ht] at h ⊢ <;> first | exact h | (exact h.elim) | simp_all
theorem own_eqR {t u : Term} {a : Addr} {args : Array Value} {s : State} (h : (Cond.eq t u).value args s none s [] = some true) (hu : u.eval args s none [] s = some (.ref a)) : t.eval args s none [] s = some (.ref a) := by
  simp only [Cond.value] at h
  rw [hu] at h
  cases ht : t.eval args s none [] s with
  | none => simp [ht] at h
  | some v => cases v <;> simp [ht] at h ⊢ <;> first | exact h | (exact h.elim) | simp_all
theorem own_eqJ {t : Term} {k : Int64} {args : Array Value} {s : State} (h : (Cond.eq t (Term.long k)).value args s none s [] = some true) : t.eval args s none [] s = some (.long k) := by
  simp only [Cond.value] at h
  have hn : (Term.long k).eval args s none [] s = some (.long k) := rfl
  rw [hn] at h
  cases ht : t.eval args s none [] s with
  | none => simp [ht] at h
  | some v => cases v <;> simp [ht] at h ⊢ <;> first | exact h | (exact h.elim) | simp_all
theorem own_b1 {x : Int32} (h : x = 0 ∨ x = 1) : narrow .boolean (.int x) = .int x := by rcases h with rfl | rfl <;> rfl
end Leaf

def own_C (c : Int32) : Prop := ¬ c < 0 ∧ ¬ (255 : Int32) < c
theorem own_C256 {c : Int32} (h : own_C c) : ∃ k : Fin 256, c = Int32.ofNat k.val := by
  obtain ⟨h1, h2⟩ := h
  rw [own_lt] at h1 h2
  have e0 : (0 : Int32).toInt = 0 := by decide
  have e1 : (255 : Int32).toInt = 255 := by decide
  rw [e0] at h1; rw [e1] at h2
  refine ⟨⟨c.toInt.toNat, by omega⟩, ?_⟩
  rw [own_eq]
  show _ = (Int32.ofNat c.toInt.toNat).toInt
  rw [Int32.toInt_ofNat_of_lt (by omega)]
  omega
theorem own_i2c {c : Int32} (h : own_C c) : c.toUInt32.toUInt16.toUInt32.toInt32 = c := by
  obtain ⟨k, rfl⟩ := own_C256 h
  exact (by decide +kernel : ∀ k : Fin 256, (Int32.ofNat k.val).toUInt32.toUInt16.toUInt32.toInt32 = Int32.ofNat k.val) k
theorem own_cg {a b : Int32} (e : a = b) (h : own_C a) : own_C b := e ▸ h
theorem own_nc {c : Int32} (h : own_C c) : nar .char c = c := own_i2c h
theorem own_b255 (x : Int32) : own_C (x &&& (255 : Int32)) := by
  have h : (x &&& 255).toBitVec.toNat < 256 := by
    simp only [Int32.toBitVec_and, BitVec.toNat_and]
    exact Nat.lt_succ_of_le Nat.and_le_right
  have e : (x &&& 255) = Int32.ofNat (x &&& 255).toBitVec.toNat := by
    apply Int32.toBitVec_inj.mp
    show _ = BitVec.ofNat 32 _
    rw [BitVec.ofNat_toNat]; simp
  rw [e]
  exact (by decide +kernel : ∀ k : Fin 256, ¬ (Int32.ofNat k.val) < 0 ∧ ¬ (255 : Int32) < (Int32.ofNat k.val)) ⟨_, h⟩
theorem own_cs1 {a : Int32} (h : own_C a) : ∀ c ∈ [a], ¬ c < 0 ∧ ¬ (255 : Int32) < c := fun c hc => by
  simp only [List.mem_cons, List.not_mem_nil, or_false] at hc; subst hc; exact h
theorem own_cs2 {a b : Int32} (h : own_C a) (h' : own_C b) : ∀ c ∈ [a, b], ¬ c < 0 ∧ ¬ (255 : Int32) < c := fun c hc => by
  simp only [List.mem_cons, List.not_mem_nil, or_false] at hc; rcases hc with rfl | rfl
  · exact h
  · exact h'
theorem own_cs3 {a b d : Int32} (h : own_C a) (h' : own_C b) (h2 : own_C d) : ∀ c ∈ [a, b, d], ¬ c < 0 ∧ ¬ (255 : Int32) < c := fun c hc => by
  simp only [List.mem_cons, List.not_mem_nil, or_false] at hc; rcases hc with rfl | rfl | rfl
  · exact h
  · exact h'
  · exact h2
theorem own_eqv {v : Option Value} {P : Prop} [Decidable P] (h : (v = some (.int 1) ∧ P) ∨ (v = some (.int 0) ∧ ¬ P)) : v = some (.int (own_bit P)) := by
  rcases h with ⟨h1, h2⟩ | ⟨h1, h2⟩
  · rw [h1, own_bitT h2]
  · rw [h1, own_bitF h2]
theorem own_up255 {cs : List Int32} (h : ∀ c ∈ cs, ¬ c < 0 ∧ ¬ (255 : Int32) < c) : ∀ c ∈ cs, ¬ c < 0 ∧ ¬ (65535 : Int32) < c := fun c hc => ⟨(h c hc).1, fun q => (h c hc).2 (by rw [Int32.lt_iff_toInt_lt] at q ⊢; have e1 : (65535 : Int32).toInt = 65535 := rfl; have e2 : (255 : Int32).toInt = 255 := rfl; omega)⟩

theorem own_b8 (x : Int32) : x.toInt8.toInt32.toInt8.toInt32 = x.toInt8.toInt32 := by simp

theorem own_ibW {Z s : State} {vm' : Vm} {Ts : List String} (I : IB Z s.vm Ts) (h : s.WarmedH vm') : IB Z vm' Ts := by
  obtain ⟨more, e, hm⟩ := I
  exact ⟨more, h.interned_eq.trans e, hm⟩
section Ib
variable {p : Program} {l : Launch} {e : Env} {R : Room} {s : State} {args : Array Value} {below : List Frame} {Z : State} {a0 : Array Value} {h : Heap}
/-- a callee that may intern and wants to know that nobody has interned since the start -/
theorem own_backI {y : MethodName} {bytes : ByteArray} {maxL : Nat} {ret : Option FieldType} {rm : Room} {len W : Nat} {as' : Array Value} {Q : Option Value → Heap → List Loc → Prop}
    (hM : MetFree l y (head1 [Cond.code y bytes maxL ret] rm) (fun a U => a = as' ∧ Z.Warmed39 U.vm ∧ U.heap = h ∧ IB Z U.vm []) (fun _ _ _ _ _ => True) (fun _ U o U' => ∃ v L, o = .returned v ∧ Q v U'.heap L ∧ ReturnedEndW U o U' L rm.cells rm.slots))
    (hI : IB Z s.vm []) (hZ : Z.Warmed39 s.vm) (wc : (Cond.code y bytes maxL ret).before a0 Z = true) (wz : (Cond.initialized y.cls).before a0 Z = true) (hf : rm.frames + 1 ≤ R.frames) (hl : W + (maxL + 11) + rm.locals ≤ R.locals) :
    BackS l R p e below s args y len W (fun A a => a = as' ∧ A.U.heap = h ∧ A.cells + rm.cells ≤ R.cells ∧ A.slots + rm.slots ≤ R.slots)
      (fun A _ v B => ∃ L, Q v B.U.heap L ∧ B.locs = A.locs ++ L ∧ B.cells = A.cells + rm.cells ∧ B.slots = A.slots + rm.slots) := by
  refine BackS.of_freeW (bytes := bytes) (maxL := maxL) (ret := ret) (E := fun _ _ o t L k n => k = rm.cells ∧ n = rm.slots ∧ ∃ v, o = .returned v ∧ Q v t.heap L) hM hf hl ?_ ?_ ?_ ?_ ?_
  · intro m meth c A a Y hp
    have hU : Z.Warmed39 A.U.vm := wtrans hZ Y.warmed
    exact ⟨by show (Cond.and _ .tt).before a A.U = true; rw [Cond.before_and, mv hU wc]; rfl, mv hU wc, mv hU wz, hp.2.2.1, hp.2.2.2⟩
  · intro m meth c A a g mk Y hp
    exact ⟨hp.1, wtrans hZ Y.warmed, hp.2.1, own_ibW hI Y.warmed⟩
  · intros; trivial
  · rintro _ _ _ _ ⟨v, L, h1, h2, h3⟩
    exact ⟨L, _, _, h3, rfl, rfl, v, h1, h2⟩
  · rintro m meth c A a g mk v t L k n Y hp _ _ ⟨e1, e2, v', e3, e4⟩
    cases e3; subst e1 e2; exact ⟨L, e4, rfl, rfl, rfl⟩
end Ib

def own_mx (x y : Int32) : Int32 := if x < y then y else x

def own_mi (x y : Int32) : Int32 := if y < x then y else x

def own_E (Z : State) (h : Heap) (w : Addr) (n : String) (k : Int32) : Prop := Sta Z h "com/example/wardstone/wardstone/request/Requester$Kind" n "Lcom/example/wardstone/wardstone/request/Requester$Kind;" (.ref w) ∧ Fld Z h w "java/lang/Enum" "ordinal" "I" (.int k)
def own_All (Z : State) (h : Heap) (w0 w1 w2 w3 w4 w5 : Addr) : Prop := own_E Z h w0 "ANONYMOUS" 0 ∧ own_E Z h w1 "ACCOUNT" 1 ∧ own_E Z h w2 "USER" 2 ∧ own_E Z h w3 "AGENCY" 3 ∧ own_E Z h w4 "FEDERATED_USER" 4 ∧ own_E Z h w5 "SERVICE" 5
theorem own_ne {Z : State} {h : Heap} {a b : Addr} {n m : String} {i j : Int32} (F : own_E Z h a n i) (G : own_E Z h b m j) (q : i ≠ j) : ¬ a = b := Fld.ne F.2 G.2 (fun e => q (by injection e))

def own_s3 (l c d : Int32) : List Int32 := if 0 < l then (if l = 1 then [c] else [c, d]) else []
theorem own_s3p {b c d : Int32} (h : own_C c) (h' : own_C d) : ∀ z ∈ own_s3 b c d, ¬ z < 0 ∧ ¬ (255 : Int32) < z := by
  unfold own_s3; split
  · split
    · exact own_cs1 h
    · exact own_cs2 h h'
  · exact fun _ q => nomatch q
theorem own_s3l (b c d : Int32) : True ∧ (own_s3 b c d).length ≤ 4000 := by
  unfold own_s3; split <;> (try split) <;> simp
theorem own_s3l' {b : Int32} (hb : 0 < b) (c d : Int32) : 0 < (own_s3 b c d).length ∧ (own_s3 b c d).length ≤ 4000 := by
  unfold own_s3; rw [if_pos hb]; split <;> simp
theorem own_same {L L' a a' b b' : Int32} (hL : L = 0 ∨ L = 1 ∨ L = 2) (hL' : L' = 1 ∨ L' = 2) : own_s3 L a b = own_s3 L' a' b' ↔ (L = L' ∧ a = a' ∧ (L < 2 ∨ b = b')) := by
  have e1 : (0 : Int32) < 1 := by decide
  have e2 : (0 : Int32) < 2 := by decide
  have e3 : (1 : Int32) < 2 := by decide
  rcases hL with rfl | rfl | rfl <;> rcases hL' with rfl | rfl <;> simp [own_s3, e1, e2, e3]
theorem own_12 (x : Int32) : (1 : Int32) + (x &&& (1 : Int32)) = 1 ∨ (1 : Int32) + (x &&& (1 : Int32)) = 2 := by
  rcases and_one x with h | h
  · left; rw [h]; decide
  · right; rw [h]; decide
theorem own_03 (x : Int32) : own_mi (x &&& (3 : Int32)) 2 = 0 ∨ own_mi (x &&& (3 : Int32)) 2 = 1 ∨ own_mi (x &&& (3 : Int32)) 2 = 2 := by
  have h : (x &&& 3).toBitVec.toNat < 4 := by
    simp only [Int32.toBitVec_and, BitVec.toNat_and]
    exact Nat.lt_succ_of_le Nat.and_le_right
  have e : (x &&& 3) = Int32.ofNat (x &&& 3).toBitVec.toNat := by
    apply Int32.toBitVec_inj.mp
    show _ = BitVec.ofNat 32 _
    rw [BitVec.ofNat_toNat]; simp
  rw [e]
  exact (by decide +kernel : ∀ k : Fin 4, own_mi (Int32.ofNat k.val) 2 = 0 ∨ own_mi (Int32.ofNat k.val) 2 = 1 ∨ own_mi (Int32.ofNat k.val) 2 = 2) ⟨_, h⟩
theorem own_mx12 {z : Int32} (h : z = 0 ∨ z = 1 ∨ z = 2) : own_mx z 1 = 1 ∨ own_mx z 1 = 2 := by rcases h with rfl | rfl | rfl <;> decide
theorem own_p12 {z : Int32} (h : z = 1 ∨ z = 2) : (0 : Int32) < z := by rcases h with rfl | rfl <;> decide
abbrev sAA : String := "com/example/wardstone/wardstone/request/Requester"
abbrev sAB : String := "java/lang/String"
abbrev sAC : String := "com/example/wardstone/wardstone/request/Requester$Kind"
abbrev sAD : String := ")) (t' := (.object "
abbrev sAE : String := "(Lcom/example/wardstone/wardstone/request/Requester$Kind;Ljava/lang/String;Ljava/lang/String;Ljava/lang/String;Ljava/lang/String;Ljava/lang/String;Ljava/util/Set;Ljava/lang/String;)V"
abbrev sAF : String := "com/example/wardstone/wardstone/policy/PrincipalPattern$Account"
abbrev sAG : String := "Lcom/example/wardstone/wardstone/request/Requester$Kind;"
abbrev sAH : String := "Ljava/lang/String;"
abbrev sAI : String := ")) (by decide +kernel) (by decide +kernel)))).other W21 (Or.inr (slot_ne (Or.inr (oW hw 90 rfl)) (Or.inr (oW hw 80 rfl)) (by decide +kernel) (t := (.object "
abbrev sAJ : String := ")) (by decide +kernel) (by decide +kernel)))).other W22 (Or.inr (slot_ne (Or.inr (oW hw 90 rfl)) (Or.inr (oW hw 82 rfl)) (by decide +kernel) (t := (.object "
abbrev sAK : String := ")) (by decide +kernel) (by decide +kernel)))).other W23 (Or.inr (slot_ne (Or.inr (oW hw 90 rfl)) (Or.inr (oW hw 84 rfl)) (by decide +kernel) (t := (.object "
abbrev sAL : String := ")) (by decide +kernel) (by decide +kernel)))).other W24 (Or.inr (slot_ne (Or.inr (oW hw 90 rfl)) (Or.inr (oW hw 86 rfl)) (by decide +kernel) (t := (.object "
abbrev sAM : String := ")) (by decide +kernel) (by decide +kernel)))).other W25 (Or.inr (slot_ne (Or.inr (oW hw 90 rfl)) (Or.inr (oW hw 88 rfl)) (by decide +kernel) (t := (.object "
abbrev sAN : String := "(Ljava/lang/String;Ljava/lang/String;)V"
abbrev sAO : String := "(Lcom/example/wardstone/wardstone/request/Requester;)Z"
abbrev sAP : String := "(Ljava/lang/String;Ljava/lang/String;Ljava/lang/String;)Lcom/example/wardstone/wardstone/request/Requester;"
abbrev sAQ : String := "()Lcom/example/wardstone/wardstone/request/Requester$Kind;"
abbrev sAR : String := "com/example/wardstone/wardstone/policy/AccountMatchesPinLaw"
abbrev sAS : String := " (.int (0 : Int32))) (SV_ac : Fld Z h0 ac "
abbrev sAT : String := "(Ljava/lang/String;)V"
abbrev sAU : String := "identityProvider"
abbrev sAV : String := "java/lang/Record"
theorem own_d1_0 : decode jdk_29_method_69_code 0 = .ok (.iload_n 0, 1) := by decide +kernel
theorem own_d1_1 : decode jdk_29_method_69_code 1 = .ok (.iload_n 1, 1) := by decide +kernel
theorem own_d1_2 : decode jdk_29_method_69_code 2 = .ok (.if_icmp .gt 7, 3) := by decide +kernel
theorem own_d1_5 : decode jdk_29_method_69_code 5 = .ok (.iload_n 0, 1) := by decide +kernel
theorem own_d1_6 : decode jdk_29_method_69_code 6 = .ok (.goto 4, 3) := by decide +kernel
theorem own_d1_9 : decode jdk_29_method_69_code 9 = .ok (.iload_n 1, 1) := by decide +kernel
theorem own_d1_10 : decode jdk_29_method_69_code 10 = .ok (.ireturn, 1) := by decide +kernel
theorem own_efmi (m : MethodId) (x0 : Int32) (x1 : Int32) : entryFrame m #[(.int x0), (.int x1)] 2 = mkF m 0 #[iv x0, iv x1] [] := by first | (simp [entryFrame, mkF, argsToLocals, Value.category]; done) | rfl
def Qmi (Z : State) (xmi : Int32) (ymi : Int32) (h0 : Heap) (n0 : Nat) (v : Option Value) (h : Heap) (L : List Loc) : Prop := v = some (.int (own_mi xmi ymi)) ∧ Fr n0 L ∧ h = h0
set_option maxRecDepth 65536 in
set_option maxHeartbeats 40000000 in
theorem rmmi (l : Launch) (Z : State) (a0 : Array Value) (hw : ∀ d ∈ tables_1, d.before a0 Z = true) (ws : List Jvm.Cond) (xmi : Int32) (ymi : Int32) (h0 : Heap) (n0 : Nat) (Z0 : n0 ≤ h0.size) :
    MetFree l (⟨"java/lang/Math", "min", "(II)I"⟩ : MethodName) (head1 (Jvm.Cond.code (⟨"java/lang/Math", "min", "(II)I"⟩ : MethodName) jdk_29_method_69_code 2 (some .int) :: ws) ({ frames := 0, cells := 0, slots := 0, locals := 0 } : Room)) (fun a U => a = #[(.int xmi), (.int ymi)] ∧ Z.Warmed39 U.vm ∧ U.heap = h0) (fun _ _ _ _ _ => True) (fun _ U o U' => ∃ v L, o = .returned v ∧ Qmi Z xmi ymi h0 n0 v U'.heap L ∧ FrameEnd U o U' L ({ frames := 0, cells := 0, slots := 0, locals := 0 } : Room).cells ({ frames := 0, cells := 0, slots := 0, locals := 0 } : Room).slots) := by
  refine MetFree.of_bodySF (Jvm.Free.JP.mathPlain rfl (by decide +kernel)) hisR ?_
  intro p e s m args below meth c s₁ Bd hml0 hP hK
  obtain ⟨rfl, hZ, hh⟩ := hP
  have hx := Bd.exec
  have hby := Bd.bytes
  have hlk : meth.locks = false := Bd.notSynchronized
  have hml : c.maxLocals = 2 := hml0
  have hown : s.vm.findClass "java/lang/Math" = some m.cls := findClass_of_methodNamed Bd.named
  have hnm := (name_of_methodNamed Bd.named Bd.method).1
  have X0 : Stand p l e ({ frames := 0, cells := 0, slots := 0, locals := 0 } : Room) s m #[(.int xmi), (.int ymi)] below meth c s₁ [] 0 0 := Stand.of_body Bd
  have e0 : s₁.heap = h0 := by rw [← hh, Bd.state]; rfl
  have N0 := Fr.nil n0
  refine own_body (A := s₁.setTop (mkF m 0 #[iv xmi, iv ymi] [])) (Q := Qmi Z xmi ymi h0 n0) (fun t k => castTop (own_efmi m xmi ymi) k) ?_
  refine oILN (n := 1) X0 hx (hb hby own_d1_0) rfl rfl ?_
  refine oILN (n := 2) X0 hx (hb hby own_d1_1) rfl rfl ?_
  refine own_bind (G := fun B => ∃ (T' : State) (L' : List Loc) (v2s0 : Int32), Fr n0 L' ∧ (((ymi < xmi) ∧ v2s0 = ymi) ∨ ((¬ (ymi < xmi)) ∧ v2s0 = xmi)) ∧ B = T'.setTop (mkF m 10 #[iv xmi, iv ymi] [(.int v2s0)]) ∧ Stand p l e ({ frames := 0, cells := 0, slots := 0, locals := 0 } : Room) s m #[(.int xmi), (.int ymi)] below meth c T' L' 0 0 ∧ T'.heap = h0) ?_ ?_
  · by_cases hc2 : ymi < xmi
    · refine ov (B := s₁.setTop (mkF m 9 #[iv xmi, iv ymi] [])) (fun t k => XS.icmpYes X0.here hx rfl (pc0 := 2) (pc' := 9) rfl (hb hby own_d1_2) rfl (tlt hc2).2.2.1 (by decide) (by decide) k) ?_
      refine oILN (n := 10) X0 hx (hb hby own_d1_9) rfl rfl ?_
      exact own_done ⟨_, _, _, N0, (Or.inl ⟨hc2, rfl⟩), rfl, X0, e0⟩
    · refine ov (B := s₁.setTop (mkF m 5 #[iv xmi, iv ymi] [])) (fun t k => XS.icmpNo X0.here hx rfl (hb hby own_d1_2) rfl (flt hc2).2.2.1 k) ?_
      refine oILN (n := 6) X0 hx (hb hby own_d1_5) rfl rfl ?_
      refine oGO (n := 10) X0 hx (hb hby own_d1_6) (by decide) (by decide) ?_
      exact own_done ⟨_, _, _, N0, (Or.inr ⟨hc2, rfl⟩), rfl, X0, e0⟩
  · rintro B ⟨T1, L1, v2s0, N1, hv2, rfl, X1, e1⟩
    refine own_leaf X1 hx hlk (t := .int) Bd.returns rfl (Or.inl ⟨rfl, by simp, _, rfl⟩) (hb hby own_d1_10) (by decide) (by decide) ?_
    show Qmi Z xmi ymi h0 n0 _ T1.heap _
    rw [e1]
    refine ⟨?_, N1, rfl⟩
    rcases hv2 with ⟨h, rfl⟩ | ⟨h, rfl⟩ <;> simp [own_mi, h]
theorem own_d24_0 : decode jdk_29_method_65_code 0 = .ok (.iload_n 0, 1) := by decide +kernel
theorem own_d24_1 : decode jdk_29_method_65_code 1 = .ok (.iload_n 1, 1) := by decide +kernel
theorem own_d24_2 : decode jdk_29_method_65_code 2 = .ok (.if_icmp .lt 7, 3) := by decide +kernel
theorem own_d24_5 : decode jdk_29_method_65_code 5 = .ok (.iload_n 0, 1) := by decide +kernel
theorem own_d24_6 : decode jdk_29_method_65_code 6 = .ok (.goto 4, 3) := by decide +kernel
theorem own_d24_9 : decode jdk_29_method_65_code 9 = .ok (.iload_n 1, 1) := by decide +kernel
theorem own_d24_10 : decode jdk_29_method_65_code 10 = .ok (.ireturn, 1) := by decide +kernel
theorem own_efmx (m : MethodId) (x0 : Int32) (x1 : Int32) : entryFrame m #[(.int x0), (.int x1)] 2 = mkF m 0 #[iv x0, iv x1] [] := by first | (simp [entryFrame, mkF, argsToLocals, Value.category]; done) | rfl
def Qmx (Z : State) (xmx : Int32) (ymx : Int32) (h0 : Heap) (n0 : Nat) (v : Option Value) (h : Heap) (L : List Loc) : Prop := v = some (.int (own_mx xmx ymx)) ∧ Fr n0 L ∧ h = h0
set_option maxRecDepth 65536 in
set_option maxHeartbeats 40000000 in
theorem rmmx (l : Launch) (Z : State) (a0 : Array Value) (hw : ∀ d ∈ tables_1, d.before a0 Z = true) (ws : List Jvm.Cond) (xmx : Int32) (ymx : Int32) (h0 : Heap) (n0 : Nat) (Z0 : n0 ≤ h0.size) :
    MetFree l (⟨"java/lang/Math", "max", "(II)I"⟩ : MethodName) (head1 (Jvm.Cond.code (⟨"java/lang/Math", "max", "(II)I"⟩ : MethodName) jdk_29_method_65_code 2 (some .int) :: ws) ({ frames := 0, cells := 0, slots := 0, locals := 0 } : Room)) (fun a U => a = #[(.int xmx), (.int ymx)] ∧ Z.Warmed39 U.vm ∧ U.heap = h0) (fun _ _ _ _ _ => True) (fun _ U o U' => ∃ v L, o = .returned v ∧ Qmx Z xmx ymx h0 n0 v U'.heap L ∧ FrameEnd U o U' L ({ frames := 0, cells := 0, slots := 0, locals := 0 } : Room).cells ({ frames := 0, cells := 0, slots := 0, locals := 0 } : Room).slots) := by
  refine MetFree.of_bodySF (Jvm.Free.JP.mathPlain rfl (by decide +kernel)) hisR ?_
  intro p e s m args below meth c s₁ Bd hml0 hP hK
  obtain ⟨rfl, hZ, hh⟩ := hP
  have hx := Bd.exec
  have hby := Bd.bytes
  have hlk : meth.locks = false := Bd.notSynchronized
  have hml : c.maxLocals = 2 := hml0
  have hown : s.vm.findClass "java/lang/Math" = some m.cls := findClass_of_methodNamed Bd.named
  have hnm := (name_of_methodNamed Bd.named Bd.method).1
  have X0 : Stand p l e ({ frames := 0, cells := 0, slots := 0, locals := 0 } : Room) s m #[(.int xmx), (.int ymx)] below meth c s₁ [] 0 0 := Stand.of_body Bd
  have e0 : s₁.heap = h0 := by rw [← hh, Bd.state]; rfl
  have N0 := Fr.nil n0
  refine own_body (A := s₁.setTop (mkF m 0 #[iv xmx, iv ymx] [])) (Q := Qmx Z xmx ymx h0 n0) (fun t k => castTop (own_efmx m xmx ymx) k) ?_
  refine oILN (n := 1) X0 hx (hb hby own_d24_0) rfl rfl ?_
  refine oILN (n := 2) X0 hx (hb hby own_d24_1) rfl rfl ?_
  refine own_bind (G := fun B => ∃ (T' : State) (L' : List Loc) (v2s0 : Int32), Fr n0 L' ∧ (((xmx < ymx) ∧ v2s0 = ymx) ∨ ((¬ (xmx < ymx)) ∧ v2s0 = xmx)) ∧ B = T'.setTop (mkF m 10 #[iv xmx, iv ymx] [(.int v2s0)]) ∧ Stand p l e ({ frames := 0, cells := 0, slots := 0, locals := 0 } : Room) s m #[(.int xmx), (.int ymx)] below meth c T' L' 0 0 ∧ T'.heap = h0) ?_ ?_
  · by_cases hc2 : xmx < ymx
    · refine ov (B := s₁.setTop (mkF m 9 #[iv xmx, iv ymx] [])) (fun t k => XS.icmpYes X0.here hx rfl (pc0 := 2) (pc' := 9) rfl (hb hby own_d24_2) rfl (tlt hc2).1 (by decide) (by decide) k) ?_
      refine oILN (n := 10) X0 hx (hb hby own_d24_9) rfl rfl ?_
      exact own_done ⟨_, _, _, N0, (Or.inl ⟨hc2, rfl⟩), rfl, X0, e0⟩
    · refine ov (B := s₁.setTop (mkF m 5 #[iv xmx, iv ymx] [])) (fun t k => XS.icmpNo X0.here hx rfl (hb hby own_d24_2) rfl (flt hc2).1 k) ?_
      refine oILN (n := 6) X0 hx (hb hby own_d24_5) rfl rfl ?_
      refine oGO (n := 10) X0 hx (hb hby own_d24_6) (by decide) (by decide) ?_
      exact own_done ⟨_, _, _, N0, (Or.inr ⟨hc2, rfl⟩), rfl, X0, e0⟩
  · rintro B ⟨T1, L1, v2s0, N1, hv2, rfl, X1, e1⟩
    refine own_leaf X1 hx hlk (t := .int) Bd.returns rfl (Or.inl ⟨rfl, by simp, _, rfl⟩) (hb hby own_d24_10) (by decide) (by decide) ?_
    show Qmx Z xmx ymx h0 n0 _ T1.heap _
    rw [e1]
    refine ⟨?_, N1, rfl⟩
    rcases hv2 with ⟨h, rfl⟩ | ⟨h, rfl⟩ <;> simp [own_mx, h]
theorem own_pn0 : plainName "java/lang/StringLatin1" = true := by first | (simp [plainName, overriddenIn]; done) | decide +kernel
theorem own_d4_0 : decode jdk_43_method_3_code 0 = .ok (.iload_n 0, 1) := by decide +kernel
theorem own_d4_1 : decode jdk_43_method_3_code 1 = .ok (.sipush 255, 3) := by decide +kernel
theorem own_d4_4 : decode jdk_43_method_3_code 4 = .ok (.if_icmp .gt 7, 3) := by decide +kernel
theorem own_d4_7 : decode jdk_43_method_3_code 7 = .ok (.iconst 1, 1) := by decide +kernel
theorem own_d4_8 : decode jdk_43_method_3_code 8 = .ok (.goto 4, 3) := by decide +kernel
theorem own_d4_12 : decode jdk_43_method_3_code 12 = .ok (.ireturn, 1) := by decide +kernel
theorem own_efG (m : MethodId) (x0 : Int32) : entryFrame m #[(.int x0)] 1 = mkF m 0 #[iv x0] [] := by first | (simp [entryFrame, mkF, argsToLocals, Value.category]; done) | rfl
def QG (Z : State) (c3 : Int32) (h0 : Heap) (n0 : Nat) (v : Option Value) (h : Heap) (L : List Loc) : Prop := v = some (.int (1 : Int32)) ∧ Fr n0 L ∧ h = h0
set_option maxRecDepth 65536 in
set_option maxHeartbeats 40000000 in
theorem rmG (l : Launch) (Z : State) (a0 : Array Value) (hw : ∀ d ∈ tables_1, d.before a0 Z = true) (ws : List Jvm.Cond) (c3 : Int32) (h0 : Heap) (n0 : Nat) (Z0 : n0 ≤ h0.size) (hc3 : own_C c3) :
    MetFree l (⟨"java/lang/StringLatin1", "canEncode", "(C)Z"⟩ : MethodName) (head1 (Jvm.Cond.code (⟨"java/lang/StringLatin1", "canEncode", "(C)Z"⟩ : MethodName) jdk_43_method_3_code 1 (some .boolean) :: ws) ({ frames := 0, cells := 0, slots := 0, locals := 0 } : Room)) (fun a U => a = #[(.int c3)] ∧ Z.Warmed39 U.vm ∧ U.heap = h0) (fun _ _ _ _ _ => True) (fun _ U o U' => ∃ v L, o = .returned v ∧ QG Z c3 h0 n0 v U'.heap L ∧ FrameEnd U o U' L ({ frames := 0, cells := 0, slots := 0, locals := 0 } : Room).cells ({ frames := 0, cells := 0, slots := 0, locals := 0 } : Room).slots) := by
  refine MetFree.of_bodySF (plainFor_of_name own_pn0) hisR ?_
  intro p e s m args below meth c s₁ Bd hml0 hP hK
  obtain ⟨rfl, hZ, hh⟩ := hP
  have hx := Bd.exec
  have hby := Bd.bytes
  have hlk : meth.locks = false := Bd.notSynchronized
  have hml : c.maxLocals = 1 := hml0
  have hown : s.vm.findClass "java/lang/StringLatin1" = some m.cls := findClass_of_methodNamed Bd.named
  have hnm := (name_of_methodNamed Bd.named Bd.method).1
  have X0 : Stand p l e ({ frames := 0, cells := 0, slots := 0, locals := 0 } : Room) s m #[(.int c3)] below meth c s₁ [] 0 0 := Stand.of_body Bd
  have e0 : s₁.heap = h0 := by rw [← hh, Bd.state]; rfl
  have N0 := Fr.nil n0
  refine own_body (A := s₁.setTop (mkF m 0 #[iv c3] [])) (Q := QG Z c3 h0 n0) (fun t k => castTop (own_efG m c3) k) ?_
  refine oILN (n := 1) X0 hx (hb hby own_d4_0) rfl rfl ?_
  refine oSP (n := 4) X0 hx (255 : Int32) (hb hby own_d4_1) (by decide) rfl ?_
  have hc4 : ¬ ((255 : Int32) < c3) := hc3.2
  refine ov (B := s₁.setTop (mkF m 7 #[iv c3] [])) (fun t k => XS.icmpNo X0.here hx rfl (hb hby own_d4_4) rfl (flt hc4).2.2.1 k) ?_
  refine oIC (n := 8) X0 hx (1 : Int32) (hb hby own_d4_7) (by decide) rfl ?_
  refine oGO (n := 12) X0 hx (hb hby own_d4_8) (by decide) (by decide) ?_
  refine own_leaf X0 hx hlk (t := .boolean) Bd.returns (by decide) (Or.inl ⟨rfl, by simp, _, rfl⟩) (hb hby own_d4_12) (by decide) (by decide) ?_
  show QG Z c3 h0 n0 _ s₁.heap _
  rw [e0]
  refine ⟨?_, N0, rfl⟩
  rfl
theorem own_d5_0 : decode jdk_43_method_46_code 0 = .ok (.iconst 1, 1) := by decide +kernel
theorem own_d5_1 : decode jdk_43_method_46_code 1 = .ok (.newarray .byte, 2) := by decide +kernel
theorem own_d5_3 : decode jdk_43_method_46_code 3 = .ok (.dup, 1) := by decide +kernel
theorem own_d5_4 : decode jdk_43_method_46_code 4 = .ok (.iconst 0, 1) := by decide +kernel
theorem own_d5_5 : decode jdk_43_method_46_code 5 = .ok (.iload_n 0, 1) := by decide +kernel
theorem own_d5_6 : decode jdk_43_method_46_code 6 = .ok (.i2b, 1) := by decide +kernel
theorem own_d5_7 : decode jdk_43_method_46_code 7 = .ok (.bastore, 1) := by decide +kernel
theorem own_d5_8 : decode jdk_43_method_46_code 8 = .ok (.areturn, 1) := by decide +kernel
theorem own_efH (m : MethodId) (x0 : Int32) : entryFrame m #[(.int x0)] 1 = mkF m 0 #[iv x0] [] := by first | (simp [entryFrame, mkF, argsToLocals, Value.category]; done) | rfl
def QH (Z : State) (c4 : Int32) (h0 : Heap) (n0 : Nat) (v : Option Value) (h : Heap) (L : List Loc) : Prop := ∃ (r : Addr) (kr : ClassId), v = some (.ref r) ∧ Fr n0 L ∧ Keep h0 h [] ∧ (h0.size ≤ r) ∧ (Arv Z h r kr .byte (1 : Int32) [(.int c4.toInt8.toInt32)] (.int (0 : Int32)))
set_option maxRecDepth 65536 in
set_option maxHeartbeats 40000000 in
theorem rmH (l : Launch) (Z : State) (a0 : Array Value) (hw : ∀ d ∈ tables_1, d.before a0 Z = true) (ws : List Jvm.Cond) (c4 : Int32) (h0 : Heap) (n0 : Nat) (Z0 : n0 ≤ h0.size) :
    MetFree l (⟨"java/lang/StringLatin1", "toBytes", "(C)[B"⟩ : MethodName) (head1 (Jvm.Cond.code (⟨"java/lang/StringLatin1", "toBytes", "(C)[B"⟩ : MethodName) jdk_43_method_46_code 1 (some (.array .byte)) :: ws) ({ frames := 0, cells := 1, slots := 1, locals := 0 } : Room)) (fun a U => a = #[(.int c4)] ∧ Z.Warmed39 U.vm ∧ U.heap = h0) (fun _ _ _ _ _ => True) (fun _ U o U' => ∃ v L, o = .returned v ∧ QH Z c4 h0 n0 v U'.heap L ∧ FrameEnd U o U' L ({ frames := 0, cells := 1, slots := 1, locals := 0 } : Room).cells ({ frames := 0, cells := 1, slots := 1, locals := 0 } : Room).slots) := by
  refine MetFree.of_bodySF (plainFor_of_name own_pn0) hisR ?_
  intro p e s m args below meth c s₁ Bd hml0 hP hK
  obtain ⟨rfl, hZ, hh⟩ := hP
  have hx := Bd.exec
  have hby := Bd.bytes
  have hlk : meth.locks = false := Bd.notSynchronized
  have hml : c.maxLocals = 1 := hml0
  have hown : s.vm.findClass "java/lang/StringLatin1" = some m.cls := findClass_of_methodNamed Bd.named
  have hnm := (name_of_methodNamed Bd.named Bd.method).1
  have X0 : Stand p l e ({ frames := 0, cells := 1, slots := 1, locals := 0 } : Room) s m #[(.int c4)] below meth c s₁ [] 0 0 := Stand.of_body Bd
  have e0 : s₁.heap = h0 := by rw [← hh, Bd.state]; rfl
  have N0 := Fr.nil n0
  refine own_body (A := s₁.setTop (mkF m 0 #[iv c4] [])) (Q := QH Z c4 h0 n0) (fun t k => castTop (own_efH m c4) k) ?_
  refine oIC (n := 1) X0 hx (1 : Int32) (hb hby own_d5_0) (by decide) rfl ?_
  obtain ⟨T1, h1, kc1, X1, e1, E1, A1, st1⟩ := newP X0 hx hZ (oW hw 11 rfl) e0 (g := (mkF m 1 #[iv c4] [(.int (1 : Int32))])) rfl (hb hby own_d5_1) rfl (by decide) (cap := 1) (by decide) (by decide) (by decide) (by decide)
  obtain ⟨b1, g1⟩ : ∃ z, z = h0.size := ⟨_, rfl⟩
  rw [← g1] at A1 st1
  have g_b1 : n0 ≤ b1 := Nat.le_trans Z0 (Nat.le_of_eq g1.symm)
  have V1 : Arv Z h1 b1 kc1 .byte (1 : Int32) [(.int (0 : Int32))] (.int (0 : Int32)) := (Arv.new A1 (by decide)).pad (pad_rep [] (.int (0 : Int32)) 1)
  refine ov (B := T1.setTop (mkF m 3 #[iv c4] [(.ref b1)])) (fun t k => st1 t k) ?_
  refine oDU (n := 4) X1 hx (hb hby own_d5_3) rfl rfl ?_
  refine oIC (n := 5) X1 hx (0 : Int32) (hb hby own_d5_4) (by decide) rfl ?_
  refine oILN (n := 6) X1 hx (hb hby own_d5_5) rfl rfl ?_
  refine ov (B := T1.setTop (mkF m 7 #[iv c4] [(.int (c4.toInt8.toInt32)), (.int (0 : Int32)), (.ref b1), (.ref b1)])) (fun t k => XS.i2b X1.here hx rfl (hb hby own_d5_6) rfl k) ?_
  obtain ⟨cl2, Ar2, q2, S2, M2, H2, G2⟩ := id V1
  obtain ⟨T3, h3, X3, e3, W3, st3⟩ := stB X1 hx hZ e1 Ar2 (j := (0 : Int32)) (inb_of S2 ⟨by decide, by decide⟩) (g := (mkF m 7 #[iv c4] [(.int (c4.toInt8.toInt32)), (.int (0 : Int32)), (.ref b1), (.ref b1)])) rfl rfl (hb hby own_d5_7)
  have V3 : Arv Z h3 b1 kc1 .byte (1 : Int32) [(.int (c4.toInt8.toInt32).toInt8.toInt32)] (.int (0 : Int32)) := Arv.set Ar2 q2 S2 M2 H2 G2 (fits_nar_byte _) W3 0 rfl (Nat.le_of_ble_eq_true rfl)
  have N3 := Fr.snoc X3 N0 g_b1
  refine ov (B := T3.setTop (mkF m 8 #[iv c4] [(.ref b1)])) (fun t k => st3 t k) ?_
  refine own_leaf X3 hx hlk (t := (.array .byte)) Bd.returns rfl (Or.inr (Or.inr (Or.inr (Or.inr ⟨rfl, rfl, rfl⟩)))) (hb hby own_d5_8) (by decide) (by decide) ?_
  show QH Z c4 h0 n0 _ T3.heap _
  rw [e3]
  refine ⟨b1, kc1, ?_, N3, (((Keep.refl h0 []).ext E1).wr W3 (Or.inr (Nat.le_of_eq g1.symm))), ?_, (by have q := V3; rw [own_b8] at q; exact q)⟩
  · rfl
  · exact (Nat.le_of_eq g1.symm)
theorem own_pn1 : plainName "java/lang/String" = true := by first | (simp [plainName, overriddenIn]; done) | decide +kernel
theorem own_d6_0 : decode jdk_42_method_151_code 0 = .ok (.aload_n 0, 1) := by decide +kernel
theorem own_d6_1 : decode jdk_42_method_151_code 1 = .ok (.invokespecial 1, 3) := by decide +kernel
theorem own_d6_4 : decode jdk_42_method_151_code 4 = .ok (.aload_n 0, 1) := by decide +kernel
theorem own_d6_5 : decode jdk_42_method_151_code 5 = .ok (.aload_n 1, 1) := by decide +kernel
theorem own_d6_6 : decode jdk_42_method_151_code 6 = .ok (.putfield 9, 3) := by decide +kernel
theorem own_d6_9 : decode jdk_42_method_151_code 9 = .ok (.aload_n 0, 1) := by decide +kernel
theorem own_d6_10 : decode jdk_42_method_151_code 10 = .ok (.iload_n 2, 1) := by decide +kernel
theorem own_d6_11 : decode jdk_42_method_151_code 11 = .ok (.putfield 15, 3) := by decide +kernel
theorem own_d6_14 : decode jdk_42_method_151_code 14 = .ok (.return_, 1) := by decide +kernel
theorem own_efI (m : MethodId) (x0 : Addr) (x1 : Addr) (x2 : Int32) : entryFrame m #[(.ref x0), (.ref x1), (.int x2)] 3 = mkF m 0 #[rv x0, rv x1, iv x2] [] := by first | (simp [entryFrame, mkF, argsToLocals, Value.category]; done) | rfl
def QI (Z : State) (x5 : Addr) (b5 : Addr) (k5 : Int32) (u0 : Value) (u1 : Value) (h0 : Heap) (n0 : Nat) (v : Option Value) (h : Heap) (L : List Loc) : Prop := v = none ∧ Fr n0 L ∧ Keep h0 h [x5] ∧ (Fld Z h x5 sAB "coder" "B" (.int (0 : Int32))) ∧ (Fld Z h x5 sAB "value" "[B" (.ref b5))
set_option maxRecDepth 65536 in
set_option maxHeartbeats 40000000 in
theorem rmI (l : Launch) (Z : State) (a0 : Array Value) (hw : ∀ d ∈ tables_1, d.before a0 Z = true) (ws : List Jvm.Cond) (x5 : Addr) (b5 : Addr) (k5 : Int32) (u0 : Value) (u1 : Value) (h0 : Heap) (n0 : Nat) (Z0 : n0 ≤ h0.size) (E5 : Exa Z h0 x5 sAB) (F50 : Fld Z h0 x5 sAB "value" "[B" u0) (F51 : Fld Z h0 x5 sAB "coder" "B" u1) (g_x5 : n0 ≤ x5) (hk5 : k5 = (0 : Int32)) :
    MetFree l (⟨sAB, "<init>", "([BB)V"⟩ : MethodName) (head1 (Jvm.Cond.code (⟨sAB, "<init>", "([BB)V"⟩ : MethodName) jdk_42_method_151_code 3 none :: ws) ({ frames := 1, cells := 0, slots := 0, locals := 12 } : Room)) (fun a U => a = #[(.ref x5), (.ref b5), (.int k5)] ∧ Z.Warmed39 U.vm ∧ U.heap = h0) (fun _ _ _ _ _ => True) (fun _ U o U' => ∃ v L, o = .returned v ∧ QI Z x5 b5 k5 u0 u1 h0 n0 v U'.heap L ∧ FrameEnd U o U' L ({ frames := 1, cells := 0, slots := 0, locals := 12 } : Room).cells ({ frames := 1, cells := 0, slots := 0, locals := 12 } : Room).slots) := by
  refine MetFree.of_bodySF (plainFor_of_name own_pn1) hisR ?_
  intro p e s m args below meth c s₁ Bd hml0 hP hK
  obtain ⟨rfl, hZ, hh⟩ := hP
  have hx := Bd.exec
  have hby := Bd.bytes
  have hlk : meth.locks = false := Bd.notSynchronized
  have hml : c.maxLocals = 3 := hml0
  have hown : s.vm.findClass sAB = some m.cls := findClass_of_methodNamed Bd.named
  have hnm := (name_of_methodNamed Bd.named Bd.method).1
  have X0 : Stand p l e ({ frames := 1, cells := 0, slots := 0, locals := 12 } : Room) s m #[(.ref x5), (.ref b5), (.int k5)] below meth c s₁ [] 0 0 := Stand.of_body Bd
  have e0 : s₁.heap = h0 := by rw [← hh, Bd.state]; rfl
  have N0 := Fr.nil n0
  refine own_body (A := s₁.setTop (mkF m 0 #[rv x5, rv b5, iv k5] [])) (Q := QI Z x5 b5 k5 u0 u1 h0 n0) (fun t k => castTop (own_efI m x5 b5 k5) k) ?_
  refine oALN (n := 1) X0 hx (hb hby own_d6_0) rfl rfl rfl ?_
  obtain ⟨T1, X1, e1, st1⟩ := initO X0 hx hZ hown (oW hw 32 rfl) (oW hw 33 rfl) (oW hw 34 rfl) e0 (g := (mkF m 1 #[rv x5, rv b5, iv k5] [(.ref x5)])) rfl (by rw [hml]; rfl) rfl (hb hby own_d6_1) (by decide) (W := 0) (by show 2 * 0 + _ ≤ _; exact Nat.le_of_eq rfl) (by decide)
  refine ov (B := T1.setTop (mkF m 4 #[rv x5, rv b5, iv k5] [])) (fun t k => st1 t k) ?_
  refine oALN (n := 5) X1 hx (hb hby own_d6_4) rfl rfl rfl ?_
  refine oALN (n := 6) X1 hx (hb hby own_d6_5) rfl rfl rfl ?_
  obtain ⟨T2, h2, X2, e2, W2, st2⟩ := putF X1 hx hZ hown (host := "") (Or.inl (oW hw 35 rfl)) Via.refl e1 F50 E5 (Or.inr ⟨(oW hw 12 rfl), rfl, hnm⟩) (oW hw 10 rfl) (ty := (.array .byte)) (by decide) rfl rfl (g := (mkF m 6 #[rv x5, rv b5, iv k5] [(.ref b5), (.ref x5)])) rfl rfl (hb hby own_d6_6)
  have Fw2 := F50.same W2
  have N2 := Fr.snoc X2 N0 g_x5
  refine ov (B := T2.setTop (mkF m 9 #[rv x5, rv b5, iv k5] [])) (fun t k => st2 t k) ?_
  refine oALN (n := 10) X2 hx (hb hby own_d6_9) rfl rfl rfl ?_
  refine oILN (n := 11) X2 hx (hb hby own_d6_10) rfl rfl ?_
  obtain ⟨T3, h3, X3, e3, W3, st3⟩ := putFN X2 hx hZ hown (oW hw 36 rfl) Via.refl e2 (F51.other W2 (Or.inr (slot_ne (Or.inr (oW hw 13 rfl)) (Or.inr (oW hw 12 rfl)) (by decide +kernel) (t := .byte) (t' := (.array .byte)) (by decide +kernel) (by decide +kernel)))) (E5.wr W2) (Or.inr ⟨(oW hw 13 rfl), rfl, hnm⟩) (oW hw 10 rfl) (ty := .byte) (v' := (.int (0 : Int32))) (by decide) (by rw [hk5]; rfl) (by decide) (g := (mkF m 11 #[rv x5, rv b5, iv k5] [(.int k5), (.ref x5)])) rfl rfl (hb hby own_d6_11)
  have Fw3 := (F51.other W2 (Or.inr (slot_ne (Or.inr (oW hw 13 rfl)) (Or.inr (oW hw 12 rfl)) (by decide +kernel) (t := .byte) (t' := (.array .byte)) (by decide +kernel) (by decide +kernel)))).same W3
  have N3 := Fr.snoc X3 N2 g_x5
  refine ov (B := T3.setTop (mkF m 14 #[rv x5, rv b5, iv k5] [])) (fun t k => st3 t k) ?_
  refine own_leafV X3 hx hlk Bd.returns (hb hby own_d6_14) (by decide) (by decide) ?_
  show QI Z x5 b5 k5 u0 u1 h0 n0 _ T3.heap _
  rw [e3]
  refine ⟨?_, N3, (((Keep.refl h0 [x5]).wr W2 (Or.inl (List.mem_of_getElem? (i := 0) rfl))).wr W3 (Or.inl (List.mem_of_getElem? (i := 0) rfl))), Fw3, (Fw2.other W3 (Or.inr (slot_ne (Or.inr (oW hw 12 rfl)) (Or.inr (oW hw 13 rfl)) (by decide +kernel) (t := (.array .byte)) (t' := .byte) (by decide +kernel) (by decide +kernel))))⟩
  rfl
theorem own_pd0 : parseMethodDescriptor "(C)Z" = some ⟨[.char], some .boolean⟩ := by decide +kernel
theorem own_pd1 : parseMethodDescriptor "(C)[B" = some ⟨[.char], some (.array .byte)⟩ := by decide +kernel
theorem own_pd2 : parseMethodDescriptor "([BB)V" = some ⟨[(.array .byte), .byte], none⟩ := by decide +kernel
theorem own_d3_0 : decode jdk_42_method_139_code 0 = .ok (.getstatic 38, 3) := by decide +kernel
theorem own_d3_3 : decode jdk_42_method_139_code 3 = .ok (.ifCond .eq 23, 3) := by decide +kernel
theorem own_d3_6 : decode jdk_42_method_139_code 6 = .ok (.iload_n 0, 1) := by decide +kernel
theorem own_d3_7 : decode jdk_42_method_139_code 7 = .ok (.invokestatic 1015, 3) := by decide +kernel
theorem own_d3_10 : decode jdk_42_method_139_code 10 = .ok (.ifCond .eq 16, 3) := by decide +kernel
theorem own_d3_13 : decode jdk_42_method_139_code 13 = .ok (.new 10, 3) := by decide +kernel
theorem own_d3_16 : decode jdk_42_method_139_code 16 = .ok (.dup, 1) := by decide +kernel
theorem own_d3_17 : decode jdk_42_method_139_code 17 = .ok (.iload_n 0, 1) := by decide +kernel
theorem own_d3_18 : decode jdk_42_method_139_code 18 = .ok (.invokestatic 1018, 3) := by decide +kernel
theorem own_d3_21 : decode jdk_42_method_139_code 21 = .ok (.iconst 0, 1) := by decide +kernel
theorem own_d3_22 : decode jdk_42_method_139_code 22 = .ok (.invokespecial 209, 3) := by decide +kernel
theorem own_d3_25 : decode jdk_42_method_139_code 25 = .ok (.areturn, 1) := by decide +kernel
theorem own_efJ (m : MethodId) (x0 : Int32) : entryFrame m #[(.int x0)] 1 = mkF m 0 #[iv x0] [] := by first | (simp [entryFrame, mkF, argsToLocals, Value.category]; done) | rfl
def QJ (Z : State) (c6 : Int32) (zc : Int32) (h0 : Heap) (n0 : Nat) (v : Option Value) (h : Heap) (L : List Loc) : Prop := ∃ (r : Addr) (tr : Addr) (kr : ClassId), v = some (.ref r) ∧ Fr n0 L ∧ Keep h0 h [] ∧ (h0.size ≤ r) ∧ (h0.size ≤ tr) ∧ (Exa Z h r sAB) ∧ (Fld Z h r sAB "coder" "B" (.int (0 : Int32))) ∧ (Fld Z h r sAB "value" "[B" (.ref tr)) ∧ (Arv Z h tr kr .byte (Int32.ofNat [c6].length) (([c6].map StrChars.lo8).map Value.int) (.int 0))
set_option maxRecDepth 65536 in
set_option maxHeartbeats 40000000 in
theorem rmJ (l : Launch) (Z : State) (a0 : Array Value) (hw : ∀ d ∈ tables_1, d.before a0 Z = true) (ws : List Jvm.Cond) (c6 : Int32) (zc : Int32) (h0 : Heap) (n0 : Nat) (Z0 : n0 ≤ h0.size) (O0 : Old Z n0 h0) (Scz : Sta Z Z.heap sAB "COMPACT_STRINGS" "Z" (.int zc)) (hcz : ¬ zc = 0) (hc6 : own_C c6) :
    MetFree l (⟨sAB, "valueOf", "(C)Ljava/lang/String;"⟩ : MethodName) (head1 (Jvm.Cond.code (⟨sAB, "valueOf", "(C)Ljava/lang/String;"⟩ : MethodName) jdk_42_method_139_code 1 (some (.object sAB)) :: ws) ({ frames := 2, cells := 2, slots := 5, locals := 28 } : Room)) (fun a U => a = #[(.int c6)] ∧ Z.Warmed39 U.vm ∧ U.heap = h0) (fun _ _ _ _ _ => True) (fun _ U o U' => ∃ v L, o = .returned v ∧ QJ Z c6 zc h0 n0 v U'.heap L ∧ FrameEnd U o U' L ({ frames := 2, cells := 2, slots := 5, locals := 28 } : Room).cells ({ frames := 2, cells := 2, slots := 5, locals := 28 } : Room).slots) := by
  refine MetFree.of_bodySF (plainFor_of_name own_pn1) hisR ?_
  intro p e s m args below meth c s₁ Bd hml0 hP hK
  obtain ⟨rfl, hZ, hh⟩ := hP
  have hx := Bd.exec
  have hby := Bd.bytes
  have hlk : meth.locks = false := Bd.notSynchronized
  have hml : c.maxLocals = 1 := hml0
  have hown : s.vm.findClass sAB = some m.cls := findClass_of_methodNamed Bd.named
  have hnm := (name_of_methodNamed Bd.named Bd.method).1
  have X0 : Stand p l e ({ frames := 2, cells := 2, slots := 5, locals := 28 } : Room) s m #[(.int c6)] below meth c s₁ [] 0 0 := Stand.of_body Bd
  have e0 : s₁.heap = h0 := by rw [← hh, Bd.state]; rfl
  have N0 := Fr.nil n0
  refine own_body (A := s₁.setTop (mkF m 0 #[iv c6] [])) (Q := QJ Z c6 zc h0 n0) (fun t k => castTop (own_efJ m c6) k) ?_
  obtain ⟨T1, X1, e1, st1⟩ := getS2 X0 hx hZ hown (host := "") (Or.inl (oW hw 19 rfl)) Via.refl e0 (Scz.ext O0.2) (g := (mkF m 0 #[iv c6] [])) rfl (hb hby own_d3_0)
  refine ov (B := T1.setTop (mkF m 3 #[iv c6] [(.int zc)])) (fun t k => st1 t k) ?_
  have hc3 : ¬ (zc = (0 : Int32)) := hcz
  refine ov (B := T1.setTop (mkF m 6 #[iv c6] [])) (fun t k => XS.ifNo X1.here hx rfl (hb hby own_d3_3) rfl ((if0 _ _).trans (feq hc3).1) k) ?_
  refine oILN (n := 7) X1 hx (hb hby own_d3_6) rfl rfl ?_
  obtain ⟨_, _, ⟨T2, L2, k2, n2⟩, -, X2, ⟨Lc2, hQ2, l2, y2, z2⟩, st2⟩ := Jvm.LawKit.callS X1 hx (y := (⟨"java/lang/StringLatin1", "canEncode", "(C)Z"⟩ : MethodName)) hown (mvT hZ (oW hw 20 rfl)) (mvT hZ (oW hw 21 rfl)) (mvT hZ (oW hw 22 rfl)) (mvT hZ (oW hw 23 rfl)) (by decide) (backOf (W := 0) (rmG l Z a0 hw [] c6 h0 n0 Z0 hc6) hZ (oW hw 23 rfl) (oW hw 22 rfl) (by decide) (by decide)) (g := (mkF m 7 #[iv c6] [(.int c6)])) rfl (by rw [hml]; rfl) (argsL := [(.int c6)]) (rest := []) (lenOf own_pd0 rfl) rfl (by show 2 * 0 + _ ≤ _; exact Nat.le_of_eq rfl) (hb hby own_d3_7) (fun _ _ => ⟨rfl, e1, (by decide : 0 + 0 ≤ _), (by decide : 0 + 0 ≤ _)⟩)
  dsimp only [Pt.U, Pt.locs, Pt.cells, Pt.slots] at X2 l2 y2 z2 st2 hQ2
  subst l2 y2 z2
  obtain ⟨rfl, Nq2, eq2⟩ := hQ2
  have N2 := Fr.app N0 Nq2
  refine ov (B := T2.setTop (mkF m 10 #[iv c6] [(.int (1 : Int32))])) (fun t k => st2 t k) ?_
  have hc10 : ¬ ((1 : Int32) = (0 : Int32)) := by decide
  refine ov (B := T2.setTop (mkF m 13 #[iv c6] [])) (fun t k => XS.ifNo X2.here hx rfl (hb hby own_d3_10) rfl ((if0 _ _).trans (feq hc10).1) k) ?_
  obtain ⟨T3, h3, X3, e3, E3, A3, D3, -, st3⟩ := newO X2 hx hZ hown (oW hw 24 rfl) (oW hw 10 rfl) (oW hw 9 rfl) eq2 (g := (mkF m 13 #[iv c6] [])) rfl (hb hby own_d3_13) (by decide) (by decide)
  obtain ⟨b3, g3⟩ : ∃ z, z = h0.size := ⟨_, rfl⟩
  rw [← g3] at A3 D3 st3
  have g_b3 : n0 ≤ b3 := Nat.le_trans Z0 (Nat.le_of_eq g3.symm)
  have F3_value : Fld Z h3 b3 sAB "value" "[B" .null := D3 (Or.inr (oW hw 12 rfl)) (ty := (.array .byte)) (by decide)
  have F3_coder : Fld Z h3 b3 sAB "coder" "B" (.int (0 : Int32)) := D3 (Or.inr (oW hw 13 rfl)) (ty := .byte) (by decide)
  refine ov (B := T3.setTop (mkF m 16 #[iv c6] [(.ref b3)])) (fun t k => st3 t k) ?_
  refine oDU (n := 17) X3 hx (hb hby own_d3_16) rfl rfl ?_
  refine oILN (n := 18) X3 hx (hb hby own_d3_17) rfl rfl ?_
  obtain ⟨_, _, ⟨T4, L4, k4, n4⟩, -, X4, ⟨Lc4, hQ4, l4, y4, z4⟩, st4⟩ := Jvm.LawKit.callS X3 hx (y := (⟨"java/lang/StringLatin1", "toBytes", "(C)[B"⟩ : MethodName)) hown (mvT hZ (oW hw 25 rfl)) (mvT hZ (oW hw 26 rfl)) (mvT hZ (oW hw 22 rfl)) (mvT hZ (oW hw 27 rfl)) (by decide) (backOf (W := 2) (rmH l Z a0 hw [] c6 h3 n0 (Nat.le_trans Z0 E3.1) ) hZ (oW hw 27 rfl) (oW hw 22 rfl) (by decide) (by decide)) (g := (mkF m 18 #[iv c6] [(.int c6), (.ref b3), (.ref b3)])) rfl (by rw [hml]; rfl) (argsL := [(.int c6)]) (rest := [(.ref b3), (.ref b3)]) (lenOf own_pd1 rfl) rfl (by show 2 * 0 + _ ≤ _; exact Nat.le_of_eq rfl) (hb hby own_d3_18) (fun _ _ => ⟨rfl, e3, (by decide : ((0 + 0) + 1) + 1 ≤ _), (by decide : ((0 + 0) + 4) + 1 ≤ _)⟩)
  dsimp only [Pt.U, Pt.locs, Pt.cells, Pt.slots] at X4 l4 y4 z4 st4 hQ4
  subst l4 y4 z4
  obtain ⟨r_4, kr_4, rfl, Nq4, Kq4, hr_4, f4_0⟩ := hQ4
  have N4 := Fr.app N2 Nq4
  have g_r_4 : n0 ≤ r_4 := Nat.le_trans (Nat.le_trans Z0 E3.1) hr_4
  refine ov (B := T4.setTop (mkF m 21 #[iv c6] [(.ref r_4), (.ref b3), (.ref b3)])) (fun t k => st4 t k) ?_
  refine oIC (n := 22) X4 hx (0 : Int32) (hb hby own_d3_21) (by decide) rfl ?_
  obtain ⟨_, _, ⟨T5, L5, k5, n5⟩, -, X5, ⟨Lc5, hQ5, l5, y5, z5⟩, st5⟩ := X4.specialBack hx (y := (⟨sAB, "<init>", "([BB)V"⟩ : MethodName)) rfl hown (mvT hZ (oW hw 28 rfl)) (mvT hZ (oW hw 29 rfl)) (mvT hZ (oW hw 31 rfl)) (by decide) (backOf (W := 1) (rmI l Z a0 hw [] b3 r_4 (0 : Int32) .null (.int (0 : Int32)) T4.heap n0 (Nat.le_trans (Nat.le_trans Z0 E3.1) Kq4.1) (A3.keep Kq4) (F3_value.keep Kq4 nin0) (F3_coder.keep Kq4 nin0) g_b3 rfl) hZ (oW hw 31 rfl) (oW hw 9 rfl) (by decide) (by decide)) (g := (mkF m 22 #[iv c6] [(.int (0 : Int32)), (.ref r_4), (.ref b3), (.ref b3)])) rfl (by rw [hml]; rfl) (Steps.refl _) (a := b3) (argsL := [(.ref r_4), (.int (0 : Int32))]) (rest := [(.ref b3)]) (lenOf own_pd2 rfl) rfl (by show 2 * 0 + _ ≤ _; exact Nat.le_of_eq rfl) (hb hby own_d3_22) (fun _ _ => ⟨rfl, rfl, (by decide : (((0 + 0) + 1) + 1) + 0 ≤ _), (by decide : (((0 + 0) + 4) + 1) + 0 ≤ _)⟩)
  dsimp only [Pt.U, Pt.locs, Pt.cells, Pt.slots] at X5 l5 y5 z5 st5 hQ5
  subst l5 y5 z5
  obtain ⟨rfl, Nq5, Kq5, f5_0, f5_1⟩ := hQ5
  have N5 := Fr.app N4 Nq5
  refine ov (B := T5.setTop (mkF m 25 #[iv c6] [(.ref b3)])) (fun t k => st5.trans k) ?_
  refine own_leaf X5 hx hlk (t := (.object sAB)) Bd.returns rfl (Or.inr (Or.inr (Or.inr (Or.inr ⟨rfl, rfl, rfl⟩)))) (hb hby own_d3_25) (by decide) (by decide) ?_
  show QJ Z c6 zc h0 n0 _ T5.heap _
  refine ⟨b3, r_4, kr_4, ?_, N5, ((((Keep.refl h0 []).ext E3).trans Kq4 all0).trans Kq5 (allS (Or.inr (Nat.le_of_eq g3.symm)) all0)), ?_, ?_, ((A3.keep Kq4).keep Kq5), f5_0, f5_1, (f4_0.keep Kq5 (ninS (Ne.symm (Nat.ne_of_lt (Nat.lt_of_lt_of_le A3.lt hr_4))) nin0))⟩
  · rfl
  · exact (Nat.le_of_eq g3.symm)
  · exact (Nat.le_trans (Nat.le_trans (Nat.le_refl _) E3.1) hr_4)
theorem own_pn2 : plainName "java/lang/Record" = true := by first | (simp [plainName, overriddenIn]; done) | decide +kernel
theorem own_d10_0 : decode jdk_30_method_1_code 0 = .ok (.aload_n 0, 1) := by decide +kernel
theorem own_d10_1 : decode jdk_30_method_1_code 1 = .ok (.invokespecial 1, 3) := by decide +kernel
theorem own_d10_4 : decode jdk_30_method_1_code 4 = .ok (.return_, 1) := by decide +kernel
theorem own_efR (m : MethodId) (x0 : Addr) : entryFrame m #[(.ref x0)] 1 = mkF m 0 #[rv x0] [] := by first | (simp [entryFrame, mkF, argsToLocals, Value.category]; done) | rfl
def QR (Z : State) (aR : Addr) (h0 : Heap) (n0 : Nat) (v : Option Value) (h : Heap) (L : List Loc) : Prop := v = none ∧ Fr n0 L ∧ h = h0
set_option maxRecDepth 65536 in
set_option maxHeartbeats 40000000 in
theorem rmR (l : Launch) (Z : State) (a0 : Array Value) (hw : ∀ d ∈ tables_1, d.before a0 Z = true) (ws : List Jvm.Cond) (aR : Addr) (h0 : Heap) (n0 : Nat) (Z0 : n0 ≤ h0.size) :
    MetFree l (⟨sAV, "<init>", "()V"⟩ : MethodName) (head1 (Jvm.Cond.code (⟨sAV, "<init>", "()V"⟩ : MethodName) jdk_30_method_1_code 1 none :: ws) ({ frames := 1, cells := 0, slots := 0, locals := 12 } : Room)) (fun a U => a = #[(.ref aR)] ∧ Z.Warmed39 U.vm ∧ U.heap = h0) (fun _ _ _ _ _ => True) (fun _ U o U' => ∃ v L, o = .returned v ∧ QR Z aR h0 n0 v U'.heap L ∧ FrameEnd U o U' L ({ frames := 1, cells := 0, slots := 0, locals := 12 } : Room).cells ({ frames := 1, cells := 0, slots := 0, locals := 12 } : Room).slots) := by
  refine MetFree.of_bodySF (plainFor_of_name own_pn2) hisR ?_
  intro p e s m args below meth c s₁ Bd hml0 hP hK
  obtain ⟨rfl, hZ, hh⟩ := hP
  have hx := Bd.exec
  have hby := Bd.bytes
  have hlk : meth.locks = false := Bd.notSynchronized
  have hml : c.maxLocals = 1 := hml0
  have hown : s.vm.findClass sAV = some m.cls := findClass_of_methodNamed Bd.named
  have hnm := (name_of_methodNamed Bd.named Bd.method).1
  have X0 : Stand p l e ({ frames := 1, cells := 0, slots := 0, locals := 12 } : Room) s m #[(.ref aR)] below meth c s₁ [] 0 0 := Stand.of_body Bd
  have e0 : s₁.heap = h0 := by rw [← hh, Bd.state]; rfl
  have N0 := Fr.nil n0
  refine own_body (A := s₁.setTop (mkF m 0 #[rv aR] [])) (Q := QR Z aR h0 n0) (fun t k => castTop (own_efR m aR) k) ?_
  refine oALN (n := 1) X0 hx (hb hby own_d10_0) rfl rfl rfl ?_
  obtain ⟨T1, X1, e1, st1⟩ := initO X0 hx hZ hown (oW hw 54 rfl) (oW hw 33 rfl) (oW hw 34 rfl) e0 (g := (mkF m 1 #[rv aR] [(.ref aR)])) rfl (by rw [hml]; rfl) rfl (hb hby own_d10_1) (by decide) (W := 0) (by show 2 * 0 + _ ≤ _; exact Nat.le_of_eq rfl) (by decide)
  refine ov (B := T1.setTop (mkF m 4 #[rv aR] [])) (fun t k => st1 t k) ?_
  refine own_leafV X1 hx hlk Bd.returns (hb hby own_d10_4) (by decide) (by decide) ?_
  show QR Z aR h0 n0 _ T1.heap _
  rw [e1]
  refine ⟨?_, N0, rfl⟩
  rfl
theorem own_pn3 : plainName "com/example/wardstone/wardstone/policy/AccountMatchesPinLaw" = true := by first | (simp [plainName, overriddenIn]; done) | decide +kernel
theorem own_pd3 : parseMethodDescriptor "(C)Ljava/lang/String;" = some ⟨[.char], some (.object sAB)⟩ := by decide +kernel
theorem own_pd4 : parseMethodDescriptor "([C)V" = some ⟨[(.array .char)], none⟩ := by decide +kernel
theorem own_d2_0 : decode method_2_code 0 = .ok (.iload_n 0, 1) := by decide +kernel
theorem own_d2_1 : decode method_2_code 1 = .ok (.ifCond .gt 6, 3) := by decide +kernel
theorem own_d2_4 : decode method_2_code 4 = .ok (.ldc 7, 2) := by decide +kernel
theorem own_d2_6 : decode method_2_code 6 = .ok (.areturn, 1) := by decide +kernel
theorem own_d2_7 : decode method_2_code 7 = .ok (.iload_n 0, 1) := by decide +kernel
theorem own_d2_8 : decode method_2_code 8 = .ok (.iconst 1, 1) := by decide +kernel
theorem own_d2_9 : decode method_2_code 9 = .ok (.if_icmp .ne 8, 3) := by decide +kernel
theorem own_d2_12 : decode method_2_code 12 = .ok (.iload_n 1, 1) := by decide +kernel
theorem own_d2_13 : decode method_2_code 13 = .ok (.invokestatic 9, 3) := by decide +kernel
theorem own_d2_16 : decode method_2_code 16 = .ok (.areturn, 1) := by decide +kernel
theorem own_d2_17 : decode method_2_code 17 = .ok (.new 10, 3) := by decide +kernel
theorem own_d2_20 : decode method_2_code 20 = .ok (.dup, 1) := by decide +kernel
theorem own_d2_21 : decode method_2_code 21 = .ok (.iconst 2, 1) := by decide +kernel
theorem own_d2_22 : decode method_2_code 22 = .ok (.newarray .char, 2) := by decide +kernel
theorem own_d2_24 : decode method_2_code 24 = .ok (.dup, 1) := by decide +kernel
theorem own_d2_25 : decode method_2_code 25 = .ok (.iconst 0, 1) := by decide +kernel
theorem own_d2_26 : decode method_2_code 26 = .ok (.iload_n 1, 1) := by decide +kernel
theorem own_d2_27 : decode method_2_code 27 = .ok (.castore, 1) := by decide +kernel
theorem own_d2_28 : decode method_2_code 28 = .ok (.dup, 1) := by decide +kernel
theorem own_d2_29 : decode method_2_code 29 = .ok (.iconst 1, 1) := by decide +kernel
theorem own_d2_30 : decode method_2_code 30 = .ok (.iload_n 2, 1) := by decide +kernel
theorem own_d2_31 : decode method_2_code 31 = .ok (.castore, 1) := by decide +kernel
theorem own_d2_32 : decode method_2_code 32 = .ok (.invokespecial 15, 3) := by decide +kernel
theorem own_d2_35 : decode method_2_code 35 = .ok (.areturn, 1) := by decide +kernel
theorem own_efSA (m : MethodId) (x0 : Int32) (x1 : Int32) (x2 : Int32) : entryFrame m #[(.int x0), (.int x1), (.int x2)] 3 = mkF m 0 #[iv x0, iv x1, iv x2] [] := by first | (simp [entryFrame, mkF, argsToLocals, Value.category]; done) | rfl
def QSA (Z : State) (ll : Int32) (cc : Int32) (dd : Int32) (zc : Int32) (h0 : Heap) (n0 : Nat) (v : Option Value) (h : Heap) (L : List Loc) : Prop := ∃ (r : Addr) (tr : Addr) (kr : ClassId), v = some (.ref r) ∧ Fr n0 L ∧ Keep h0 h [] ∧ (Exa Z h r sAB) ∧ (Fld Z h r sAB "coder" "B" (.int (0 : Int32))) ∧ (Fld Z h r sAB "value" "[B" (.ref tr)) ∧ (Arv Z h tr kr .byte (Int32.ofNat (own_s3 ll cc dd).length) (((own_s3 ll cc dd).map StrChars.lo8).map Value.int) (.int 0))
set_option maxRecDepth 65536 in
set_option maxHeartbeats 40000000 in
theorem rmSA (l : Launch) (Z : State) (a0 : Array Value) (hw : ∀ d ∈ tables_1, d.before a0 Z = true) (ws : List Jvm.Cond) (ll : Int32) (cc : Int32) (dd : Int32) (zc : Int32) (h0 : Heap) (n0 : Nat) (Z0 : n0 ≤ h0.size) (O0 : Old Z n0 h0) (Scz : Sta Z Z.heap sAB "COMPACT_STRINGS" "Z" (.int zc)) (hcz : ¬ zc = 0) (hch : Jvm.Lit.constHeld Z sAR 7) (hcw : Jvm.Lit.compactW.before a0 Z = true) (hc : own_C cc) (hd : own_C dd) :
    MetFree l (⟨sAR, "str", "(ICC)Ljava/lang/String;"⟩ : MethodName) (head1 (Jvm.Cond.code (⟨sAR, "str", "(ICC)Ljava/lang/String;"⟩ : MethodName) method_2_code 3 (some (.object sAB)) :: ws) ({ frames := 4, cells := 5, slots := 12, locals := 66 } : Room)) (fun a U => a = #[(.int ll), (.int cc), (.int dd)] ∧ Z.Warmed39 U.vm ∧ U.heap = h0 ∧ IB Z U.vm []) (fun _ _ _ _ _ => True) (fun _ U o U' => ∃ v L, o = .returned v ∧ QSA Z ll cc dd zc h0 n0 v U'.heap L ∧ ReturnedEndW U o U' L ({ frames := 4, cells := 5, slots := 12, locals := 66 } : Room).cells ({ frames := 4, cells := 5, slots := 12, locals := 66 } : Room).slots) := by
  refine MetFree.of_bodySF (plainFor_of_name own_pn3) hisR ?_
  intro p e s m args below meth c s₁ Bd hml0 hP hK
  obtain ⟨rfl, hZ, hh, hI⟩ := hP
  have hx := Bd.exec
  have hby := Bd.bytes
  have hlk : meth.locks = false := Bd.notSynchronized
  have hml : c.maxLocals = 3 := hml0
  have hown : s.vm.findClass sAR = some m.cls := findClass_of_methodNamed Bd.named
  have hnm := (name_of_methodNamed Bd.named Bd.method).1
  have X0 : Stand p l e ({ frames := 4, cells := 5, slots := 12, locals := 66 } : Room) (s.setVm s.vm) m #[(.int ll), (.int cc), (.int dd)] below meth c s₁ [] 0 0 := Stand.of_body Bd
  have e0 : s₁.heap = h0 := by rw [← hh, Bd.state]; rfl
  have N0 := Fr.nil n0
  have hS0 : s.Since s.vm h0.size := (State.WarmedH.refl s).since _
  have hk0 : h0.size ≤ h0.size := Nat.le_refl _
  have wS : ∀ a ∈ Bundle.stringAtoms, a.before a0 Z = true := by
    intro a ha
    simp only [Bundle.stringAtoms, List.mem_cons, List.not_mem_nil, or_false] at ha
    rcases ha with rfl | rfl | rfl | rfl | rfl | rfl | rfl
    · exact (oW hw 9 rfl)
    · exact (oW hw 10 rfl)
    · exact (oW hw 11 rfl)
    · exact (oW hw 12 rfl)
    · exact (oW hw 13 rfl)
    · exact (oW hw 14 rfl)
    · exact (oW hw 15 rfl)
  refine own_bodyW (A := s₁.setTop (mkF m 0 #[iv ll, iv cc, iv dd] [])) (Q := QSA Z ll cc dd zc h0 n0) (fun t k => castTop (own_efSA m ll cc dd) k) ?_
  have hws : ∀ d ∈ StrChars.Road.words, d.before a0 Z = true := fun d hd => hw d ((by decide +kernel : ∀ d ∈ StrChars.Road.words, d ∈ tables_1) d hd)
  refine oILN (n := 1) X0 hx (hb hby own_d2_0) rfl rfl ?_
  by_cases hc1 : (0 : Int32) < ll
  · refine ov (B := s₁.setTop (mkF m 7 #[iv ll, iv cc, iv dd] [])) (fun t k => XS.ifYes X0.here hx rfl (pc0 := 1) (pc' := 7) rfl (hb hby own_d2_1) rfl ((if0 _ _).trans (tlt hc1).2.2.1) (by decide) (by decide) k) ?_
    refine oILN (n := 8) X0 hx (hb hby own_d2_7) rfl rfl ?_
    refine oIC (n := 9) X0 hx (1 : Int32) (hb hby own_d2_8) (by decide) rfl ?_
    by_cases hc9 : ll = (1 : Int32)
    · refine ov (B := s₁.setTop (mkF m 12 #[iv ll, iv cc, iv dd] [])) (fun t k => XS.icmpNo X0.here hx rfl (hb hby own_d2_9) rfl (teq hc9).2 k) ?_
      refine oILN (n := 13) X0 hx (hb hby own_d2_12) rfl rfl ?_
      obtain ⟨_, _, ⟨T1, L1, k1, n1⟩, -, X1, ⟨Lc1, hQ1, l1, y1, z1⟩, st1⟩ := Jvm.LawKit.callS X0 hx (y := (⟨sAB, "valueOf", "(C)Ljava/lang/String;"⟩ : MethodName)) hown (mvT hZ (oW hw 16 rfl)) (mvT hZ (oW hw 17 rfl)) (mvT hZ (oW hw 9 rfl)) (mvT hZ (oW hw 18 rfl)) (by decide) (backOf (W := 0) (rmJ l Z a0 hw [] cc zc h0 n0 Z0 O0 (by assumption) (by assumption) hc) hZ (oW hw 18 rfl) (oW hw 9 rfl) (by decide) (by decide)) (g := (mkF m 13 #[iv ll, iv cc, iv dd] [(.int cc)])) rfl (by rw [hml]; rfl) (argsL := [(.int cc)]) (rest := []) (lenOf own_pd3 rfl) rfl (by show 2 * 0 + _ ≤ _; exact Nat.le_of_eq rfl) (hb hby own_d2_13) (fun _ _ => ⟨rfl, e0, (by decide : 0 + 2 ≤ _), (by decide : 0 + 5 ≤ _)⟩)
      dsimp only [Pt.U, Pt.locs, Pt.cells, Pt.slots] at X1 l1 y1 z1 st1 hQ1
      subst l1 y1 z1
      obtain ⟨r_1, tr_1, kr_1, rfl, Nq1, Kq1, hr_1, htr_1, f1_0, f1_1, f1_2, f1_3⟩ := hQ1
      have N1 := Fr.app N0 Nq1
      have g_r_1 : n0 ≤ r_1 := Nat.le_trans Z0 hr_1
      have g_tr_1 : n0 ≤ tr_1 := Nat.le_trans Z0 htr_1
      refine ov (B := T1.setTop (mkF m 16 #[iv ll, iv cc, iv dd] [(.ref r_1)])) (fun t k => st1 t k) ?_
      refine own_leafW X1 hx hlk hS0 (Nat.le_trans hk0 Kq1.1) (t := (.object sAB)) Bd.returns rfl (Or.inr (Or.inr (Or.inr (Or.inr ⟨rfl, rfl, rfl⟩)))) (hb hby own_d2_16) (by decide) (by decide) ?_
      show QSA Z ll cc dd zc h0 n0 _ T1.heap _
      refine ⟨r_1, tr_1, kr_1, ?_, N1, ((Keep.refl h0 []).trans Kq1 all0), f1_0, f1_1, f1_2, (by unfold own_s3; rw [if_pos hc1, if_pos hc9]; exact f1_3)⟩
      rfl
    · refine ov (B := s₁.setTop (mkF m 17 #[iv ll, iv cc, iv dd] [])) (fun t k => XS.icmpYes X0.here hx rfl (pc0 := 9) (pc' := 17) rfl (hb hby own_d2_9) rfl (feq hc9).2 (by decide) (by decide) k) ?_
      obtain ⟨T2, h2, X2, e2, E2, A2, D2, -, st2⟩ := newO X0 hx hZ hown (oW hw 117 rfl) (oW hw 10 rfl) (oW hw 9 rfl) e0 (g := (mkF m 17 #[iv ll, iv cc, iv dd] [])) rfl (hb hby own_d2_17) (by decide) (by decide)
      obtain ⟨b2, g2⟩ : ∃ z, z = h0.size := ⟨_, rfl⟩
      rw [← g2] at A2 D2 st2
      have g_b2 : n0 ≤ b2 := Nat.le_trans Z0 (Nat.le_of_eq g2.symm)
      have F2_value : Fld Z h2 b2 sAB "value" "[B" .null := D2 (Or.inr (oW hw 12 rfl)) (ty := (.array .byte)) (by decide)
      have F2_coder : Fld Z h2 b2 sAB "coder" "B" (.int (0 : Int32)) := D2 (Or.inr (oW hw 13 rfl)) (ty := .byte) (by decide)
      refine ov (B := T2.setTop (mkF m 20 #[iv ll, iv cc, iv dd] [(.ref b2)])) (fun t k => st2 t k) ?_
      refine oDU (n := 21) X2 hx (hb hby own_d2_20) rfl rfl ?_
      refine oIC (n := 22) X2 hx (2 : Int32) (hb hby own_d2_21) (by decide) rfl ?_
      obtain ⟨T3, h3, kc3, X3, e3, E3, A3, st3⟩ := newP X2 hx hZ (oW hw 118 rfl) e2 (g := (mkF m 22 #[iv ll, iv cc, iv dd] [(.int (2 : Int32)), (.ref b2), (.ref b2)])) rfl (hb hby own_d2_22) rfl (by decide) (cap := 2) (by decide) (by decide) (by decide) (by decide)
      obtain ⟨b3, g3⟩ : ∃ z, z = h2.size := ⟨_, rfl⟩
      rw [← g3] at A3 st3
      have g_b3 : n0 ≤ b3 := Nat.le_trans (Nat.le_trans Z0 E2.1) (Nat.le_of_eq g3.symm)
      have V3 : Arv Z h3 b3 kc3 .char (2 : Int32) [(.int (0 : Int32)), (.int (0 : Int32))] (.int (0 : Int32)) := (Arv.new A3 (by decide)).pad (pad_rep [] (.int (0 : Int32)) 2)
      refine ov (B := T3.setTop (mkF m 24 #[iv ll, iv cc, iv dd] [(.ref b3), (.ref b2), (.ref b2)])) (fun t k => st3 t k) ?_
      refine oDU (n := 25) X3 hx (hb hby own_d2_24) rfl rfl ?_
      refine oIC (n := 26) X3 hx (0 : Int32) (hb hby own_d2_25) (by decide) rfl ?_
      refine oILN (n := 27) X3 hx (hb hby own_d2_26) rfl rfl ?_
      obtain ⟨cl4, Ar4, q4, S4, M4, H4, G4⟩ := id V3
      obtain ⟨T5, h5, X5, e5, W5, st5⟩ := stC X3 hx hZ e3 Ar4 (j := (0 : Int32)) (inb_of S4 ⟨by decide, by decide⟩) (g := (mkF m 27 #[iv ll, iv cc, iv dd] [(.int cc), (.int (0 : Int32)), (.ref b3), (.ref b3), (.ref b2), (.ref b2)])) rfl rfl (hb hby own_d2_27)
      have V5 : Arv Z h5 b3 kc3 .char (2 : Int32) [(.int cc), (.int (0 : Int32))] (.int (0 : Int32)) := by have q := Arv.set Ar4 q4 S4 M4 H4 G4 (fits_nar_char _) W5 0 rfl (Nat.le_of_ble_eq_true rfl); rw [own_nc hc] at q; exact q
      have N5 := Fr.snoc X5 N0 g_b3
      refine ov (B := T5.setTop (mkF m 28 #[iv ll, iv cc, iv dd] [(.ref b3), (.ref b2), (.ref b2)])) (fun t k => st5 t k) ?_
      refine oDU (n := 29) X5 hx (hb hby own_d2_28) rfl rfl ?_
      refine oIC (n := 30) X5 hx (1 : Int32) (hb hby own_d2_29) (by decide) rfl ?_
      refine oILN (n := 31) X5 hx (hb hby own_d2_30) rfl rfl ?_
      obtain ⟨cl6, Ar6, q6, S6, M6, H6, G6⟩ := id V5
      obtain ⟨T7, h7, X7, e7, W7, st7⟩ := stC X5 hx hZ e5 Ar6 (j := (1 : Int32)) (inb_of S6 ⟨by decide, by decide⟩) (g := (mkF m 31 #[iv ll, iv cc, iv dd] [(.int dd), (.int (1 : Int32)), (.ref b3), (.ref b3), (.ref b2), (.ref b2)])) rfl rfl (hb hby own_d2_31)
      have V7 : Arv Z h7 b3 kc3 .char (2 : Int32) [(.int cc), (.int dd)] (.int (0 : Int32)) := by have q := Arv.set Ar6 q6 S6 M6 H6 G6 (fits_nar_char _) W7 1 rfl (Nat.le_of_ble_eq_true rfl); rw [own_nc hd] at q; exact q
      have N7 := Fr.snoc X7 N5 g_b3
      refine ov (B := T7.setTop (mkF m 32 #[iv ll, iv cc, iv dd] [(.ref b3), (.ref b2), (.ref b2)])) (fun t k => st7 t k) ?_
      obtain ⟨_, _, ⟨T8, L8, k8, n8⟩, -, X8, ⟨Lc8, hQ8, l8, y8, z8⟩, st8⟩ := X7.specialBack hx (y := (⟨sAB, "<init>", "([C)V"⟩ : MethodName)) rfl hown (mvT hZ (oW hw 119 rfl)) (mvT hZ (oW hw 120 rfl)) (mvT hZ (oW hw 121 rfl)) (by decide) (StrChars.Road.backV (W := 1) hZ hws (kI := 4) (oW hw 10 rfl) (cs := ([cc, dd] : List Int32)) (bs := ([cc, dd] : List Int32).map (fun c => c.toInt8.toInt32)) (n := 2) g_b2 (Nat.le_trans (Nat.le_trans (Nat.le_trans (Nat.le_trans Z0 E2.1) E3.1) (Keep.of_wr W5).1) (Keep.of_wr W7).1) (((A2.ext E3).wr W5).wr W7) (((F2_value.ext E3).other W5 (Or.inl (Nat.ne_of_lt (Nat.lt_of_lt_of_le A2.lt (Nat.le_of_eq g3.symm))))).other W7 (Or.inl (Nat.ne_of_lt (Nat.lt_of_lt_of_le A2.lt (Nat.le_of_eq g3.symm))))) (((F2_coder.ext E3).other W5 (Or.inl (Nat.ne_of_lt (Nat.lt_of_lt_of_le A2.lt (Nat.le_of_eq g3.symm))))).other W7 (Or.inl (Nat.ne_of_lt (Nat.lt_of_lt_of_le A2.lt (Nat.le_of_eq g3.symm))))) V7 (Scz.ext ((((O0.ext E2).ext E3).wr W5 g_b3).wr W7 g_b3).2) hcz rfl rfl (by decide) (by decide) (own_cs2 hc hd) rfl (by decide) (by decide)) (g := (mkF m 32 #[iv ll, iv cc, iv dd] [(.ref b3), (.ref b2), (.ref b2)])) rfl (by rw [hml]; rfl) (Steps.refl _) (a := b2) (argsL := [(.ref b3)]) (rest := [(.ref b2)]) (lenOf own_pd4 rfl) rfl (by show 2 * 0 + _ ≤ _; exact Nat.le_of_eq rfl) (hb hby own_d2_32) (fun _ _ => ⟨rfl, e7, (by decide : ((0 + 1) + 1) + 1 ≤ _), (by decide : ((0 + 4) + 2) + 2 ≤ _)⟩)
      dsimp only [Pt.U, Pt.locs, Pt.cells, Pt.slots] at X8 l8 y8 z8 st8 hQ8
      subst l8 y8 z8
      obtain ⟨rfl, Nq8, Kq8, gE8, gC8, t8, kt8, u8, su8, ne8, gV8, gA8⟩ := hQ8
      have N8 := Fr.app N7 Nq8
      have g_t8 : n0 ≤ t8 := u8
      refine ov (B := T8.setTop (mkF m 35 #[iv ll, iv cc, iv dd] [(.ref b2)])) (fun t k => st8.trans k) ?_
      refine own_leafW X8 hx hlk hS0 (Nat.le_trans (Nat.le_trans (Nat.le_trans (Nat.le_trans (Nat.le_trans hk0 E2.1) E3.1) (Keep.of_wr W5).1) (Keep.of_wr W7).1) Kq8.1) (t := (.object sAB)) Bd.returns rfl (Or.inr (Or.inr (Or.inr (Or.inr ⟨rfl, rfl, rfl⟩)))) (hb hby own_d2_35) (by decide) (by decide) ?_
      show QSA Z ll cc dd zc h0 n0 _ T8.heap _
      refine ⟨b2, t8, kt8, ?_, N8, ((((((Keep.refl h0 []).ext E2).ext E3).wr W5 (Or.inr (Nat.le_trans (Nat.le_trans (Nat.le_refl _) E2.1) (Nat.le_of_eq g3.symm)))).wr W7 (Or.inr (Nat.le_trans (Nat.le_trans (Nat.le_refl _) E2.1) (Nat.le_of_eq g3.symm)))).trans Kq8 (allS (Or.inr (Nat.le_of_eq g2.symm)) all0)), ((((A2.ext E3).wr W5).wr W7).keep Kq8), gC8, gV8, (by unfold own_s3; rw [if_pos hc1, if_neg hc9]; exact gA8)⟩
      rfl
  · refine ov (B := s₁.setTop (mkF m 4 #[iv ll, iv cc, iv dd] [])) (fun t k => XS.ifNo X0.here hx rfl (hb hby own_d2_1) rfl ((if0 _ _).trans (flt hc1).2.2.1) k) ?_
    obtain ⟨c9, T9, h9, k9, t9, kt9, X9, e9, E9, hS9, hk9, hZ, hown, gE9, gC9, gV9, gA9, la9, lb9, hI9, hlit_c9, st9⟩ := ldcSVL X0 hx hZ hown (oW hw 8 rfl) wS e0 hS0 hk0 (Fr.nil _) (fun b cl q => by show s.heap[b]? = some cl; rw [hh]; exact O0.2.2 b cl q) hI (by simp) hch hcw (vs := ([] : List Int32).map Value.int) (z := (0 : Int32)) (by decide) (by decide) (by decide) (g := (mkF m 4 #[iv ll, iv cc, iv dd] [])) rfl (hb hby own_d2_4) (n := 0) (by decide) (by decide) (by decide) (by decide)
    refine ov (B := T9.setTop (mkF m 6 #[iv ll, iv cc, iv dd] [(.ref c9)])) (fun t k => st9 t k) ?_
    refine own_leafW X9 hx hlk hS9 (by rw [e9]; exact hk9) (t := (.object sAB)) Bd.returns rfl (Or.inr (Or.inr (Or.inr (Or.inr ⟨rfl, rfl, rfl⟩)))) (hb hby own_d2_6) (by decide) (by decide) ?_
    show QSA Z ll cc dd zc h0 n0 _ T9.heap _
    rw [e9]
    refine ⟨c9, t9, kt9, ?_, N0, ((Keep.refl h0 []).ext E9), gE9, gC9, gV9, (by unfold own_s3; rw [if_neg hc1]; exact gA9)⟩
    rfl
theorem own_efSB (m : MethodId) (x0 : Int32) (x1 : Int32) (x2 : Int32) : entryFrame m #[(.int x0), (.int x1), (.int x2)] 3 = mkF m 0 #[iv x0, iv x1, iv x2] [] := by first | (simp [entryFrame, mkF, argsToLocals, Value.category]; done) | rfl
def QSB (Z : State) (ll : Int32) (cc : Int32) (dd : Int32) (zc : Int32) (h0 : Heap) (n0 : Nat) (v : Option Value) (h : Heap) (L : List Loc) : Prop := ∃ (r : Addr) (tr : Addr) (kr : ClassId), v = some (.ref r) ∧ Fr n0 L ∧ Keep h0 h [] ∧ (h0.size ≤ r) ∧ (h0.size ≤ tr) ∧ (Exa Z h r sAB) ∧ (Fld Z h r sAB "coder" "B" (.int (0 : Int32))) ∧ (Fld Z h r sAB "value" "[B" (.ref tr)) ∧ (Arv Z h tr kr .byte (Int32.ofNat (own_s3 ll cc dd).length) (((own_s3 ll cc dd).map StrChars.lo8).map Value.int) (.int 0))
set_option maxRecDepth 65536 in
set_option maxHeartbeats 40000000 in
theorem rmSB (l : Launch) (Z : State) (a0 : Array Value) (hw : ∀ d ∈ tables_1, d.before a0 Z = true) (ws : List Jvm.Cond) (ll : Int32) (cc : Int32) (dd : Int32) (zc : Int32) (h0 : Heap) (n0 : Nat) (Z0 : n0 ≤ h0.size) (O0 : Old Z n0 h0) (Scz : Sta Z Z.heap sAB "COMPACT_STRINGS" "Z" (.int zc)) (hcz : ¬ zc = 0) (hl : 0 < ll) (hc : own_C cc) (hd : own_C dd) :
    MetFree l (⟨sAR, "str", "(ICC)Ljava/lang/String;"⟩ : MethodName) (head1 (Jvm.Cond.code (⟨sAR, "str", "(ICC)Ljava/lang/String;"⟩ : MethodName) method_2_code 3 (some (.object sAB)) :: ws) ({ frames := 4, cells := 3, slots := 8, locals := 66 } : Room)) (fun a U => a = #[(.int ll), (.int cc), (.int dd)] ∧ Z.Warmed39 U.vm ∧ U.heap = h0) (fun _ _ _ _ _ => True) (fun _ U o U' => ∃ v L, o = .returned v ∧ QSB Z ll cc dd zc h0 n0 v U'.heap L ∧ FrameEnd U o U' L ({ frames := 4, cells := 3, slots := 8, locals := 66 } : Room).cells ({ frames := 4, cells := 3, slots := 8, locals := 66 } : Room).slots) := by
  refine MetFree.of_bodySF (plainFor_of_name own_pn3) hisR ?_
  intro p e s m args below meth c s₁ Bd hml0 hP hK
  obtain ⟨rfl, hZ, hh⟩ := hP
  have hx := Bd.exec
  have hby := Bd.bytes
  have hlk : meth.locks = false := Bd.notSynchronized
  have hml : c.maxLocals = 3 := hml0
  have hown : s.vm.findClass sAR = some m.cls := findClass_of_methodNamed Bd.named
  have hnm := (name_of_methodNamed Bd.named Bd.method).1
  have X0 : Stand p l e ({ frames := 4, cells := 3, slots := 8, locals := 66 } : Room) s m #[(.int ll), (.int cc), (.int dd)] below meth c s₁ [] 0 0 := Stand.of_body Bd
  have e0 : s₁.heap = h0 := by rw [← hh, Bd.state]; rfl
  have N0 := Fr.nil n0
  refine own_body (A := s₁.setTop (mkF m 0 #[iv ll, iv cc, iv dd] [])) (Q := QSB Z ll cc dd zc h0 n0) (fun t k => castTop (own_efSB m ll cc dd) k) ?_
  have hws : ∀ d ∈ StrChars.Road.words, d.before a0 Z = true := fun d hd => hw d ((by decide +kernel : ∀ d ∈ StrChars.Road.words, d ∈ tables_1) d hd)
  refine oILN (n := 1) X0 hx (hb hby own_d2_0) rfl rfl ?_
  have hc1 : (0 : Int32) < ll := hl
  refine ov (B := s₁.setTop (mkF m 7 #[iv ll, iv cc, iv dd] [])) (fun t k => XS.ifYes X0.here hx rfl (pc0 := 1) (pc' := 7) rfl (hb hby own_d2_1) rfl ((if0 _ _).trans (tlt hc1).2.2.1) (by decide) (by decide) k) ?_
  refine oILN (n := 8) X0 hx (hb hby own_d2_7) rfl rfl ?_
  refine oIC (n := 9) X0 hx (1 : Int32) (hb hby own_d2_8) (by decide) rfl ?_
  by_cases hc9 : ll = (1 : Int32)
  · refine ov (B := s₁.setTop (mkF m 12 #[iv ll, iv cc, iv dd] [])) (fun t k => XS.icmpNo X0.here hx rfl (hb hby own_d2_9) rfl (teq hc9).2 k) ?_
    refine oILN (n := 13) X0 hx (hb hby own_d2_12) rfl rfl ?_
    obtain ⟨_, _, ⟨T1, L1, k1, n1⟩, -, X1, ⟨Lc1, hQ1, l1, y1, z1⟩, st1⟩ := Jvm.LawKit.callS X0 hx (y := (⟨sAB, "valueOf", "(C)Ljava/lang/String;"⟩ : MethodName)) hown (mvT hZ (oW hw 16 rfl)) (mvT hZ (oW hw 17 rfl)) (mvT hZ (oW hw 9 rfl)) (mvT hZ (oW hw 18 rfl)) (by decide) (backOf (W := 0) (rmJ l Z a0 hw [] cc zc h0 n0 Z0 O0 (by assumption) (by assumption) hc) hZ (oW hw 18 rfl) (oW hw 9 rfl) (by decide) (by decide)) (g := (mkF m 13 #[iv ll, iv cc, iv dd] [(.int cc)])) rfl (by rw [hml]; rfl) (argsL := [(.int cc)]) (rest := []) (lenOf own_pd3 rfl) rfl (by show 2 * 0 + _ ≤ _; exact Nat.le_of_eq rfl) (hb hby own_d2_13) (fun _ _ => ⟨rfl, e0, (by decide : 0 + 2 ≤ _), (by decide : 0 + 5 ≤ _)⟩)
    dsimp only [Pt.U, Pt.locs, Pt.cells, Pt.slots] at X1 l1 y1 z1 st1 hQ1
    subst l1 y1 z1
    obtain ⟨r_1, tr_1, kr_1, rfl, Nq1, Kq1, hr_1, htr_1, f1_0, f1_1, f1_2, f1_3⟩ := hQ1
    have N1 := Fr.app N0 Nq1
    have g_r_1 : n0 ≤ r_1 := Nat.le_trans Z0 hr_1
    have g_tr_1 : n0 ≤ tr_1 := Nat.le_trans Z0 htr_1
    refine ov (B := T1.setTop (mkF m 16 #[iv ll, iv cc, iv dd] [(.ref r_1)])) (fun t k => st1 t k) ?_
    refine own_leaf X1 hx hlk (t := (.object sAB)) Bd.returns rfl (Or.inr (Or.inr (Or.inr (Or.inr ⟨rfl, rfl, rfl⟩)))) (hb hby own_d2_16) (by decide) (by decide) ?_
    show QSB Z ll cc dd zc h0 n0 _ T1.heap _
    refine ⟨r_1, tr_1, kr_1, ?_, N1, ((Keep.refl h0 []).trans Kq1 all0), ?_, ?_, f1_0, f1_1, f1_2, (by unfold own_s3; rw [if_pos hc1, if_pos hc9]; exact f1_3)⟩
    · rfl
    · exact hr_1
    · exact htr_1
  · refine ov (B := s₁.setTop (mkF m 17 #[iv ll, iv cc, iv dd] [])) (fun t k => XS.icmpYes X0.here hx rfl (pc0 := 9) (pc' := 17) rfl (hb hby own_d2_9) rfl (feq hc9).2 (by decide) (by decide) k) ?_
    obtain ⟨T2, h2, X2, e2, E2, A2, D2, -, st2⟩ := newO X0 hx hZ hown (oW hw 117 rfl) (oW hw 10 rfl) (oW hw 9 rfl) e0 (g := (mkF m 17 #[iv ll, iv cc, iv dd] [])) rfl (hb hby own_d2_17) (by decide) (by decide)
    obtain ⟨b2, g2⟩ : ∃ z, z = h0.size := ⟨_, rfl⟩
    rw [← g2] at A2 D2 st2
    have g_b2 : n0 ≤ b2 := Nat.le_trans Z0 (Nat.le_of_eq g2.symm)
    have F2_value : Fld Z h2 b2 sAB "value" "[B" .null := D2 (Or.inr (oW hw 12 rfl)) (ty := (.array .byte)) (by decide)
    have F2_coder : Fld Z h2 b2 sAB "coder" "B" (.int (0 : Int32)) := D2 (Or.inr (oW hw 13 rfl)) (ty := .byte) (by decide)
    refine ov (B := T2.setTop (mkF m 20 #[iv ll, iv cc, iv dd] [(.ref b2)])) (fun t k => st2 t k) ?_
    refine oDU (n := 21) X2 hx (hb hby own_d2_20) rfl rfl ?_
    refine oIC (n := 22) X2 hx (2 : Int32) (hb hby own_d2_21) (by decide) rfl ?_
    obtain ⟨T3, h3, kc3, X3, e3, E3, A3, st3⟩ := newP X2 hx hZ (oW hw 118 rfl) e2 (g := (mkF m 22 #[iv ll, iv cc, iv dd] [(.int (2 : Int32)), (.ref b2), (.ref b2)])) rfl (hb hby own_d2_22) rfl (by decide) (cap := 2) (by decide) (by decide) (by decide) (by decide)
    obtain ⟨b3, g3⟩ : ∃ z, z = h2.size := ⟨_, rfl⟩
    rw [← g3] at A3 st3
    have g_b3 : n0 ≤ b3 := Nat.le_trans (Nat.le_trans Z0 E2.1) (Nat.le_of_eq g3.symm)
    have V3 : Arv Z h3 b3 kc3 .char (2 : Int32) [(.int (0 : Int32)), (.int (0 : Int32))] (.int (0 : Int32)) := (Arv.new A3 (by decide)).pad (pad_rep [] (.int (0 : Int32)) 2)
    refine ov (B := T3.setTop (mkF m 24 #[iv ll, iv cc, iv dd] [(.ref b3), (.ref b2), (.ref b2)])) (fun t k => st3 t k) ?_
    refine oDU (n := 25) X3 hx (hb hby own_d2_24) rfl rfl ?_
    refine oIC (n := 26) X3 hx (0 : Int32) (hb hby own_d2_25) (by decide) rfl ?_
    refine oILN (n := 27) X3 hx (hb hby own_d2_26) rfl rfl ?_
    obtain ⟨cl4, Ar4, q4, S4, M4, H4, G4⟩ := id V3
    obtain ⟨T5, h5, X5, e5, W5, st5⟩ := stC X3 hx hZ e3 Ar4 (j := (0 : Int32)) (inb_of S4 ⟨by decide, by decide⟩) (g := (mkF m 27 #[iv ll, iv cc, iv dd] [(.int cc), (.int (0 : Int32)), (.ref b3), (.ref b3), (.ref b2), (.ref b2)])) rfl rfl (hb hby own_d2_27)
    have V5 : Arv Z h5 b3 kc3 .char (2 : Int32) [(.int cc), (.int (0 : Int32))] (.int (0 : Int32)) := by have q := Arv.set Ar4 q4 S4 M4 H4 G4 (fits_nar_char _) W5 0 rfl (Nat.le_of_ble_eq_true rfl); rw [own_nc hc] at q; exact q
    have N5 := Fr.snoc X5 N0 g_b3
    refine ov (B := T5.setTop (mkF m 28 #[iv ll, iv cc, iv dd] [(.ref b3), (.ref b2), (.ref b2)])) (fun t k => st5 t k) ?_
    refine oDU (n := 29) X5 hx (hb hby own_d2_28) rfl rfl ?_
    refine oIC (n := 30) X5 hx (1 : Int32) (hb hby own_d2_29) (by decide) rfl ?_
    refine oILN (n := 31) X5 hx (hb hby own_d2_30) rfl rfl ?_
    obtain ⟨cl6, Ar6, q6, S6, M6, H6, G6⟩ := id V5
    obtain ⟨T7, h7, X7, e7, W7, st7⟩ := stC X5 hx hZ e5 Ar6 (j := (1 : Int32)) (inb_of S6 ⟨by decide, by decide⟩) (g := (mkF m 31 #[iv ll, iv cc, iv dd] [(.int dd), (.int (1 : Int32)), (.ref b3), (.ref b3), (.ref b2), (.ref b2)])) rfl rfl (hb hby own_d2_31)
    have V7 : Arv Z h7 b3 kc3 .char (2 : Int32) [(.int cc), (.int dd)] (.int (0 : Int32)) := by have q := Arv.set Ar6 q6 S6 M6 H6 G6 (fits_nar_char _) W7 1 rfl (Nat.le_of_ble_eq_true rfl); rw [own_nc hd] at q; exact q
    have N7 := Fr.snoc X7 N5 g_b3
    refine ov (B := T7.setTop (mkF m 32 #[iv ll, iv cc, iv dd] [(.ref b3), (.ref b2), (.ref b2)])) (fun t k => st7 t k) ?_
    obtain ⟨_, _, ⟨T8, L8, k8, n8⟩, -, X8, ⟨Lc8, hQ8, l8, y8, z8⟩, st8⟩ := X7.specialBack hx (y := (⟨sAB, "<init>", "([C)V"⟩ : MethodName)) rfl hown (mvT hZ (oW hw 119 rfl)) (mvT hZ (oW hw 120 rfl)) (mvT hZ (oW hw 121 rfl)) (by decide) (StrChars.Road.backV (W := 1) hZ hws (kI := 4) (oW hw 10 rfl) (cs := ([cc, dd] : List Int32)) (bs := ([cc, dd] : List Int32).map (fun c => c.toInt8.toInt32)) (n := 2) g_b2 (Nat.le_trans (Nat.le_trans (Nat.le_trans (Nat.le_trans Z0 E2.1) E3.1) (Keep.of_wr W5).1) (Keep.of_wr W7).1) (((A2.ext E3).wr W5).wr W7) (((F2_value.ext E3).other W5 (Or.inl (Nat.ne_of_lt (Nat.lt_of_lt_of_le A2.lt (Nat.le_of_eq g3.symm))))).other W7 (Or.inl (Nat.ne_of_lt (Nat.lt_of_lt_of_le A2.lt (Nat.le_of_eq g3.symm))))) (((F2_coder.ext E3).other W5 (Or.inl (Nat.ne_of_lt (Nat.lt_of_lt_of_le A2.lt (Nat.le_of_eq g3.symm))))).other W7 (Or.inl (Nat.ne_of_lt (Nat.lt_of_lt_of_le A2.lt (Nat.le_of_eq g3.symm))))) V7 (Scz.ext ((((O0.ext E2).ext E3).wr W5 g_b3).wr W7 g_b3).2) hcz rfl rfl (by decide) (by decide) (own_cs2 hc hd) rfl (by decide) (by decide)) (g := (mkF m 32 #[iv ll, iv cc, iv dd] [(.ref b3), (.ref b2), (.ref b2)])) rfl (by rw [hml]; rfl) (Steps.refl _) (a := b2) (argsL := [(.ref b3)]) (rest := [(.ref b2)]) (lenOf own_pd4 rfl) rfl (by show 2 * 0 + _ ≤ _; exact Nat.le_of_eq rfl) (hb hby own_d2_32) (fun _ _ => ⟨rfl, e7, (by decide : ((0 + 1) + 1) + 1 ≤ _), (by decide : ((0 + 4) + 2) + 2 ≤ _)⟩)
    dsimp only [Pt.U, Pt.locs, Pt.cells, Pt.slots] at X8 l8 y8 z8 st8 hQ8
    subst l8 y8 z8
    obtain ⟨rfl, Nq8, Kq8, gE8, gC8, t8, kt8, u8, su8, ne8, gV8, gA8⟩ := hQ8
    have N8 := Fr.app N7 Nq8
    have g_t8 : n0 ≤ t8 := u8
    refine ov (B := T8.setTop (mkF m 35 #[iv ll, iv cc, iv dd] [(.ref b2)])) (fun t k => st8.trans k) ?_
    refine own_leaf X8 hx hlk (t := (.object sAB)) Bd.returns rfl (Or.inr (Or.inr (Or.inr (Or.inr ⟨rfl, rfl, rfl⟩)))) (hb hby own_d2_35) (by decide) (by decide) ?_
    show QSB Z ll cc dd zc h0 n0 _ T8.heap _
    refine ⟨b2, t8, kt8, ?_, N8, ((((((Keep.refl h0 []).ext E2).ext E3).wr W5 (Or.inr (Nat.le_trans (Nat.le_trans (Nat.le_refl _) E2.1) (Nat.le_of_eq g3.symm)))).wr W7 (Or.inr (Nat.le_trans (Nat.le_trans (Nat.le_refl _) E2.1) (Nat.le_of_eq g3.symm)))).trans Kq8 (allS (Or.inr (Nat.le_of_eq g2.symm)) all0)), ?_, ?_, ((((A2.ext E3).wr W5).wr W7).keep Kq8), gC8, gV8, (by unfold own_s3; rw [if_pos hc1, if_neg hc9]; exact gA8)⟩
    · rfl
    · exact (Nat.le_of_eq g2.symm)
    · exact (Nat.le_trans (Nat.le_trans (Nat.le_trans (Nat.le_trans (Nat.le_trans (Nat.le_refl _) E2.1) E3.1) (Keep.of_wr W5).1) (Keep.of_wr W7).1) su8)
theorem own_pn4 : plainName "com/example/wardstone/wardstone/request/Requester" = true := by first | (simp [plainName, overriddenIn]; done) | decide +kernel
theorem own_d11_0 : decode prog_50_method_9_code 0 = .ok (.aload_n 1, 1) := by decide +kernel
theorem own_d11_1 : decode prog_50_method_9_code 1 = .ok (.ifnull 24, 3) := by decide +kernel
theorem own_d11_25 : decode prog_50_method_9_code 25 = .ok (.return_, 1) := by decide +kernel
theorem own_efN0 (m : MethodId) (x0 : Addr) : entryFrame m #[(.ref x0), .null] 2 = mkF m 0 #[rv x0, .val .null] [] := by first | (simp [entryFrame, mkF, argsToLocals, Value.category]; done) | rfl
def QN0 (Z : State) (n3 : Addr) (h0 : Heap) (n0 : Nat) (v : Option Value) (h : Heap) (L : List Loc) : Prop := v = none ∧ Fr n0 L ∧ h = h0
set_option maxRecDepth 65536 in
set_option maxHeartbeats 40000000 in
theorem rmN0 (l : Launch) (Z : State) (a0 : Array Value) (hw : ∀ d ∈ tables_1, d.before a0 Z = true) (ws : List Jvm.Cond) (n3 : Addr) (h0 : Heap) (n0 : Nat) (Z0 : n0 ≤ h0.size) :
    MetFree l (⟨sAA, "requireNonEmpty", sAN⟩ : MethodName) (head1 (Jvm.Cond.code (⟨sAA, "requireNonEmpty", sAN⟩ : MethodName) prog_50_method_9_code 2 none :: ws) ({ frames := 1, cells := 0, slots := 0, locals := 12 } : Room)) (fun a U => a = #[(.ref n3), .null] ∧ Z.Warmed39 U.vm ∧ U.heap = h0) (fun _ _ _ _ _ => True) (fun _ U o U' => ∃ v L, o = .returned v ∧ QN0 Z n3 h0 n0 v U'.heap L ∧ FrameEnd U o U' L ({ frames := 1, cells := 0, slots := 0, locals := 12 } : Room).cells ({ frames := 1, cells := 0, slots := 0, locals := 12 } : Room).slots) := by
  refine MetFree.of_bodySF (plainFor_of_name own_pn4) hisR ?_
  intro p e s m args below meth c s₁ Bd hml0 hP hK
  obtain ⟨rfl, hZ, hh⟩ := hP
  have hx := Bd.exec
  have hby := Bd.bytes
  have hlk : meth.locks = false := Bd.notSynchronized
  have hml : c.maxLocals = 2 := hml0
  have hown : s.vm.findClass sAA = some m.cls := findClass_of_methodNamed Bd.named
  have hnm := (name_of_methodNamed Bd.named Bd.method).1
  have X0 : Stand p l e ({ frames := 1, cells := 0, slots := 0, locals := 12 } : Room) s m #[(.ref n3), .null] below meth c s₁ [] 0 0 := Stand.of_body Bd
  have e0 : s₁.heap = h0 := by rw [← hh, Bd.state]; rfl
  have N0 := Fr.nil n0
  refine own_body (A := s₁.setTop (mkF m 0 #[rv n3, .val .null] [])) (Q := QN0 Z n3 h0 n0) (fun t k => castTop (own_efN0 m n3) k) ?_
  refine oALN (n := 1) X0 hx (hb hby own_d11_0) rfl rfl rfl ?_
  refine ov (B := s₁.setTop (mkF m 25 #[rv n3, .val .null] [])) (fun t k => XS.ifnullYes X0.here hx rfl (pc0 := 1) (pc' := 25) rfl (hb hby own_d11_1) rfl (by decide) (by decide) k) ?_
  refine own_leafV X0 hx hlk Bd.returns (hb hby own_d11_25) (by decide) (by decide) ?_
  show QN0 Z n3 h0 n0 _ s₁.heap _
  rw [e0]
  refine ⟨?_, N0, rfl⟩
  rfl
theorem own_pd5 : parseMethodDescriptor "()Z" = some ⟨[], some .boolean⟩ := by decide +kernel
theorem own_d11_4 : decode prog_50_method_9_code 4 = .ok (.aload_n 1, 1) := by decide +kernel
theorem own_d11_5 : decode prog_50_method_9_code 5 = .ok (.invokevirtual 129, 3) := by decide +kernel
theorem own_d11_8 : decode prog_50_method_9_code 8 = .ok (.ifCond .eq 17, 3) := by decide +kernel
theorem own_efN1 (m : MethodId) (x0 : Addr) (x1 : Addr) : entryFrame m #[(.ref x0), (.ref x1)] 2 = mkF m 0 #[rv x0, rv x1] [] := by first | (simp [entryFrame, mkF, argsToLocals, Value.category]; done) | rfl
def QN1 (Z : State) (n3 : Addr) (v3 : Addr) (t_v3 : Addr) (k_v3 : ClassId) (cs_v3 : List Int32) (h0 : Heap) (n0 : Nat) (v : Option Value) (h : Heap) (L : List Loc) : Prop := v = none ∧ Fr n0 L ∧ h = h0
set_option maxRecDepth 65536 in
set_option maxHeartbeats 40000000 in
theorem rmN1 (l : Launch) (Z : State) (a0 : Array Value) (hw : ∀ d ∈ tables_1, d.before a0 Z = true) (ws : List Jvm.Cond) (n3 : Addr) (v3 : Addr) (t_v3 : Addr) (k_v3 : ClassId) (cs_v3 : List Int32) (h0 : Heap) (n0 : Nat) (Z0 : n0 ≤ h0.size) (SE_v3 : Exa Z h0 v3 sAB) (SC_v3 : Fld Z h0 v3 sAB "coder" "B" (.int (0 : Int32))) (SV_v3 : Fld Z h0 v3 sAB "value" "[B" (.ref t_v3)) (SA_v3 : Arv Z h0 t_v3 k_v3 .byte (Int32.ofNat cs_v3.length) ((cs_v3.map StrChars.lo8).map Value.int) (.int 0)) (Sp_v3 : ∀ c ∈ cs_v3, ¬ c < 0 ∧ ¬ (255 : Int32) < c) (Sl_v3 : 0 < cs_v3.length ∧ cs_v3.length ≤ 4000) :
    MetFree l (⟨sAA, "requireNonEmpty", sAN⟩ : MethodName) (head1 (Jvm.Cond.code (⟨sAA, "requireNonEmpty", sAN⟩ : MethodName) prog_50_method_9_code 2 none :: ws) ({ frames := 1, cells := 0, slots := 0, locals := 12 } : Room)) (fun a U => a = #[(.ref n3), (.ref v3)] ∧ Z.Warmed39 U.vm ∧ U.heap = h0) (fun _ _ _ _ _ => True) (fun _ U o U' => ∃ v L, o = .returned v ∧ QN1 Z n3 v3 t_v3 k_v3 cs_v3 h0 n0 v U'.heap L ∧ FrameEnd U o U' L ({ frames := 1, cells := 0, slots := 0, locals := 12 } : Room).cells ({ frames := 1, cells := 0, slots := 0, locals := 12 } : Room).slots) := by
  refine MetFree.of_bodySF (plainFor_of_name own_pn4) hisR ?_
  intro p e s m args below meth c s₁ Bd hml0 hP hK
  obtain ⟨rfl, hZ, hh⟩ := hP
  have hx := Bd.exec
  have hby := Bd.bytes
  have hlk : meth.locks = false := Bd.notSynchronized
  have hml : c.maxLocals = 2 := hml0
  have hown : s.vm.findClass sAA = some m.cls := findClass_of_methodNamed Bd.named
  have hnm := (name_of_methodNamed Bd.named Bd.method).1
  have X0 : Stand p l e ({ frames := 1, cells := 0, slots := 0, locals := 12 } : Room) s m #[(.ref n3), (.ref v3)] below meth c s₁ [] 0 0 := Stand.of_body Bd
  have e0 : s₁.heap = h0 := by rw [← hh, Bd.state]; rfl
  have N0 := Fr.nil n0
  refine own_body (A := s₁.setTop (mkF m 0 #[rv n3, rv v3] [])) (Q := QN1 Z n3 v3 t_v3 k_v3 cs_v3 h0 n0) (fun t k => castTop (own_efN1 m n3 v3) k) ?_
  have hwe : ∀ d ∈ StrChars.Road.wordsEmp, d.before a0 Z = true := fun d hd => hw d ((by decide +kernel : ∀ d ∈ StrChars.Road.wordsEmp, d ∈ tables_1) d hd)
  refine oALN (n := 1) X0 hx (hb hby own_d11_0) rfl rfl rfl ?_
  refine ov (B := s₁.setTop (mkF m 4 #[rv n3, rv v3] [])) (fun t k => XS.ifnullNo X0.here hx rfl (hb hby own_d11_1) rfl k) ?_
  refine oALN (n := 5) X0 hx (hb hby own_d11_4) rfl rfl rfl ?_
  obtain ⟨cq1, kq1, q1a, q1b, q1c⟩ := isOf hZ e0 SE_v3
  obtain ⟨_, _, ⟨T1, L1, k1, n1⟩, -, X1, ⟨Lc1, hQ1, l1, y1, z1⟩, st1⟩ := X0.virtualBack hx (y := (⟨sAB, "isEmpty", "()Z"⟩ : MethodName)) (z := (⟨sAB, "isEmpty", "()Z"⟩ : MethodName)) hown (mvT hZ (oW hw 67 rfl)) (mvT hZ (oW hw 68 rfl)) (notFace_of_selects (args := #[]) (mvT hZ (oW hw 70 rfl))) (mvT hZ (oW hw 70 rfl)) (mvT hZ (oW hw 69 rfl)) (by decide) (StrChars.Road.empW (W := 0) hZ hwe (kI := 4) (oW hw 10 rfl) SE_v3 SV_v3 SC_v3 SA_v3 (StrChars.Road.codOf rfl (fun c hc => (Sp_v3 c hc).2)) (own_up255 Sp_v3) (Sl_v3).2 (by decide) (by decide)) q1a q1c (g := (mkF m 5 #[rv n3, rv v3] [(.ref v3)])) rfl (by rw [hml]; rfl) (Steps.refl _) (argsL := []) (rest := []) (lenOf own_pd5 rfl) rfl (by show 2 * 0 + _ ≤ _; exact Nat.le_of_eq rfl) (hb hby own_d11_5) (fun _ _ => ⟨rfl, e0, (by decide : 0 + 0 ≤ _), (by decide : 0 + 0 ≤ _)⟩)
  dsimp only [Pt.U, Pt.locs, Pt.cells, Pt.slots] at X1 l1 y1 z1 st1 hQ1
  subst l1 y1 z1
  obtain ⟨rfl, rfl, eq1⟩ := hQ1
  have N1 := Fr.app N0 (Fr.nil n0)
  refine ov (B := T1.setTop (mkF m 8 #[rv n3, rv v3] [(.int (if cs_v3.length = 0 then 1 else 0))])) (fun t k => st1.trans k) ?_
  have hc8 : (if cs_v3.length = 0 then 1 else 0) = (0 : Int32) := if_neg (Nat.ne_of_gt Sl_v3.1)
  refine ov (B := T1.setTop (mkF m 25 #[rv n3, rv v3] [])) (fun t k => XS.ifYes X1.here hx rfl (pc0 := 8) (pc' := 25) rfl (hb hby own_d11_8) rfl ((if0 _ _).trans (teq hc8).1) (by decide) (by decide) k) ?_
  refine own_leafV X1 hx hlk Bd.returns (hb hby own_d11_25) (by decide) (by decide) ?_
  show QN1 Z n3 v3 t_v3 k_v3 cs_v3 h0 n0 _ T1.heap _
  rw [eq1]
  refine ⟨?_, N1, rfl⟩
  rfl
theorem own_pd6 : parseMethodDescriptor "()V" = some ⟨[], none⟩ := by decide +kernel
theorem own_pd7 : parseMethodDescriptor sAN = some ⟨[(.object sAB), (.object sAB)], none⟩ := by decide +kernel
theorem own_d9_0 : decode prog_50_method_1_code 0 = .ok (.aload_n 0, 1) := by decide +kernel
theorem own_d9_1 : decode prog_50_method_1_code 1 = .ok (.invokespecial 1, 3) := by decide +kernel
theorem own_d9_4 : decode prog_50_method_1_code 4 = .ok (.aload_n 1, 1) := by decide +kernel
theorem own_d9_5 : decode prog_50_method_1_code 5 = .ok (.ifnonnull 13, 3) := by decide +kernel
theorem own_d9_18 : decode prog_50_method_1_code 18 = .ok (.aload_n 1, 1) := by decide +kernel
theorem own_d9_19 : decode prog_50_method_1_code 19 = .ok (.getstatic 14, 3) := by decide +kernel
theorem own_d9_22 : decode prog_50_method_1_code 22 = .ok (.if_acmp .ne 7, 3) := by decide +kernel
theorem own_d9_29 : decode prog_50_method_1_code 29 = .ok (.iconst 0, 1) := by decide +kernel
theorem own_d9_30 : decode prog_50_method_1_code 30 = .ok (.istore 9, 2) := by decide +kernel
theorem own_d9_32 : decode prog_50_method_1_code 32 = .ok (.aload_n 2, 1) := by decide +kernel
theorem own_d9_33 : decode prog_50_method_1_code 33 = .ok (.ifnull 7, 3) := by decide +kernel
theorem own_d9_36 : decode prog_50_method_1_code 36 = .ok (.iconst 1, 1) := by decide +kernel
theorem own_d9_37 : decode prog_50_method_1_code 37 = .ok (.goto 4, 3) := by decide +kernel
theorem own_d9_41 : decode prog_50_method_1_code 41 = .ok (.aload_n 1, 1) := by decide +kernel
theorem own_d9_42 : decode prog_50_method_1_code 42 = .ok (.getstatic 20, 3) := by decide +kernel
theorem own_d9_45 : decode prog_50_method_1_code 45 = .ok (.if_acmp .eq 14, 3) := by decide +kernel
theorem own_d9_48 : decode prog_50_method_1_code 48 = .ok (.aload_n 1, 1) := by decide +kernel
theorem own_d9_49 : decode prog_50_method_1_code 49 = .ok (.getstatic 23, 3) := by decide +kernel
theorem own_d9_52 : decode prog_50_method_1_code 52 = .ok (.if_acmp .eq 7, 3) := by decide +kernel
theorem own_d9_55 : decode prog_50_method_1_code 55 = .ok (.iconst 1, 1) := by decide +kernel
theorem own_d9_56 : decode prog_50_method_1_code 56 = .ok (.goto 4, 3) := by decide +kernel
theorem own_d9_60 : decode prog_50_method_1_code 60 = .ok (.if_icmp .ne 7, 3) := by decide +kernel
theorem own_d9_63 : decode prog_50_method_1_code 63 = .ok (.iconst 1, 1) := by decide +kernel
theorem own_d9_64 : decode prog_50_method_1_code 64 = .ok (.goto 4, 3) := by decide +kernel
theorem own_d9_68 : decode prog_50_method_1_code 68 = .ok (.istore 10, 2) := by decide +kernel
theorem own_d9_70 : decode prog_50_method_1_code 70 = .ok (.iload 10, 2) := by decide +kernel
theorem own_d9_72 : decode prog_50_method_1_code 72 = .ok (.aload_n 3, 1) := by decide +kernel
theorem own_d9_73 : decode prog_50_method_1_code 73 = .ok (.ifnonnull 8, 3) := by decide +kernel
theorem own_d9_76 : decode prog_50_method_1_code 76 = .ok (.aload 4, 2) := by decide +kernel
theorem own_d9_78 : decode prog_50_method_1_code 78 = .ok (.ifnull 7, 3) := by decide +kernel
theorem own_d9_85 : decode prog_50_method_1_code 85 = .ok (.iconst 0, 1) := by decide +kernel
theorem own_d9_86 : decode prog_50_method_1_code 86 = .ok (.aload_n 1, 1) := by decide +kernel
theorem own_d9_87 : decode prog_50_method_1_code 87 = .ok (.getstatic 26, 3) := by decide +kernel
theorem own_d9_90 : decode prog_50_method_1_code 90 = .ok (.if_acmp .ne 7, 3) := by decide +kernel
theorem own_d9_97 : decode prog_50_method_1_code 97 = .ok (.iconst 0, 1) := by decide +kernel
theorem own_d9_98 : decode prog_50_method_1_code 98 = .ok (.if_icmp .ne 7, 3) := by decide +kernel
theorem own_d9_101 : decode prog_50_method_1_code 101 = .ok (.iconst 1, 1) := by decide +kernel
theorem own_d9_102 : decode prog_50_method_1_code 102 = .ok (.goto 4, 3) := by decide +kernel
theorem own_d9_106 : decode prog_50_method_1_code 106 = .ok (.iand, 1) := by decide +kernel
theorem own_d9_107 : decode prog_50_method_1_code 107 = .ok (.istore 10, 2) := by decide +kernel
theorem own_d9_109 : decode prog_50_method_1_code 109 = .ok (.iload 10, 2) := by decide +kernel
theorem own_d9_111 : decode prog_50_method_1_code 111 = .ok (.aload 5, 2) := by decide +kernel
theorem own_d9_113 : decode prog_50_method_1_code 113 = .ok (.ifnull 7, 3) := by decide +kernel
theorem own_d9_120 : decode prog_50_method_1_code 120 = .ok (.iconst 0, 1) := by decide +kernel
theorem own_d9_121 : decode prog_50_method_1_code 121 = .ok (.aload_n 1, 1) := by decide +kernel
theorem own_d9_122 : decode prog_50_method_1_code 122 = .ok (.getstatic 29, 3) := by decide +kernel
theorem own_d9_125 : decode prog_50_method_1_code 125 = .ok (.if_acmp .ne 7, 3) := by decide +kernel
theorem own_d9_132 : decode prog_50_method_1_code 132 = .ok (.iconst 0, 1) := by decide +kernel
theorem own_d9_133 : decode prog_50_method_1_code 133 = .ok (.if_icmp .ne 7, 3) := by decide +kernel
theorem own_d9_136 : decode prog_50_method_1_code 136 = .ok (.iconst 1, 1) := by decide +kernel
theorem own_d9_137 : decode prog_50_method_1_code 137 = .ok (.goto 4, 3) := by decide +kernel
theorem own_d9_141 : decode prog_50_method_1_code 141 = .ok (.iand, 1) := by decide +kernel
theorem own_d9_142 : decode prog_50_method_1_code 142 = .ok (.istore 10, 2) := by decide +kernel
theorem own_d9_144 : decode prog_50_method_1_code 144 = .ok (.iload 10, 2) := by decide +kernel
theorem own_d9_146 : decode prog_50_method_1_code 146 = .ok (.aload 6, 2) := by decide +kernel
theorem own_d9_148 : decode prog_50_method_1_code 148 = .ok (.ifnull 7, 3) := by decide +kernel
theorem own_d9_155 : decode prog_50_method_1_code 155 = .ok (.iconst 0, 1) := by decide +kernel
theorem own_d9_156 : decode prog_50_method_1_code 156 = .ok (.iload 9, 2) := by decide +kernel
theorem own_d9_158 : decode prog_50_method_1_code 158 = .ok (.if_icmp .ne 22, 3) := by decide +kernel
theorem own_d9_161 : decode prog_50_method_1_code 161 = .ok (.aload 7, 2) := by decide +kernel
theorem own_d9_163 : decode prog_50_method_1_code 163 = .ok (.ifnull 7, 3) := by decide +kernel
theorem own_d9_170 : decode prog_50_method_1_code 170 = .ok (.iconst 0, 1) := by decide +kernel
theorem own_d9_171 : decode prog_50_method_1_code 171 = .ok (.iload 9, 2) := by decide +kernel
theorem own_d9_173 : decode prog_50_method_1_code 173 = .ok (.if_icmp .ne 7, 3) := by decide +kernel
theorem own_d9_176 : decode prog_50_method_1_code 176 = .ok (.iconst 1, 1) := by decide +kernel
theorem own_d9_177 : decode prog_50_method_1_code 177 = .ok (.goto 4, 3) := by decide +kernel
theorem own_d9_181 : decode prog_50_method_1_code 181 = .ok (.iand, 1) := by decide +kernel
theorem own_d9_182 : decode prog_50_method_1_code 182 = .ok (.istore 10, 2) := by decide +kernel
theorem own_d9_184 : decode prog_50_method_1_code 184 = .ok (.iload 10, 2) := by decide +kernel
theorem own_d9_186 : decode prog_50_method_1_code 186 = .ok (.aload 8, 2) := by decide +kernel
theorem own_d9_188 : decode prog_50_method_1_code 188 = .ok (.ifnull 7, 3) := by decide +kernel
theorem own_d9_195 : decode prog_50_method_1_code 195 = .ok (.iconst 0, 1) := by decide +kernel
theorem own_d9_196 : decode prog_50_method_1_code 196 = .ok (.aload_n 1, 1) := by decide +kernel
theorem own_d9_197 : decode prog_50_method_1_code 197 = .ok (.getstatic 23, 3) := by decide +kernel
theorem own_d9_200 : decode prog_50_method_1_code 200 = .ok (.if_acmp .ne 7, 3) := by decide +kernel
theorem own_d9_207 : decode prog_50_method_1_code 207 = .ok (.iconst 0, 1) := by decide +kernel
theorem own_d9_208 : decode prog_50_method_1_code 208 = .ok (.if_icmp .ne 7, 3) := by decide +kernel
theorem own_d9_211 : decode prog_50_method_1_code 211 = .ok (.iconst 1, 1) := by decide +kernel
theorem own_d9_212 : decode prog_50_method_1_code 212 = .ok (.goto 4, 3) := by decide +kernel
theorem own_d9_216 : decode prog_50_method_1_code 216 = .ok (.iand, 1) := by decide +kernel
theorem own_d9_217 : decode prog_50_method_1_code 217 = .ok (.istore 10, 2) := by decide +kernel
theorem own_d9_219 : decode prog_50_method_1_code 219 = .ok (.iload 10, 2) := by decide +kernel
theorem own_d9_221 : decode prog_50_method_1_code 221 = .ok (.ifCond .ne 15, 3) := by decide +kernel
theorem own_d9_236 : decode prog_50_method_1_code 236 = .ok (.ldc 38, 2) := by decide +kernel
theorem own_d9_238 : decode prog_50_method_1_code 238 = .ok (.aload_n 2, 1) := by decide +kernel
theorem own_d9_239 : decode prog_50_method_1_code 239 = .ok (.invokestatic 40, 3) := by decide +kernel
theorem own_d9_242 : decode prog_50_method_1_code 242 = .ok (.ldc 44, 2) := by decide +kernel
theorem own_d9_244 : decode prog_50_method_1_code 244 = .ok (.aload_n 3, 1) := by decide +kernel
theorem own_d9_245 : decode prog_50_method_1_code 245 = .ok (.invokestatic 40, 3) := by decide +kernel
theorem own_d9_248 : decode prog_50_method_1_code 248 = .ok (.ldc 46, 2) := by decide +kernel
theorem own_d9_250 : decode prog_50_method_1_code 250 = .ok (.aload 4, 2) := by decide +kernel
theorem own_d9_252 : decode prog_50_method_1_code 252 = .ok (.invokestatic 40, 3) := by decide +kernel
theorem own_d9_255 : decode prog_50_method_1_code 255 = .ok (.ldc 48, 2) := by decide +kernel
theorem own_d9_257 : decode prog_50_method_1_code 257 = .ok (.aload 5, 2) := by decide +kernel
theorem own_d9_259 : decode prog_50_method_1_code 259 = .ok (.invokestatic 40, 3) := by decide +kernel
theorem own_d9_262 : decode prog_50_method_1_code 262 = .ok (.ldc 50, 2) := by decide +kernel
theorem own_d9_264 : decode prog_50_method_1_code 264 = .ok (.aload 6, 2) := by decide +kernel
theorem own_d9_266 : decode prog_50_method_1_code 266 = .ok (.invokestatic 40, 3) := by decide +kernel
theorem own_d9_269 : decode prog_50_method_1_code 269 = .ok (.ldc 52, 2) := by decide +kernel
theorem own_d9_271 : decode prog_50_method_1_code 271 = .ok (.aload 8, 2) := by decide +kernel
theorem own_d9_273 : decode prog_50_method_1_code 273 = .ok (.invokestatic 40, 3) := by decide +kernel
theorem own_d9_276 : decode prog_50_method_1_code 276 = .ok (.aload 7, 2) := by decide +kernel
theorem own_d9_278 : decode prog_50_method_1_code 278 = .ok (.ifnull 51, 3) := by decide +kernel
theorem own_d9_329 : decode prog_50_method_1_code 329 = .ok (.aload_n 0, 1) := by decide +kernel
theorem own_d9_330 : decode prog_50_method_1_code 330 = .ok (.aload_n 1, 1) := by decide +kernel
theorem own_d9_331 : decode prog_50_method_1_code 331 = .ok (.putfield 78, 3) := by decide +kernel
theorem own_d9_334 : decode prog_50_method_1_code 334 = .ok (.aload_n 0, 1) := by decide +kernel
theorem own_d9_335 : decode prog_50_method_1_code 335 = .ok (.aload_n 2, 1) := by decide +kernel
theorem own_d9_336 : decode prog_50_method_1_code 336 = .ok (.putfield 81, 3) := by decide +kernel
theorem own_d9_339 : decode prog_50_method_1_code 339 = .ok (.aload_n 0, 1) := by decide +kernel
theorem own_d9_340 : decode prog_50_method_1_code 340 = .ok (.aload_n 3, 1) := by decide +kernel
theorem own_d9_341 : decode prog_50_method_1_code 341 = .ok (.putfield 84, 3) := by decide +kernel
theorem own_d9_344 : decode prog_50_method_1_code 344 = .ok (.aload_n 0, 1) := by decide +kernel
theorem own_d9_345 : decode prog_50_method_1_code 345 = .ok (.aload 4, 2) := by decide +kernel
theorem own_d9_347 : decode prog_50_method_1_code 347 = .ok (.putfield 87, 3) := by decide +kernel
theorem own_d9_350 : decode prog_50_method_1_code 350 = .ok (.aload_n 0, 1) := by decide +kernel
theorem own_d9_351 : decode prog_50_method_1_code 351 = .ok (.aload 5, 2) := by decide +kernel
theorem own_d9_353 : decode prog_50_method_1_code 353 = .ok (.putfield 89, 3) := by decide +kernel
theorem own_d9_356 : decode prog_50_method_1_code 356 = .ok (.aload_n 0, 1) := by decide +kernel
theorem own_d9_357 : decode prog_50_method_1_code 357 = .ok (.aload 6, 2) := by decide +kernel
theorem own_d9_359 : decode prog_50_method_1_code 359 = .ok (.putfield 91, 3) := by decide +kernel
theorem own_d9_362 : decode prog_50_method_1_code 362 = .ok (.aload_n 0, 1) := by decide +kernel
theorem own_d9_363 : decode prog_50_method_1_code 363 = .ok (.aload 7, 2) := by decide +kernel
theorem own_d9_365 : decode prog_50_method_1_code 365 = .ok (.putfield 93, 3) := by decide +kernel
theorem own_d9_368 : decode prog_50_method_1_code 368 = .ok (.aload_n 0, 1) := by decide +kernel
theorem own_d9_369 : decode prog_50_method_1_code 369 = .ok (.aload 8, 2) := by decide +kernel
theorem own_d9_371 : decode prog_50_method_1_code 371 = .ok (.putfield 97, 3) := by decide +kernel
theorem own_d9_374 : decode prog_50_method_1_code 374 = .ok (.return_, 1) := by decide +kernel
theorem own_efQ1snnnnnn (m : MethodId) (x0 : Addr) (x1 : Addr) (x2 : Addr) : entryFrame m #[(.ref x0), (.ref x1), (.ref x2), .null, .null, .null, .null, .null, .null] 13 = mkF m 0 #[rv x0, rv x1, rv x2, .val .null, .val .null, .val .null, .val .null, .val .null, .val .null, uu, uu, uu, uu] [] := by first | (simp [entryFrame, mkF, argsToLocals, Value.category]; done) | rfl
def QQ1snnnnnn (Z : State) (a4 : Addr) (w1 : Addr) (ac : Addr) (w0 : Addr) (w2 : Addr) (w3 : Addr) (w4 : Addr) (w5 : Addr) (u0 : Value) (u1 : Value) (u2 : Value) (u3 : Value) (u4 : Value) (u5 : Value) (u6 : Value) (u7 : Value) (t_ac : Addr) (k_ac : ClassId) (cs_ac : List Int32) (h0 : Heap) (n0 : Nat) (v : Option Value) (h : Heap) (L : List Loc) : Prop := v = none ∧ Fr n0 L ∧ Keep h0 h [a4] ∧ (Fld Z h a4 sAA "kind" sAG (.ref w1)) ∧ (Fld Z h a4 sAA "account" sAH (.ref ac))
set_option maxRecDepth 65536 in
set_option maxHeartbeats 40000000 in
theorem rmQ1snnnnnn (l : Launch) (Z : State) (a0 : Array Value) (hw : ∀ d ∈ tables_1, d.before a0 Z = true) (ws : List Jvm.Cond) (a4 : Addr) (w1 : Addr) (ac : Addr) (w0 : Addr) (w2 : Addr) (w3 : Addr) (w4 : Addr) (w5 : Addr) (u0 : Value) (u1 : Value) (u2 : Value) (u3 : Value) (u4 : Value) (u5 : Value) (u6 : Value) (u7 : Value) (t_ac : Addr) (k_ac : ClassId) (cs_ac : List Int32) (h0 : Heap) (n0 : Nat) (Z0 : n0 ≤ h0.size) (hall : own_All Z Z.heap w0 w1 w2 w3 w4 w5) (O0 : Old Z n0 h0) (E4 : Exa Z h0 a4 sAA) (F40 : Fld Z h0 a4 sAA "kind" sAG u0) (F41 : Fld Z h0 a4 sAA "account" sAH u1) (F42 : Fld Z h0 a4 sAA "userId" sAH u2) (F43 : Fld Z h0 a4 sAA "userName" sAH u3) (F44 : Fld Z h0 a4 sAA "agency" sAH u4) (F45 : Fld Z h0 a4 sAA sAU sAH u5) (F46 : Fld Z h0 a4 sAA "groups" "Ljava/util/Set;" u6) (F47 : Fld Z h0 a4 sAA "service" sAH u7) (g_a4 : n0 ≤ a4) (SE_ac : Exa Z h0 ac sAB) (SC_ac : Fld Z h0 ac sAB "coder" "B" (.int (0 : Int32))) (SV_ac : Fld Z h0 ac sAB "value" "[B" (.ref t_ac)) (SA_ac : Arv Z h0 t_ac k_ac .byte (Int32.ofNat cs_ac.length) ((cs_ac.map StrChars.lo8).map Value.int) (.int 0)) (Sp_ac : ∀ c ∈ cs_ac, ¬ c < 0 ∧ ¬ (255 : Int32) < c) (Sl_ac : 0 < cs_ac.length ∧ cs_ac.length ≤ 4000) :
    MetFree l (⟨sAA, "<init>", sAE⟩ : MethodName) (head1 (Jvm.Cond.code (⟨sAA, "<init>", sAE⟩ : MethodName) prog_50_method_1_code 13 none :: ws) ({ frames := 2, cells := 12, slots := 216, locals := 25 } : Room)) (fun a U => a = #[(.ref a4), (.ref w1), (.ref ac), .null, .null, .null, .null, .null, .null] ∧ Z.Warmed39 U.vm ∧ U.heap = h0) (fun _ _ _ _ _ => True) (fun _ U o U' => ∃ v L, o = .returned v ∧ QQ1snnnnnn Z a4 w1 ac w0 w2 w3 w4 w5 u0 u1 u2 u3 u4 u5 u6 u7 t_ac k_ac cs_ac h0 n0 v U'.heap L ∧ ReturnedEndW U o U' L ({ frames := 2, cells := 12, slots := 216, locals := 25 } : Room).cells ({ frames := 2, cells := 12, slots := 216, locals := 25 } : Room).slots) := by
  refine MetFree.of_bodySF (plainFor_of_name own_pn4) hisR ?_
  intro p e s m args below meth c s₁ Bd hml0 hP hK
  obtain ⟨rfl, hZ, hh⟩ := hP
  have hx := Bd.exec
  have hby := Bd.bytes
  have hlk : meth.locks = false := Bd.notSynchronized
  have hml : c.maxLocals = 13 := hml0
  have hown : s.vm.findClass sAA = some m.cls := findClass_of_methodNamed Bd.named
  have hnm := (name_of_methodNamed Bd.named Bd.method).1
  have X0 : Stand p l e ({ frames := 2, cells := 12, slots := 216, locals := 25 } : Room) (s.setVm s.vm) m #[(.ref a4), (.ref w1), (.ref ac), .null, .null, .null, .null, .null, .null] below meth c s₁ [] 0 0 := Stand.of_body Bd
  have e0 : s₁.heap = h0 := by rw [← hh, Bd.state]; rfl
  have N0 := Fr.nil n0
  have hS0 : s.Since s.vm h0.size := (State.WarmedH.refl s).since _
  have hk0 : h0.size ≤ h0.size := Nat.le_refl _
  have wS : ∀ a ∈ Bundle.stringAtoms, a.before a0 Z = true := by
    intro a ha
    simp only [Bundle.stringAtoms, List.mem_cons, List.not_mem_nil, or_false] at ha
    rcases ha with rfl | rfl | rfl | rfl | rfl | rfl | rfl
    · exact (oW hw 9 rfl)
    · exact (oW hw 10 rfl)
    · exact (oW hw 11 rfl)
    · exact (oW hw 12 rfl)
    · exact (oW hw 13 rfl)
    · exact (oW hw 14 rfl)
    · exact (oW hw 15 rfl)
  refine own_bodyW (A := s₁.setTop (mkF m 0 #[rv a4, rv w1, rv ac, .val .null, .val .null, .val .null, .val .null, .val .null, .val .null, uu, uu, uu, uu] [])) (Q := QQ1snnnnnn Z a4 w1 ac w0 w2 w3 w4 w5 u0 u1 u2 u3 u4 u5 u6 u7 t_ac k_ac cs_ac h0 n0) (fun t k => castTop (own_efQ1snnnnnn m a4 w1 ac) k) ?_
  have hall' := hall
  obtain ⟨AA0, AA1, AA2, AA3, AA4, AA5⟩ := hall'
  refine oALN (n := 1) X0 hx (hb hby own_d9_0) rfl rfl rfl ?_
  obtain ⟨_, _, ⟨T1, L1, k1, n1⟩, -, X1, ⟨Lc1, hQ1, l1, y1, z1⟩, st1⟩ := X0.specialBack hx (y := (⟨sAV, "<init>", "()V"⟩ : MethodName)) rfl hown (mvT hZ (oW hw 49 rfl)) (mvT hZ (oW hw 50 rfl)) (mvT hZ (oW hw 53 rfl)) (by decide) (backOf (W := 0) (rmR l Z a0 hw [] a4 h0 n0 Z0 ) hZ (oW hw 53 rfl) (oW hw 52 rfl) (by decide) (by decide)) (g := (mkF m 1 #[rv a4, rv w1, rv ac, .val .null, .val .null, .val .null, .val .null, .val .null, .val .null, uu, uu, uu, uu] [(.ref a4)])) rfl (by rw [hml]; rfl) (Steps.refl _) (a := a4) (argsL := []) (rest := []) (lenOf own_pd6 rfl) rfl (by show 2 * 0 + _ ≤ _; exact Nat.le_of_eq rfl) (hb hby own_d9_1) (fun _ _ => ⟨rfl, e0, (by decide : 0 + 0 ≤ _), (by decide : 0 + 0 ≤ _)⟩)
  dsimp only [Pt.U, Pt.locs, Pt.cells, Pt.slots] at X1 l1 y1 z1 st1 hQ1
  subst l1 y1 z1
  obtain ⟨rfl, Nq1, eq1⟩ := hQ1
  have N1 := Fr.app N0 Nq1
  refine ov (B := T1.setTop (mkF m 4 #[rv a4, rv w1, rv ac, .val .null, .val .null, .val .null, .val .null, .val .null, .val .null, uu, uu, uu, uu] [])) (fun t k => st1.trans k) ?_
  refine oALN (n := 5) X1 hx (hb hby own_d9_4) rfl rfl rfl ?_
  refine ov (B := T1.setTop (mkF m 18 #[rv a4, rv w1, rv ac, .val .null, .val .null, .val .null, .val .null, .val .null, .val .null, uu, uu, uu, uu] [])) (fun t k => XS.ifnonnullYes X1.here hx rfl (pc0 := 5) (pc' := 18) rfl (hb hby own_d9_5) rfl (by decide) (by decide) k) ?_
  refine oALN (n := 19) X1 hx (hb hby own_d9_18) rfl rfl rfl ?_
  obtain ⟨T2, X2, e2, st2⟩ := getS2 X1 hx hZ hown (host := "") (Or.inl (oW hw 55 rfl)) Via.refl eq1 (AA4.1.ext O0.2) (g := (mkF m 19 #[rv a4, rv w1, rv ac, .val .null, .val .null, .val .null, .val .null, .val .null, .val .null, uu, uu, uu, uu] [(.ref w1)])) rfl (hb hby own_d9_19)
  refine ov (B := T2.setTop (mkF m 22 #[rv a4, rv w1, rv ac, .val .null, .val .null, .val .null, .val .null, .val .null, .val .null, uu, uu, uu, uu] [(.ref w4), (.ref w1)])) (fun t k => st2 t k) ?_
  have hc22 : ¬ (w1 = w4) := own_ne AA1 AA4 (by decide)
  refine ov (B := T2.setTop (mkF m 29 #[rv a4, rv w1, rv ac, .val .null, .val .null, .val .null, .val .null, .val .null, .val .null, uu, uu, uu, uu] [])) (fun t k => Jvm.RoadKit.acmp (g := (mkF m 22 #[rv a4, rv w1, rv ac, .val .null, .val .null, .val .null, .val .null, .val .null, .val .null, uu, uu, uu, uu] [(.ref w4), (.ref w1)])) X2 hx rfl rfl rfl (pc0 := 22) (pc' := 29) (same := false) rfl (hb hby own_d9_22) rfl (decide_eq_false fun q => hc22 (Value.ref.inj q)) (by decide) (by decide) k) ?_
  refine oIC (n := 30) X2 hx (0 : Int32) (hb hby own_d9_29) (by decide) rfl ?_
  refine ov (B := T2.setTop (mkF m 32 #[rv a4, rv w1, rv ac, .val .null, .val .null, .val .null, .val .null, .val .null, .val .null, iv (0 : Int32), uu, uu, uu] [])) (fun t k => XS.istore X2.here hx rfl (hb hby own_d9_30) rfl (l' := #[rv a4, rv w1, rv ac, .val .null, .val .null, .val .null, .val .null, .val .null, .val .null, iv (0 : Int32), uu, uu, uu]) rfl k) ?_
  refine oALN (n := 33) X2 hx (hb hby own_d9_32) rfl rfl rfl ?_
  refine ov (B := T2.setTop (mkF m 36 #[rv a4, rv w1, rv ac, .val .null, .val .null, .val .null, .val .null, .val .null, .val .null, iv (0 : Int32), uu, uu, uu] [])) (fun t k => XS.ifnullNo X2.here hx rfl (hb hby own_d9_33) rfl k) ?_
  refine oIC (n := 37) X2 hx (1 : Int32) (hb hby own_d9_36) (by decide) rfl ?_
  refine oGO (n := 41) X2 hx (hb hby own_d9_37) (by decide) (by decide) ?_
  refine oALN (n := 42) X2 hx (hb hby own_d9_41) rfl rfl rfl ?_
  obtain ⟨T3, X3, e3, st3⟩ := getS2 X2 hx hZ hown (host := "") (Or.inl (oW hw 57 rfl)) Via.refl e2 (AA0.1.ext O0.2) (g := (mkF m 42 #[rv a4, rv w1, rv ac, .val .null, .val .null, .val .null, .val .null, .val .null, .val .null, iv (0 : Int32), uu, uu, uu] [(.ref w1), (.int (1 : Int32))])) rfl (hb hby own_d9_42)
  refine ov (B := T3.setTop (mkF m 45 #[rv a4, rv w1, rv ac, .val .null, .val .null, .val .null, .val .null, .val .null, .val .null, iv (0 : Int32), uu, uu, uu] [(.ref w0), (.ref w1), (.int (1 : Int32))])) (fun t k => st3 t k) ?_
  have hc45 : ¬ (w1 = w0) := own_ne AA1 AA0 (by decide)
  refine ov (B := T3.setTop (mkF m 48 #[rv a4, rv w1, rv ac, .val .null, .val .null, .val .null, .val .null, .val .null, .val .null, iv (0 : Int32), uu, uu, uu] [(.int (1 : Int32))])) (fun t k => Jvm.RoadKit.acmp (g := (mkF m 45 #[rv a4, rv w1, rv ac, .val .null, .val .null, .val .null, .val .null, .val .null, .val .null, iv (0 : Int32), uu, uu, uu] [(.ref w0), (.ref w1), (.int (1 : Int32))])) X3 hx rfl rfl rfl (pc0 := 45) (pc' := 48) (same := false) rfl (hb hby own_d9_45) rfl (decide_eq_false fun q => hc45 (Value.ref.inj q)) (by decide) (by decide) k) ?_
  refine oALN (n := 49) X3 hx (hb hby own_d9_48) rfl rfl rfl ?_
  obtain ⟨T4, X4, e4, st4⟩ := getS2 X3 hx hZ hown (host := "") (Or.inl (oW hw 59 rfl)) Via.refl e3 (AA5.1.ext O0.2) (g := (mkF m 49 #[rv a4, rv w1, rv ac, .val .null, .val .null, .val .null, .val .null, .val .null, .val .null, iv (0 : Int32), uu, uu, uu] [(.ref w1), (.int (1 : Int32))])) rfl (hb hby own_d9_49)
  refine ov (B := T4.setTop (mkF m 52 #[rv a4, rv w1, rv ac, .val .null, .val .null, .val .null, .val .null, .val .null, .val .null, iv (0 : Int32), uu, uu, uu] [(.ref w5), (.ref w1), (.int (1 : Int32))])) (fun t k => st4 t k) ?_
  have hc52 : ¬ (w1 = w5) := own_ne AA1 AA5 (by decide)
  refine ov (B := T4.setTop (mkF m 55 #[rv a4, rv w1, rv ac, .val .null, .val .null, .val .null, .val .null, .val .null, .val .null, iv (0 : Int32), uu, uu, uu] [(.int (1 : Int32))])) (fun t k => Jvm.RoadKit.acmp (g := (mkF m 52 #[rv a4, rv w1, rv ac, .val .null, .val .null, .val .null, .val .null, .val .null, .val .null, iv (0 : Int32), uu, uu, uu] [(.ref w5), (.ref w1), (.int (1 : Int32))])) X4 hx rfl rfl rfl (pc0 := 52) (pc' := 55) (same := false) rfl (hb hby own_d9_52) rfl (decide_eq_false fun q => hc52 (Value.ref.inj q)) (by decide) (by decide) k) ?_
  refine oIC (n := 56) X4 hx (1 : Int32) (hb hby own_d9_55) (by decide) rfl ?_
  refine oGO (n := 60) X4 hx (hb hby own_d9_56) (by decide) (by decide) ?_
  have hc60 : (1 : Int32) = (1 : Int32) := by decide
  refine ov (B := T4.setTop (mkF m 63 #[rv a4, rv w1, rv ac, .val .null, .val .null, .val .null, .val .null, .val .null, .val .null, iv (0 : Int32), uu, uu, uu] [])) (fun t k => XS.icmpNo X4.here hx rfl (hb hby own_d9_60) rfl (teq hc60).2 k) ?_
  refine oIC (n := 64) X4 hx (1 : Int32) (hb hby own_d9_63) (by decide) rfl ?_
  refine oGO (n := 68) X4 hx (hb hby own_d9_64) (by decide) (by decide) ?_
  refine ov (B := T4.setTop (mkF m 70 #[rv a4, rv w1, rv ac, .val .null, .val .null, .val .null, .val .null, .val .null, .val .null, iv (0 : Int32), iv (1 : Int32), uu, uu] [])) (fun t k => XS.istore X4.here hx rfl (hb hby own_d9_68) rfl (l' := #[rv a4, rv w1, rv ac, .val .null, .val .null, .val .null, .val .null, .val .null, .val .null, iv (0 : Int32), iv (1 : Int32), uu, uu]) rfl k) ?_
  refine oIL (n := 72) X4 hx (hb hby own_d9_70) rfl rfl ?_
  refine oALN (n := 73) X4 hx (hb hby own_d9_72) rfl rfl rfl ?_
  refine ov (B := T4.setTop (mkF m 76 #[rv a4, rv w1, rv ac, .val .null, .val .null, .val .null, .val .null, .val .null, .val .null, iv (0 : Int32), iv (1 : Int32), uu, uu] [(.int (1 : Int32))])) (fun t k => XS.ifnonnullNo X4.here hx rfl (hb hby own_d9_73) rfl k) ?_
  refine oAL (n := 78) X4 hx (hb hby own_d9_76) rfl rfl rfl ?_
  refine ov (B := T4.setTop (mkF m 85 #[rv a4, rv w1, rv ac, .val .null, .val .null, .val .null, .val .null, .val .null, .val .null, iv (0 : Int32), iv (1 : Int32), uu, uu] [(.int (1 : Int32))])) (fun t k => XS.ifnullYes X4.here hx rfl (pc0 := 78) (pc' := 85) rfl (hb hby own_d9_78) rfl (by decide) (by decide) k) ?_
  refine oIC (n := 86) X4 hx (0 : Int32) (hb hby own_d9_85) (by decide) rfl ?_
  refine oALN (n := 87) X4 hx (hb hby own_d9_86) rfl rfl rfl ?_
  obtain ⟨T5, X5, e5, st5⟩ := getS2 X4 hx hZ hown (host := "") (Or.inl (oW hw 43 rfl)) Via.refl e4 (AA2.1.ext O0.2) (g := (mkF m 87 #[rv a4, rv w1, rv ac, .val .null, .val .null, .val .null, .val .null, .val .null, .val .null, iv (0 : Int32), iv (1 : Int32), uu, uu] [(.ref w1), (.int (0 : Int32)), (.int (1 : Int32))])) rfl (hb hby own_d9_87)
  refine ov (B := T5.setTop (mkF m 90 #[rv a4, rv w1, rv ac, .val .null, .val .null, .val .null, .val .null, .val .null, .val .null, iv (0 : Int32), iv (1 : Int32), uu, uu] [(.ref w2), (.ref w1), (.int (0 : Int32)), (.int (1 : Int32))])) (fun t k => st5 t k) ?_
  have hc90 : ¬ (w1 = w2) := own_ne AA1 AA2 (by decide)
  refine ov (B := T5.setTop (mkF m 97 #[rv a4, rv w1, rv ac, .val .null, .val .null, .val .null, .val .null, .val .null, .val .null, iv (0 : Int32), iv (1 : Int32), uu, uu] [(.int (0 : Int32)), (.int (1 : Int32))])) (fun t k => Jvm.RoadKit.acmp (g := (mkF m 90 #[rv a4, rv w1, rv ac, .val .null, .val .null, .val .null, .val .null, .val .null, .val .null, iv (0 : Int32), iv (1 : Int32), uu, uu] [(.ref w2), (.ref w1), (.int (0 : Int32)), (.int (1 : Int32))])) X5 hx rfl rfl rfl (pc0 := 90) (pc' := 97) (same := false) rfl (hb hby own_d9_90) rfl (decide_eq_false fun q => hc90 (Value.ref.inj q)) (by decide) (by decide) k) ?_
  refine oIC (n := 98) X5 hx (0 : Int32) (hb hby own_d9_97) (by decide) rfl ?_
  have hc98 : (0 : Int32) = (0 : Int32) := by decide
  refine ov (B := T5.setTop (mkF m 101 #[rv a4, rv w1, rv ac, .val .null, .val .null, .val .null, .val .null, .val .null, .val .null, iv (0 : Int32), iv (1 : Int32), uu, uu] [(.int (1 : Int32))])) (fun t k => XS.icmpNo X5.here hx rfl (hb hby own_d9_98) rfl (teq hc98).2 k) ?_
  refine oIC (n := 102) X5 hx (1 : Int32) (hb hby own_d9_101) (by decide) rfl ?_
  refine oGO (n := 106) X5 hx (hb hby own_d9_102) (by decide) (by decide) ?_
  refine ov (B := T5.setTop (mkF m 107 #[rv a4, rv w1, rv ac, .val .null, .val .null, .val .null, .val .null, .val .null, .val .null, iv (0 : Int32), iv (1 : Int32), uu, uu] [(.int (1 : Int32))])) (fun t k => XS.iand X5.here hx rfl (hb hby own_d9_106) rfl k) ?_
  refine ov (B := T5.setTop (mkF m 109 #[rv a4, rv w1, rv ac, .val .null, .val .null, .val .null, .val .null, .val .null, .val .null, iv (0 : Int32), iv (1 : Int32), uu, uu] [])) (fun t k => XS.istore X5.here hx rfl (hb hby own_d9_107) rfl (l' := #[rv a4, rv w1, rv ac, .val .null, .val .null, .val .null, .val .null, .val .null, .val .null, iv (0 : Int32), iv (1 : Int32), uu, uu]) rfl k) ?_
  refine oIL (n := 111) X5 hx (hb hby own_d9_109) rfl rfl ?_
  refine oAL (n := 113) X5 hx (hb hby own_d9_111) rfl rfl rfl ?_
  refine ov (B := T5.setTop (mkF m 120 #[rv a4, rv w1, rv ac, .val .null, .val .null, .val .null, .val .null, .val .null, .val .null, iv (0 : Int32), iv (1 : Int32), uu, uu] [(.int (1 : Int32))])) (fun t k => XS.ifnullYes X5.here hx rfl (pc0 := 113) (pc' := 120) rfl (hb hby own_d9_113) rfl (by decide) (by decide) k) ?_
  refine oIC (n := 121) X5 hx (0 : Int32) (hb hby own_d9_120) (by decide) rfl ?_
  refine oALN (n := 122) X5 hx (hb hby own_d9_121) rfl rfl rfl ?_
  obtain ⟨T6, X6, e6, st6⟩ := getS2 X5 hx hZ hown (host := "") (Or.inl (oW hw 61 rfl)) Via.refl e5 (AA3.1.ext O0.2) (g := (mkF m 122 #[rv a4, rv w1, rv ac, .val .null, .val .null, .val .null, .val .null, .val .null, .val .null, iv (0 : Int32), iv (1 : Int32), uu, uu] [(.ref w1), (.int (0 : Int32)), (.int (1 : Int32))])) rfl (hb hby own_d9_122)
  refine ov (B := T6.setTop (mkF m 125 #[rv a4, rv w1, rv ac, .val .null, .val .null, .val .null, .val .null, .val .null, .val .null, iv (0 : Int32), iv (1 : Int32), uu, uu] [(.ref w3), (.ref w1), (.int (0 : Int32)), (.int (1 : Int32))])) (fun t k => st6 t k) ?_
  have hc125 : ¬ (w1 = w3) := own_ne AA1 AA3 (by decide)
  refine ov (B := T6.setTop (mkF m 132 #[rv a4, rv w1, rv ac, .val .null, .val .null, .val .null, .val .null, .val .null, .val .null, iv (0 : Int32), iv (1 : Int32), uu, uu] [(.int (0 : Int32)), (.int (1 : Int32))])) (fun t k => Jvm.RoadKit.acmp (g := (mkF m 125 #[rv a4, rv w1, rv ac, .val .null, .val .null, .val .null, .val .null, .val .null, .val .null, iv (0 : Int32), iv (1 : Int32), uu, uu] [(.ref w3), (.ref w1), (.int (0 : Int32)), (.int (1 : Int32))])) X6 hx rfl rfl rfl (pc0 := 125) (pc' := 132) (same := false) rfl (hb hby own_d9_125) rfl (decide_eq_false fun q => hc125 (Value.ref.inj q)) (by decide) (by decide) k) ?_
  refine oIC (n := 133) X6 hx (0 : Int32) (hb hby own_d9_132) (by decide) rfl ?_
  have hc133 : (0 : Int32) = (0 : Int32) := by decide
  refine ov (B := T6.setTop (mkF m 136 #[rv a4, rv w1, rv ac, .val .null, .val .null, .val .null, .val .null, .val .null, .val .null, iv (0 : Int32), iv (1 : Int32), uu, uu] [(.int (1 : Int32))])) (fun t k => XS.icmpNo X6.here hx rfl (hb hby own_d9_133) rfl (teq hc133).2 k) ?_
  refine oIC (n := 137) X6 hx (1 : Int32) (hb hby own_d9_136) (by decide) rfl ?_
  refine oGO (n := 141) X6 hx (hb hby own_d9_137) (by decide) (by decide) ?_
  refine ov (B := T6.setTop (mkF m 142 #[rv a4, rv w1, rv ac, .val .null, .val .null, .val .null, .val .null, .val .null, .val .null, iv (0 : Int32), iv (1 : Int32), uu, uu] [(.int (1 : Int32))])) (fun t k => XS.iand X6.here hx rfl (hb hby own_d9_141) rfl k) ?_
  refine ov (B := T6.setTop (mkF m 144 #[rv a4, rv w1, rv ac, .val .null, .val .null, .val .null, .val .null, .val .null, .val .null, iv (0 : Int32), iv (1 : Int32), uu, uu] [])) (fun t k => XS.istore X6.here hx rfl (hb hby own_d9_142) rfl (l' := #[rv a4, rv w1, rv ac, .val .null, .val .null, .val .null, .val .null, .val .null, .val .null, iv (0 : Int32), iv (1 : Int32), uu, uu]) rfl k) ?_
  refine oIL (n := 146) X6 hx (hb hby own_d9_144) rfl rfl ?_
  refine oAL (n := 148) X6 hx (hb hby own_d9_146) rfl rfl rfl ?_
  refine ov (B := T6.setTop (mkF m 155 #[rv a4, rv w1, rv ac, .val .null, .val .null, .val .null, .val .null, .val .null, .val .null, iv (0 : Int32), iv (1 : Int32), uu, uu] [(.int (1 : Int32))])) (fun t k => XS.ifnullYes X6.here hx rfl (pc0 := 148) (pc' := 155) rfl (hb hby own_d9_148) rfl (by decide) (by decide) k) ?_
  refine oIC (n := 156) X6 hx (0 : Int32) (hb hby own_d9_155) (by decide) rfl ?_
  refine oIL (n := 158) X6 hx (hb hby own_d9_156) rfl rfl ?_
  have hc158 : (0 : Int32) = (0 : Int32) := by decide
  refine ov (B := T6.setTop (mkF m 161 #[rv a4, rv w1, rv ac, .val .null, .val .null, .val .null, .val .null, .val .null, .val .null, iv (0 : Int32), iv (1 : Int32), uu, uu] [(.int (1 : Int32))])) (fun t k => XS.icmpNo X6.here hx rfl (hb hby own_d9_158) rfl (teq hc158).2 k) ?_
  refine oAL (n := 163) X6 hx (hb hby own_d9_161) rfl rfl rfl ?_
  refine ov (B := T6.setTop (mkF m 170 #[rv a4, rv w1, rv ac, .val .null, .val .null, .val .null, .val .null, .val .null, .val .null, iv (0 : Int32), iv (1 : Int32), uu, uu] [(.int (1 : Int32))])) (fun t k => XS.ifnullYes X6.here hx rfl (pc0 := 163) (pc' := 170) rfl (hb hby own_d9_163) rfl (by decide) (by decide) k) ?_
  refine oIC (n := 171) X6 hx (0 : Int32) (hb hby own_d9_170) (by decide) rfl ?_
  refine oIL (n := 173) X6 hx (hb hby own_d9_171) rfl rfl ?_
  have hc173 : (0 : Int32) = (0 : Int32) := by decide
  refine ov (B := T6.setTop (mkF m 176 #[rv a4, rv w1, rv ac, .val .null, .val .null, .val .null, .val .null, .val .null, .val .null, iv (0 : Int32), iv (1 : Int32), uu, uu] [(.int (1 : Int32))])) (fun t k => XS.icmpNo X6.here hx rfl (hb hby own_d9_173) rfl (teq hc173).2 k) ?_
  refine oIC (n := 177) X6 hx (1 : Int32) (hb hby own_d9_176) (by decide) rfl ?_
  refine oGO (n := 181) X6 hx (hb hby own_d9_177) (by decide) (by decide) ?_
  refine ov (B := T6.setTop (mkF m 182 #[rv a4, rv w1, rv ac, .val .null, .val .null, .val .null, .val .null, .val .null, .val .null, iv (0 : Int32), iv (1 : Int32), uu, uu] [(.int (1 : Int32))])) (fun t k => XS.iand X6.here hx rfl (hb hby own_d9_181) rfl k) ?_
  refine ov (B := T6.setTop (mkF m 184 #[rv a4, rv w1, rv ac, .val .null, .val .null, .val .null, .val .null, .val .null, .val .null, iv (0 : Int32), iv (1 : Int32), uu, uu] [])) (fun t k => XS.istore X6.here hx rfl (hb hby own_d9_182) rfl (l' := #[rv a4, rv w1, rv ac, .val .null, .val .null, .val .null, .val .null, .val .null, .val .null, iv (0 : Int32), iv (1 : Int32), uu, uu]) rfl k) ?_
  refine oIL (n := 186) X6 hx (hb hby own_d9_184) rfl rfl ?_
  refine oAL (n := 188) X6 hx (hb hby own_d9_186) rfl rfl rfl ?_
  refine ov (B := T6.setTop (mkF m 195 #[rv a4, rv w1, rv ac, .val .null, .val .null, .val .null, .val .null, .val .null, .val .null, iv (0 : Int32), iv (1 : Int32), uu, uu] [(.int (1 : Int32))])) (fun t k => XS.ifnullYes X6.here hx rfl (pc0 := 188) (pc' := 195) rfl (hb hby own_d9_188) rfl (by decide) (by decide) k) ?_
  refine oIC (n := 196) X6 hx (0 : Int32) (hb hby own_d9_195) (by decide) rfl ?_
  refine oALN (n := 197) X6 hx (hb hby own_d9_196) rfl rfl rfl ?_
  obtain ⟨T7, X7, e7, st7⟩ := getS2 X6 hx hZ hown (host := "") (Or.inl (oW hw 59 rfl)) Via.refl e6 (AA5.1.ext O0.2) (g := (mkF m 197 #[rv a4, rv w1, rv ac, .val .null, .val .null, .val .null, .val .null, .val .null, .val .null, iv (0 : Int32), iv (1 : Int32), uu, uu] [(.ref w1), (.int (0 : Int32)), (.int (1 : Int32))])) rfl (hb hby own_d9_197)
  refine ov (B := T7.setTop (mkF m 200 #[rv a4, rv w1, rv ac, .val .null, .val .null, .val .null, .val .null, .val .null, .val .null, iv (0 : Int32), iv (1 : Int32), uu, uu] [(.ref w5), (.ref w1), (.int (0 : Int32)), (.int (1 : Int32))])) (fun t k => st7 t k) ?_
  have hc200 : ¬ (w1 = w5) := own_ne AA1 AA5 (by decide)
  refine ov (B := T7.setTop (mkF m 207 #[rv a4, rv w1, rv ac, .val .null, .val .null, .val .null, .val .null, .val .null, .val .null, iv (0 : Int32), iv (1 : Int32), uu, uu] [(.int (0 : Int32)), (.int (1 : Int32))])) (fun t k => Jvm.RoadKit.acmp (g := (mkF m 200 #[rv a4, rv w1, rv ac, .val .null, .val .null, .val .null, .val .null, .val .null, .val .null, iv (0 : Int32), iv (1 : Int32), uu, uu] [(.ref w5), (.ref w1), (.int (0 : Int32)), (.int (1 : Int32))])) X7 hx rfl rfl rfl (pc0 := 200) (pc' := 207) (same := false) rfl (hb hby own_d9_200) rfl (decide_eq_false fun q => hc200 (Value.ref.inj q)) (by decide) (by decide) k) ?_
  refine oIC (n := 208) X7 hx (0 : Int32) (hb hby own_d9_207) (by decide) rfl ?_
  have hc208 : (0 : Int32) = (0 : Int32) := by decide
  refine ov (B := T7.setTop (mkF m 211 #[rv a4, rv w1, rv ac, .val .null, .val .null, .val .null, .val .null, .val .null, .val .null, iv (0 : Int32), iv (1 : Int32), uu, uu] [(.int (1 : Int32))])) (fun t k => XS.icmpNo X7.here hx rfl (hb hby own_d9_208) rfl (teq hc208).2 k) ?_
  refine oIC (n := 212) X7 hx (1 : Int32) (hb hby own_d9_211) (by decide) rfl ?_
  refine oGO (n := 216) X7 hx (hb hby own_d9_212) (by decide) (by decide) ?_
  refine ov (B := T7.setTop (mkF m 217 #[rv a4, rv w1, rv ac, .val .null, .val .null, .val .null, .val .null, .val .null, .val .null, iv (0 : Int32), iv (1 : Int32), uu, uu] [(.int (1 : Int32))])) (fun t k => XS.iand X7.here hx rfl (hb hby own_d9_216) rfl k) ?_
  refine ov (B := T7.setTop (mkF m 219 #[rv a4, rv w1, rv ac, .val .null, .val .null, .val .null, .val .null, .val .null, .val .null, iv (0 : Int32), iv (1 : Int32), uu, uu] [])) (fun t k => XS.istore X7.here hx rfl (hb hby own_d9_217) rfl (l' := #[rv a4, rv w1, rv ac, .val .null, .val .null, .val .null, .val .null, .val .null, .val .null, iv (0 : Int32), iv (1 : Int32), uu, uu]) rfl k) ?_
  refine oIL (n := 221) X7 hx (hb hby own_d9_219) rfl rfl ?_
  have hc221 : ¬ ((1 : Int32) = (0 : Int32)) := by decide
  refine ov (B := T7.setTop (mkF m 236 #[rv a4, rv w1, rv ac, .val .null, .val .null, .val .null, .val .null, .val .null, .val .null, iv (0 : Int32), iv (1 : Int32), uu, uu] [])) (fun t k => XS.ifYes X7.here hx rfl (pc0 := 221) (pc' := 236) rfl (hb hby own_d9_221) rfl ((if0 _ _).trans (feq hc221).2) (by decide) (by decide) k) ?_
  obtain ⟨c8, T8, h8, k8, X8, e8, E8, hS8, hk8, hZ, hown, st8⟩ := ldcS X7 hx hZ hown (oW hw 63 rfl) wS e7 hS0 hk0 (g := (mkF m 236 #[rv a4, rv w1, rv ac, .val .null, .val .null, .val .null, .val .null, .val .null, .val .null, iv (0 : Int32), iv (1 : Int32), uu, uu] [])) rfl (hb hby own_d9_236) (n := 28) (by decide) (by decide) (by decide) (by decide)
  refine ov (B := T8.setTop (mkF m 238 #[rv a4, rv w1, rv ac, .val .null, .val .null, .val .null, .val .null, .val .null, .val .null, iv (0 : Int32), iv (1 : Int32), uu, uu] [(.ref c8)])) (fun t k => st8 t k) ?_
  refine oALN (n := 239) X8 hx (hb hby own_d9_238) rfl rfl rfl ?_
  obtain ⟨_, _, ⟨T9, L9, k9, n9⟩, -, X9, ⟨Lc9, hQ9, l9, y9, z9⟩, st9⟩ := Jvm.LawKit.callS X8 hx (y := (⟨sAA, "requireNonEmpty", sAN⟩ : MethodName)) hown (mvT hZ (oW hw 64 rfl)) (mvT hZ (oW hw 65 rfl)) (mvT hZ (oW hw 39 rfl)) (mvT hZ (oW hw 66 rfl)) (by decide) (backOf (W := 0) (rmN1 l Z a0 hw [] c8 ac t_ac k_ac cs_ac h8 n0 (Nat.le_trans Z0 E8.1) (SE_ac.ext E8) (SC_ac.ext E8) (SV_ac.ext E8) (SA_ac.ext E8) Sp_ac Sl_ac) hZ (oW hw 66 rfl) (oW hw 39 rfl) (by decide) (by decide)) (g := (mkF m 239 #[rv a4, rv w1, rv ac, .val .null, .val .null, .val .null, .val .null, .val .null, .val .null, iv (0 : Int32), iv (1 : Int32), uu, uu] [(.ref ac), (.ref c8)])) rfl (by rw [hml]; rfl) (argsL := [(.ref c8), (.ref ac)]) (rest := []) (lenOf own_pd7 rfl) rfl (by show 2 * 0 + _ ≤ _; exact Nat.le_of_eq rfl) (hb hby own_d9_239) (fun _ _ => ⟨rfl, e8, (by decide : ((0 + 0) + 2) + 0 ≤ _), (by decide : ((0 + 0) + (28 + 4)) + 0 ≤ _)⟩)
  dsimp only [Pt.U, Pt.locs, Pt.cells, Pt.slots] at X9 l9 y9 z9 st9 hQ9
  subst l9 y9 z9
  obtain ⟨rfl, Nq9, eq9⟩ := hQ9
  have N9 := Fr.app N1 Nq9
  refine ov (B := T9.setTop (mkF m 242 #[rv a4, rv w1, rv ac, .val .null, .val .null, .val .null, .val .null, .val .null, .val .null, iv (0 : Int32), iv (1 : Int32), uu, uu] [])) (fun t k => st9 t k) ?_
  obtain ⟨c10, T10, h10, k10, X10, e10, E10, hS10, hk10, hZ, hown, st10⟩ := ldcS X9 hx hZ hown (oW hw 72 rfl) wS eq9 hS8 hk8 (g := (mkF m 242 #[rv a4, rv w1, rv ac, .val .null, .val .null, .val .null, .val .null, .val .null, .val .null, iv (0 : Int32), iv (1 : Int32), uu, uu] [])) rfl (hb hby own_d9_242) (n := 16) (by decide) (by decide) (by decide) (by decide)
  refine ov (B := T10.setTop (mkF m 244 #[rv a4, rv w1, rv ac, .val .null, .val .null, .val .null, .val .null, .val .null, .val .null, iv (0 : Int32), iv (1 : Int32), uu, uu] [(.ref c10)])) (fun t k => st10 t k) ?_
  refine oALN (n := 245) X10 hx (hb hby own_d9_244) rfl rfl rfl ?_
  obtain ⟨_, _, ⟨T11, L11, k11, n11⟩, -, X11, ⟨Lc11, hQ11, l11, y11, z11⟩, st11⟩ := Jvm.LawKit.callS X10 hx (y := (⟨sAA, "requireNonEmpty", sAN⟩ : MethodName)) hown (mvT hZ (oW hw 64 rfl)) (mvT hZ (oW hw 65 rfl)) (mvT hZ (oW hw 39 rfl)) (mvT hZ (oW hw 66 rfl)) (by decide) (backOf (W := 0) (rmN0 l Z a0 hw [] c10 h10 n0 (Nat.le_trans (Nat.le_trans Z0 E8.1) E10.1) ) hZ (oW hw 66 rfl) (oW hw 39 rfl) (by decide) (by decide)) (g := (mkF m 245 #[rv a4, rv w1, rv ac, .val .null, .val .null, .val .null, .val .null, .val .null, .val .null, iv (0 : Int32), iv (1 : Int32), uu, uu] [.null, (.ref c10)])) rfl (by rw [hml]; rfl) (argsL := [(.ref c10), .null]) (rest := []) (lenOf own_pd7 rfl) rfl (by show 2 * 0 + _ ≤ _; exact Nat.le_of_eq rfl) (hb hby own_d9_245) (fun _ _ => ⟨rfl, e10, (by decide : ((((0 + 0) + 2) + 0) + 2) + 0 ≤ _), (by decide : ((((0 + 0) + (28 + 4)) + 0) + (16 + 4)) + 0 ≤ _)⟩)
  dsimp only [Pt.U, Pt.locs, Pt.cells, Pt.slots] at X11 l11 y11 z11 st11 hQ11
  subst l11 y11 z11
  obtain ⟨rfl, Nq11, eq11⟩ := hQ11
  have N11 := Fr.app N9 Nq11
  refine ov (B := T11.setTop (mkF m 248 #[rv a4, rv w1, rv ac, .val .null, .val .null, .val .null, .val .null, .val .null, .val .null, iv (0 : Int32), iv (1 : Int32), uu, uu] [])) (fun t k => st11 t k) ?_
  obtain ⟨c12, T12, h12, k12, X12, e12, E12, hS12, hk12, hZ, hown, st12⟩ := ldcS X11 hx hZ hown (oW hw 73 rfl) wS eq11 hS10 hk10 (g := (mkF m 248 #[rv a4, rv w1, rv ac, .val .null, .val .null, .val .null, .val .null, .val .null, .val .null, iv (0 : Int32), iv (1 : Int32), uu, uu] [])) rfl (hb hby own_d9_248) (n := 32) (by decide) (by decide) (by decide) (by decide)
  refine ov (B := T12.setTop (mkF m 250 #[rv a4, rv w1, rv ac, .val .null, .val .null, .val .null, .val .null, .val .null, .val .null, iv (0 : Int32), iv (1 : Int32), uu, uu] [(.ref c12)])) (fun t k => st12 t k) ?_
  refine oAL (n := 252) X12 hx (hb hby own_d9_250) rfl rfl rfl ?_
  obtain ⟨_, _, ⟨T13, L13, k13, n13⟩, -, X13, ⟨Lc13, hQ13, l13, y13, z13⟩, st13⟩ := Jvm.LawKit.callS X12 hx (y := (⟨sAA, "requireNonEmpty", sAN⟩ : MethodName)) hown (mvT hZ (oW hw 64 rfl)) (mvT hZ (oW hw 65 rfl)) (mvT hZ (oW hw 39 rfl)) (mvT hZ (oW hw 66 rfl)) (by decide) (backOf (W := 0) (rmN0 l Z a0 hw [] c12 h12 n0 (Nat.le_trans (Nat.le_trans (Nat.le_trans Z0 E8.1) E10.1) E12.1) ) hZ (oW hw 66 rfl) (oW hw 39 rfl) (by decide) (by decide)) (g := (mkF m 252 #[rv a4, rv w1, rv ac, .val .null, .val .null, .val .null, .val .null, .val .null, .val .null, iv (0 : Int32), iv (1 : Int32), uu, uu] [.null, (.ref c12)])) rfl (by rw [hml]; rfl) (argsL := [(.ref c12), .null]) (rest := []) (lenOf own_pd7 rfl) rfl (by show 2 * 0 + _ ≤ _; exact Nat.le_of_eq rfl) (hb hby own_d9_252) (fun _ _ => ⟨rfl, e12, (by decide : ((((((0 + 0) + 2) + 0) + 2) + 0) + 2) + 0 ≤ _), (by decide : ((((((0 + 0) + (28 + 4)) + 0) + (16 + 4)) + 0) + (32 + 4)) + 0 ≤ _)⟩)
  dsimp only [Pt.U, Pt.locs, Pt.cells, Pt.slots] at X13 l13 y13 z13 st13 hQ13
  subst l13 y13 z13
  obtain ⟨rfl, Nq13, eq13⟩ := hQ13
  have N13 := Fr.app N11 Nq13
  refine ov (B := T13.setTop (mkF m 255 #[rv a4, rv w1, rv ac, .val .null, .val .null, .val .null, .val .null, .val .null, .val .null, iv (0 : Int32), iv (1 : Int32), uu, uu] [])) (fun t k => st13 t k) ?_
  obtain ⟨c14, T14, h14, k14, X14, e14, E14, hS14, hk14, hZ, hown, st14⟩ := ldcS X13 hx hZ hown (oW hw 74 rfl) wS eq13 hS12 hk12 (g := (mkF m 255 #[rv a4, rv w1, rv ac, .val .null, .val .null, .val .null, .val .null, .val .null, .val .null, iv (0 : Int32), iv (1 : Int32), uu, uu] [])) rfl (hb hby own_d9_255) (n := 24) (by decide) (by decide) (by decide) (by decide)
  refine ov (B := T14.setTop (mkF m 257 #[rv a4, rv w1, rv ac, .val .null, .val .null, .val .null, .val .null, .val .null, .val .null, iv (0 : Int32), iv (1 : Int32), uu, uu] [(.ref c14)])) (fun t k => st14 t k) ?_
  refine oAL (n := 259) X14 hx (hb hby own_d9_257) rfl rfl rfl ?_
  obtain ⟨_, _, ⟨T15, L15, k15, n15⟩, -, X15, ⟨Lc15, hQ15, l15, y15, z15⟩, st15⟩ := Jvm.LawKit.callS X14 hx (y := (⟨sAA, "requireNonEmpty", sAN⟩ : MethodName)) hown (mvT hZ (oW hw 64 rfl)) (mvT hZ (oW hw 65 rfl)) (mvT hZ (oW hw 39 rfl)) (mvT hZ (oW hw 66 rfl)) (by decide) (backOf (W := 0) (rmN0 l Z a0 hw [] c14 h14 n0 (Nat.le_trans (Nat.le_trans (Nat.le_trans (Nat.le_trans Z0 E8.1) E10.1) E12.1) E14.1) ) hZ (oW hw 66 rfl) (oW hw 39 rfl) (by decide) (by decide)) (g := (mkF m 259 #[rv a4, rv w1, rv ac, .val .null, .val .null, .val .null, .val .null, .val .null, .val .null, iv (0 : Int32), iv (1 : Int32), uu, uu] [.null, (.ref c14)])) rfl (by rw [hml]; rfl) (argsL := [(.ref c14), .null]) (rest := []) (lenOf own_pd7 rfl) rfl (by show 2 * 0 + _ ≤ _; exact Nat.le_of_eq rfl) (hb hby own_d9_259) (fun _ _ => ⟨rfl, e14, (by decide : ((((((((0 + 0) + 2) + 0) + 2) + 0) + 2) + 0) + 2) + 0 ≤ _), (by decide : ((((((((0 + 0) + (28 + 4)) + 0) + (16 + 4)) + 0) + (32 + 4)) + 0) + (24 + 4)) + 0 ≤ _)⟩)
  dsimp only [Pt.U, Pt.locs, Pt.cells, Pt.slots] at X15 l15 y15 z15 st15 hQ15
  subst l15 y15 z15
  obtain ⟨rfl, Nq15, eq15⟩ := hQ15
  have N15 := Fr.app N13 Nq15
  refine ov (B := T15.setTop (mkF m 262 #[rv a4, rv w1, rv ac, .val .null, .val .null, .val .null, .val .null, .val .null, .val .null, iv (0 : Int32), iv (1 : Int32), uu, uu] [])) (fun t k => st15 t k) ?_
  obtain ⟨c16, T16, h16, k16, X16, e16, E16, hS16, hk16, hZ, hown, st16⟩ := ldcS X15 hx hZ hown (oW hw 75 rfl) wS eq15 hS14 hk14 (g := (mkF m 262 #[rv a4, rv w1, rv ac, .val .null, .val .null, .val .null, .val .null, .val .null, .val .null, iv (0 : Int32), iv (1 : Int32), uu, uu] [])) rfl (hb hby own_d9_262) (n := 64) (by decide) (by decide) (by decide) (by decide)
  refine ov (B := T16.setTop (mkF m 264 #[rv a4, rv w1, rv ac, .val .null, .val .null, .val .null, .val .null, .val .null, .val .null, iv (0 : Int32), iv (1 : Int32), uu, uu] [(.ref c16)])) (fun t k => st16 t k) ?_
  refine oAL (n := 266) X16 hx (hb hby own_d9_264) rfl rfl rfl ?_
  obtain ⟨_, _, ⟨T17, L17, k17, n17⟩, -, X17, ⟨Lc17, hQ17, l17, y17, z17⟩, st17⟩ := Jvm.LawKit.callS X16 hx (y := (⟨sAA, "requireNonEmpty", sAN⟩ : MethodName)) hown (mvT hZ (oW hw 64 rfl)) (mvT hZ (oW hw 65 rfl)) (mvT hZ (oW hw 39 rfl)) (mvT hZ (oW hw 66 rfl)) (by decide) (backOf (W := 0) (rmN0 l Z a0 hw [] c16 h16 n0 (Nat.le_trans (Nat.le_trans (Nat.le_trans (Nat.le_trans (Nat.le_trans Z0 E8.1) E10.1) E12.1) E14.1) E16.1) ) hZ (oW hw 66 rfl) (oW hw 39 rfl) (by decide) (by decide)) (g := (mkF m 266 #[rv a4, rv w1, rv ac, .val .null, .val .null, .val .null, .val .null, .val .null, .val .null, iv (0 : Int32), iv (1 : Int32), uu, uu] [.null, (.ref c16)])) rfl (by rw [hml]; rfl) (argsL := [(.ref c16), .null]) (rest := []) (lenOf own_pd7 rfl) rfl (by show 2 * 0 + _ ≤ _; exact Nat.le_of_eq rfl) (hb hby own_d9_266) (fun _ _ => ⟨rfl, e16, (by decide : ((((((((((0 + 0) + 2) + 0) + 2) + 0) + 2) + 0) + 2) + 0) + 2) + 0 ≤ _), (by decide : ((((((((((0 + 0) + (28 + 4)) + 0) + (16 + 4)) + 0) + (32 + 4)) + 0) + (24 + 4)) + 0) + (64 + 4)) + 0 ≤ _)⟩)
  dsimp only [Pt.U, Pt.locs, Pt.cells, Pt.slots] at X17 l17 y17 z17 st17 hQ17
  subst l17 y17 z17
  obtain ⟨rfl, Nq17, eq17⟩ := hQ17
  have N17 := Fr.app N15 Nq17
  refine ov (B := T17.setTop (mkF m 269 #[rv a4, rv w1, rv ac, .val .null, .val .null, .val .null, .val .null, .val .null, .val .null, iv (0 : Int32), iv (1 : Int32), uu, uu] [])) (fun t k => st17 t k) ?_
  obtain ⟨c18, T18, h18, k18, X18, e18, E18, hS18, hk18, hZ, hown, st18⟩ := ldcS X17 hx hZ hown (oW hw 76 rfl) wS eq17 hS16 hk16 (g := (mkF m 269 #[rv a4, rv w1, rv ac, .val .null, .val .null, .val .null, .val .null, .val .null, .val .null, iv (0 : Int32), iv (1 : Int32), uu, uu] [])) rfl (hb hby own_d9_269) (n := 28) (by decide) (by decide) (by decide) (by decide)
  refine ov (B := T18.setTop (mkF m 271 #[rv a4, rv w1, rv ac, .val .null, .val .null, .val .null, .val .null, .val .null, .val .null, iv (0 : Int32), iv (1 : Int32), uu, uu] [(.ref c18)])) (fun t k => st18 t k) ?_
  refine oAL (n := 273) X18 hx (hb hby own_d9_271) rfl rfl rfl ?_
  obtain ⟨_, _, ⟨T19, L19, k19, n19⟩, -, X19, ⟨Lc19, hQ19, l19, y19, z19⟩, st19⟩ := Jvm.LawKit.callS X18 hx (y := (⟨sAA, "requireNonEmpty", sAN⟩ : MethodName)) hown (mvT hZ (oW hw 64 rfl)) (mvT hZ (oW hw 65 rfl)) (mvT hZ (oW hw 39 rfl)) (mvT hZ (oW hw 66 rfl)) (by decide) (backOf (W := 0) (rmN0 l Z a0 hw [] c18 h18 n0 (Nat.le_trans (Nat.le_trans (Nat.le_trans (Nat.le_trans (Nat.le_trans (Nat.le_trans Z0 E8.1) E10.1) E12.1) E14.1) E16.1) E18.1) ) hZ (oW hw 66 rfl) (oW hw 39 rfl) (by decide) (by decide)) (g := (mkF m 273 #[rv a4, rv w1, rv ac, .val .null, .val .null, .val .null, .val .null, .val .null, .val .null, iv (0 : Int32), iv (1 : Int32), uu, uu] [.null, (.ref c18)])) rfl (by rw [hml]; rfl) (argsL := [(.ref c18), .null]) (rest := []) (lenOf own_pd7 rfl) rfl (by show 2 * 0 + _ ≤ _; exact Nat.le_of_eq rfl) (hb hby own_d9_273) (fun _ _ => ⟨rfl, e18, (by decide : ((((((((((((0 + 0) + 2) + 0) + 2) + 0) + 2) + 0) + 2) + 0) + 2) + 0) + 2) + 0 ≤ _), (by decide : ((((((((((((0 + 0) + (28 + 4)) + 0) + (16 + 4)) + 0) + (32 + 4)) + 0) + (24 + 4)) + 0) + (64 + 4)) + 0) + (28 + 4)) + 0 ≤ _)⟩)
  dsimp only [Pt.U, Pt.locs, Pt.cells, Pt.slots] at X19 l19 y19 z19 st19 hQ19
  subst l19 y19 z19
  obtain ⟨rfl, Nq19, eq19⟩ := hQ19
  have N19 := Fr.app N17 Nq19
  refine ov (B := T19.setTop (mkF m 276 #[rv a4, rv w1, rv ac, .val .null, .val .null, .val .null, .val .null, .val .null, .val .null, iv (0 : Int32), iv (1 : Int32), uu, uu] [])) (fun t k => st19 t k) ?_
  refine oAL (n := 278) X19 hx (hb hby own_d9_276) rfl rfl rfl ?_
  refine ov (B := T19.setTop (mkF m 329 #[rv a4, rv w1, rv ac, .val .null, .val .null, .val .null, .val .null, .val .null, .val .null, iv (0 : Int32), iv (1 : Int32), uu, uu] [])) (fun t k => XS.ifnullYes X19.here hx rfl (pc0 := 278) (pc' := 329) rfl (hb hby own_d9_278) rfl (by decide) (by decide) k) ?_
  refine oALN (n := 330) X19 hx (hb hby own_d9_329) rfl rfl rfl ?_
  refine oALN (n := 331) X19 hx (hb hby own_d9_330) rfl rfl rfl ?_
  obtain ⟨T20, h20, X20, e20, W20, st20⟩ := putF X19 hx hZ hown (host := "") (Or.inl (oW hw 77 rfl)) Via.refl eq19 ((((((F40.ext E8).ext E10).ext E12).ext E14).ext E16).ext E18) ((((((E4.ext E8).ext E10).ext E12).ext E14).ext E16).ext E18) (Or.inr ⟨(oW hw 78 rfl), rfl, hnm⟩) (oW hw 42 rfl) (ty := (.object sAC)) (by decide) rfl rfl (g := (mkF m 331 #[rv a4, rv w1, rv ac, .val .null, .val .null, .val .null, .val .null, .val .null, .val .null, iv (0 : Int32), iv (1 : Int32), uu, uu] [(.ref w1), (.ref a4)])) rfl rfl (hb hby own_d9_331)
  have Fw20 := ((((((F40.ext E8).ext E10).ext E12).ext E14).ext E16).ext E18).same W20
  have N20 := Fr.snoc X20 N19 g_a4
  refine ov (B := T20.setTop (mkF m 334 #[rv a4, rv w1, rv ac, .val .null, .val .null, .val .null, .val .null, .val .null, .val .null, iv (0 : Int32), iv (1 : Int32), uu, uu] [])) (fun t k => st20 t k) ?_
  refine oALN (n := 335) X20 hx (hb hby own_d9_334) rfl rfl rfl ?_
  refine oALN (n := 336) X20 hx (hb hby own_d9_335) rfl rfl rfl ?_
  obtain ⟨T21, h21, X21, e21, W21, st21⟩ := putF X20 hx hZ hown (host := "") (Or.inl (oW hw 79 rfl)) Via.refl e20 (((((((F41.ext E8).ext E10).ext E12).ext E14).ext E16).ext E18).other W20 (Or.inr (slot_ne (Or.inr (oW hw 80 rfl)) (Or.inr (oW hw 78 rfl)) (by decide +kernel) (t := (.object sAB)) (t' := (.object sAC)) (by decide +kernel) (by decide +kernel)))) (((((((E4.ext E8).ext E10).ext E12).ext E14).ext E16).ext E18).wr W20) (Or.inr ⟨(oW hw 80 rfl), rfl, hnm⟩) (oW hw 42 rfl) (ty := (.object sAB)) (by decide) rfl rfl (g := (mkF m 336 #[rv a4, rv w1, rv ac, .val .null, .val .null, .val .null, .val .null, .val .null, .val .null, iv (0 : Int32), iv (1 : Int32), uu, uu] [(.ref ac), (.ref a4)])) rfl rfl (hb hby own_d9_336)
  have Fw21 := (((((((F41.ext E8).ext E10).ext E12).ext E14).ext E16).ext E18).other W20 (Or.inr (slot_ne (Or.inr (oW hw 80 rfl)) (Or.inr (oW hw 78 rfl)) (by decide +kernel) (t := (.object sAB)) (t' := (.object sAC)) (by decide +kernel) (by decide +kernel)))).same W21
  have N21 := Fr.snoc X21 N20 g_a4
  refine ov (B := T21.setTop (mkF m 339 #[rv a4, rv w1, rv ac, .val .null, .val .null, .val .null, .val .null, .val .null, .val .null, iv (0 : Int32), iv (1 : Int32), uu, uu] [])) (fun t k => st21 t k) ?_
  refine oALN (n := 340) X21 hx (hb hby own_d9_339) rfl rfl rfl ?_
  refine oALN (n := 341) X21 hx (hb hby own_d9_340) rfl rfl rfl ?_
  obtain ⟨T22, h22, X22, e22, W22, st22⟩ := putF X21 hx hZ hown (host := "") (Or.inl (oW hw 81 rfl)) Via.refl e21 ((((((((F42.ext E8).ext E10).ext E12).ext E14).ext E16).ext E18).other W20 (Or.inr (slot_ne (Or.inr (oW hw 82 rfl)) (Or.inr (oW hw 78 rfl)) (by decide +kernel) (t := (.object sAB)) (t' := (.object sAC)) (by decide +kernel) (by decide +kernel)))).other W21 (Or.inr (slot_ne (Or.inr (oW hw 82 rfl)) (Or.inr (oW hw 80 rfl)) (by decide +kernel) (t := (.object sAB)) (t' := (.object sAB)) (by decide +kernel) (by decide +kernel)))) ((((((((E4.ext E8).ext E10).ext E12).ext E14).ext E16).ext E18).wr W20).wr W21) (Or.inr ⟨(oW hw 82 rfl), rfl, hnm⟩) (oW hw 42 rfl) (ty := (.object sAB)) (by decide) rfl rfl (g := (mkF m 341 #[rv a4, rv w1, rv ac, .val .null, .val .null, .val .null, .val .null, .val .null, .val .null, iv (0 : Int32), iv (1 : Int32), uu, uu] [.null, (.ref a4)])) rfl rfl (hb hby own_d9_341)
  have Fw22 := ((((((((F42.ext E8).ext E10).ext E12).ext E14).ext E16).ext E18).other W20 (Or.inr (slot_ne (Or.inr (oW hw 82 rfl)) (Or.inr (oW hw 78 rfl)) (by decide +kernel) (t := (.object sAB)) (t' := (.object sAC)) (by decide +kernel) (by decide +kernel)))).other W21 (Or.inr (slot_ne (Or.inr (oW hw 82 rfl)) (Or.inr (oW hw 80 rfl)) (by decide +kernel) (t := (.object sAB)) (t' := (.object sAB)) (by decide +kernel) (by decide +kernel)))).same W22
  have N22 := Fr.snoc X22 N21 g_a4
  refine ov (B := T22.setTop (mkF m 344 #[rv a4, rv w1, rv ac, .val .null, .val .null, .val .null, .val .null, .val .null, .val .null, iv (0 : Int32), iv (1 : Int32), uu, uu] [])) (fun t k => st22 t k) ?_
  refine oALN (n := 345) X22 hx (hb hby own_d9_344) rfl rfl rfl ?_
  refine oAL (n := 347) X22 hx (hb hby own_d9_345) rfl rfl rfl ?_
  obtain ⟨T23, h23, X23, e23, W23, st23⟩ := putF X22 hx hZ hown (host := "") (Or.inl (oW hw 83 rfl)) Via.refl e22 (((((((((F43.ext E8).ext E10).ext E12).ext E14).ext E16).ext E18).other W20 (Or.inr (slot_ne (Or.inr (oW hw 84 rfl)) (Or.inr (oW hw 78 rfl)) (by decide +kernel) (t := (.object sAB)) (t' := (.object sAC)) (by decide +kernel) (by decide +kernel)))).other W21 (Or.inr (slot_ne (Or.inr (oW hw 84 rfl)) (Or.inr (oW hw 80 rfl)) (by decide +kernel) (t := (.object sAB)) (t' := (.object sAB)) (by decide +kernel) (by decide +kernel)))).other W22 (Or.inr (slot_ne (Or.inr (oW hw 84 rfl)) (Or.inr (oW hw 82 rfl)) (by decide +kernel) (t := (.object sAB)) (t' := (.object sAB)) (by decide +kernel) (by decide +kernel)))) (((((((((E4.ext E8).ext E10).ext E12).ext E14).ext E16).ext E18).wr W20).wr W21).wr W22) (Or.inr ⟨(oW hw 84 rfl), rfl, hnm⟩) (oW hw 42 rfl) (ty := (.object sAB)) (by decide) rfl rfl (g := (mkF m 347 #[rv a4, rv w1, rv ac, .val .null, .val .null, .val .null, .val .null, .val .null, .val .null, iv (0 : Int32), iv (1 : Int32), uu, uu] [.null, (.ref a4)])) rfl rfl (hb hby own_d9_347)
  have Fw23 := (((((((((F43.ext E8).ext E10).ext E12).ext E14).ext E16).ext E18).other W20 (Or.inr (slot_ne (Or.inr (oW hw 84 rfl)) (Or.inr (oW hw 78 rfl)) (by decide +kernel) (t := (.object sAB)) (t' := (.object sAC)) (by decide +kernel) (by decide +kernel)))).other W21 (Or.inr (slot_ne (Or.inr (oW hw 84 rfl)) (Or.inr (oW hw 80 rfl)) (by decide +kernel) (t := (.object sAB)) (t' := (.object sAB)) (by decide +kernel) (by decide +kernel)))).other W22 (Or.inr (slot_ne (Or.inr (oW hw 84 rfl)) (Or.inr (oW hw 82 rfl)) (by decide +kernel) (t := (.object sAB)) (t' := (.object sAB)) (by decide +kernel) (by decide +kernel)))).same W23
  have N23 := Fr.snoc X23 N22 g_a4
  refine ov (B := T23.setTop (mkF m 350 #[rv a4, rv w1, rv ac, .val .null, .val .null, .val .null, .val .null, .val .null, .val .null, iv (0 : Int32), iv (1 : Int32), uu, uu] [])) (fun t k => st23 t k) ?_
  refine oALN (n := 351) X23 hx (hb hby own_d9_350) rfl rfl rfl ?_
  refine oAL (n := 353) X23 hx (hb hby own_d9_351) rfl rfl rfl ?_
  obtain ⟨T24, h24, X24, e24, W24, st24⟩ := putF X23 hx hZ hown (host := "") (Or.inl (oW hw 85 rfl)) Via.refl e23 ((((((((((F44.ext E8).ext E10).ext E12).ext E14).ext E16).ext E18).other W20 (Or.inr (slot_ne (Or.inr (oW hw 86 rfl)) (Or.inr (oW hw 78 rfl)) (by decide +kernel) (t := (.object sAB)) (t' := (.object sAC)) (by decide +kernel) (by decide +kernel)))).other W21 (Or.inr (slot_ne (Or.inr (oW hw 86 rfl)) (Or.inr (oW hw 80 rfl)) (by decide +kernel) (t := (.object sAB)) (t' := (.object sAB)) (by decide +kernel) (by decide +kernel)))).other W22 (Or.inr (slot_ne (Or.inr (oW hw 86 rfl)) (Or.inr (oW hw 82 rfl)) (by decide +kernel) (t := (.object sAB)) (t' := (.object sAB)) (by decide +kernel) (by decide +kernel)))).other W23 (Or.inr (slot_ne (Or.inr (oW hw 86 rfl)) (Or.inr (oW hw 84 rfl)) (by decide +kernel) (t := (.object sAB)) (t' := (.object sAB)) (by decide +kernel) (by decide +kernel)))) ((((((((((E4.ext E8).ext E10).ext E12).ext E14).ext E16).ext E18).wr W20).wr W21).wr W22).wr W23) (Or.inr ⟨(oW hw 86 rfl), rfl, hnm⟩) (oW hw 42 rfl) (ty := (.object sAB)) (by decide) rfl rfl (g := (mkF m 353 #[rv a4, rv w1, rv ac, .val .null, .val .null, .val .null, .val .null, .val .null, .val .null, iv (0 : Int32), iv (1 : Int32), uu, uu] [.null, (.ref a4)])) rfl rfl (hb hby own_d9_353)
  have Fw24 := ((((((((((F44.ext E8).ext E10).ext E12).ext E14).ext E16).ext E18).other W20 (Or.inr (slot_ne (Or.inr (oW hw 86 rfl)) (Or.inr (oW hw 78 rfl)) (by decide +kernel) (t := (.object sAB)) (t' := (.object sAC)) (by decide +kernel) (by decide +kernel)))).other W21 (Or.inr (slot_ne (Or.inr (oW hw 86 rfl)) (Or.inr (oW hw 80 rfl)) (by decide +kernel) (t := (.object sAB)) (t' := (.object sAB)) (by decide +kernel) (by decide +kernel)))).other W22 (Or.inr (slot_ne (Or.inr (oW hw 86 rfl)) (Or.inr (oW hw 82 rfl)) (by decide +kernel) (t := (.object sAB)) (t' := (.object sAB)) (by decide +kernel) (by decide +kernel)))).other W23 (Or.inr (slot_ne (Or.inr (oW hw 86 rfl)) (Or.inr (oW hw 84 rfl)) (by decide +kernel) (t := (.object sAB)) (t' := (.object sAB)) (by decide +kernel) (by decide +kernel)))).same W24
  have N24 := Fr.snoc X24 N23 g_a4
  refine ov (B := T24.setTop (mkF m 356 #[rv a4, rv w1, rv ac, .val .null, .val .null, .val .null, .val .null, .val .null, .val .null, iv (0 : Int32), iv (1 : Int32), uu, uu] [])) (fun t k => st24 t k) ?_
  refine oALN (n := 357) X24 hx (hb hby own_d9_356) rfl rfl rfl ?_
  refine oAL (n := 359) X24 hx (hb hby own_d9_357) rfl rfl rfl ?_
  obtain ⟨T25, h25, X25, e25, W25, st25⟩ := putF X24 hx hZ hown (host := "") (Or.inl (oW hw 87 rfl)) Via.refl e24 (((((((((((F45.ext E8).ext E10).ext E12).ext E14).ext E16).ext E18).other W20 (Or.inr (slot_ne (Or.inr (oW hw 88 rfl)) (Or.inr (oW hw 78 rfl)) (by decide +kernel) (t := (.object sAB)) (t' := (.object sAC)) (by decide +kernel) (by decide +kernel)))).other W21 (Or.inr (slot_ne (Or.inr (oW hw 88 rfl)) (Or.inr (oW hw 80 rfl)) (by decide +kernel) (t := (.object sAB)) (t' := (.object sAB)) (by decide +kernel) (by decide +kernel)))).other W22 (Or.inr (slot_ne (Or.inr (oW hw 88 rfl)) (Or.inr (oW hw 82 rfl)) (by decide +kernel) (t := (.object sAB)) (t' := (.object sAB)) (by decide +kernel) (by decide +kernel)))).other W23 (Or.inr (slot_ne (Or.inr (oW hw 88 rfl)) (Or.inr (oW hw 84 rfl)) (by decide +kernel) (t := (.object sAB)) (t' := (.object sAB)) (by decide +kernel) (by decide +kernel)))).other W24 (Or.inr (slot_ne (Or.inr (oW hw 88 rfl)) (Or.inr (oW hw 86 rfl)) (by decide +kernel) (t := (.object sAB)) (t' := (.object sAB)) (by decide +kernel) (by decide +kernel)))) (((((((((((E4.ext E8).ext E10).ext E12).ext E14).ext E16).ext E18).wr W20).wr W21).wr W22).wr W23).wr W24) (Or.inr ⟨(oW hw 88 rfl), rfl, hnm⟩) (oW hw 42 rfl) (ty := (.object sAB)) (by decide) rfl rfl (g := (mkF m 359 #[rv a4, rv w1, rv ac, .val .null, .val .null, .val .null, .val .null, .val .null, .val .null, iv (0 : Int32), iv (1 : Int32), uu, uu] [.null, (.ref a4)])) rfl rfl (hb hby own_d9_359)
  have Fw25 := (((((((((((F45.ext E8).ext E10).ext E12).ext E14).ext E16).ext E18).other W20 (Or.inr (slot_ne (Or.inr (oW hw 88 rfl)) (Or.inr (oW hw 78 rfl)) (by decide +kernel) (t := (.object sAB)) (t' := (.object sAC)) (by decide +kernel) (by decide +kernel)))).other W21 (Or.inr (slot_ne (Or.inr (oW hw 88 rfl)) (Or.inr (oW hw 80 rfl)) (by decide +kernel) (t := (.object sAB)) (t' := (.object sAB)) (by decide +kernel) (by decide +kernel)))).other W22 (Or.inr (slot_ne (Or.inr (oW hw 88 rfl)) (Or.inr (oW hw 82 rfl)) (by decide +kernel) (t := (.object sAB)) (t' := (.object sAB)) (by decide +kernel) (by decide +kernel)))).other W23 (Or.inr (slot_ne (Or.inr (oW hw 88 rfl)) (Or.inr (oW hw 84 rfl)) (by decide +kernel) (t := (.object sAB)) (t' := (.object sAB)) (by decide +kernel) (by decide +kernel)))).other W24 (Or.inr (slot_ne (Or.inr (oW hw 88 rfl)) (Or.inr (oW hw 86 rfl)) (by decide +kernel) (t := (.object sAB)) (t' := (.object sAB)) (by decide +kernel) (by decide +kernel)))).same W25
  have N25 := Fr.snoc X25 N24 g_a4
  refine ov (B := T25.setTop (mkF m 362 #[rv a4, rv w1, rv ac, .val .null, .val .null, .val .null, .val .null, .val .null, .val .null, iv (0 : Int32), iv (1 : Int32), uu, uu] [])) (fun t k => st25 t k) ?_
  refine oALN (n := 363) X25 hx (hb hby own_d9_362) rfl rfl rfl ?_
  refine oAL (n := 365) X25 hx (hb hby own_d9_363) rfl rfl rfl ?_
  obtain ⟨T26, h26, X26, e26, W26, st26⟩ := putF X25 hx hZ hown (host := "") (Or.inl (oW hw 89 rfl)) Via.refl e25 ((((((((((((F46.ext E8).ext E10).ext E12).ext E14).ext E16).ext E18).other W20 (Or.inr (slot_ne (Or.inr (oW hw 90 rfl)) (Or.inr (oW hw 78 rfl)) (by decide +kernel) (t := (.object "java/util/Set")) (t' := (.object sAC)) (by decide +kernel) (by decide +kernel)))).other W21 (Or.inr (slot_ne (Or.inr (oW hw 90 rfl)) (Or.inr (oW hw 80 rfl)) (by decide +kernel) (t := (.object "java/util/Set")) (t' := (.object sAB)) (by decide +kernel) (by decide +kernel)))).other W22 (Or.inr (slot_ne (Or.inr (oW hw 90 rfl)) (Or.inr (oW hw 82 rfl)) (by decide +kernel) (t := (.object "java/util/Set")) (t' := (.object sAB)) (by decide +kernel) (by decide +kernel)))).other W23 (Or.inr (slot_ne (Or.inr (oW hw 90 rfl)) (Or.inr (oW hw 84 rfl)) (by decide +kernel) (t := (.object "java/util/Set")) (t' := (.object sAB)) (by decide +kernel) (by decide +kernel)))).other W24 (Or.inr (slot_ne (Or.inr (oW hw 90 rfl)) (Or.inr (oW hw 86 rfl)) (by decide +kernel) (t := (.object "java/util/Set")) (t' := (.object sAB)) (by decide +kernel) (by decide +kernel)))).other W25 (Or.inr (slot_ne (Or.inr (oW hw 90 rfl)) (Or.inr (oW hw 88 rfl)) (by decide +kernel) (t := (.object "java/util/Set")) (t' := (.object sAB)) (by decide +kernel) (by decide +kernel)))) ((((((((((((E4.ext E8).ext E10).ext E12).ext E14).ext E16).ext E18).wr W20).wr W21).wr W22).wr W23).wr W24).wr W25) (Or.inr ⟨(oW hw 90 rfl), rfl, hnm⟩) (oW hw 42 rfl) (ty := (.object "java/util/Set")) (by decide) rfl rfl (g := (mkF m 365 #[rv a4, rv w1, rv ac, .val .null, .val .null, .val .null, .val .null, .val .null, .val .null, iv (0 : Int32), iv (1 : Int32), uu, uu] [.null, (.ref a4)])) rfl rfl (hb hby own_d9_365)
  have Fw26 := ((((((((((((F46.ext E8).ext E10).ext E12).ext E14).ext E16).ext E18).other W20 (Or.inr (slot_ne (Or.inr (oW hw 90 rfl)) (Or.inr (oW hw 78 rfl)) (by decide +kernel) (t := (.object "java/util/Set")) (t' := (.object sAC)) (by decide +kernel) (by decide +kernel)))).other W21 (Or.inr (slot_ne (Or.inr (oW hw 90 rfl)) (Or.inr (oW hw 80 rfl)) (by decide +kernel) (t := (.object "java/util/Set")) (t' := (.object sAB)) (by decide +kernel) (by decide +kernel)))).other W22 (Or.inr (slot_ne (Or.inr (oW hw 90 rfl)) (Or.inr (oW hw 82 rfl)) (by decide +kernel) (t := (.object "java/util/Set")) (t' := (.object sAB)) (by decide +kernel) (by decide +kernel)))).other W23 (Or.inr (slot_ne (Or.inr (oW hw 90 rfl)) (Or.inr (oW hw 84 rfl)) (by decide +kernel) (t := (.object "java/util/Set")) (t' := (.object sAB)) (by decide +kernel) (by decide +kernel)))).other W24 (Or.inr (slot_ne (Or.inr (oW hw 90 rfl)) (Or.inr (oW hw 86 rfl)) (by decide +kernel) (t := (.object "java/util/Set")) (t' := (.object sAB)) (by decide +kernel) (by decide +kernel)))).other W25 (Or.inr (slot_ne (Or.inr (oW hw 90 rfl)) (Or.inr (oW hw 88 rfl)) (by decide +kernel) (t := (.object "java/util/Set")) (t' := (.object sAB)) (by decide +kernel) (by decide +kernel)))).same W26
  have N26 := Fr.snoc X26 N25 g_a4
  refine ov (B := T26.setTop (mkF m 368 #[rv a4, rv w1, rv ac, .val .null, .val .null, .val .null, .val .null, .val .null, .val .null, iv (0 : Int32), iv (1 : Int32), uu, uu] [])) (fun t k => st26 t k) ?_
  refine oALN (n := 369) X26 hx (hb hby own_d9_368) rfl rfl rfl ?_
  refine oAL (n := 371) X26 hx (hb hby own_d9_369) rfl rfl rfl ?_
  obtain ⟨T27, h27, X27, e27, W27, st27⟩ := putF X26 hx hZ hown (host := "") (Or.inl (oW hw 91 rfl)) Via.refl e26 (((((((((((((F47.ext E8).ext E10).ext E12).ext E14).ext E16).ext E18).other W20 (Or.inr (slot_ne (Or.inr (oW hw 92 rfl)) (Or.inr (oW hw 78 rfl)) (by decide +kernel) (t := (.object sAB)) (t' := (.object sAC)) (by decide +kernel) (by decide +kernel)))).other W21 (Or.inr (slot_ne (Or.inr (oW hw 92 rfl)) (Or.inr (oW hw 80 rfl)) (by decide +kernel) (t := (.object sAB)) (t' := (.object sAB)) (by decide +kernel) (by decide +kernel)))).other W22 (Or.inr (slot_ne (Or.inr (oW hw 92 rfl)) (Or.inr (oW hw 82 rfl)) (by decide +kernel) (t := (.object sAB)) (t' := (.object sAB)) (by decide +kernel) (by decide +kernel)))).other W23 (Or.inr (slot_ne (Or.inr (oW hw 92 rfl)) (Or.inr (oW hw 84 rfl)) (by decide +kernel) (t := (.object sAB)) (t' := (.object sAB)) (by decide +kernel) (by decide +kernel)))).other W24 (Or.inr (slot_ne (Or.inr (oW hw 92 rfl)) (Or.inr (oW hw 86 rfl)) (by decide +kernel) (t := (.object sAB)) (t' := (.object sAB)) (by decide +kernel) (by decide +kernel)))).other W25 (Or.inr (slot_ne (Or.inr (oW hw 92 rfl)) (Or.inr (oW hw 88 rfl)) (by decide +kernel) (t := (.object sAB)) (t' := (.object sAB)) (by decide +kernel) (by decide +kernel)))).other W26 (Or.inr (slot_ne (Or.inr (oW hw 92 rfl)) (Or.inr (oW hw 90 rfl)) (by decide +kernel) (t := (.object sAB)) (t' := (.object "java/util/Set")) (by decide +kernel) (by decide +kernel)))) (((((((((((((E4.ext E8).ext E10).ext E12).ext E14).ext E16).ext E18).wr W20).wr W21).wr W22).wr W23).wr W24).wr W25).wr W26) (Or.inr ⟨(oW hw 92 rfl), rfl, hnm⟩) (oW hw 42 rfl) (ty := (.object sAB)) (by decide) rfl rfl (g := (mkF m 371 #[rv a4, rv w1, rv ac, .val .null, .val .null, .val .null, .val .null, .val .null, .val .null, iv (0 : Int32), iv (1 : Int32), uu, uu] [.null, (.ref a4)])) rfl rfl (hb hby own_d9_371)
  have Fw27 := (((((((((((((F47.ext E8).ext E10).ext E12).ext E14).ext E16).ext E18).other W20 (Or.inr (slot_ne (Or.inr (oW hw 92 rfl)) (Or.inr (oW hw 78 rfl)) (by decide +kernel) (t := (.object sAB)) (t' := (.object sAC)) (by decide +kernel) (by decide +kernel)))).other W21 (Or.inr (slot_ne (Or.inr (oW hw 92 rfl)) (Or.inr (oW hw 80 rfl)) (by decide +kernel) (t := (.object sAB)) (t' := (.object sAB)) (by decide +kernel) (by decide +kernel)))).other W22 (Or.inr (slot_ne (Or.inr (oW hw 92 rfl)) (Or.inr (oW hw 82 rfl)) (by decide +kernel) (t := (.object sAB)) (t' := (.object sAB)) (by decide +kernel) (by decide +kernel)))).other W23 (Or.inr (slot_ne (Or.inr (oW hw 92 rfl)) (Or.inr (oW hw 84 rfl)) (by decide +kernel) (t := (.object sAB)) (t' := (.object sAB)) (by decide +kernel) (by decide +kernel)))).other W24 (Or.inr (slot_ne (Or.inr (oW hw 92 rfl)) (Or.inr (oW hw 86 rfl)) (by decide +kernel) (t := (.object sAB)) (t' := (.object sAB)) (by decide +kernel) (by decide +kernel)))).other W25 (Or.inr (slot_ne (Or.inr (oW hw 92 rfl)) (Or.inr (oW hw 88 rfl)) (by decide +kernel) (t := (.object sAB)) (t' := (.object sAB)) (by decide +kernel) (by decide +kernel)))).other W26 (Or.inr (slot_ne (Or.inr (oW hw 92 rfl)) (Or.inr (oW hw 90 rfl)) (by decide +kernel) (t := (.object sAB)) (t' := (.object "java/util/Set")) (by decide +kernel) (by decide +kernel)))).same W27
  have N27 := Fr.snoc X27 N26 g_a4
  refine ov (B := T27.setTop (mkF m 374 #[rv a4, rv w1, rv ac, .val .null, .val .null, .val .null, .val .null, .val .null, .val .null, iv (0 : Int32), iv (1 : Int32), uu, uu] [])) (fun t k => st27 t k) ?_
  refine own_leafVW X27 hx hlk hS18 (by rw [e27]; exact (Nat.le_trans (Nat.le_trans (Nat.le_trans (Nat.le_trans (Nat.le_trans (Nat.le_trans (Nat.le_trans (Nat.le_trans hk18 (Keep.of_wr W20).1) (Keep.of_wr W21).1) (Keep.of_wr W22).1) (Keep.of_wr W23).1) (Keep.of_wr W24).1) (Keep.of_wr W25).1) (Keep.of_wr W26).1) (Keep.of_wr W27).1)) Bd.returns (hb hby own_d9_374) (by decide) (by decide) ?_
  show QQ1snnnnnn Z a4 w1 ac w0 w2 w3 w4 w5 u0 u1 u2 u3 u4 u5 u6 u7 t_ac k_ac cs_ac h0 n0 _ T27.heap _
  rw [e27]
  refine ⟨?_, N27, (((((((((((((((Keep.refl h0 [a4]).ext E8).ext E10).ext E12).ext E14).ext E16).ext E18).wr W20 (Or.inl (List.mem_of_getElem? (i := 0) rfl))).wr W21 (Or.inl (List.mem_of_getElem? (i := 0) rfl))).wr W22 (Or.inl (List.mem_of_getElem? (i := 0) rfl))).wr W23 (Or.inl (List.mem_of_getElem? (i := 0) rfl))).wr W24 (Or.inl (List.mem_of_getElem? (i := 0) rfl))).wr W25 (Or.inl (List.mem_of_getElem? (i := 0) rfl))).wr W26 (Or.inl (List.mem_of_getElem? (i := 0) rfl))).wr W27 (Or.inl (List.mem_of_getElem? (i := 0) rfl))), (((((((Fw20.other W21 (Or.inr (slot_ne (Or.inr (oW hw 78 rfl)) (Or.inr (oW hw 80 rfl)) (by decide +kernel) (t := (.object sAC)) (t' := (.object sAB)) (by decide +kernel) (by decide +kernel)))).other W22 (Or.inr (slot_ne (Or.inr (oW hw 78 rfl)) (Or.inr (oW hw 82 rfl)) (by decide +kernel) (t := (.object sAC)) (t' := (.object sAB)) (by decide +kernel) (by decide +kernel)))).other W23 (Or.inr (slot_ne (Or.inr (oW hw 78 rfl)) (Or.inr (oW hw 84 rfl)) (by decide +kernel) (t := (.object sAC)) (t' := (.object sAB)) (by decide +kernel) (by decide +kernel)))).other W24 (Or.inr (slot_ne (Or.inr (oW hw 78 rfl)) (Or.inr (oW hw 86 rfl)) (by decide +kernel) (t := (.object sAC)) (t' := (.object sAB)) (by decide +kernel) (by decide +kernel)))).other W25 (Or.inr (slot_ne (Or.inr (oW hw 78 rfl)) (Or.inr (oW hw 88 rfl)) (by decide +kernel) (t := (.object sAC)) (t' := (.object sAB)) (by decide +kernel) (by decide +kernel)))).other W26 (Or.inr (slot_ne (Or.inr (oW hw 78 rfl)) (Or.inr (oW hw 90 rfl)) (by decide +kernel) (t := (.object sAC)) (t' := (.object "java/util/Set")) (by decide +kernel) (by decide +kernel)))).other W27 (Or.inr (slot_ne (Or.inr (oW hw 78 rfl)) (Or.inr (oW hw 92 rfl)) (by decide +kernel) (t := (.object sAC)) (t' := (.object sAB)) (by decide +kernel) (by decide +kernel)))), ((((((Fw21.other W22 (Or.inr (slot_ne (Or.inr (oW hw 80 rfl)) (Or.inr (oW hw 82 rfl)) (by decide +kernel) (t := (.object sAB)) (t' := (.object sAB)) (by decide +kernel) (by decide +kernel)))).other W23 (Or.inr (slot_ne (Or.inr (oW hw 80 rfl)) (Or.inr (oW hw 84 rfl)) (by decide +kernel) (t := (.object sAB)) (t' := (.object sAB)) (by decide +kernel) (by decide +kernel)))).other W24 (Or.inr (slot_ne (Or.inr (oW hw 80 rfl)) (Or.inr (oW hw 86 rfl)) (by decide +kernel) (t := (.object sAB)) (t' := (.object sAB)) (by decide +kernel) (by decide +kernel)))).other W25 (Or.inr (slot_ne (Or.inr (oW hw 80 rfl)) (Or.inr (oW hw 88 rfl)) (by decide +kernel) (t := (.object sAB)) (t' := (.object sAB)) (by decide +kernel) (by decide +kernel)))).other W26 (Or.inr (slot_ne (Or.inr (oW hw 80 rfl)) (Or.inr (oW hw 90 rfl)) (by decide +kernel) (t := (.object sAB)) (t' := (.object "java/util/Set")) (by decide +kernel) (by decide +kernel)))).other W27 (Or.inr (slot_ne (Or.inr (oW hw 80 rfl)) (Or.inr (oW hw 92 rfl)) (by decide +kernel) (t := (.object sAB)) (t' := (.object sAB)) (by decide +kernel) (by decide +kernel))))⟩
  rfl
theorem own_d9_81 : decode prog_50_method_1_code 81 = .ok (.iconst 1, 1) := by decide +kernel
theorem own_d9_82 : decode prog_50_method_1_code 82 = .ok (.goto 4, 3) := by decide +kernel
theorem own_d9_93 : decode prog_50_method_1_code 93 = .ok (.iconst 1, 1) := by decide +kernel
theorem own_d9_94 : decode prog_50_method_1_code 94 = .ok (.goto 4, 3) := by decide +kernel
theorem own_efQ2sssnnnn (m : MethodId) (x0 : Addr) (x1 : Addr) (x2 : Addr) (x3 : Addr) (x4 : Addr) : entryFrame m #[(.ref x0), (.ref x1), (.ref x2), (.ref x3), (.ref x4), .null, .null, .null, .null] 13 = mkF m 0 #[rv x0, rv x1, rv x2, rv x3, rv x4, .val .null, .val .null, .val .null, .val .null, uu, uu, uu, uu] [] := by first | (simp [entryFrame, mkF, argsToLocals, Value.category]; done) | rfl
def QQ2sssnnnn (Z : State) (a4 : Addr) (w2 : Addr) (ac : Addr) (ui : Addr) (un : Addr) (w0 : Addr) (w1 : Addr) (w3 : Addr) (w4 : Addr) (w5 : Addr) (u0 : Value) (u1 : Value) (u2 : Value) (u3 : Value) (u4 : Value) (u5 : Value) (u6 : Value) (u7 : Value) (t_ac : Addr) (k_ac : ClassId) (cs_ac : List Int32) (t_ui : Addr) (k_ui : ClassId) (cs_ui : List Int32) (t_un : Addr) (k_un : ClassId) (cs_un : List Int32) (h0 : Heap) (n0 : Nat) (v : Option Value) (h : Heap) (L : List Loc) : Prop := v = none ∧ Fr n0 L ∧ Keep h0 h [a4] ∧ (Fld Z h a4 sAA "kind" sAG (.ref w2)) ∧ (Fld Z h a4 sAA "account" sAH (.ref ac))
set_option maxRecDepth 65536 in
set_option maxHeartbeats 40000000 in
theorem rmQ2sssnnnn (l : Launch) (Z : State) (a0 : Array Value) (hw : ∀ d ∈ tables_1, d.before a0 Z = true) (ws : List Jvm.Cond) (a4 : Addr) (w2 : Addr) (ac : Addr) (ui : Addr) (un : Addr) (w0 : Addr) (w1 : Addr) (w3 : Addr) (w4 : Addr) (w5 : Addr) (u0 : Value) (u1 : Value) (u2 : Value) (u3 : Value) (u4 : Value) (u5 : Value) (u6 : Value) (u7 : Value) (t_ac : Addr) (k_ac : ClassId) (cs_ac : List Int32) (t_ui : Addr) (k_ui : ClassId) (cs_ui : List Int32) (t_un : Addr) (k_un : ClassId) (cs_un : List Int32) (h0 : Heap) (n0 : Nat) (Z0 : n0 ≤ h0.size) (hall : own_All Z Z.heap w0 w1 w2 w3 w4 w5) (O0 : Old Z n0 h0) (E4 : Exa Z h0 a4 sAA) (F40 : Fld Z h0 a4 sAA "kind" sAG u0) (F41 : Fld Z h0 a4 sAA "account" sAH u1) (F42 : Fld Z h0 a4 sAA "userId" sAH u2) (F43 : Fld Z h0 a4 sAA "userName" sAH u3) (F44 : Fld Z h0 a4 sAA "agency" sAH u4) (F45 : Fld Z h0 a4 sAA sAU sAH u5) (F46 : Fld Z h0 a4 sAA "groups" "Ljava/util/Set;" u6) (F47 : Fld Z h0 a4 sAA "service" sAH u7) (g_a4 : n0 ≤ a4) (SE_ac : Exa Z h0 ac sAB) (SC_ac : Fld Z h0 ac sAB "coder" "B" (.int (0 : Int32))) (SV_ac : Fld Z h0 ac sAB "value" "[B" (.ref t_ac)) (SA_ac : Arv Z h0 t_ac k_ac .byte (Int32.ofNat cs_ac.length) ((cs_ac.map StrChars.lo8).map Value.int) (.int 0)) (Sp_ac : ∀ c ∈ cs_ac, ¬ c < 0 ∧ ¬ (255 : Int32) < c) (Sl_ac : 0 < cs_ac.length ∧ cs_ac.length ≤ 4000) (SE_ui : Exa Z h0 ui sAB) (SC_ui : Fld Z h0 ui sAB "coder" "B" (.int (0 : Int32))) (SV_ui : Fld Z h0 ui sAB "value" "[B" (.ref t_ui)) (SA_ui : Arv Z h0 t_ui k_ui .byte (Int32.ofNat cs_ui.length) ((cs_ui.map StrChars.lo8).map Value.int) (.int 0)) (Sp_ui : ∀ c ∈ cs_ui, ¬ c < 0 ∧ ¬ (255 : Int32) < c) (Sl_ui : 0 < cs_ui.length ∧ cs_ui.length ≤ 4000) (SE_un : Exa Z h0 un sAB) (SC_un : Fld Z h0 un sAB "coder" "B" (.int (0 : Int32))) (SV_un : Fld Z h0 un sAB "value" "[B" (.ref t_un)) (SA_un : Arv Z h0 t_un k_un .byte (Int32.ofNat cs_un.length) ((cs_un.map StrChars.lo8).map Value.int) (.int 0)) (Sp_un : ∀ c ∈ cs_un, ¬ c < 0 ∧ ¬ (255 : Int32) < c) (Sl_un : 0 < cs_un.length ∧ cs_un.length ≤ 4000) :
    MetFree l (⟨sAA, "<init>", sAE⟩ : MethodName) (head1 (Jvm.Cond.code (⟨sAA, "<init>", sAE⟩ : MethodName) prog_50_method_1_code 13 none :: ws) ({ frames := 2, cells := 12, slots := 216, locals := 25 } : Room)) (fun a U => a = #[(.ref a4), (.ref w2), (.ref ac), (.ref ui), (.ref un), .null, .null, .null, .null] ∧ Z.Warmed39 U.vm ∧ U.heap = h0) (fun _ _ _ _ _ => True) (fun _ U o U' => ∃ v L, o = .returned v ∧ QQ2sssnnnn Z a4 w2 ac ui un w0 w1 w3 w4 w5 u0 u1 u2 u3 u4 u5 u6 u7 t_ac k_ac cs_ac t_ui k_ui cs_ui t_un k_un cs_un h0 n0 v U'.heap L ∧ ReturnedEndW U o U' L ({ frames := 2, cells := 12, slots := 216, locals := 25 } : Room).cells ({ frames := 2, cells := 12, slots := 216, locals := 25 } : Room).slots) := by
  refine MetFree.of_bodySF (plainFor_of_name own_pn4) hisR ?_
  intro p e s m args below meth c s₁ Bd hml0 hP hK
  obtain ⟨rfl, hZ, hh⟩ := hP
  have hx := Bd.exec
  have hby := Bd.bytes
  have hlk : meth.locks = false := Bd.notSynchronized
  have hml : c.maxLocals = 13 := hml0
  have hown : s.vm.findClass sAA = some m.cls := findClass_of_methodNamed Bd.named
  have hnm := (name_of_methodNamed Bd.named Bd.method).1
  have X0 : Stand p l e ({ frames := 2, cells := 12, slots := 216, locals := 25 } : Room) (s.setVm s.vm) m #[(.ref a4), (.ref w2), (.ref ac), (.ref ui), (.ref un), .null, .null, .null, .null] below meth c s₁ [] 0 0 := Stand.of_body Bd
  have e0 : s₁.heap = h0 := by rw [← hh, Bd.state]; rfl
  have N0 := Fr.nil n0
  have hS0 : s.Since s.vm h0.size := (State.WarmedH.refl s).since _
  have hk0 : h0.size ≤ h0.size := Nat.le_refl _
  have wS : ∀ a ∈ Bundle.stringAtoms, a.before a0 Z = true := by
    intro a ha
    simp only [Bundle.stringAtoms, List.mem_cons, List.not_mem_nil, or_false] at ha
    rcases ha with rfl | rfl | rfl | rfl | rfl | rfl | rfl
    · exact (oW hw 9 rfl)
    · exact (oW hw 10 rfl)
    · exact (oW hw 11 rfl)
    · exact (oW hw 12 rfl)
    · exact (oW hw 13 rfl)
    · exact (oW hw 14 rfl)
    · exact (oW hw 15 rfl)
  refine own_bodyW (A := s₁.setTop (mkF m 0 #[rv a4, rv w2, rv ac, rv ui, rv un, .val .null, .val .null, .val .null, .val .null, uu, uu, uu, uu] [])) (Q := QQ2sssnnnn Z a4 w2 ac ui un w0 w1 w3 w4 w5 u0 u1 u2 u3 u4 u5 u6 u7 t_ac k_ac cs_ac t_ui k_ui cs_ui t_un k_un cs_un h0 n0) (fun t k => castTop (own_efQ2sssnnnn m a4 w2 ac ui un) k) ?_
  have hall' := hall
  obtain ⟨AA0, AA1, AA2, AA3, AA4, AA5⟩ := hall'
  refine oALN (n := 1) X0 hx (hb hby own_d9_0) rfl rfl rfl ?_
  obtain ⟨_, _, ⟨T1, L1, k1, n1⟩, -, X1, ⟨Lc1, hQ1, l1, y1, z1⟩, st1⟩ := X0.specialBack hx (y := (⟨sAV, "<init>", "()V"⟩ : MethodName)) rfl hown (mvT hZ (oW hw 49 rfl)) (mvT hZ (oW hw 50 rfl)) (mvT hZ (oW hw 53 rfl)) (by decide) (backOf (W := 0) (rmR l Z a0 hw [] a4 h0 n0 Z0 ) hZ (oW hw 53 rfl) (oW hw 52 rfl) (by decide) (by decide)) (g := (mkF m 1 #[rv a4, rv w2, rv ac, rv ui, rv un, .val .null, .val .null, .val .null, .val .null, uu, uu, uu, uu] [(.ref a4)])) rfl (by rw [hml]; rfl) (Steps.refl _) (a := a4) (argsL := []) (rest := []) (lenOf own_pd6 rfl) rfl (by show 2 * 0 + _ ≤ _; exact Nat.le_of_eq rfl) (hb hby own_d9_1) (fun _ _ => ⟨rfl, e0, (by decide : 0 + 0 ≤ _), (by decide : 0 + 0 ≤ _)⟩)
  dsimp only [Pt.U, Pt.locs, Pt.cells, Pt.slots] at X1 l1 y1 z1 st1 hQ1
  subst l1 y1 z1
  obtain ⟨rfl, Nq1, eq1⟩ := hQ1
  have N1 := Fr.app N0 Nq1
  refine ov (B := T1.setTop (mkF m 4 #[rv a4, rv w2, rv ac, rv ui, rv un, .val .null, .val .null, .val .null, .val .null, uu, uu, uu, uu] [])) (fun t k => st1.trans k) ?_
  refine oALN (n := 5) X1 hx (hb hby own_d9_4) rfl rfl rfl ?_
  refine ov (B := T1.setTop (mkF m 18 #[rv a4, rv w2, rv ac, rv ui, rv un, .val .null, .val .null, .val .null, .val .null, uu, uu, uu, uu] [])) (fun t k => XS.ifnonnullYes X1.here hx rfl (pc0 := 5) (pc' := 18) rfl (hb hby own_d9_5) rfl (by decide) (by decide) k) ?_
  refine oALN (n := 19) X1 hx (hb hby own_d9_18) rfl rfl rfl ?_
  obtain ⟨T2, X2, e2, st2⟩ := getS2 X1 hx hZ hown (host := "") (Or.inl (oW hw 55 rfl)) Via.refl eq1 (AA4.1.ext O0.2) (g := (mkF m 19 #[rv a4, rv w2, rv ac, rv ui, rv un, .val .null, .val .null, .val .null, .val .null, uu, uu, uu, uu] [(.ref w2)])) rfl (hb hby own_d9_19)
  refine ov (B := T2.setTop (mkF m 22 #[rv a4, rv w2, rv ac, rv ui, rv un, .val .null, .val .null, .val .null, .val .null, uu, uu, uu, uu] [(.ref w4), (.ref w2)])) (fun t k => st2 t k) ?_
  have hc22 : ¬ (w2 = w4) := own_ne AA2 AA4 (by decide)
  refine ov (B := T2.setTop (mkF m 29 #[rv a4, rv w2, rv ac, rv ui, rv un, .val .null, .val .null, .val .null, .val .null, uu, uu, uu, uu] [])) (fun t k => Jvm.RoadKit.acmp (g := (mkF m 22 #[rv a4, rv w2, rv ac, rv ui, rv un, .val .null, .val .null, .val .null, .val .null, uu, uu, uu, uu] [(.ref w4), (.ref w2)])) X2 hx rfl rfl rfl (pc0 := 22) (pc' := 29) (same := false) rfl (hb hby own_d9_22) rfl (decide_eq_false fun q => hc22 (Value.ref.inj q)) (by decide) (by decide) k) ?_
  refine oIC (n := 30) X2 hx (0 : Int32) (hb hby own_d9_29) (by decide) rfl ?_
  refine ov (B := T2.setTop (mkF m 32 #[rv a4, rv w2, rv ac, rv ui, rv un, .val .null, .val .null, .val .null, .val .null, iv (0 : Int32), uu, uu, uu] [])) (fun t k => XS.istore X2.here hx rfl (hb hby own_d9_30) rfl (l' := #[rv a4, rv w2, rv ac, rv ui, rv un, .val .null, .val .null, .val .null, .val .null, iv (0 : Int32), uu, uu, uu]) rfl k) ?_
  refine oALN (n := 33) X2 hx (hb hby own_d9_32) rfl rfl rfl ?_
  refine ov (B := T2.setTop (mkF m 36 #[rv a4, rv w2, rv ac, rv ui, rv un, .val .null, .val .null, .val .null, .val .null, iv (0 : Int32), uu, uu, uu] [])) (fun t k => XS.ifnullNo X2.here hx rfl (hb hby own_d9_33) rfl k) ?_
  refine oIC (n := 37) X2 hx (1 : Int32) (hb hby own_d9_36) (by decide) rfl ?_
  refine oGO (n := 41) X2 hx (hb hby own_d9_37) (by decide) (by decide) ?_
  refine oALN (n := 42) X2 hx (hb hby own_d9_41) rfl rfl rfl ?_
  obtain ⟨T3, X3, e3, st3⟩ := getS2 X2 hx hZ hown (host := "") (Or.inl (oW hw 57 rfl)) Via.refl e2 (AA0.1.ext O0.2) (g := (mkF m 42 #[rv a4, rv w2, rv ac, rv ui, rv un, .val .null, .val .null, .val .null, .val .null, iv (0 : Int32), uu, uu, uu] [(.ref w2), (.int (1 : Int32))])) rfl (hb hby own_d9_42)
  refine ov (B := T3.setTop (mkF m 45 #[rv a4, rv w2, rv ac, rv ui, rv un, .val .null, .val .null, .val .null, .val .null, iv (0 : Int32), uu, uu, uu] [(.ref w0), (.ref w2), (.int (1 : Int32))])) (fun t k => st3 t k) ?_
  have hc45 : ¬ (w2 = w0) := own_ne AA2 AA0 (by decide)
  refine ov (B := T3.setTop (mkF m 48 #[rv a4, rv w2, rv ac, rv ui, rv un, .val .null, .val .null, .val .null, .val .null, iv (0 : Int32), uu, uu, uu] [(.int (1 : Int32))])) (fun t k => Jvm.RoadKit.acmp (g := (mkF m 45 #[rv a4, rv w2, rv ac, rv ui, rv un, .val .null, .val .null, .val .null, .val .null, iv (0 : Int32), uu, uu, uu] [(.ref w0), (.ref w2), (.int (1 : Int32))])) X3 hx rfl rfl rfl (pc0 := 45) (pc' := 48) (same := false) rfl (hb hby own_d9_45) rfl (decide_eq_false fun q => hc45 (Value.ref.inj q)) (by decide) (by decide) k) ?_
  refine oALN (n := 49) X3 hx (hb hby own_d9_48) rfl rfl rfl ?_
  obtain ⟨T4, X4, e4, st4⟩ := getS2 X3 hx hZ hown (host := "") (Or.inl (oW hw 59 rfl)) Via.refl e3 (AA5.1.ext O0.2) (g := (mkF m 49 #[rv a4, rv w2, rv ac, rv ui, rv un, .val .null, .val .null, .val .null, .val .null, iv (0 : Int32), uu, uu, uu] [(.ref w2), (.int (1 : Int32))])) rfl (hb hby own_d9_49)
  refine ov (B := T4.setTop (mkF m 52 #[rv a4, rv w2, rv ac, rv ui, rv un, .val .null, .val .null, .val .null, .val .null, iv (0 : Int32), uu, uu, uu] [(.ref w5), (.ref w2), (.int (1 : Int32))])) (fun t k => st4 t k) ?_
  have hc52 : ¬ (w2 = w5) := own_ne AA2 AA5 (by decide)
  refine ov (B := T4.setTop (mkF m 55 #[rv a4, rv w2, rv ac, rv ui, rv un, .val .null, .val .null, .val .null, .val .null, iv (0 : Int32), uu, uu, uu] [(.int (1 : Int32))])) (fun t k => Jvm.RoadKit.acmp (g := (mkF m 52 #[rv a4, rv w2, rv ac, rv ui, rv un, .val .null, .val .null, .val .null, .val .null, iv (0 : Int32), uu, uu, uu] [(.ref w5), (.ref w2), (.int (1 : Int32))])) X4 hx rfl rfl rfl (pc0 := 52) (pc' := 55) (same := false) rfl (hb hby own_d9_52) rfl (decide_eq_false fun q => hc52 (Value.ref.inj q)) (by decide) (by decide) k) ?_
  refine oIC (n := 56) X4 hx (1 : Int32) (hb hby own_d9_55) (by decide) rfl ?_
  refine oGO (n := 60) X4 hx (hb hby own_d9_56) (by decide) (by decide) ?_
  have hc60 : (1 : Int32) = (1 : Int32) := by decide
  refine ov (B := T4.setTop (mkF m 63 #[rv a4, rv w2, rv ac, rv ui, rv un, .val .null, .val .null, .val .null, .val .null, iv (0 : Int32), uu, uu, uu] [])) (fun t k => XS.icmpNo X4.here hx rfl (hb hby own_d9_60) rfl (teq hc60).2 k) ?_
  refine oIC (n := 64) X4 hx (1 : Int32) (hb hby own_d9_63) (by decide) rfl ?_
  refine oGO (n := 68) X4 hx (hb hby own_d9_64) (by decide) (by decide) ?_
  refine ov (B := T4.setTop (mkF m 70 #[rv a4, rv w2, rv ac, rv ui, rv un, .val .null, .val .null, .val .null, .val .null, iv (0 : Int32), iv (1 : Int32), uu, uu] [])) (fun t k => XS.istore X4.here hx rfl (hb hby own_d9_68) rfl (l' := #[rv a4, rv w2, rv ac, rv ui, rv un, .val .null, .val .null, .val .null, .val .null, iv (0 : Int32), iv (1 : Int32), uu, uu]) rfl k) ?_
  refine oIL (n := 72) X4 hx (hb hby own_d9_70) rfl rfl ?_
  refine oALN (n := 73) X4 hx (hb hby own_d9_72) rfl rfl rfl ?_
  refine ov (B := T4.setTop (mkF m 81 #[rv a4, rv w2, rv ac, rv ui, rv un, .val .null, .val .null, .val .null, .val .null, iv (0 : Int32), iv (1 : Int32), uu, uu] [(.int (1 : Int32))])) (fun t k => XS.ifnonnullYes X4.here hx rfl (pc0 := 73) (pc' := 81) rfl (hb hby own_d9_73) rfl (by decide) (by decide) k) ?_
  refine oIC (n := 82) X4 hx (1 : Int32) (hb hby own_d9_81) (by decide) rfl ?_
  refine oGO (n := 86) X4 hx (hb hby own_d9_82) (by decide) (by decide) ?_
  refine oALN (n := 87) X4 hx (hb hby own_d9_86) rfl rfl rfl ?_
  obtain ⟨T5, X5, e5, st5⟩ := getS2 X4 hx hZ hown (host := "") (Or.inl (oW hw 43 rfl)) Via.refl e4 (AA2.1.ext O0.2) (g := (mkF m 87 #[rv a4, rv w2, rv ac, rv ui, rv un, .val .null, .val .null, .val .null, .val .null, iv (0 : Int32), iv (1 : Int32), uu, uu] [(.ref w2), (.int (1 : Int32)), (.int (1 : Int32))])) rfl (hb hby own_d9_87)
  refine ov (B := T5.setTop (mkF m 90 #[rv a4, rv w2, rv ac, rv ui, rv un, .val .null, .val .null, .val .null, .val .null, iv (0 : Int32), iv (1 : Int32), uu, uu] [(.ref w2), (.ref w2), (.int (1 : Int32)), (.int (1 : Int32))])) (fun t k => st5 t k) ?_
  have hc90 : w2 = w2 := rfl
  refine ov (B := T5.setTop (mkF m 93 #[rv a4, rv w2, rv ac, rv ui, rv un, .val .null, .val .null, .val .null, .val .null, iv (0 : Int32), iv (1 : Int32), uu, uu] [(.int (1 : Int32)), (.int (1 : Int32))])) (fun t k => Jvm.RoadKit.acmp (g := (mkF m 90 #[rv a4, rv w2, rv ac, rv ui, rv un, .val .null, .val .null, .val .null, .val .null, iv (0 : Int32), iv (1 : Int32), uu, uu] [(.ref w2), (.ref w2), (.int (1 : Int32)), (.int (1 : Int32))])) X5 hx rfl rfl rfl (pc0 := 90) (pc' := 93) (same := true) rfl (hb hby own_d9_90) rfl (decide_eq_true (congrArg Value.ref hc90)) (by decide) (by decide) k) ?_
  refine oIC (n := 94) X5 hx (1 : Int32) (hb hby own_d9_93) (by decide) rfl ?_
  refine oGO (n := 98) X5 hx (hb hby own_d9_94) (by decide) (by decide) ?_
  have hc98 : (1 : Int32) = (1 : Int32) := by decide
  refine ov (B := T5.setTop (mkF m 101 #[rv a4, rv w2, rv ac, rv ui, rv un, .val .null, .val .null, .val .null, .val .null, iv (0 : Int32), iv (1 : Int32), uu, uu] [(.int (1 : Int32))])) (fun t k => XS.icmpNo X5.here hx rfl (hb hby own_d9_98) rfl (teq hc98).2 k) ?_
  refine oIC (n := 102) X5 hx (1 : Int32) (hb hby own_d9_101) (by decide) rfl ?_
  refine oGO (n := 106) X5 hx (hb hby own_d9_102) (by decide) (by decide) ?_
  refine ov (B := T5.setTop (mkF m 107 #[rv a4, rv w2, rv ac, rv ui, rv un, .val .null, .val .null, .val .null, .val .null, iv (0 : Int32), iv (1 : Int32), uu, uu] [(.int (1 : Int32))])) (fun t k => XS.iand X5.here hx rfl (hb hby own_d9_106) rfl k) ?_
  refine ov (B := T5.setTop (mkF m 109 #[rv a4, rv w2, rv ac, rv ui, rv un, .val .null, .val .null, .val .null, .val .null, iv (0 : Int32), iv (1 : Int32), uu, uu] [])) (fun t k => XS.istore X5.here hx rfl (hb hby own_d9_107) rfl (l' := #[rv a4, rv w2, rv ac, rv ui, rv un, .val .null, .val .null, .val .null, .val .null, iv (0 : Int32), iv (1 : Int32), uu, uu]) rfl k) ?_
  refine oIL (n := 111) X5 hx (hb hby own_d9_109) rfl rfl ?_
  refine oAL (n := 113) X5 hx (hb hby own_d9_111) rfl rfl rfl ?_
  refine ov (B := T5.setTop (mkF m 120 #[rv a4, rv w2, rv ac, rv ui, rv un, .val .null, .val .null, .val .null, .val .null, iv (0 : Int32), iv (1 : Int32), uu, uu] [(.int (1 : Int32))])) (fun t k => XS.ifnullYes X5.here hx rfl (pc0 := 113) (pc' := 120) rfl (hb hby own_d9_113) rfl (by decide) (by decide) k) ?_
  refine oIC (n := 121) X5 hx (0 : Int32) (hb hby own_d9_120) (by decide) rfl ?_
  refine oALN (n := 122) X5 hx (hb hby own_d9_121) rfl rfl rfl ?_
  obtain ⟨T6, X6, e6, st6⟩ := getS2 X5 hx hZ hown (host := "") (Or.inl (oW hw 61 rfl)) Via.refl e5 (AA3.1.ext O0.2) (g := (mkF m 122 #[rv a4, rv w2, rv ac, rv ui, rv un, .val .null, .val .null, .val .null, .val .null, iv (0 : Int32), iv (1 : Int32), uu, uu] [(.ref w2), (.int (0 : Int32)), (.int (1 : Int32))])) rfl (hb hby own_d9_122)
  refine ov (B := T6.setTop (mkF m 125 #[rv a4, rv w2, rv ac, rv ui, rv un, .val .null, .val .null, .val .null, .val .null, iv (0 : Int32), iv (1 : Int32), uu, uu] [(.ref w3), (.ref w2), (.int (0 : Int32)), (.int (1 : Int32))])) (fun t k => st6 t k) ?_
  have hc125 : ¬ (w2 = w3) := own_ne AA2 AA3 (by decide)
  refine ov (B := T6.setTop (mkF m 132 #[rv a4, rv w2, rv ac, rv ui, rv un, .val .null, .val .null, .val .null, .val .null, iv (0 : Int32), iv (1 : Int32), uu, uu] [(.int (0 : Int32)), (.int (1 : Int32))])) (fun t k => Jvm.RoadKit.acmp (g := (mkF m 125 #[rv a4, rv w2, rv ac, rv ui, rv un, .val .null, .val .null, .val .null, .val .null, iv (0 : Int32), iv (1 : Int32), uu, uu] [(.ref w3), (.ref w2), (.int (0 : Int32)), (.int (1 : Int32))])) X6 hx rfl rfl rfl (pc0 := 125) (pc' := 132) (same := false) rfl (hb hby own_d9_125) rfl (decide_eq_false fun q => hc125 (Value.ref.inj q)) (by decide) (by decide) k) ?_
  refine oIC (n := 133) X6 hx (0 : Int32) (hb hby own_d9_132) (by decide) rfl ?_
  have hc133 : (0 : Int32) = (0 : Int32) := by decide
  refine ov (B := T6.setTop (mkF m 136 #[rv a4, rv w2, rv ac, rv ui, rv un, .val .null, .val .null, .val .null, .val .null, iv (0 : Int32), iv (1 : Int32), uu, uu] [(.int (1 : Int32))])) (fun t k => XS.icmpNo X6.here hx rfl (hb hby own_d9_133) rfl (teq hc133).2 k) ?_
  refine oIC (n := 137) X6 hx (1 : Int32) (hb hby own_d9_136) (by decide) rfl ?_
  refine oGO (n := 141) X6 hx (hb hby own_d9_137) (by decide) (by decide) ?_
  refine ov (B := T6.setTop (mkF m 142 #[rv a4, rv w2, rv ac, rv ui, rv un, .val .null, .val .null, .val .null, .val .null, iv (0 : Int32), iv (1 : Int32), uu, uu] [(.int (1 : Int32))])) (fun t k => XS.iand X6.here hx rfl (hb hby own_d9_141) rfl k) ?_
  refine ov (B := T6.setTop (mkF m 144 #[rv a4, rv w2, rv ac, rv ui, rv un, .val .null, .val .null, .val .null, .val .null, iv (0 : Int32), iv (1 : Int32), uu, uu] [])) (fun t k => XS.istore X6.here hx rfl (hb hby own_d9_142) rfl (l' := #[rv a4, rv w2, rv ac, rv ui, rv un, .val .null, .val .null, .val .null, .val .null, iv (0 : Int32), iv (1 : Int32), uu, uu]) rfl k) ?_
  refine oIL (n := 146) X6 hx (hb hby own_d9_144) rfl rfl ?_
  refine oAL (n := 148) X6 hx (hb hby own_d9_146) rfl rfl rfl ?_
  refine ov (B := T6.setTop (mkF m 155 #[rv a4, rv w2, rv ac, rv ui, rv un, .val .null, .val .null, .val .null, .val .null, iv (0 : Int32), iv (1 : Int32), uu, uu] [(.int (1 : Int32))])) (fun t k => XS.ifnullYes X6.here hx rfl (pc0 := 148) (pc' := 155) rfl (hb hby own_d9_148) rfl (by decide) (by decide) k) ?_
  refine oIC (n := 156) X6 hx (0 : Int32) (hb hby own_d9_155) (by decide) rfl ?_
  refine oIL (n := 158) X6 hx (hb hby own_d9_156) rfl rfl ?_
  have hc158 : (0 : Int32) = (0 : Int32) := by decide
  refine ov (B := T6.setTop (mkF m 161 #[rv a4, rv w2, rv ac, rv ui, rv un, .val .null, .val .null, .val .null, .val .null, iv (0 : Int32), iv (1 : Int32), uu, uu] [(.int (1 : Int32))])) (fun t k => XS.icmpNo X6.here hx rfl (hb hby own_d9_158) rfl (teq hc158).2 k) ?_
  refine oAL (n := 163) X6 hx (hb hby own_d9_161) rfl rfl rfl ?_
  refine ov (B := T6.setTop (mkF m 170 #[rv a4, rv w2, rv ac, rv ui, rv un, .val .null, .val .null, .val .null, .val .null, iv (0 : Int32), iv (1 : Int32), uu, uu] [(.int (1 : Int32))])) (fun t k => XS.ifnullYes X6.here hx rfl (pc0 := 163) (pc' := 170) rfl (hb hby own_d9_163) rfl (by decide) (by decide) k) ?_
  refine oIC (n := 171) X6 hx (0 : Int32) (hb hby own_d9_170) (by decide) rfl ?_
  refine oIL (n := 173) X6 hx (hb hby own_d9_171) rfl rfl ?_
  have hc173 : (0 : Int32) = (0 : Int32) := by decide
  refine ov (B := T6.setTop (mkF m 176 #[rv a4, rv w2, rv ac, rv ui, rv un, .val .null, .val .null, .val .null, .val .null, iv (0 : Int32), iv (1 : Int32), uu, uu] [(.int (1 : Int32))])) (fun t k => XS.icmpNo X6.here hx rfl (hb hby own_d9_173) rfl (teq hc173).2 k) ?_
  refine oIC (n := 177) X6 hx (1 : Int32) (hb hby own_d9_176) (by decide) rfl ?_
  refine oGO (n := 181) X6 hx (hb hby own_d9_177) (by decide) (by decide) ?_
  refine ov (B := T6.setTop (mkF m 182 #[rv a4, rv w2, rv ac, rv ui, rv un, .val .null, .val .null, .val .null, .val .null, iv (0 : Int32), iv (1 : Int32), uu, uu] [(.int (1 : Int32))])) (fun t k => XS.iand X6.here hx rfl (hb hby own_d9_181) rfl k) ?_
  refine ov (B := T6.setTop (mkF m 184 #[rv a4, rv w2, rv ac, rv ui, rv un, .val .null, .val .null, .val .null, .val .null, iv (0 : Int32), iv (1 : Int32), uu, uu] [])) (fun t k => XS.istore X6.here hx rfl (hb hby own_d9_182) rfl (l' := #[rv a4, rv w2, rv ac, rv ui, rv un, .val .null, .val .null, .val .null, .val .null, iv (0 : Int32), iv (1 : Int32), uu, uu]) rfl k) ?_
  refine oIL (n := 186) X6 hx (hb hby own_d9_184) rfl rfl ?_
  refine oAL (n := 188) X6 hx (hb hby own_d9_186) rfl rfl rfl ?_
  refine ov (B := T6.setTop (mkF m 195 #[rv a4, rv w2, rv ac, rv ui, rv un, .val .null, .val .null, .val .null, .val .null, iv (0 : Int32), iv (1 : Int32), uu, uu] [(.int (1 : Int32))])) (fun t k => XS.ifnullYes X6.here hx rfl (pc0 := 188) (pc' := 195) rfl (hb hby own_d9_188) rfl (by decide) (by decide) k) ?_
  refine oIC (n := 196) X6 hx (0 : Int32) (hb hby own_d9_195) (by decide) rfl ?_
  refine oALN (n := 197) X6 hx (hb hby own_d9_196) rfl rfl rfl ?_
  obtain ⟨T7, X7, e7, st7⟩ := getS2 X6 hx hZ hown (host := "") (Or.inl (oW hw 59 rfl)) Via.refl e6 (AA5.1.ext O0.2) (g := (mkF m 197 #[rv a4, rv w2, rv ac, rv ui, rv un, .val .null, .val .null, .val .null, .val .null, iv (0 : Int32), iv (1 : Int32), uu, uu] [(.ref w2), (.int (0 : Int32)), (.int (1 : Int32))])) rfl (hb hby own_d9_197)
  refine ov (B := T7.setTop (mkF m 200 #[rv a4, rv w2, rv ac, rv ui, rv un, .val .null, .val .null, .val .null, .val .null, iv (0 : Int32), iv (1 : Int32), uu, uu] [(.ref w5), (.ref w2), (.int (0 : Int32)), (.int (1 : Int32))])) (fun t k => st7 t k) ?_
  have hc200 : ¬ (w2 = w5) := own_ne AA2 AA5 (by decide)
  refine ov (B := T7.setTop (mkF m 207 #[rv a4, rv w2, rv ac, rv ui, rv un, .val .null, .val .null, .val .null, .val .null, iv (0 : Int32), iv (1 : Int32), uu, uu] [(.int (0 : Int32)), (.int (1 : Int32))])) (fun t k => Jvm.RoadKit.acmp (g := (mkF m 200 #[rv a4, rv w2, rv ac, rv ui, rv un, .val .null, .val .null, .val .null, .val .null, iv (0 : Int32), iv (1 : Int32), uu, uu] [(.ref w5), (.ref w2), (.int (0 : Int32)), (.int (1 : Int32))])) X7 hx rfl rfl rfl (pc0 := 200) (pc' := 207) (same := false) rfl (hb hby own_d9_200) rfl (decide_eq_false fun q => hc200 (Value.ref.inj q)) (by decide) (by decide) k) ?_
  refine oIC (n := 208) X7 hx (0 : Int32) (hb hby own_d9_207) (by decide) rfl ?_
  have hc208 : (0 : Int32) = (0 : Int32) := by decide
  refine ov (B := T7.setTop (mkF m 211 #[rv a4, rv w2, rv ac, rv ui, rv un, .val .null, .val .null, .val .null, .val .null, iv (0 : Int32), iv (1 : Int32), uu, uu] [(.int (1 : Int32))])) (fun t k => XS.icmpNo X7.here hx rfl (hb hby own_d9_208) rfl (teq hc208).2 k) ?_
  refine oIC (n := 212) X7 hx (1 : Int32) (hb hby own_d9_211) (by decide) rfl ?_
  refine oGO (n := 216) X7 hx (hb hby own_d9_212) (by decide) (by decide) ?_
  refine ov (B := T7.setTop (mkF m 217 #[rv a4, rv w2, rv ac, rv ui, rv un, .val .null, .val .null, .val .null, .val .null, iv (0 : Int32), iv (1 : Int32), uu, uu] [(.int (1 : Int32))])) (fun t k => XS.iand X7.here hx rfl (hb hby own_d9_216) rfl k) ?_
  refine ov (B := T7.setTop (mkF m 219 #[rv a4, rv w2, rv ac, rv ui, rv un, .val .null, .val .null, .val .null, .val .null, iv (0 : Int32), iv (1 : Int32), uu, uu] [])) (fun t k => XS.istore X7.here hx rfl (hb hby own_d9_217) rfl (l' := #[rv a4, rv w2, rv ac, rv ui, rv un, .val .null, .val .null, .val .null, .val .null, iv (0 : Int32), iv (1 : Int32), uu, uu]) rfl k) ?_
  refine oIL (n := 221) X7 hx (hb hby own_d9_219) rfl rfl ?_
  have hc221 : ¬ ((1 : Int32) = (0 : Int32)) := by decide
  refine ov (B := T7.setTop (mkF m 236 #[rv a4, rv w2, rv ac, rv ui, rv un, .val .null, .val .null, .val .null, .val .null, iv (0 : Int32), iv (1 : Int32), uu, uu] [])) (fun t k => XS.ifYes X7.here hx rfl (pc0 := 221) (pc' := 236) rfl (hb hby own_d9_221) rfl ((if0 _ _).trans (feq hc221).2) (by decide) (by decide) k) ?_
  obtain ⟨c8, T8, h8, k8, X8, e8, E8, hS8, hk8, hZ, hown, st8⟩ := ldcS X7 hx hZ hown (oW hw 63 rfl) wS e7 hS0 hk0 (g := (mkF m 236 #[rv a4, rv w2, rv ac, rv ui, rv un, .val .null, .val .null, .val .null, .val .null, iv (0 : Int32), iv (1 : Int32), uu, uu] [])) rfl (hb hby own_d9_236) (n := 28) (by decide) (by decide) (by decide) (by decide)
  refine ov (B := T8.setTop (mkF m 238 #[rv a4, rv w2, rv ac, rv ui, rv un, .val .null, .val .null, .val .null, .val .null, iv (0 : Int32), iv (1 : Int32), uu, uu] [(.ref c8)])) (fun t k => st8 t k) ?_
  refine oALN (n := 239) X8 hx (hb hby own_d9_238) rfl rfl rfl ?_
  obtain ⟨_, _, ⟨T9, L9, k9, n9⟩, -, X9, ⟨Lc9, hQ9, l9, y9, z9⟩, st9⟩ := Jvm.LawKit.callS X8 hx (y := (⟨sAA, "requireNonEmpty", sAN⟩ : MethodName)) hown (mvT hZ (oW hw 64 rfl)) (mvT hZ (oW hw 65 rfl)) (mvT hZ (oW hw 39 rfl)) (mvT hZ (oW hw 66 rfl)) (by decide) (backOf (W := 0) (rmN1 l Z a0 hw [] c8 ac t_ac k_ac cs_ac h8 n0 (Nat.le_trans Z0 E8.1) (SE_ac.ext E8) (SC_ac.ext E8) (SV_ac.ext E8) (SA_ac.ext E8) Sp_ac Sl_ac) hZ (oW hw 66 rfl) (oW hw 39 rfl) (by decide) (by decide)) (g := (mkF m 239 #[rv a4, rv w2, rv ac, rv ui, rv un, .val .null, .val .null, .val .null, .val .null, iv (0 : Int32), iv (1 : Int32), uu, uu] [(.ref ac), (.ref c8)])) rfl (by rw [hml]; rfl) (argsL := [(.ref c8), (.ref ac)]) (rest := []) (lenOf own_pd7 rfl) rfl (by show 2 * 0 + _ ≤ _; exact Nat.le_of_eq rfl) (hb hby own_d9_239) (fun _ _ => ⟨rfl, e8, (by decide : ((0 + 0) + 2) + 0 ≤ _), (by decide : ((0 + 0) + (28 + 4)) + 0 ≤ _)⟩)
  dsimp only [Pt.U, Pt.locs, Pt.cells, Pt.slots] at X9 l9 y9 z9 st9 hQ9
  subst l9 y9 z9
  obtain ⟨rfl, Nq9, eq9⟩ := hQ9
  have N9 := Fr.app N1 Nq9
  refine ov (B := T9.setTop (mkF m 242 #[rv a4, rv w2, rv ac, rv ui, rv un, .val .null, .val .null, .val .null, .val .null, iv (0 : Int32), iv (1 : Int32), uu, uu] [])) (fun t k => st9 t k) ?_
  obtain ⟨c10, T10, h10, k10, X10, e10, E10, hS10, hk10, hZ, hown, st10⟩ := ldcS X9 hx hZ hown (oW hw 72 rfl) wS eq9 hS8 hk8 (g := (mkF m 242 #[rv a4, rv w2, rv ac, rv ui, rv un, .val .null, .val .null, .val .null, .val .null, iv (0 : Int32), iv (1 : Int32), uu, uu] [])) rfl (hb hby own_d9_242) (n := 16) (by decide) (by decide) (by decide) (by decide)
  refine ov (B := T10.setTop (mkF m 244 #[rv a4, rv w2, rv ac, rv ui, rv un, .val .null, .val .null, .val .null, .val .null, iv (0 : Int32), iv (1 : Int32), uu, uu] [(.ref c10)])) (fun t k => st10 t k) ?_
  refine oALN (n := 245) X10 hx (hb hby own_d9_244) rfl rfl rfl ?_
  obtain ⟨_, _, ⟨T11, L11, k11, n11⟩, -, X11, ⟨Lc11, hQ11, l11, y11, z11⟩, st11⟩ := Jvm.LawKit.callS X10 hx (y := (⟨sAA, "requireNonEmpty", sAN⟩ : MethodName)) hown (mvT hZ (oW hw 64 rfl)) (mvT hZ (oW hw 65 rfl)) (mvT hZ (oW hw 39 rfl)) (mvT hZ (oW hw 66 rfl)) (by decide) (backOf (W := 0) (rmN1 l Z a0 hw [] c10 ui t_ui k_ui cs_ui h10 n0 (Nat.le_trans (Nat.le_trans Z0 E8.1) E10.1) ((SE_ui.ext E8).ext E10) ((SC_ui.ext E8).ext E10) ((SV_ui.ext E8).ext E10) ((SA_ui.ext E8).ext E10) Sp_ui Sl_ui) hZ (oW hw 66 rfl) (oW hw 39 rfl) (by decide) (by decide)) (g := (mkF m 245 #[rv a4, rv w2, rv ac, rv ui, rv un, .val .null, .val .null, .val .null, .val .null, iv (0 : Int32), iv (1 : Int32), uu, uu] [(.ref ui), (.ref c10)])) rfl (by rw [hml]; rfl) (argsL := [(.ref c10), (.ref ui)]) (rest := []) (lenOf own_pd7 rfl) rfl (by show 2 * 0 + _ ≤ _; exact Nat.le_of_eq rfl) (hb hby own_d9_245) (fun _ _ => ⟨rfl, e10, (by decide : ((((0 + 0) + 2) + 0) + 2) + 0 ≤ _), (by decide : ((((0 + 0) + (28 + 4)) + 0) + (16 + 4)) + 0 ≤ _)⟩)
  dsimp only [Pt.U, Pt.locs, Pt.cells, Pt.slots] at X11 l11 y11 z11 st11 hQ11
  subst l11 y11 z11
  obtain ⟨rfl, Nq11, eq11⟩ := hQ11
  have N11 := Fr.app N9 Nq11
  refine ov (B := T11.setTop (mkF m 248 #[rv a4, rv w2, rv ac, rv ui, rv un, .val .null, .val .null, .val .null, .val .null, iv (0 : Int32), iv (1 : Int32), uu, uu] [])) (fun t k => st11 t k) ?_
  obtain ⟨c12, T12, h12, k12, X12, e12, E12, hS12, hk12, hZ, hown, st12⟩ := ldcS X11 hx hZ hown (oW hw 73 rfl) wS eq11 hS10 hk10 (g := (mkF m 248 #[rv a4, rv w2, rv ac, rv ui, rv un, .val .null, .val .null, .val .null, .val .null, iv (0 : Int32), iv (1 : Int32), uu, uu] [])) rfl (hb hby own_d9_248) (n := 32) (by decide) (by decide) (by decide) (by decide)
  refine ov (B := T12.setTop (mkF m 250 #[rv a4, rv w2, rv ac, rv ui, rv un, .val .null, .val .null, .val .null, .val .null, iv (0 : Int32), iv (1 : Int32), uu, uu] [(.ref c12)])) (fun t k => st12 t k) ?_
  refine oAL (n := 252) X12 hx (hb hby own_d9_250) rfl rfl rfl ?_
  obtain ⟨_, _, ⟨T13, L13, k13, n13⟩, -, X13, ⟨Lc13, hQ13, l13, y13, z13⟩, st13⟩ := Jvm.LawKit.callS X12 hx (y := (⟨sAA, "requireNonEmpty", sAN⟩ : MethodName)) hown (mvT hZ (oW hw 64 rfl)) (mvT hZ (oW hw 65 rfl)) (mvT hZ (oW hw 39 rfl)) (mvT hZ (oW hw 66 rfl)) (by decide) (backOf (W := 0) (rmN1 l Z a0 hw [] c12 un t_un k_un cs_un h12 n0 (Nat.le_trans (Nat.le_trans (Nat.le_trans Z0 E8.1) E10.1) E12.1) (((SE_un.ext E8).ext E10).ext E12) (((SC_un.ext E8).ext E10).ext E12) (((SV_un.ext E8).ext E10).ext E12) (((SA_un.ext E8).ext E10).ext E12) Sp_un Sl_un) hZ (oW hw 66 rfl) (oW hw 39 rfl) (by decide) (by decide)) (g := (mkF m 252 #[rv a4, rv w2, rv ac, rv ui, rv un, .val .null, .val .null, .val .null, .val .null, iv (0 : Int32), iv (1 : Int32), uu, uu] [(.ref un), (.ref c12)])) rfl (by rw [hml]; rfl) (argsL := [(.ref c12), (.ref un)]) (rest := []) (lenOf own_pd7 rfl) rfl (by show 2 * 0 + _ ≤ _; exact Nat.le_of_eq rfl) (hb hby own_d9_252) (fun _ _ => ⟨rfl, e12, (by decide : ((((((0 + 0) + 2) + 0) + 2) + 0) + 2) + 0 ≤ _), (by decide : ((((((0 + 0) + (28 + 4)) + 0) + (16 + 4)) + 0) + (32 + 4)) + 0 ≤ _)⟩)
  dsimp only [Pt.U, Pt.locs, Pt.cells, Pt.slots] at X13 l13 y13 z13 st13 hQ13
  subst l13 y13 z13
  obtain ⟨rfl, Nq13, eq13⟩ := hQ13
  have N13 := Fr.app N11 Nq13
  refine ov (B := T13.setTop (mkF m 255 #[rv a4, rv w2, rv ac, rv ui, rv un, .val .null, .val .null, .val .null, .val .null, iv (0 : Int32), iv (1 : Int32), uu, uu] [])) (fun t k => st13 t k) ?_
  obtain ⟨c14, T14, h14, k14, X14, e14, E14, hS14, hk14, hZ, hown, st14⟩ := ldcS X13 hx hZ hown (oW hw 74 rfl) wS eq13 hS12 hk12 (g := (mkF m 255 #[rv a4, rv w2, rv ac, rv ui, rv un, .val .null, .val .null, .val .null, .val .null, iv (0 : Int32), iv (1 : Int32), uu, uu] [])) rfl (hb hby own_d9_255) (n := 24) (by decide) (by decide) (by decide) (by decide)
  refine ov (B := T14.setTop (mkF m 257 #[rv a4, rv w2, rv ac, rv ui, rv un, .val .null, .val .null, .val .null, .val .null, iv (0 : Int32), iv (1 : Int32), uu, uu] [(.ref c14)])) (fun t k => st14 t k) ?_
  refine oAL (n := 259) X14 hx (hb hby own_d9_257) rfl rfl rfl ?_
  obtain ⟨_, _, ⟨T15, L15, k15, n15⟩, -, X15, ⟨Lc15, hQ15, l15, y15, z15⟩, st15⟩ := Jvm.LawKit.callS X14 hx (y := (⟨sAA, "requireNonEmpty", sAN⟩ : MethodName)) hown (mvT hZ (oW hw 64 rfl)) (mvT hZ (oW hw 65 rfl)) (mvT hZ (oW hw 39 rfl)) (mvT hZ (oW hw 66 rfl)) (by decide) (backOf (W := 0) (rmN0 l Z a0 hw [] c14 h14 n0 (Nat.le_trans (Nat.le_trans (Nat.le_trans (Nat.le_trans Z0 E8.1) E10.1) E12.1) E14.1) ) hZ (oW hw 66 rfl) (oW hw 39 rfl) (by decide) (by decide)) (g := (mkF m 259 #[rv a4, rv w2, rv ac, rv ui, rv un, .val .null, .val .null, .val .null, .val .null, iv (0 : Int32), iv (1 : Int32), uu, uu] [.null, (.ref c14)])) rfl (by rw [hml]; rfl) (argsL := [(.ref c14), .null]) (rest := []) (lenOf own_pd7 rfl) rfl (by show 2 * 0 + _ ≤ _; exact Nat.le_of_eq rfl) (hb hby own_d9_259) (fun _ _ => ⟨rfl, e14, (by decide : ((((((((0 + 0) + 2) + 0) + 2) + 0) + 2) + 0) + 2) + 0 ≤ _), (by decide : ((((((((0 + 0) + (28 + 4)) + 0) + (16 + 4)) + 0) + (32 + 4)) + 0) + (24 + 4)) + 0 ≤ _)⟩)
  dsimp only [Pt.U, Pt.locs, Pt.cells, Pt.slots] at X15 l15 y15 z15 st15 hQ15
  subst l15 y15 z15
  obtain ⟨rfl, Nq15, eq15⟩ := hQ15
  have N15 := Fr.app N13 Nq15
  refine ov (B := T15.setTop (mkF m 262 #[rv a4, rv w2, rv ac, rv ui, rv un, .val .null, .val .null, .val .null, .val .null, iv (0 : Int32), iv (1 : Int32), uu, uu] [])) (fun t k => st15 t k) ?_
  obtain ⟨c16, T16, h16, k16, X16, e16, E16, hS16, hk16, hZ, hown, st16⟩ := ldcS X15 hx hZ hown (oW hw 75 rfl) wS eq15 hS14 hk14 (g := (mkF m 262 #[rv a4, rv w2, rv ac, rv ui, rv un, .val .null, .val .null, .val .null, .val .null, iv (0 : Int32), iv (1 : Int32), uu, uu] [])) rfl (hb hby own_d9_262) (n := 64) (by decide) (by decide) (by decide) (by decide)
  refine ov (B := T16.setTop (mkF m 264 #[rv a4, rv w2, rv ac, rv ui, rv un, .val .null, .val .null, .val .null, .val .null, iv (0 : Int32), iv (1 : Int32), uu, uu] [(.ref c16)])) (fun t k => st16 t k) ?_
  refine oAL (n := 266) X16 hx (hb hby own_d9_264) rfl rfl rfl ?_
  obtain ⟨_, _, ⟨T17, L17, k17, n17⟩, -, X17, ⟨Lc17, hQ17, l17, y17, z17⟩, st17⟩ := Jvm.LawKit.callS X16 hx (y := (⟨sAA, "requireNonEmpty", sAN⟩ : MethodName)) hown (mvT hZ (oW hw 64 rfl)) (mvT hZ (oW hw 65 rfl)) (mvT hZ (oW hw 39 rfl)) (mvT hZ (oW hw 66 rfl)) (by decide) (backOf (W := 0) (rmN0 l Z a0 hw [] c16 h16 n0 (Nat.le_trans (Nat.le_trans (Nat.le_trans (Nat.le_trans (Nat.le_trans Z0 E8.1) E10.1) E12.1) E14.1) E16.1) ) hZ (oW hw 66 rfl) (oW hw 39 rfl) (by decide) (by decide)) (g := (mkF m 266 #[rv a4, rv w2, rv ac, rv ui, rv un, .val .null, .val .null, .val .null, .val .null, iv (0 : Int32), iv (1 : Int32), uu, uu] [.null, (.ref c16)])) rfl (by rw [hml]; rfl) (argsL := [(.ref c16), .null]) (rest := []) (lenOf own_pd7 rfl) rfl (by show 2 * 0 + _ ≤ _; exact Nat.le_of_eq rfl) (hb hby own_d9_266) (fun _ _ => ⟨rfl, e16, (by decide : ((((((((((0 + 0) + 2) + 0) + 2) + 0) + 2) + 0) + 2) + 0) + 2) + 0 ≤ _), (by decide : ((((((((((0 + 0) + (28 + 4)) + 0) + (16 + 4)) + 0) + (32 + 4)) + 0) + (24 + 4)) + 0) + (64 + 4)) + 0 ≤ _)⟩)
  dsimp only [Pt.U, Pt.locs, Pt.cells, Pt.slots] at X17 l17 y17 z17 st17 hQ17
  subst l17 y17 z17
  obtain ⟨rfl, Nq17, eq17⟩ := hQ17
  have N17 := Fr.app N15 Nq17
  refine ov (B := T17.setTop (mkF m 269 #[rv a4, rv w2, rv ac, rv ui, rv un, .val .null, .val .null, .val .null, .val .null, iv (0 : Int32), iv (1 : Int32), uu, uu] [])) (fun t k => st17 t k) ?_
  obtain ⟨c18, T18, h18, k18, X18, e18, E18, hS18, hk18, hZ, hown, st18⟩ := ldcS X17 hx hZ hown (oW hw 76 rfl) wS eq17 hS16 hk16 (g := (mkF m 269 #[rv a4, rv w2, rv ac, rv ui, rv un, .val .null, .val .null, .val .null, .val .null, iv (0 : Int32), iv (1 : Int32), uu, uu] [])) rfl (hb hby own_d9_269) (n := 28) (by decide) (by decide) (by decide) (by decide)
  refine ov (B := T18.setTop (mkF m 271 #[rv a4, rv w2, rv ac, rv ui, rv un, .val .null, .val .null, .val .null, .val .null, iv (0 : Int32), iv (1 : Int32), uu, uu] [(.ref c18)])) (fun t k => st18 t k) ?_
  refine oAL (n := 273) X18 hx (hb hby own_d9_271) rfl rfl rfl ?_
  obtain ⟨_, _, ⟨T19, L19, k19, n19⟩, -, X19, ⟨Lc19, hQ19, l19, y19, z19⟩, st19⟩ := Jvm.LawKit.callS X18 hx (y := (⟨sAA, "requireNonEmpty", sAN⟩ : MethodName)) hown (mvT hZ (oW hw 64 rfl)) (mvT hZ (oW hw 65 rfl)) (mvT hZ (oW hw 39 rfl)) (mvT hZ (oW hw 66 rfl)) (by decide) (backOf (W := 0) (rmN0 l Z a0 hw [] c18 h18 n0 (Nat.le_trans (Nat.le_trans (Nat.le_trans (Nat.le_trans (Nat.le_trans (Nat.le_trans Z0 E8.1) E10.1) E12.1) E14.1) E16.1) E18.1) ) hZ (oW hw 66 rfl) (oW hw 39 rfl) (by decide) (by decide)) (g := (mkF m 273 #[rv a4, rv w2, rv ac, rv ui, rv un, .val .null, .val .null, .val .null, .val .null, iv (0 : Int32), iv (1 : Int32), uu, uu] [.null, (.ref c18)])) rfl (by rw [hml]; rfl) (argsL := [(.ref c18), .null]) (rest := []) (lenOf own_pd7 rfl) rfl (by show 2 * 0 + _ ≤ _; exact Nat.le_of_eq rfl) (hb hby own_d9_273) (fun _ _ => ⟨rfl, e18, (by decide : ((((((((((((0 + 0) + 2) + 0) + 2) + 0) + 2) + 0) + 2) + 0) + 2) + 0) + 2) + 0 ≤ _), (by decide : ((((((((((((0 + 0) + (28 + 4)) + 0) + (16 + 4)) + 0) + (32 + 4)) + 0) + (24 + 4)) + 0) + (64 + 4)) + 0) + (28 + 4)) + 0 ≤ _)⟩)
  dsimp only [Pt.U, Pt.locs, Pt.cells, Pt.slots] at X19 l19 y19 z19 st19 hQ19
  subst l19 y19 z19
  obtain ⟨rfl, Nq19, eq19⟩ := hQ19
  have N19 := Fr.app N17 Nq19
  refine ov (B := T19.setTop (mkF m 276 #[rv a4, rv w2, rv ac, rv ui, rv un, .val .null, .val .null, .val .null, .val .null, iv (0 : Int32), iv (1 : Int32), uu, uu] [])) (fun t k => st19 t k) ?_
  refine oAL (n := 278) X19 hx (hb hby own_d9_276) rfl rfl rfl ?_
  refine ov (B := T19.setTop (mkF m 329 #[rv a4, rv w2, rv ac, rv ui, rv un, .val .null, .val .null, .val .null, .val .null, iv (0 : Int32), iv (1 : Int32), uu, uu] [])) (fun t k => XS.ifnullYes X19.here hx rfl (pc0 := 278) (pc' := 329) rfl (hb hby own_d9_278) rfl (by decide) (by decide) k) ?_
  refine oALN (n := 330) X19 hx (hb hby own_d9_329) rfl rfl rfl ?_
  refine oALN (n := 331) X19 hx (hb hby own_d9_330) rfl rfl rfl ?_
  obtain ⟨T20, h20, X20, e20, W20, st20⟩ := putF X19 hx hZ hown (host := "") (Or.inl (oW hw 77 rfl)) Via.refl eq19 ((((((F40.ext E8).ext E10).ext E12).ext E14).ext E16).ext E18) ((((((E4.ext E8).ext E10).ext E12).ext E14).ext E16).ext E18) (Or.inr ⟨(oW hw 78 rfl), rfl, hnm⟩) (oW hw 42 rfl) (ty := (.object sAC)) (by decide) rfl rfl (g := (mkF m 331 #[rv a4, rv w2, rv ac, rv ui, rv un, .val .null, .val .null, .val .null, .val .null, iv (0 : Int32), iv (1 : Int32), uu, uu] [(.ref w2), (.ref a4)])) rfl rfl (hb hby own_d9_331)
  have Fw20 := ((((((F40.ext E8).ext E10).ext E12).ext E14).ext E16).ext E18).same W20
  have N20 := Fr.snoc X20 N19 g_a4
  refine ov (B := T20.setTop (mkF m 334 #[rv a4, rv w2, rv ac, rv ui, rv un, .val .null, .val .null, .val .null, .val .null, iv (0 : Int32), iv (1 : Int32), uu, uu] [])) (fun t k => st20 t k) ?_
  refine oALN (n := 335) X20 hx (hb hby own_d9_334) rfl rfl rfl ?_
  refine oALN (n := 336) X20 hx (hb hby own_d9_335) rfl rfl rfl ?_
  obtain ⟨T21, h21, X21, e21, W21, st21⟩ := putF X20 hx hZ hown (host := "") (Or.inl (oW hw 79 rfl)) Via.refl e20 (((((((F41.ext E8).ext E10).ext E12).ext E14).ext E16).ext E18).other W20 (Or.inr (slot_ne (Or.inr (oW hw 80 rfl)) (Or.inr (oW hw 78 rfl)) (by decide +kernel) (t := (.object sAB)) (t' := (.object sAC)) (by decide +kernel) (by decide +kernel)))) (((((((E4.ext E8).ext E10).ext E12).ext E14).ext E16).ext E18).wr W20) (Or.inr ⟨(oW hw 80 rfl), rfl, hnm⟩) (oW hw 42 rfl) (ty := (.object sAB)) (by decide) rfl rfl (g := (mkF m 336 #[rv a4, rv w2, rv ac, rv ui, rv un, .val .null, .val .null, .val .null, .val .null, iv (0 : Int32), iv (1 : Int32), uu, uu] [(.ref ac), (.ref a4)])) rfl rfl (hb hby own_d9_336)
  have Fw21 := (((((((F41.ext E8).ext E10).ext E12).ext E14).ext E16).ext E18).other W20 (Or.inr (slot_ne (Or.inr (oW hw 80 rfl)) (Or.inr (oW hw 78 rfl)) (by decide +kernel) (t := (.object sAB)) (t' := (.object sAC)) (by decide +kernel) (by decide +kernel)))).same W21
  have N21 := Fr.snoc X21 N20 g_a4
  refine ov (B := T21.setTop (mkF m 339 #[rv a4, rv w2, rv ac, rv ui, rv un, .val .null, .val .null, .val .null, .val .null, iv (0 : Int32), iv (1 : Int32), uu, uu] [])) (fun t k => st21 t k) ?_
  refine oALN (n := 340) X21 hx (hb hby own_d9_339) rfl rfl rfl ?_
  refine oALN (n := 341) X21 hx (hb hby own_d9_340) rfl rfl rfl ?_
  obtain ⟨T22, h22, X22, e22, W22, st22⟩ := putF X21 hx hZ hown (host := "") (Or.inl (oW hw 81 rfl)) Via.refl e21 ((((((((F42.ext E8).ext E10).ext E12).ext E14).ext E16).ext E18).other W20 (Or.inr (slot_ne (Or.inr (oW hw 82 rfl)) (Or.inr (oW hw 78 rfl)) (by decide +kernel) (t := (.object sAB)) (t' := (.object sAC)) (by decide +kernel) (by decide +kernel)))).other W21 (Or.inr (slot_ne (Or.inr (oW hw 82 rfl)) (Or.inr (oW hw 80 rfl)) (by decide +kernel) (t := (.object sAB)) (t' := (.object sAB)) (by decide +kernel) (by decide +kernel)))) ((((((((E4.ext E8).ext E10).ext E12).ext E14).ext E16).ext E18).wr W20).wr W21) (Or.inr ⟨(oW hw 82 rfl), rfl, hnm⟩) (oW hw 42 rfl) (ty := (.object sAB)) (by decide) rfl rfl (g := (mkF m 341 #[rv a4, rv w2, rv ac, rv ui, rv un, .val .null, .val .null, .val .null, .val .null, iv (0 : Int32), iv (1 : Int32), uu, uu] [(.ref ui), (.ref a4)])) rfl rfl (hb hby own_d9_341)
  have Fw22 := ((((((((F42.ext E8).ext E10).ext E12).ext E14).ext E16).ext E18).other W20 (Or.inr (slot_ne (Or.inr (oW hw 82 rfl)) (Or.inr (oW hw 78 rfl)) (by decide +kernel) (t := (.object sAB)) (t' := (.object sAC)) (by decide +kernel) (by decide +kernel)))).other W21 (Or.inr (slot_ne (Or.inr (oW hw 82 rfl)) (Or.inr (oW hw 80 rfl)) (by decide +kernel) (t := (.object sAB)) (t' := (.object sAB)) (by decide +kernel) (by decide +kernel)))).same W22
  have N22 := Fr.snoc X22 N21 g_a4
  refine ov (B := T22.setTop (mkF m 344 #[rv a4, rv w2, rv ac, rv ui, rv un, .val .null, .val .null, .val .null, .val .null, iv (0 : Int32), iv (1 : Int32), uu, uu] [])) (fun t k => st22 t k) ?_
  refine oALN (n := 345) X22 hx (hb hby own_d9_344) rfl rfl rfl ?_
  refine oAL (n := 347) X22 hx (hb hby own_d9_345) rfl rfl rfl ?_
  obtain ⟨T23, h23, X23, e23, W23, st23⟩ := putF X22 hx hZ hown (host := "") (Or.inl (oW hw 83 rfl)) Via.refl e22 (((((((((F43.ext E8).ext E10).ext E12).ext E14).ext E16).ext E18).other W20 (Or.inr (slot_ne (Or.inr (oW hw 84 rfl)) (Or.inr (oW hw 78 rfl)) (by decide +kernel) (t := (.object sAB)) (t' := (.object sAC)) (by decide +kernel) (by decide +kernel)))).other W21 (Or.inr (slot_ne (Or.inr (oW hw 84 rfl)) (Or.inr (oW hw 80 rfl)) (by decide +kernel) (t := (.object sAB)) (t' := (.object sAB)) (by decide +kernel) (by decide +kernel)))).other W22 (Or.inr (slot_ne (Or.inr (oW hw 84 rfl)) (Or.inr (oW hw 82 rfl)) (by decide +kernel) (t := (.object sAB)) (t' := (.object sAB)) (by decide +kernel) (by decide +kernel)))) (((((((((E4.ext E8).ext E10).ext E12).ext E14).ext E16).ext E18).wr W20).wr W21).wr W22) (Or.inr ⟨(oW hw 84 rfl), rfl, hnm⟩) (oW hw 42 rfl) (ty := (.object sAB)) (by decide) rfl rfl (g := (mkF m 347 #[rv a4, rv w2, rv ac, rv ui, rv un, .val .null, .val .null, .val .null, .val .null, iv (0 : Int32), iv (1 : Int32), uu, uu] [(.ref un), (.ref a4)])) rfl rfl (hb hby own_d9_347)
  have Fw23 := (((((((((F43.ext E8).ext E10).ext E12).ext E14).ext E16).ext E18).other W20 (Or.inr (slot_ne (Or.inr (oW hw 84 rfl)) (Or.inr (oW hw 78 rfl)) (by decide +kernel) (t := (.object sAB)) (t' := (.object sAC)) (by decide +kernel) (by decide +kernel)))).other W21 (Or.inr (slot_ne (Or.inr (oW hw 84 rfl)) (Or.inr (oW hw 80 rfl)) (by decide +kernel) (t := (.object sAB)) (t' := (.object sAB)) (by decide +kernel) (by decide +kernel)))).other W22 (Or.inr (slot_ne (Or.inr (oW hw 84 rfl)) (Or.inr (oW hw 82 rfl)) (by decide +kernel) (t := (.object sAB)) (t' := (.object sAB)) (by decide +kernel) (by decide +kernel)))).same W23
  have N23 := Fr.snoc X23 N22 g_a4
  refine ov (B := T23.setTop (mkF m 350 #[rv a4, rv w2, rv ac, rv ui, rv un, .val .null, .val .null, .val .null, .val .null, iv (0 : Int32), iv (1 : Int32), uu, uu] [])) (fun t k => st23 t k) ?_
  refine oALN (n := 351) X23 hx (hb hby own_d9_350) rfl rfl rfl ?_
  refine oAL (n := 353) X23 hx (hb hby own_d9_351) rfl rfl rfl ?_
  obtain ⟨T24, h24, X24, e24, W24, st24⟩ := putF X23 hx hZ hown (host := "") (Or.inl (oW hw 85 rfl)) Via.refl e23 ((((((((((F44.ext E8).ext E10).ext E12).ext E14).ext E16).ext E18).other W20 (Or.inr (slot_ne (Or.inr (oW hw 86 rfl)) (Or.inr (oW hw 78 rfl)) (by decide +kernel) (t := (.object sAB)) (t' := (.object sAC)) (by decide +kernel) (by decide +kernel)))).other W21 (Or.inr (slot_ne (Or.inr (oW hw 86 rfl)) (Or.inr (oW hw 80 rfl)) (by decide +kernel) (t := (.object sAB)) (t' := (.object sAB)) (by decide +kernel) (by decide +kernel)))).other W22 (Or.inr (slot_ne (Or.inr (oW hw 86 rfl)) (Or.inr (oW hw 82 rfl)) (by decide +kernel) (t := (.object sAB)) (t' := (.object sAB)) (by decide +kernel) (by decide +kernel)))).other W23 (Or.inr (slot_ne (Or.inr (oW hw 86 rfl)) (Or.inr (oW hw 84 rfl)) (by decide +kernel) (t := (.object sAB)) (t' := (.object sAB)) (by decide +kernel) (by decide +kernel)))) ((((((((((E4.ext E8).ext E10).ext E12).ext E14).ext E16).ext E18).wr W20).wr W21).wr W22).wr W23) (Or.inr ⟨(oW hw 86 rfl), rfl, hnm⟩) (oW hw 42 rfl) (ty := (.object sAB)) (by decide) rfl rfl (g := (mkF m 353 #[rv a4, rv w2, rv ac, rv ui, rv un, .val .null, .val .null, .val .null, .val .null, iv (0 : Int32), iv (1 : Int32), uu, uu] [.null, (.ref a4)])) rfl rfl (hb hby own_d9_353)
  have Fw24 := ((((((((((F44.ext E8).ext E10).ext E12).ext E14).ext E16).ext E18).other W20 (Or.inr (slot_ne (Or.inr (oW hw 86 rfl)) (Or.inr (oW hw 78 rfl)) (by decide +kernel) (t := (.object sAB)) (t' := (.object sAC)) (by decide +kernel) (by decide +kernel)))).other W21 (Or.inr (slot_ne (Or.inr (oW hw 86 rfl)) (Or.inr (oW hw 80 rfl)) (by decide +kernel) (t := (.object sAB)) (t' := (.object sAB)) (by decide +kernel) (by decide +kernel)))).other W22 (Or.inr (slot_ne (Or.inr (oW hw 86 rfl)) (Or.inr (oW hw 82 rfl)) (by decide +kernel) (t := (.object sAB)) (t' := (.object sAB)) (by decide +kernel) (by decide +kernel)))).other W23 (Or.inr (slot_ne (Or.inr (oW hw 86 rfl)) (Or.inr (oW hw 84 rfl)) (by decide +kernel) (t := (.object sAB)) (t' := (.object sAB)) (by decide +kernel) (by decide +kernel)))).same W24
  have N24 := Fr.snoc X24 N23 g_a4
  refine ov (B := T24.setTop (mkF m 356 #[rv a4, rv w2, rv ac, rv ui, rv un, .val .null, .val .null, .val .null, .val .null, iv (0 : Int32), iv (1 : Int32), uu, uu] [])) (fun t k => st24 t k) ?_
  refine oALN (n := 357) X24 hx (hb hby own_d9_356) rfl rfl rfl ?_
  refine oAL (n := 359) X24 hx (hb hby own_d9_357) rfl rfl rfl ?_
  obtain ⟨T25, h25, X25, e25, W25, st25⟩ := putF X24 hx hZ hown (host := "") (Or.inl (oW hw 87 rfl)) Via.refl e24 (((((((((((F45.ext E8).ext E10).ext E12).ext E14).ext E16).ext E18).other W20 (Or.inr (slot_ne (Or.inr (oW hw 88 rfl)) (Or.inr (oW hw 78 rfl)) (by decide +kernel) (t := (.object sAB)) (t' := (.object sAC)) (by decide +kernel) (by decide +kernel)))).other W21 (Or.inr (slot_ne (Or.inr (oW hw 88 rfl)) (Or.inr (oW hw 80 rfl)) (by decide +kernel) (t := (.object sAB)) (t' := (.object sAB)) (by decide +kernel) (by decide +kernel)))).other W22 (Or.inr (slot_ne (Or.inr (oW hw 88 rfl)) (Or.inr (oW hw 82 rfl)) (by decide +kernel) (t := (.object sAB)) (t' := (.object sAB)) (by decide +kernel) (by decide +kernel)))).other W23 (Or.inr (slot_ne (Or.inr (oW hw 88 rfl)) (Or.inr (oW hw 84 rfl)) (by decide +kernel) (t := (.object sAB)) (t' := (.object sAB)) (by decide +kernel) (by decide +kernel)))).other W24 (Or.inr (slot_ne (Or.inr (oW hw 88 rfl)) (Or.inr (oW hw 86 rfl)) (by decide +kernel) (t := (.object sAB)) (t' := (.object sAB)) (by decide +kernel) (by decide +kernel)))) (((((((((((E4.ext E8).ext E10).ext E12).ext E14).ext E16).ext E18).wr W20).wr W21).wr W22).wr W23).wr W24) (Or.inr ⟨(oW hw 88 rfl), rfl, hnm⟩) (oW hw 42 rfl) (ty := (.object sAB)) (by decide) rfl rfl (g := (mkF m 359 #[rv a4, rv w2, rv ac, rv ui, rv un, .val .null, .val .null, .val .null, .val .null, iv (0 : Int32), iv (1 : Int32), uu, uu] [.null, (.ref a4)])) rfl rfl (hb hby own_d9_359)
  have Fw25 := (((((((((((F45.ext E8).ext E10).ext E12).ext E14).ext E16).ext E18).other W20 (Or.inr (slot_ne (Or.inr (oW hw 88 rfl)) (Or.inr (oW hw 78 rfl)) (by decide +kernel) (t := (.object sAB)) (t' := (.object sAC)) (by decide +kernel) (by decide +kernel)))).other W21 (Or.inr (slot_ne (Or.inr (oW hw 88 rfl)) (Or.inr (oW hw 80 rfl)) (by decide +kernel) (t := (.object sAB)) (t' := (.object sAB)) (by decide +kernel) (by decide +kernel)))).other W22 (Or.inr (slot_ne (Or.inr (oW hw 88 rfl)) (Or.inr (oW hw 82 rfl)) (by decide +kernel) (t := (.object sAB)) (t' := (.object sAB)) (by decide +kernel) (by decide +kernel)))).other W23 (Or.inr (slot_ne (Or.inr (oW hw 88 rfl)) (Or.inr (oW hw 84 rfl)) (by decide +kernel) (t := (.object sAB)) (t' := (.object sAB)) (by decide +kernel) (by decide +kernel)))).other W24 (Or.inr (slot_ne (Or.inr (oW hw 88 rfl)) (Or.inr (oW hw 86 rfl)) (by decide +kernel) (t := (.object sAB)) (t' := (.object sAB)) (by decide +kernel) (by decide +kernel)))).same W25
  have N25 := Fr.snoc X25 N24 g_a4
  refine ov (B := T25.setTop (mkF m 362 #[rv a4, rv w2, rv ac, rv ui, rv un, .val .null, .val .null, .val .null, .val .null, iv (0 : Int32), iv (1 : Int32), uu, uu] [])) (fun t k => st25 t k) ?_
  refine oALN (n := 363) X25 hx (hb hby own_d9_362) rfl rfl rfl ?_
  refine oAL (n := 365) X25 hx (hb hby own_d9_363) rfl rfl rfl ?_
  obtain ⟨T26, h26, X26, e26, W26, st26⟩ := putF X25 hx hZ hown (host := "") (Or.inl (oW hw 89 rfl)) Via.refl e25 ((((((((((((F46.ext E8).ext E10).ext E12).ext E14).ext E16).ext E18).other W20 (Or.inr (slot_ne (Or.inr (oW hw 90 rfl)) (Or.inr (oW hw 78 rfl)) (by decide +kernel) (t := (.object "java/util/Set")) (t' := (.object sAC)) (by decide +kernel) (by decide +kernel)))).other W21 (Or.inr (slot_ne (Or.inr (oW hw 90 rfl)) (Or.inr (oW hw 80 rfl)) (by decide +kernel) (t := (.object "java/util/Set")) (t' := (.object sAB)) (by decide +kernel) (by decide +kernel)))).other W22 (Or.inr (slot_ne (Or.inr (oW hw 90 rfl)) (Or.inr (oW hw 82 rfl)) (by decide +kernel) (t := (.object "java/util/Set")) (t' := (.object sAB)) (by decide +kernel) (by decide +kernel)))).other W23 (Or.inr (slot_ne (Or.inr (oW hw 90 rfl)) (Or.inr (oW hw 84 rfl)) (by decide +kernel) (t := (.object "java/util/Set")) (t' := (.object sAB)) (by decide +kernel) (by decide +kernel)))).other W24 (Or.inr (slot_ne (Or.inr (oW hw 90 rfl)) (Or.inr (oW hw 86 rfl)) (by decide +kernel) (t := (.object "java/util/Set")) (t' := (.object sAB)) (by decide +kernel) (by decide +kernel)))).other W25 (Or.inr (slot_ne (Or.inr (oW hw 90 rfl)) (Or.inr (oW hw 88 rfl)) (by decide +kernel) (t := (.object "java/util/Set")) (t' := (.object sAB)) (by decide +kernel) (by decide +kernel)))) ((((((((((((E4.ext E8).ext E10).ext E12).ext E14).ext E16).ext E18).wr W20).wr W21).wr W22).wr W23).wr W24).wr W25) (Or.inr ⟨(oW hw 90 rfl), rfl, hnm⟩) (oW hw 42 rfl) (ty := (.object "java/util/Set")) (by decide) rfl rfl (g := (mkF m 365 #[rv a4, rv w2, rv ac, rv ui, rv un, .val .null, .val .null, .val .null, .val .null, iv (0 : Int32), iv (1 : Int32), uu, uu] [.null, (.ref a4)])) rfl rfl (hb hby own_d9_365)
  have Fw26 := ((((((((((((F46.ext E8).ext E10).ext E12).ext E14).ext E16).ext E18).other W20 (Or.inr (slot_ne (Or.inr (oW hw 90 rfl)) (Or.inr (oW hw 78 rfl)) (by decide +kernel) (t := (.object "java/util/Set")) (t' := (.object sAC)) (by decide +kernel) (by decide +kernel)))).other W21 (Or.inr (slot_ne (Or.inr (oW hw 90 rfl)) (Or.inr (oW hw 80 rfl)) (by decide +kernel) (t := (.object "java/util/Set")) (t' := (.object sAB)) (by decide +kernel) (by decide +kernel)))).other W22 (Or.inr (slot_ne (Or.inr (oW hw 90 rfl)) (Or.inr (oW hw 82 rfl)) (by decide +kernel) (t := (.object "java/util/Set")) (t' := (.object sAB)) (by decide +kernel) (by decide +kernel)))).other W23 (Or.inr (slot_ne (Or.inr (oW hw 90 rfl)) (Or.inr (oW hw 84 rfl)) (by decide +kernel) (t := (.object "java/util/Set")) (t' := (.object sAB)) (by decide +kernel) (by decide +kernel)))).other W24 (Or.inr (slot_ne (Or.inr (oW hw 90 rfl)) (Or.inr (oW hw 86 rfl)) (by decide +kernel) (t := (.object "java/util/Set")) (t' := (.object sAB)) (by decide +kernel) (by decide +kernel)))).other W25 (Or.inr (slot_ne (Or.inr (oW hw 90 rfl)) (Or.inr (oW hw 88 rfl)) (by decide +kernel) (t := (.object "java/util/Set")) (t' := (.object sAB)) (by decide +kernel) (by decide +kernel)))).same W26
  have N26 := Fr.snoc X26 N25 g_a4
  refine ov (B := T26.setTop (mkF m 368 #[rv a4, rv w2, rv ac, rv ui, rv un, .val .null, .val .null, .val .null, .val .null, iv (0 : Int32), iv (1 : Int32), uu, uu] [])) (fun t k => st26 t k) ?_
  refine oALN (n := 369) X26 hx (hb hby own_d9_368) rfl rfl rfl ?_
  refine oAL (n := 371) X26 hx (hb hby own_d9_369) rfl rfl rfl ?_
  obtain ⟨T27, h27, X27, e27, W27, st27⟩ := putF X26 hx hZ hown (host := "") (Or.inl (oW hw 91 rfl)) Via.refl e26 (((((((((((((F47.ext E8).ext E10).ext E12).ext E14).ext E16).ext E18).other W20 (Or.inr (slot_ne (Or.inr (oW hw 92 rfl)) (Or.inr (oW hw 78 rfl)) (by decide +kernel) (t := (.object sAB)) (t' := (.object sAC)) (by decide +kernel) (by decide +kernel)))).other W21 (Or.inr (slot_ne (Or.inr (oW hw 92 rfl)) (Or.inr (oW hw 80 rfl)) (by decide +kernel) (t := (.object sAB)) (t' := (.object sAB)) (by decide +kernel) (by decide +kernel)))).other W22 (Or.inr (slot_ne (Or.inr (oW hw 92 rfl)) (Or.inr (oW hw 82 rfl)) (by decide +kernel) (t := (.object sAB)) (t' := (.object sAB)) (by decide +kernel) (by decide +kernel)))).other W23 (Or.inr (slot_ne (Or.inr (oW hw 92 rfl)) (Or.inr (oW hw 84 rfl)) (by decide +kernel) (t := (.object sAB)) (t' := (.object sAB)) (by decide +kernel) (by decide +kernel)))).other W24 (Or.inr (slot_ne (Or.inr (oW hw 92 rfl)) (Or.inr (oW hw 86 rfl)) (by decide +kernel) (t := (.object sAB)) (t' := (.object sAB)) (by decide +kernel) (by decide +kernel)))).other W25 (Or.inr (slot_ne (Or.inr (oW hw 92 rfl)) (Or.inr (oW hw 88 rfl)) (by decide +kernel) (t := (.object sAB)) (t' := (.object sAB)) (by decide +kernel) (by decide +kernel)))).other W26 (Or.inr (slot_ne (Or.inr (oW hw 92 rfl)) (Or.inr (oW hw 90 rfl)) (by decide +kernel) (t := (.object sAB)) (t' := (.object "java/util/Set")) (by decide +kernel) (by decide +kernel)))) (((((((((((((E4.ext E8).ext E10).ext E12).ext E14).ext E16).ext E18).wr W20).wr W21).wr W22).wr W23).wr W24).wr W25).wr W26) (Or.inr ⟨(oW hw 92 rfl), rfl, hnm⟩) (oW hw 42 rfl) (ty := (.object sAB)) (by decide) rfl rfl (g := (mkF m 371 #[rv a4, rv w2, rv ac, rv ui, rv un, .val .null, .val .null, .val .null, .val .null, iv (0 : Int32), iv (1 : Int32), uu, uu] [.null, (.ref a4)])) rfl rfl (hb hby own_d9_371)
  have Fw27 := (((((((((((((F47.ext E8).ext E10).ext E12).ext E14).ext E16).ext E18).other W20 (Or.inr (slot_ne (Or.inr (oW hw 92 rfl)) (Or.inr (oW hw 78 rfl)) (by decide +kernel) (t := (.object sAB)) (t' := (.object sAC)) (by decide +kernel) (by decide +kernel)))).other W21 (Or.inr (slot_ne (Or.inr (oW hw 92 rfl)) (Or.inr (oW hw 80 rfl)) (by decide +kernel) (t := (.object sAB)) (t' := (.object sAB)) (by decide +kernel) (by decide +kernel)))).other W22 (Or.inr (slot_ne (Or.inr (oW hw 92 rfl)) (Or.inr (oW hw 82 rfl)) (by decide +kernel) (t := (.object sAB)) (t' := (.object sAB)) (by decide +kernel) (by decide +kernel)))).other W23 (Or.inr (slot_ne (Or.inr (oW hw 92 rfl)) (Or.inr (oW hw 84 rfl)) (by decide +kernel) (t := (.object sAB)) (t' := (.object sAB)) (by decide +kernel) (by decide +kernel)))).other W24 (Or.inr (slot_ne (Or.inr (oW hw 92 rfl)) (Or.inr (oW hw 86 rfl)) (by decide +kernel) (t := (.object sAB)) (t' := (.object sAB)) (by decide +kernel) (by decide +kernel)))).other W25 (Or.inr (slot_ne (Or.inr (oW hw 92 rfl)) (Or.inr (oW hw 88 rfl)) (by decide +kernel) (t := (.object sAB)) (t' := (.object sAB)) (by decide +kernel) (by decide +kernel)))).other W26 (Or.inr (slot_ne (Or.inr (oW hw 92 rfl)) (Or.inr (oW hw 90 rfl)) (by decide +kernel) (t := (.object sAB)) (t' := (.object "java/util/Set")) (by decide +kernel) (by decide +kernel)))).same W27
  have N27 := Fr.snoc X27 N26 g_a4
  refine ov (B := T27.setTop (mkF m 374 #[rv a4, rv w2, rv ac, rv ui, rv un, .val .null, .val .null, .val .null, .val .null, iv (0 : Int32), iv (1 : Int32), uu, uu] [])) (fun t k => st27 t k) ?_
  refine own_leafVW X27 hx hlk hS18 (by rw [e27]; exact (Nat.le_trans (Nat.le_trans (Nat.le_trans (Nat.le_trans (Nat.le_trans (Nat.le_trans (Nat.le_trans (Nat.le_trans hk18 (Keep.of_wr W20).1) (Keep.of_wr W21).1) (Keep.of_wr W22).1) (Keep.of_wr W23).1) (Keep.of_wr W24).1) (Keep.of_wr W25).1) (Keep.of_wr W26).1) (Keep.of_wr W27).1)) Bd.returns (hb hby own_d9_374) (by decide) (by decide) ?_
  show QQ2sssnnnn Z a4 w2 ac ui un w0 w1 w3 w4 w5 u0 u1 u2 u3 u4 u5 u6 u7 t_ac k_ac cs_ac t_ui k_ui cs_ui t_un k_un cs_un h0 n0 _ T27.heap _
  rw [e27]
  refine ⟨?_, N27, (((((((((((((((Keep.refl h0 [a4]).ext E8).ext E10).ext E12).ext E14).ext E16).ext E18).wr W20 (Or.inl (List.mem_of_getElem? (i := 0) rfl))).wr W21 (Or.inl (List.mem_of_getElem? (i := 0) rfl))).wr W22 (Or.inl (List.mem_of_getElem? (i := 0) rfl))).wr W23 (Or.inl (List.mem_of_getElem? (i := 0) rfl))).wr W24 (Or.inl (List.mem_of_getElem? (i := 0) rfl))).wr W25 (Or.inl (List.mem_of_getElem? (i := 0) rfl))).wr W26 (Or.inl (List.mem_of_getElem? (i := 0) rfl))).wr W27 (Or.inl (List.mem_of_getElem? (i := 0) rfl))), (((((((Fw20.other W21 (Or.inr (slot_ne (Or.inr (oW hw 78 rfl)) (Or.inr (oW hw 80 rfl)) (by decide +kernel) (t := (.object sAC)) (t' := (.object sAB)) (by decide +kernel) (by decide +kernel)))).other W22 (Or.inr (slot_ne (Or.inr (oW hw 78 rfl)) (Or.inr (oW hw 82 rfl)) (by decide +kernel) (t := (.object sAC)) (t' := (.object sAB)) (by decide +kernel) (by decide +kernel)))).other W23 (Or.inr (slot_ne (Or.inr (oW hw 78 rfl)) (Or.inr (oW hw 84 rfl)) (by decide +kernel) (t := (.object sAC)) (t' := (.object sAB)) (by decide +kernel) (by decide +kernel)))).other W24 (Or.inr (slot_ne (Or.inr (oW hw 78 rfl)) (Or.inr (oW hw 86 rfl)) (by decide +kernel) (t := (.object sAC)) (t' := (.object sAB)) (by decide +kernel) (by decide +kernel)))).other W25 (Or.inr (slot_ne (Or.inr (oW hw 78 rfl)) (Or.inr (oW hw 88 rfl)) (by decide +kernel) (t := (.object sAC)) (t' := (.object sAB)) (by decide +kernel) (by decide +kernel)))).other W26 (Or.inr (slot_ne (Or.inr (oW hw 78 rfl)) (Or.inr (oW hw 90 rfl)) (by decide +kernel) (t := (.object sAC)) (t' := (.object "java/util/Set")) (by decide +kernel) (by decide +kernel)))).other W27 (Or.inr (slot_ne (Or.inr (oW hw 78 rfl)) (Or.inr (oW hw 92 rfl)) (by decide +kernel) (t := (.object sAC)) (t' := (.object sAB)) (by decide +kernel) (by decide +kernel)))), ((((((Fw21.other W22 (Or.inr (slot_ne (Or.inr (oW hw 80 rfl)) (Or.inr (oW hw 82 rfl)) (by decide +kernel) (t := (.object sAB)) (t' := (.object sAB)) (by decide +kernel) (by decide +kernel)))).other W23 (Or.inr (slot_ne (Or.inr (oW hw 80 rfl)) (Or.inr (oW hw 84 rfl)) (by decide +kernel) (t := (.object sAB)) (t' := (.object sAB)) (by decide +kernel) (by decide +kernel)))).other W24 (Or.inr (slot_ne (Or.inr (oW hw 80 rfl)) (Or.inr (oW hw 86 rfl)) (by decide +kernel) (t := (.object sAB)) (t' := (.object sAB)) (by decide +kernel) (by decide +kernel)))).other W25 (Or.inr (slot_ne (Or.inr (oW hw 80 rfl)) (Or.inr (oW hw 88 rfl)) (by decide +kernel) (t := (.object sAB)) (t' := (.object sAB)) (by decide +kernel) (by decide +kernel)))).other W26 (Or.inr (slot_ne (Or.inr (oW hw 80 rfl)) (Or.inr (oW hw 90 rfl)) (by decide +kernel) (t := (.object sAB)) (t' := (.object "java/util/Set")) (by decide +kernel) (by decide +kernel)))).other W27 (Or.inr (slot_ne (Or.inr (oW hw 80 rfl)) (Or.inr (oW hw 92 rfl)) (by decide +kernel) (t := (.object sAB)) (t' := (.object sAB)) (by decide +kernel) (by decide +kernel))))⟩
  rfl
theorem own_efQ2snsnnnn (m : MethodId) (x0 : Addr) (x1 : Addr) (x2 : Addr) (x4 : Addr) : entryFrame m #[(.ref x0), (.ref x1), (.ref x2), .null, (.ref x4), .null, .null, .null, .null] 13 = mkF m 0 #[rv x0, rv x1, rv x2, .val .null, rv x4, .val .null, .val .null, .val .null, .val .null, uu, uu, uu, uu] [] := by first | (simp [entryFrame, mkF, argsToLocals, Value.category]; done) | rfl
def QQ2snsnnnn (Z : State) (a4 : Addr) (w2 : Addr) (ac : Addr) (un : Addr) (w0 : Addr) (w1 : Addr) (w3 : Addr) (w4 : Addr) (w5 : Addr) (u0 : Value) (u1 : Value) (u2 : Value) (u3 : Value) (u4 : Value) (u5 : Value) (u6 : Value) (u7 : Value) (t_ac : Addr) (k_ac : ClassId) (cs_ac : List Int32) (t_un : Addr) (k_un : ClassId) (cs_un : List Int32) (h0 : Heap) (n0 : Nat) (v : Option Value) (h : Heap) (L : List Loc) : Prop := v = none ∧ Fr n0 L ∧ Keep h0 h [a4] ∧ (Fld Z h a4 sAA "kind" sAG (.ref w2)) ∧ (Fld Z h a4 sAA "account" sAH (.ref ac))
set_option maxRecDepth 65536 in
set_option maxHeartbeats 40000000 in
theorem rmQ2snsnnnn (l : Launch) (Z : State) (a0 : Array Value) (hw : ∀ d ∈ tables_1, d.before a0 Z = true) (ws : List Jvm.Cond) (a4 : Addr) (w2 : Addr) (ac : Addr) (un : Addr) (w0 : Addr) (w1 : Addr) (w3 : Addr) (w4 : Addr) (w5 : Addr) (u0 : Value) (u1 : Value) (u2 : Value) (u3 : Value) (u4 : Value) (u5 : Value) (u6 : Value) (u7 : Value) (t_ac : Addr) (k_ac : ClassId) (cs_ac : List Int32) (t_un : Addr) (k_un : ClassId) (cs_un : List Int32) (h0 : Heap) (n0 : Nat) (Z0 : n0 ≤ h0.size) (hall : own_All Z Z.heap w0 w1 w2 w3 w4 w5) (O0 : Old Z n0 h0) (E4 : Exa Z h0 a4 sAA) (F40 : Fld Z h0 a4 sAA "kind" sAG u0) (F41 : Fld Z h0 a4 sAA "account" sAH u1) (F42 : Fld Z h0 a4 sAA "userId" sAH u2) (F43 : Fld Z h0 a4 sAA "userName" sAH u3) (F44 : Fld Z h0 a4 sAA "agency" sAH u4) (F45 : Fld Z h0 a4 sAA sAU sAH u5) (F46 : Fld Z h0 a4 sAA "groups" "Ljava/util/Set;" u6) (F47 : Fld Z h0 a4 sAA "service" sAH u7) (g_a4 : n0 ≤ a4) (SE_ac : Exa Z h0 ac sAB) (SC_ac : Fld Z h0 ac sAB "coder" "B" (.int (0 : Int32))) (SV_ac : Fld Z h0 ac sAB "value" "[B" (.ref t_ac)) (SA_ac : Arv Z h0 t_ac k_ac .byte (Int32.ofNat cs_ac.length) ((cs_ac.map StrChars.lo8).map Value.int) (.int 0)) (Sp_ac : ∀ c ∈ cs_ac, ¬ c < 0 ∧ ¬ (255 : Int32) < c) (Sl_ac : 0 < cs_ac.length ∧ cs_ac.length ≤ 4000) (SE_un : Exa Z h0 un sAB) (SC_un : Fld Z h0 un sAB "coder" "B" (.int (0 : Int32))) (SV_un : Fld Z h0 un sAB "value" "[B" (.ref t_un)) (SA_un : Arv Z h0 t_un k_un .byte (Int32.ofNat cs_un.length) ((cs_un.map StrChars.lo8).map Value.int) (.int 0)) (Sp_un : ∀ c ∈ cs_un, ¬ c < 0 ∧ ¬ (255 : Int32) < c) (Sl_un : 0 < cs_un.length ∧ cs_un.length ≤ 4000) :
    MetFree l (⟨sAA, "<init>", sAE⟩ : MethodName) (head1 (Jvm.Cond.code (⟨sAA, "<init>", sAE⟩ : MethodName) prog_50_method_1_code 13 none :: ws) ({ frames := 2, cells := 12, slots := 216, locals := 25 } : Room)) (fun a U => a = #[(.ref a4), (.ref w2), (.ref ac), .null, (.ref un), .null, .null, .null, .null] ∧ Z.Warmed39 U.vm ∧ U.heap = h0) (fun _ _ _ _ _ => True) (fun _ U o U' => ∃ v L, o = .returned v ∧ QQ2snsnnnn Z a4 w2 ac un w0 w1 w3 w4 w5 u0 u1 u2 u3 u4 u5 u6 u7 t_ac k_ac cs_ac t_un k_un cs_un h0 n0 v U'.heap L ∧ ReturnedEndW U o U' L ({ frames := 2, cells := 12, slots := 216, locals := 25 } : Room).cells ({ frames := 2, cells := 12, slots := 216, locals := 25 } : Room).slots) := by
  refine MetFree.of_bodySF (plainFor_of_name own_pn4) hisR ?_
  intro p e s m args below meth c s₁ Bd hml0 hP hK
  obtain ⟨rfl, hZ, hh⟩ := hP
  have hx := Bd.exec
  have hby := Bd.bytes
  have hlk : meth.locks = false := Bd.notSynchronized
  have hml : c.maxLocals = 13 := hml0
  have hown : s.vm.findClass sAA = some m.cls := findClass_of_methodNamed Bd.named
  have hnm := (name_of_methodNamed Bd.named Bd.method).1
  have X0 : Stand p l e ({ frames := 2, cells := 12, slots := 216, locals := 25 } : Room) (s.setVm s.vm) m #[(.ref a4), (.ref w2), (.ref ac), .null, (.ref un), .null, .null, .null, .null] below meth c s₁ [] 0 0 := Stand.of_body Bd
  have e0 : s₁.heap = h0 := by rw [← hh, Bd.state]; rfl
  have N0 := Fr.nil n0
  have hS0 : s.Since s.vm h0.size := (State.WarmedH.refl s).since _
  have hk0 : h0.size ≤ h0.size := Nat.le_refl _
  have wS : ∀ a ∈ Bundle.stringAtoms, a.before a0 Z = true := by
    intro a ha
    simp only [Bundle.stringAtoms, List.mem_cons, List.not_mem_nil, or_false] at ha
    rcases ha with rfl | rfl | rfl | rfl | rfl | rfl | rfl
    · exact (oW hw 9 rfl)
    · exact (oW hw 10 rfl)
    · exact (oW hw 11 rfl)
    · exact (oW hw 12 rfl)
    · exact (oW hw 13 rfl)
    · exact (oW hw 14 rfl)
    · exact (oW hw 15 rfl)
  refine own_bodyW (A := s₁.setTop (mkF m 0 #[rv a4, rv w2, rv ac, .val .null, rv un, .val .null, .val .null, .val .null, .val .null, uu, uu, uu, uu] [])) (Q := QQ2snsnnnn Z a4 w2 ac un w0 w1 w3 w4 w5 u0 u1 u2 u3 u4 u5 u6 u7 t_ac k_ac cs_ac t_un k_un cs_un h0 n0) (fun t k => castTop (own_efQ2snsnnnn m a4 w2 ac un) k) ?_
  have hall' := hall
  obtain ⟨AA0, AA1, AA2, AA3, AA4, AA5⟩ := hall'
  refine oALN (n := 1) X0 hx (hb hby own_d9_0) rfl rfl rfl ?_
  obtain ⟨_, _, ⟨T1, L1, k1, n1⟩, -, X1, ⟨Lc1, hQ1, l1, y1, z1⟩, st1⟩ := X0.specialBack hx (y := (⟨sAV, "<init>", "()V"⟩ : MethodName)) rfl hown (mvT hZ (oW hw 49 rfl)) (mvT hZ (oW hw 50 rfl)) (mvT hZ (oW hw 53 rfl)) (by decide) (backOf (W := 0) (rmR l Z a0 hw [] a4 h0 n0 Z0 ) hZ (oW hw 53 rfl) (oW hw 52 rfl) (by decide) (by decide)) (g := (mkF m 1 #[rv a4, rv w2, rv ac, .val .null, rv un, .val .null, .val .null, .val .null, .val .null, uu, uu, uu, uu] [(.ref a4)])) rfl (by rw [hml]; rfl) (Steps.refl _) (a := a4) (argsL := []) (rest := []) (lenOf own_pd6 rfl) rfl (by show 2 * 0 + _ ≤ _; exact Nat.le_of_eq rfl) (hb hby own_d9_1) (fun _ _ => ⟨rfl, e0, (by decide : 0 + 0 ≤ _), (by decide : 0 + 0 ≤ _)⟩)
  dsimp only [Pt.U, Pt.locs, Pt.cells, Pt.slots] at X1 l1 y1 z1 st1 hQ1
  subst l1 y1 z1
  obtain ⟨rfl, Nq1, eq1⟩ := hQ1
  have N1 := Fr.app N0 Nq1
  refine ov (B := T1.setTop (mkF m 4 #[rv a4, rv w2, rv ac, .val .null, rv un, .val .null, .val .null, .val .null, .val .null, uu, uu, uu, uu] [])) (fun t k => st1.trans k) ?_
  refine oALN (n := 5) X1 hx (hb hby own_d9_4) rfl rfl rfl ?_
  refine ov (B := T1.setTop (mkF m 18 #[rv a4, rv w2, rv ac, .val .null, rv un, .val .null, .val .null, .val .null, .val .null, uu, uu, uu, uu] [])) (fun t k => XS.ifnonnullYes X1.here hx rfl (pc0 := 5) (pc' := 18) rfl (hb hby own_d9_5) rfl (by decide) (by decide) k) ?_
  refine oALN (n := 19) X1 hx (hb hby own_d9_18) rfl rfl rfl ?_
  obtain ⟨T2, X2, e2, st2⟩ := getS2 X1 hx hZ hown (host := "") (Or.inl (oW hw 55 rfl)) Via.refl eq1 (AA4.1.ext O0.2) (g := (mkF m 19 #[rv a4, rv w2, rv ac, .val .null, rv un, .val .null, .val .null, .val .null, .val .null, uu, uu, uu, uu] [(.ref w2)])) rfl (hb hby own_d9_19)
  refine ov (B := T2.setTop (mkF m 22 #[rv a4, rv w2, rv ac, .val .null, rv un, .val .null, .val .null, .val .null, .val .null, uu, uu, uu, uu] [(.ref w4), (.ref w2)])) (fun t k => st2 t k) ?_
  have hc22 : ¬ (w2 = w4) := own_ne AA2 AA4 (by decide)
  refine ov (B := T2.setTop (mkF m 29 #[rv a4, rv w2, rv ac, .val .null, rv un, .val .null, .val .null, .val .null, .val .null, uu, uu, uu, uu] [])) (fun t k => Jvm.RoadKit.acmp (g := (mkF m 22 #[rv a4, rv w2, rv ac, .val .null, rv un, .val .null, .val .null, .val .null, .val .null, uu, uu, uu, uu] [(.ref w4), (.ref w2)])) X2 hx rfl rfl rfl (pc0 := 22) (pc' := 29) (same := false) rfl (hb hby own_d9_22) rfl (decide_eq_false fun q => hc22 (Value.ref.inj q)) (by decide) (by decide) k) ?_
  refine oIC (n := 30) X2 hx (0 : Int32) (hb hby own_d9_29) (by decide) rfl ?_
  refine ov (B := T2.setTop (mkF m 32 #[rv a4, rv w2, rv ac, .val .null, rv un, .val .null, .val .null, .val .null, .val .null, iv (0 : Int32), uu, uu, uu] [])) (fun t k => XS.istore X2.here hx rfl (hb hby own_d9_30) rfl (l' := #[rv a4, rv w2, rv ac, .val .null, rv un, .val .null, .val .null, .val .null, .val .null, iv (0 : Int32), uu, uu, uu]) rfl k) ?_
  refine oALN (n := 33) X2 hx (hb hby own_d9_32) rfl rfl rfl ?_
  refine ov (B := T2.setTop (mkF m 36 #[rv a4, rv w2, rv ac, .val .null, rv un, .val .null, .val .null, .val .null, .val .null, iv (0 : Int32), uu, uu, uu] [])) (fun t k => XS.ifnullNo X2.here hx rfl (hb hby own_d9_33) rfl k) ?_
  refine oIC (n := 37) X2 hx (1 : Int32) (hb hby own_d9_36) (by decide) rfl ?_
  refine oGO (n := 41) X2 hx (hb hby own_d9_37) (by decide) (by decide) ?_
  refine oALN (n := 42) X2 hx (hb hby own_d9_41) rfl rfl rfl ?_
  obtain ⟨T3, X3, e3, st3⟩ := getS2 X2 hx hZ hown (host := "") (Or.inl (oW hw 57 rfl)) Via.refl e2 (AA0.1.ext O0.2) (g := (mkF m 42 #[rv a4, rv w2, rv ac, .val .null, rv un, .val .null, .val .null, .val .null, .val .null, iv (0 : Int32), uu, uu, uu] [(.ref w2), (.int (1 : Int32))])) rfl (hb hby own_d9_42)
  refine ov (B := T3.setTop (mkF m 45 #[rv a4, rv w2, rv ac, .val .null, rv un, .val .null, .val .null, .val .null, .val .null, iv (0 : Int32), uu, uu, uu] [(.ref w0), (.ref w2), (.int (1 : Int32))])) (fun t k => st3 t k) ?_
  have hc45 : ¬ (w2 = w0) := own_ne AA2 AA0 (by decide)
  refine ov (B := T3.setTop (mkF m 48 #[rv a4, rv w2, rv ac, .val .null, rv un, .val .null, .val .null, .val .null, .val .null, iv (0 : Int32), uu, uu, uu] [(.int (1 : Int32))])) (fun t k => Jvm.RoadKit.acmp (g := (mkF m 45 #[rv a4, rv w2, rv ac, .val .null, rv un, .val .null, .val .null, .val .null, .val .null, iv (0 : Int32), uu, uu, uu] [(.ref w0), (.ref w2), (.int (1 : Int32))])) X3 hx rfl rfl rfl (pc0 := 45) (pc' := 48) (same := false) rfl (hb hby own_d9_45) rfl (decide_eq_false fun q => hc45 (Value.ref.inj q)) (by decide) (by decide) k) ?_
  refine oALN (n := 49) X3 hx (hb hby own_d9_48) rfl rfl rfl ?_
  obtain ⟨T4, X4, e4, st4⟩ := getS2 X3 hx hZ hown (host := "") (Or.inl (oW hw 59 rfl)) Via.refl e3 (AA5.1.ext O0.2) (g := (mkF m 49 #[rv a4, rv w2, rv ac, .val .null, rv un, .val .null, .val .null, .val .null, .val .null, iv (0 : Int32), uu, uu, uu] [(.ref w2), (.int (1 : Int32))])) rfl (hb hby own_d9_49)
  refine ov (B := T4.setTop (mkF m 52 #[rv a4, rv w2, rv ac, .val .null, rv un, .val .null, .val .null, .val .null, .val .null, iv (0 : Int32), uu, uu, uu] [(.ref w5), (.ref w2), (.int (1 : Int32))])) (fun t k => st4 t k) ?_
  have hc52 : ¬ (w2 = w5) := own_ne AA2 AA5 (by decide)
  refine ov (B := T4.setTop (mkF m 55 #[rv a4, rv w2, rv ac, .val .null, rv un, .val .null, .val .null, .val .null, .val .null, iv (0 : Int32), uu, uu, uu] [(.int (1 : Int32))])) (fun t k => Jvm.RoadKit.acmp (g := (mkF m 52 #[rv a4, rv w2, rv ac, .val .null, rv un, .val .null, .val .null, .val .null, .val .null, iv (0 : Int32), uu, uu, uu] [(.ref w5), (.ref w2), (.int (1 : Int32))])) X4 hx rfl rfl rfl (pc0 := 52) (pc' := 55) (same := false) rfl (hb hby own_d9_52) rfl (decide_eq_false fun q => hc52 (Value.ref.inj q)) (by decide) (by decide) k) ?_
  refine oIC (n := 56) X4 hx (1 : Int32) (hb hby own_d9_55) (by decide) rfl ?_
  refine oGO (n := 60) X4 hx (hb hby own_d9_56) (by decide) (by decide) ?_
  have hc60 : (1 : Int32) = (1 : Int32) := by decide
  refine ov (B := T4.setTop (mkF m 63 #[rv a4, rv w2, rv ac, .val .null, rv un, .val .null, .val .null, .val .null, .val .null, iv (0 : Int32), uu, uu, uu] [])) (fun t k => XS.icmpNo X4.here hx rfl (hb hby own_d9_60) rfl (teq hc60).2 k) ?_
  refine oIC (n := 64) X4 hx (1 : Int32) (hb hby own_d9_63) (by decide) rfl ?_
  refine oGO (n := 68) X4 hx (hb hby own_d9_64) (by decide) (by decide) ?_
  refine ov (B := T4.setTop (mkF m 70 #[rv a4, rv w2, rv ac, .val .null, rv un, .val .null, .val .null, .val .null, .val .null, iv (0 : Int32), iv (1 : Int32), uu, uu] [])) (fun t k => XS.istore X4.here hx rfl (hb hby own_d9_68) rfl (l' := #[rv a4, rv w2, rv ac, .val .null, rv un, .val .null, .val .null, .val .null, .val .null, iv (0 : Int32), iv (1 : Int32), uu, uu]) rfl k) ?_
  refine oIL (n := 72) X4 hx (hb hby own_d9_70) rfl rfl ?_
  refine oALN (n := 73) X4 hx (hb hby own_d9_72) rfl rfl rfl ?_
  refine ov (B := T4.setTop (mkF m 76 #[rv a4, rv w2, rv ac, .val .null, rv un, .val .null, .val .null, .val .null, .val .null, iv (0 : Int32), iv (1 : Int32), uu, uu] [(.int (1 : Int32))])) (fun t k => XS.ifnonnullNo X4.here hx rfl (hb hby own_d9_73) rfl k) ?_
  refine oAL (n := 78) X4 hx (hb hby own_d9_76) rfl rfl rfl ?_
  refine ov (B := T4.setTop (mkF m 81 #[rv a4, rv w2, rv ac, .val .null, rv un, .val .null, .val .null, .val .null, .val .null, iv (0 : Int32), iv (1 : Int32), uu, uu] [(.int (1 : Int32))])) (fun t k => XS.ifnullNo X4.here hx rfl (hb hby own_d9_78) rfl k) ?_
  refine oIC (n := 82) X4 hx (1 : Int32) (hb hby own_d9_81) (by decide) rfl ?_
  refine oGO (n := 86) X4 hx (hb hby own_d9_82) (by decide) (by decide) ?_
  refine oALN (n := 87) X4 hx (hb hby own_d9_86) rfl rfl rfl ?_
  obtain ⟨T5, X5, e5, st5⟩ := getS2 X4 hx hZ hown (host := "") (Or.inl (oW hw 43 rfl)) Via.refl e4 (AA2.1.ext O0.2) (g := (mkF m 87 #[rv a4, rv w2, rv ac, .val .null, rv un, .val .null, .val .null, .val .null, .val .null, iv (0 : Int32), iv (1 : Int32), uu, uu] [(.ref w2), (.int (1 : Int32)), (.int (1 : Int32))])) rfl (hb hby own_d9_87)
  refine ov (B := T5.setTop (mkF m 90 #[rv a4, rv w2, rv ac, .val .null, rv un, .val .null, .val .null, .val .null, .val .null, iv (0 : Int32), iv (1 : Int32), uu, uu] [(.ref w2), (.ref w2), (.int (1 : Int32)), (.int (1 : Int32))])) (fun t k => st5 t k) ?_
  have hc90 : w2 = w2 := rfl
  refine ov (B := T5.setTop (mkF m 93 #[rv a4, rv w2, rv ac, .val .null, rv un, .val .null, .val .null, .val .null, .val .null, iv (0 : Int32), iv (1 : Int32), uu, uu] [(.int (1 : Int32)), (.int (1 : Int32))])) (fun t k => Jvm.RoadKit.acmp (g := (mkF m 90 #[rv a4, rv w2, rv ac, .val .null, rv un, .val .null, .val .null, .val .null, .val .null, iv (0 : Int32), iv (1 : Int32), uu, uu] [(.ref w2), (.ref w2), (.int (1 : Int32)), (.int (1 : Int32))])) X5 hx rfl rfl rfl (pc0 := 90) (pc' := 93) (same := true) rfl (hb hby own_d9_90) rfl (decide_eq_true (congrArg Value.ref hc90)) (by decide) (by decide) k) ?_
  refine oIC (n := 94) X5 hx (1 : Int32) (hb hby own_d9_93) (by decide) rfl ?_
  refine oGO (n := 98) X5 hx (hb hby own_d9_94) (by decide) (by decide) ?_
  have hc98 : (1 : Int32) = (1 : Int32) := by decide
  refine ov (B := T5.setTop (mkF m 101 #[rv a4, rv w2, rv ac, .val .null, rv un, .val .null, .val .null, .val .null, .val .null, iv (0 : Int32), iv (1 : Int32), uu, uu] [(.int (1 : Int32))])) (fun t k => XS.icmpNo X5.here hx rfl (hb hby own_d9_98) rfl (teq hc98).2 k) ?_
  refine oIC (n := 102) X5 hx (1 : Int32) (hb hby own_d9_101) (by decide) rfl ?_
  refine oGO (n := 106) X5 hx (hb hby own_d9_102) (by decide) (by decide) ?_
  refine ov (B := T5.setTop (mkF m 107 #[rv a4, rv w2, rv ac, .val .null, rv un, .val .null, .val .null, .val .null, .val .null, iv (0 : Int32), iv (1 : Int32), uu, uu] [(.int (1 : Int32))])) (fun t k => XS.iand X5.here hx rfl (hb hby own_d9_106) rfl k) ?_
  refine ov (B := T5.setTop (mkF m 109 #[rv a4, rv w2, rv ac, .val .null, rv un, .val .null, .val .null, .val .null, .val .null, iv (0 : Int32), iv (1 : Int32), uu, uu] [])) (fun t k => XS.istore X5.here hx rfl (hb hby own_d9_107) rfl (l' := #[rv a4, rv w2, rv ac, .val .null, rv un, .val .null, .val .null, .val .null, .val .null, iv (0 : Int32), iv (1 : Int32), uu, uu]) rfl k) ?_
  refine oIL (n := 111) X5 hx (hb hby own_d9_109) rfl rfl ?_
  refine oAL (n := 113) X5 hx (hb hby own_d9_111) rfl rfl rfl ?_
  refine ov (B := T5.setTop (mkF m 120 #[rv a4, rv w2, rv ac, .val .null, rv un, .val .null, .val .null, .val .null, .val .null, iv (0 : Int32), iv (1 : Int32), uu, uu] [(.int (1 : Int32))])) (fun t k => XS.ifnullYes X5.here hx rfl (pc0 := 113) (pc' := 120) rfl (hb hby own_d9_113) rfl (by decide) (by decide) k) ?_
  refine oIC (n := 121) X5 hx (0 : Int32) (hb hby own_d9_120) (by decide) rfl ?_
  refine oALN (n := 122) X5 hx (hb hby own_d9_121) rfl rfl rfl ?_
  obtain ⟨T6, X6, e6, st6⟩ := getS2 X5 hx hZ hown (host := "") (Or.inl (oW hw 61 rfl)) Via.refl e5 (AA3.1.ext O0.2) (g := (mkF m 122 #[rv a4, rv w2, rv ac, .val .null, rv un, .val .null, .val .null, .val .null, .val .null, iv (0 : Int32), iv (1 : Int32), uu, uu] [(.ref w2), (.int (0 : Int32)), (.int (1 : Int32))])) rfl (hb hby own_d9_122)
  refine ov (B := T6.setTop (mkF m 125 #[rv a4, rv w2, rv ac, .val .null, rv un, .val .null, .val .null, .val .null, .val .null, iv (0 : Int32), iv (1 : Int32), uu, uu] [(.ref w3), (.ref w2), (.int (0 : Int32)), (.int (1 : Int32))])) (fun t k => st6 t k) ?_
  have hc125 : ¬ (w2 = w3) := own_ne AA2 AA3 (by decide)
  refine ov (B := T6.setTop (mkF m 132 #[rv a4, rv w2, rv ac, .val .null, rv un, .val .null, .val .null, .val .null, .val .null, iv (0 : Int32), iv (1 : Int32), uu, uu] [(.int (0 : Int32)), (.int (1 : Int32))])) (fun t k => Jvm.RoadKit.acmp (g := (mkF m 125 #[rv a4, rv w2, rv ac, .val .null, rv un, .val .null, .val .null, .val .null, .val .null, iv (0 : Int32), iv (1 : Int32), uu, uu] [(.ref w3), (.ref w2), (.int (0 : Int32)), (.int (1 : Int32))])) X6 hx rfl rfl rfl (pc0 := 125) (pc' := 132) (same := false) rfl (hb hby own_d9_125) rfl (decide_eq_false fun q => hc125 (Value.ref.inj q)) (by decide) (by decide) k) ?_
  refine oIC (n := 133) X6 hx (0 : Int32) (hb hby own_d9_132) (by decide) rfl ?_
  have hc133 : (0 : Int32) = (0 : Int32) := by decide
  refine ov (B := T6.setTop (mkF m 136 #[rv a4, rv w2, rv ac, .val .null, rv un, .val .null, .val .null, .val .null, .val .null, iv (0 : Int32), iv (1 : Int32), uu, uu] [(.int (1 : Int32))])) (fun t k => XS.icmpNo X6.here hx rfl (hb hby own_d9_133) rfl (teq hc133).2 k) ?_
  refine oIC (n := 137) X6 hx (1 : Int32) (hb hby own_d9_136) (by decide) rfl ?_
  refine oGO (n := 141) X6 hx (hb hby own_d9_137) (by decide) (by decide) ?_
  refine ov (B := T6.setTop (mkF m 142 #[rv a4, rv w2, rv ac, .val .null, rv un, .val .null, .val .null, .val .null, .val .null, iv (0 : Int32), iv (1 : Int32), uu, uu] [(.int (1 : Int32))])) (fun t k => XS.iand X6.here hx rfl (hb hby own_d9_141) rfl k) ?_
  refine ov (B := T6.setTop (mkF m 144 #[rv a4, rv w2, rv ac, .val .null, rv un, .val .null, .val .null, .val .null, .val .null, iv (0 : Int32), iv (1 : Int32), uu, uu] [])) (fun t k => XS.istore X6.here hx rfl (hb hby own_d9_142) rfl (l' := #[rv a4, rv w2, rv ac, .val .null, rv un, .val .null, .val .null, .val .null, .val .null, iv (0 : Int32), iv (1 : Int32), uu, uu]) rfl k) ?_
  refine oIL (n := 146) X6 hx (hb hby own_d9_144) rfl rfl ?_
  refine oAL (n := 148) X6 hx (hb hby own_d9_146) rfl rfl rfl ?_
  refine ov (B := T6.setTop (mkF m 155 #[rv a4, rv w2, rv ac, .val .null, rv un, .val .null, .val .null, .val .null, .val .null, iv (0 : Int32), iv (1 : Int32), uu, uu] [(.int (1 : Int32))])) (fun t k => XS.ifnullYes X6.here hx rfl (pc0 := 148) (pc' := 155) rfl (hb hby own_d9_148) rfl (by decide) (by decide) k) ?_
  refine oIC (n := 156) X6 hx (0 : Int32) (hb hby own_d9_155) (by decide) rfl ?_
  refine oIL (n := 158) X6 hx (hb hby own_d9_156) rfl rfl ?_
  have hc158 : (0 : Int32) = (0 : Int32) := by decide
  refine ov (B := T6.setTop (mkF m 161 #[rv a4, rv w2, rv ac, .val .null, rv un, .val .null, .val .null, .val .null, .val .null, iv (0 : Int32), iv (1 : Int32), uu, uu] [(.int (1 : Int32))])) (fun t k => XS.icmpNo X6.here hx rfl (hb hby own_d9_158) rfl (teq hc158).2 k) ?_
  refine oAL (n := 163) X6 hx (hb hby own_d9_161) rfl rfl rfl ?_
  refine ov (B := T6.setTop (mkF m 170 #[rv a4, rv w2, rv ac, .val .null, rv un, .val .null, .val .null, .val .null, .val .null, iv (0 : Int32), iv (1 : Int32), uu, uu] [(.int (1 : Int32))])) (fun t k => XS.ifnullYes X6.here hx rfl (pc0 := 163) (pc' := 170) rfl (hb hby own_d9_163) rfl (by decide) (by decide) k) ?_
  refine oIC (n := 171) X6 hx (0 : Int32) (hb hby own_d9_170) (by decide) rfl ?_
  refine oIL (n := 173) X6 hx (hb hby own_d9_171) rfl rfl ?_
  have hc173 : (0 : Int32) = (0 : Int32) := by decide
  refine ov (B := T6.setTop (mkF m 176 #[rv a4, rv w2, rv ac, .val .null, rv un, .val .null, .val .null, .val .null, .val .null, iv (0 : Int32), iv (1 : Int32), uu, uu] [(.int (1 : Int32))])) (fun t k => XS.icmpNo X6.here hx rfl (hb hby own_d9_173) rfl (teq hc173).2 k) ?_
  refine oIC (n := 177) X6 hx (1 : Int32) (hb hby own_d9_176) (by decide) rfl ?_
  refine oGO (n := 181) X6 hx (hb hby own_d9_177) (by decide) (by decide) ?_
  refine ov (B := T6.setTop (mkF m 182 #[rv a4, rv w2, rv ac, .val .null, rv un, .val .null, .val .null, .val .null, .val .null, iv (0 : Int32), iv (1 : Int32), uu, uu] [(.int (1 : Int32))])) (fun t k => XS.iand X6.here hx rfl (hb hby own_d9_181) rfl k) ?_
  refine ov (B := T6.setTop (mkF m 184 #[rv a4, rv w2, rv ac, .val .null, rv un, .val .null, .val .null, .val .null, .val .null, iv (0 : Int32), iv (1 : Int32), uu, uu] [])) (fun t k => XS.istore X6.here hx rfl (hb hby own_d9_182) rfl (l' := #[rv a4, rv w2, rv ac, .val .null, rv un, .val .null, .val .null, .val .null, .val .null, iv (0 : Int32), iv (1 : Int32), uu, uu]) rfl k) ?_
  refine oIL (n := 186) X6 hx (hb hby own_d9_184) rfl rfl ?_
  refine oAL (n := 188) X6 hx (hb hby own_d9_186) rfl rfl rfl ?_
  refine ov (B := T6.setTop (mkF m 195 #[rv a4, rv w2, rv ac, .val .null, rv un, .val .null, .val .null, .val .null, .val .null, iv (0 : Int32), iv (1 : Int32), uu, uu] [(.int (1 : Int32))])) (fun t k => XS.ifnullYes X6.here hx rfl (pc0 := 188) (pc' := 195) rfl (hb hby own_d9_188) rfl (by decide) (by decide) k) ?_
  refine oIC (n := 196) X6 hx (0 : Int32) (hb hby own_d9_195) (by decide) rfl ?_
  refine oALN (n := 197) X6 hx (hb hby own_d9_196) rfl rfl rfl ?_
  obtain ⟨T7, X7, e7, st7⟩ := getS2 X6 hx hZ hown (host := "") (Or.inl (oW hw 59 rfl)) Via.refl e6 (AA5.1.ext O0.2) (g := (mkF m 197 #[rv a4, rv w2, rv ac, .val .null, rv un, .val .null, .val .null, .val .null, .val .null, iv (0 : Int32), iv (1 : Int32), uu, uu] [(.ref w2), (.int (0 : Int32)), (.int (1 : Int32))])) rfl (hb hby own_d9_197)
  refine ov (B := T7.setTop (mkF m 200 #[rv a4, rv w2, rv ac, .val .null, rv un, .val .null, .val .null, .val .null, .val .null, iv (0 : Int32), iv (1 : Int32), uu, uu] [(.ref w5), (.ref w2), (.int (0 : Int32)), (.int (1 : Int32))])) (fun t k => st7 t k) ?_
  have hc200 : ¬ (w2 = w5) := own_ne AA2 AA5 (by decide)
  refine ov (B := T7.setTop (mkF m 207 #[rv a4, rv w2, rv ac, .val .null, rv un, .val .null, .val .null, .val .null, .val .null, iv (0 : Int32), iv (1 : Int32), uu, uu] [(.int (0 : Int32)), (.int (1 : Int32))])) (fun t k => Jvm.RoadKit.acmp (g := (mkF m 200 #[rv a4, rv w2, rv ac, .val .null, rv un, .val .null, .val .null, .val .null, .val .null, iv (0 : Int32), iv (1 : Int32), uu, uu] [(.ref w5), (.ref w2), (.int (0 : Int32)), (.int (1 : Int32))])) X7 hx rfl rfl rfl (pc0 := 200) (pc' := 207) (same := false) rfl (hb hby own_d9_200) rfl (decide_eq_false fun q => hc200 (Value.ref.inj q)) (by decide) (by decide) k) ?_
  refine oIC (n := 208) X7 hx (0 : Int32) (hb hby own_d9_207) (by decide) rfl ?_
  have hc208 : (0 : Int32) = (0 : Int32) := by decide
  refine ov (B := T7.setTop (mkF m 211 #[rv a4, rv w2, rv ac, .val .null, rv un, .val .null, .val .null, .val .null, .val .null, iv (0 : Int32), iv (1 : Int32), uu, uu] [(.int (1 : Int32))])) (fun t k => XS.icmpNo X7.here hx rfl (hb hby own_d9_208) rfl (teq hc208).2 k) ?_
  refine oIC (n := 212) X7 hx (1 : Int32) (hb hby own_d9_211) (by decide) rfl ?_
  refine oGO (n := 216) X7 hx (hb hby own_d9_212) (by decide) (by decide) ?_
  refine ov (B := T7.setTop (mkF m 217 #[rv a4, rv w2, rv ac, .val .null, rv un, .val .null, .val .null, .val .null, .val .null, iv (0 : Int32), iv (1 : Int32), uu, uu] [(.int (1 : Int32))])) (fun t k => XS.iand X7.here hx rfl (hb hby own_d9_216) rfl k) ?_
  refine ov (B := T7.setTop (mkF m 219 #[rv a4, rv w2, rv ac, .val .null, rv un, .val .null, .val .null, .val .null, .val .null, iv (0 : Int32), iv (1 : Int32), uu, uu] [])) (fun t k => XS.istore X7.here hx rfl (hb hby own_d9_217) rfl (l' := #[rv a4, rv w2, rv ac, .val .null, rv un, .val .null, .val .null, .val .null, .val .null, iv (0 : Int32), iv (1 : Int32), uu, uu]) rfl k) ?_
  refine oIL (n := 221) X7 hx (hb hby own_d9_219) rfl rfl ?_
  have hc221 : ¬ ((1 : Int32) = (0 : Int32)) := by decide
  refine ov (B := T7.setTop (mkF m 236 #[rv a4, rv w2, rv ac, .val .null, rv un, .val .null, .val .null, .val .null, .val .null, iv (0 : Int32), iv (1 : Int32), uu, uu] [])) (fun t k => XS.ifYes X7.here hx rfl (pc0 := 221) (pc' := 236) rfl (hb hby own_d9_221) rfl ((if0 _ _).trans (feq hc221).2) (by decide) (by decide) k) ?_
  obtain ⟨c8, T8, h8, k8, X8, e8, E8, hS8, hk8, hZ, hown, st8⟩ := ldcS X7 hx hZ hown (oW hw 63 rfl) wS e7 hS0 hk0 (g := (mkF m 236 #[rv a4, rv w2, rv ac, .val .null, rv un, .val .null, .val .null, .val .null, .val .null, iv (0 : Int32), iv (1 : Int32), uu, uu] [])) rfl (hb hby own_d9_236) (n := 28) (by decide) (by decide) (by decide) (by decide)
  refine ov (B := T8.setTop (mkF m 238 #[rv a4, rv w2, rv ac, .val .null, rv un, .val .null, .val .null, .val .null, .val .null, iv (0 : Int32), iv (1 : Int32), uu, uu] [(.ref c8)])) (fun t k => st8 t k) ?_
  refine oALN (n := 239) X8 hx (hb hby own_d9_238) rfl rfl rfl ?_
  obtain ⟨_, _, ⟨T9, L9, k9, n9⟩, -, X9, ⟨Lc9, hQ9, l9, y9, z9⟩, st9⟩ := Jvm.LawKit.callS X8 hx (y := (⟨sAA, "requireNonEmpty", sAN⟩ : MethodName)) hown (mvT hZ (oW hw 64 rfl)) (mvT hZ (oW hw 65 rfl)) (mvT hZ (oW hw 39 rfl)) (mvT hZ (oW hw 66 rfl)) (by decide) (backOf (W := 0) (rmN1 l Z a0 hw [] c8 ac t_ac k_ac cs_ac h8 n0 (Nat.le_trans Z0 E8.1) (SE_ac.ext E8) (SC_ac.ext E8) (SV_ac.ext E8) (SA_ac.ext E8) Sp_ac Sl_ac) hZ (oW hw 66 rfl) (oW hw 39 rfl) (by decide) (by decide)) (g := (mkF m 239 #[rv a4, rv w2, rv ac, .val .null, rv un, .val .null, .val .null, .val .null, .val .null, iv (0 : Int32), iv (1 : Int32), uu, uu] [(.ref ac), (.ref c8)])) rfl (by rw [hml]; rfl) (argsL := [(.ref c8), (.ref ac)]) (rest := []) (lenOf own_pd7 rfl) rfl (by show 2 * 0 + _ ≤ _; exact Nat.le_of_eq rfl) (hb hby own_d9_239) (fun _ _ => ⟨rfl, e8, (by decide : ((0 + 0) + 2) + 0 ≤ _), (by decide : ((0 + 0) + (28 + 4)) + 0 ≤ _)⟩)
  dsimp only [Pt.U, Pt.locs, Pt.cells, Pt.slots] at X9 l9 y9 z9 st9 hQ9
  subst l9 y9 z9
  obtain ⟨rfl, Nq9, eq9⟩ := hQ9
  have N9 := Fr.app N1 Nq9
  refine ov (B := T9.setTop (mkF m 242 #[rv a4, rv w2, rv ac, .val .null, rv un, .val .null, .val .null, .val .null, .val .null, iv (0 : Int32), iv (1 : Int32), uu, uu] [])) (fun t k => st9 t k) ?_
  obtain ⟨c10, T10, h10, k10, X10, e10, E10, hS10, hk10, hZ, hown, st10⟩ := ldcS X9 hx hZ hown (oW hw 72 rfl) wS eq9 hS8 hk8 (g := (mkF m 242 #[rv a4, rv w2, rv ac, .val .null, rv un, .val .null, .val .null, .val .null, .val .null, iv (0 : Int32), iv (1 : Int32), uu, uu] [])) rfl (hb hby own_d9_242) (n := 16) (by decide) (by decide) (by decide) (by decide)
  refine ov (B := T10.setTop (mkF m 244 #[rv a4, rv w2, rv ac, .val .null, rv un, .val .null, .val .null, .val .null, .val .null, iv (0 : Int32), iv (1 : Int32), uu, uu] [(.ref c10)])) (fun t k => st10 t k) ?_
  refine oALN (n := 245) X10 hx (hb hby own_d9_244) rfl rfl rfl ?_
  obtain ⟨_, _, ⟨T11, L11, k11, n11⟩, -, X11, ⟨Lc11, hQ11, l11, y11, z11⟩, st11⟩ := Jvm.LawKit.callS X10 hx (y := (⟨sAA, "requireNonEmpty", sAN⟩ : MethodName)) hown (mvT hZ (oW hw 64 rfl)) (mvT hZ (oW hw 65 rfl)) (mvT hZ (oW hw 39 rfl)) (mvT hZ (oW hw 66 rfl)) (by decide) (backOf (W := 0) (rmN0 l Z a0 hw [] c10 h10 n0 (Nat.le_trans (Nat.le_trans Z0 E8.1) E10.1) ) hZ (oW hw 66 rfl) (oW hw 39 rfl) (by decide) (by decide)) (g := (mkF m 245 #[rv a4, rv w2, rv ac, .val .null, rv un, .val .null, .val .null, .val .null, .val .null, iv (0 : Int32), iv (1 : Int32), uu, uu] [.null, (.ref c10)])) rfl (by rw [hml]; rfl) (argsL := [(.ref c10), .null]) (rest := []) (lenOf own_pd7 rfl) rfl (by show 2 * 0 + _ ≤ _; exact Nat.le_of_eq rfl) (hb hby own_d9_245) (fun _ _ => ⟨rfl, e10, (by decide : ((((0 + 0) + 2) + 0) + 2) + 0 ≤ _), (by decide : ((((0 + 0) + (28 + 4)) + 0) + (16 + 4)) + 0 ≤ _)⟩)
  dsimp only [Pt.U, Pt.locs, Pt.cells, Pt.slots] at X11 l11 y11 z11 st11 hQ11
  subst l11 y11 z11
  obtain ⟨rfl, Nq11, eq11⟩ := hQ11
  have N11 := Fr.app N9 Nq11
  refine ov (B := T11.setTop (mkF m 248 #[rv a4, rv w2, rv ac, .val .null, rv un, .val .null, .val .null, .val .null, .val .null, iv (0 : Int32), iv (1 : Int32), uu, uu] [])) (fun t k => st11 t k) ?_
  obtain ⟨c12, T12, h12, k12, X12, e12, E12, hS12, hk12, hZ, hown, st12⟩ := ldcS X11 hx hZ hown (oW hw 73 rfl) wS eq11 hS10 hk10 (g := (mkF m 248 #[rv a4, rv w2, rv ac, .val .null, rv un, .val .null, .val .null, .val .null, .val .null, iv (0 : Int32), iv (1 : Int32), uu, uu] [])) rfl (hb hby own_d9_248) (n := 32) (by decide) (by decide) (by decide) (by decide)
  refine ov (B := T12.setTop (mkF m 250 #[rv a4, rv w2, rv ac, .val .null, rv un, .val .null, .val .null, .val .null, .val .null, iv (0 : Int32), iv (1 : Int32), uu, uu] [(.ref c12)])) (fun t k => st12 t k) ?_
  refine oAL (n := 252) X12 hx (hb hby own_d9_250) rfl rfl rfl ?_
  obtain ⟨_, _, ⟨T13, L13, k13, n13⟩, -, X13, ⟨Lc13, hQ13, l13, y13, z13⟩, st13⟩ := Jvm.LawKit.callS X12 hx (y := (⟨sAA, "requireNonEmpty", sAN⟩ : MethodName)) hown (mvT hZ (oW hw 64 rfl)) (mvT hZ (oW hw 65 rfl)) (mvT hZ (oW hw 39 rfl)) (mvT hZ (oW hw 66 rfl)) (by decide) (backOf (W := 0) (rmN1 l Z a0 hw [] c12 un t_un k_un cs_un h12 n0 (Nat.le_trans (Nat.le_trans (Nat.le_trans Z0 E8.1) E10.1) E12.1) (((SE_un.ext E8).ext E10).ext E12) (((SC_un.ext E8).ext E10).ext E12) (((SV_un.ext E8).ext E10).ext E12) (((SA_un.ext E8).ext E10).ext E12) Sp_un Sl_un) hZ (oW hw 66 rfl) (oW hw 39 rfl) (by decide) (by decide)) (g := (mkF m 252 #[rv a4, rv w2, rv ac, .val .null, rv un, .val .null, .val .null, .val .null, .val .null, iv (0 : Int32), iv (1 : Int32), uu, uu] [(.ref un), (.ref c12)])) rfl (by rw [hml]; rfl) (argsL := [(.ref c12), (.ref un)]) (rest := []) (lenOf own_pd7 rfl) rfl (by show 2 * 0 + _ ≤ _; exact Nat.le_of_eq rfl) (hb hby own_d9_252) (fun _ _ => ⟨rfl, e12, (by decide : ((((((0 + 0) + 2) + 0) + 2) + 0) + 2) + 0 ≤ _), (by decide : ((((((0 + 0) + (28 + 4)) + 0) + (16 + 4)) + 0) + (32 + 4)) + 0 ≤ _)⟩)
  dsimp only [Pt.U, Pt.locs, Pt.cells, Pt.slots] at X13 l13 y13 z13 st13 hQ13
  subst l13 y13 z13
  obtain ⟨rfl, Nq13, eq13⟩ := hQ13
  have N13 := Fr.app N11 Nq13
  refine ov (B := T13.setTop (mkF m 255 #[rv a4, rv w2, rv ac, .val .null, rv un, .val .null, .val .null, .val .null, .val .null, iv (0 : Int32), iv (1 : Int32), uu, uu] [])) (fun t k => st13 t k) ?_
  obtain ⟨c14, T14, h14, k14, X14, e14, E14, hS14, hk14, hZ, hown, st14⟩ := ldcS X13 hx hZ hown (oW hw 74 rfl) wS eq13 hS12 hk12 (g := (mkF m 255 #[rv a4, rv w2, rv ac, .val .null, rv un, .val .null, .val .null, .val .null, .val .null, iv (0 : Int32), iv (1 : Int32), uu, uu] [])) rfl (hb hby own_d9_255) (n := 24) (by decide) (by decide) (by decide) (by decide)
  refine ov (B := T14.setTop (mkF m 257 #[rv a4, rv w2, rv ac, .val .null, rv un, .val .null, .val .null, .val .null, .val .null, iv (0 : Int32), iv (1 : Int32), uu, uu] [(.ref c14)])) (fun t k => st14 t k) ?_
  refine oAL (n := 259) X14 hx (hb hby own_d9_257) rfl rfl rfl ?_
  obtain ⟨_, _, ⟨T15, L15, k15, n15⟩, -, X15, ⟨Lc15, hQ15, l15, y15, z15⟩, st15⟩ := Jvm.LawKit.callS X14 hx (y := (⟨sAA, "requireNonEmpty", sAN⟩ : MethodName)) hown (mvT hZ (oW hw 64 rfl)) (mvT hZ (oW hw 65 rfl)) (mvT hZ (oW hw 39 rfl)) (mvT hZ (oW hw 66 rfl)) (by decide) (backOf (W := 0) (rmN0 l Z a0 hw [] c14 h14 n0 (Nat.le_trans (Nat.le_trans (Nat.le_trans (Nat.le_trans Z0 E8.1) E10.1) E12.1) E14.1) ) hZ (oW hw 66 rfl) (oW hw 39 rfl) (by decide) (by decide)) (g := (mkF m 259 #[rv a4, rv w2, rv ac, .val .null, rv un, .val .null, .val .null, .val .null, .val .null, iv (0 : Int32), iv (1 : Int32), uu, uu] [.null, (.ref c14)])) rfl (by rw [hml]; rfl) (argsL := [(.ref c14), .null]) (rest := []) (lenOf own_pd7 rfl) rfl (by show 2 * 0 + _ ≤ _; exact Nat.le_of_eq rfl) (hb hby own_d9_259) (fun _ _ => ⟨rfl, e14, (by decide : ((((((((0 + 0) + 2) + 0) + 2) + 0) + 2) + 0) + 2) + 0 ≤ _), (by decide : ((((((((0 + 0) + (28 + 4)) + 0) + (16 + 4)) + 0) + (32 + 4)) + 0) + (24 + 4)) + 0 ≤ _)⟩)
  dsimp only [Pt.U, Pt.locs, Pt.cells, Pt.slots] at X15 l15 y15 z15 st15 hQ15
  subst l15 y15 z15
  obtain ⟨rfl, Nq15, eq15⟩ := hQ15
  have N15 := Fr.app N13 Nq15
  refine ov (B := T15.setTop (mkF m 262 #[rv a4, rv w2, rv ac, .val .null, rv un, .val .null, .val .null, .val .null, .val .null, iv (0 : Int32), iv (1 : Int32), uu, uu] [])) (fun t k => st15 t k) ?_
  obtain ⟨c16, T16, h16, k16, X16, e16, E16, hS16, hk16, hZ, hown, st16⟩ := ldcS X15 hx hZ hown (oW hw 75 rfl) wS eq15 hS14 hk14 (g := (mkF m 262 #[rv a4, rv w2, rv ac, .val .null, rv un, .val .null, .val .null, .val .null, .val .null, iv (0 : Int32), iv (1 : Int32), uu, uu] [])) rfl (hb hby own_d9_262) (n := 64) (by decide) (by decide) (by decide) (by decide)
  refine ov (B := T16.setTop (mkF m 264 #[rv a4, rv w2, rv ac, .val .null, rv un, .val .null, .val .null, .val .null, .val .null, iv (0 : Int32), iv (1 : Int32), uu, uu] [(.ref c16)])) (fun t k => st16 t k) ?_
  refine oAL (n := 266) X16 hx (hb hby own_d9_264) rfl rfl rfl ?_
  obtain ⟨_, _, ⟨T17, L17, k17, n17⟩, -, X17, ⟨Lc17, hQ17, l17, y17, z17⟩, st17⟩ := Jvm.LawKit.callS X16 hx (y := (⟨sAA, "requireNonEmpty", sAN⟩ : MethodName)) hown (mvT hZ (oW hw 64 rfl)) (mvT hZ (oW hw 65 rfl)) (mvT hZ (oW hw 39 rfl)) (mvT hZ (oW hw 66 rfl)) (by decide) (backOf (W := 0) (rmN0 l Z a0 hw [] c16 h16 n0 (Nat.le_trans (Nat.le_trans (Nat.le_trans (Nat.le_trans (Nat.le_trans Z0 E8.1) E10.1) E12.1) E14.1) E16.1) ) hZ (oW hw 66 rfl) (oW hw 39 rfl) (by decide) (by decide)) (g := (mkF m 266 #[rv a4, rv w2, rv ac, .val .null, rv un, .val .null, .val .null, .val .null, .val .null, iv (0 : Int32), iv (1 : Int32), uu, uu] [.null, (.ref c16)])) rfl (by rw [hml]; rfl) (argsL := [(.ref c16), .null]) (rest := []) (lenOf own_pd7 rfl) rfl (by show 2 * 0 + _ ≤ _; exact Nat.le_of_eq rfl) (hb hby own_d9_266) (fun _ _ => ⟨rfl, e16, (by decide : ((((((((((0 + 0) + 2) + 0) + 2) + 0) + 2) + 0) + 2) + 0) + 2) + 0 ≤ _), (by decide : ((((((((((0 + 0) + (28 + 4)) + 0) + (16 + 4)) + 0) + (32 + 4)) + 0) + (24 + 4)) + 0) + (64 + 4)) + 0 ≤ _)⟩)
  dsimp only [Pt.U, Pt.locs, Pt.cells, Pt.slots] at X17 l17 y17 z17 st17 hQ17
  subst l17 y17 z17
  obtain ⟨rfl, Nq17, eq17⟩ := hQ17
  have N17 := Fr.app N15 Nq17
  refine ov (B := T17.setTop (mkF m 269 #[rv a4, rv w2, rv ac, .val .null, rv un, .val .null, .val .null, .val .null, .val .null, iv (0 : Int32), iv (1 : Int32), uu, uu] [])) (fun t k => st17 t k) ?_
  obtain ⟨c18, T18, h18, k18, X18, e18, E18, hS18, hk18, hZ, hown, st18⟩ := ldcS X17 hx hZ hown (oW hw 76 rfl) wS eq17 hS16 hk16 (g := (mkF m 269 #[rv a4, rv w2, rv ac, .val .null, rv un, .val .null, .val .null, .val .null, .val .null, iv (0 : Int32), iv (1 : Int32), uu, uu] [])) rfl (hb hby own_d9_269) (n := 28) (by decide) (by decide) (by decide) (by decide)
  refine ov (B := T18.setTop (mkF m 271 #[rv a4, rv w2, rv ac, .val .null, rv un, .val .null, .val .null, .val .null, .val .null, iv (0 : Int32), iv (1 : Int32), uu, uu] [(.ref c18)])) (fun t k => st18 t k) ?_
  refine oAL (n := 273) X18 hx (hb hby own_d9_271) rfl rfl rfl ?_
  obtain ⟨_, _, ⟨T19, L19, k19, n19⟩, -, X19, ⟨Lc19, hQ19, l19, y19, z19⟩, st19⟩ := Jvm.LawKit.callS X18 hx (y := (⟨sAA, "requireNonEmpty", sAN⟩ : MethodName)) hown (mvT hZ (oW hw 64 rfl)) (mvT hZ (oW hw 65 rfl)) (mvT hZ (oW hw 39 rfl)) (mvT hZ (oW hw 66 rfl)) (by decide) (backOf (W := 0) (rmN0 l Z a0 hw [] c18 h18 n0 (Nat.le_trans (Nat.le_trans (Nat.le_trans (Nat.le_trans (Nat.le_trans (Nat.le_trans Z0 E8.1) E10.1) E12.1) E14.1) E16.1) E18.1) ) hZ (oW hw 66 rfl) (oW hw 39 rfl) (by decide) (by decide)) (g := (mkF m 273 #[rv a4, rv w2, rv ac, .val .null, rv un, .val .null, .val .null, .val .null, .val .null, iv (0 : Int32), iv (1 : Int32), uu, uu] [.null, (.ref c18)])) rfl (by rw [hml]; rfl) (argsL := [(.ref c18), .null]) (rest := []) (lenOf own_pd7 rfl) rfl (by show 2 * 0 + _ ≤ _; exact Nat.le_of_eq rfl) (hb hby own_d9_273) (fun _ _ => ⟨rfl, e18, (by decide : ((((((((((((0 + 0) + 2) + 0) + 2) + 0) + 2) + 0) + 2) + 0) + 2) + 0) + 2) + 0 ≤ _), (by decide : ((((((((((((0 + 0) + (28 + 4)) + 0) + (16 + 4)) + 0) + (32 + 4)) + 0) + (24 + 4)) + 0) + (64 + 4)) + 0) + (28 + 4)) + 0 ≤ _)⟩)
  dsimp only [Pt.U, Pt.locs, Pt.cells, Pt.slots] at X19 l19 y19 z19 st19 hQ19
  subst l19 y19 z19
  obtain ⟨rfl, Nq19, eq19⟩ := hQ19
  have N19 := Fr.app N17 Nq19
  refine ov (B := T19.setTop (mkF m 276 #[rv a4, rv w2, rv ac, .val .null, rv un, .val .null, .val .null, .val .null, .val .null, iv (0 : Int32), iv (1 : Int32), uu, uu] [])) (fun t k => st19 t k) ?_
  refine oAL (n := 278) X19 hx (hb hby own_d9_276) rfl rfl rfl ?_
  refine ov (B := T19.setTop (mkF m 329 #[rv a4, rv w2, rv ac, .val .null, rv un, .val .null, .val .null, .val .null, .val .null, iv (0 : Int32), iv (1 : Int32), uu, uu] [])) (fun t k => XS.ifnullYes X19.here hx rfl (pc0 := 278) (pc' := 329) rfl (hb hby own_d9_278) rfl (by decide) (by decide) k) ?_
  refine oALN (n := 330) X19 hx (hb hby own_d9_329) rfl rfl rfl ?_
  refine oALN (n := 331) X19 hx (hb hby own_d9_330) rfl rfl rfl ?_
  obtain ⟨T20, h20, X20, e20, W20, st20⟩ := putF X19 hx hZ hown (host := "") (Or.inl (oW hw 77 rfl)) Via.refl eq19 ((((((F40.ext E8).ext E10).ext E12).ext E14).ext E16).ext E18) ((((((E4.ext E8).ext E10).ext E12).ext E14).ext E16).ext E18) (Or.inr ⟨(oW hw 78 rfl), rfl, hnm⟩) (oW hw 42 rfl) (ty := (.object sAC)) (by decide) rfl rfl (g := (mkF m 331 #[rv a4, rv w2, rv ac, .val .null, rv un, .val .null, .val .null, .val .null, .val .null, iv (0 : Int32), iv (1 : Int32), uu, uu] [(.ref w2), (.ref a4)])) rfl rfl (hb hby own_d9_331)
  have Fw20 := ((((((F40.ext E8).ext E10).ext E12).ext E14).ext E16).ext E18).same W20
  have N20 := Fr.snoc X20 N19 g_a4
  refine ov (B := T20.setTop (mkF m 334 #[rv a4, rv w2, rv ac, .val .null, rv un, .val .null, .val .null, .val .null, .val .null, iv (0 : Int32), iv (1 : Int32), uu, uu] [])) (fun t k => st20 t k) ?_
  refine oALN (n := 335) X20 hx (hb hby own_d9_334) rfl rfl rfl ?_
  refine oALN (n := 336) X20 hx (hb hby own_d9_335) rfl rfl rfl ?_
  obtain ⟨T21, h21, X21, e21, W21, st21⟩ := putF X20 hx hZ hown (host := "") (Or.inl (oW hw 79 rfl)) Via.refl e20 (((((((F41.ext E8).ext E10).ext E12).ext E14).ext E16).ext E18).other W20 (Or.inr (slot_ne (Or.inr (oW hw 80 rfl)) (Or.inr (oW hw 78 rfl)) (by decide +kernel) (t := (.object sAB)) (t' := (.object sAC)) (by decide +kernel) (by decide +kernel)))) (((((((E4.ext E8).ext E10).ext E12).ext E14).ext E16).ext E18).wr W20) (Or.inr ⟨(oW hw 80 rfl), rfl, hnm⟩) (oW hw 42 rfl) (ty := (.object sAB)) (by decide) rfl rfl (g := (mkF m 336 #[rv a4, rv w2, rv ac, .val .null, rv un, .val .null, .val .null, .val .null, .val .null, iv (0 : Int32), iv (1 : Int32), uu, uu] [(.ref ac), (.ref a4)])) rfl rfl (hb hby own_d9_336)
  have Fw21 := (((((((F41.ext E8).ext E10).ext E12).ext E14).ext E16).ext E18).other W20 (Or.inr (slot_ne (Or.inr (oW hw 80 rfl)) (Or.inr (oW hw 78 rfl)) (by decide +kernel) (t := (.object sAB)) (t' := (.object sAC)) (by decide +kernel) (by decide +kernel)))).same W21
  have N21 := Fr.snoc X21 N20 g_a4
  refine ov (B := T21.setTop (mkF m 339 #[rv a4, rv w2, rv ac, .val .null, rv un, .val .null, .val .null, .val .null, .val .null, iv (0 : Int32), iv (1 : Int32), uu, uu] [])) (fun t k => st21 t k) ?_
  refine oALN (n := 340) X21 hx (hb hby own_d9_339) rfl rfl rfl ?_
  refine oALN (n := 341) X21 hx (hb hby own_d9_340) rfl rfl rfl ?_
  obtain ⟨T22, h22, X22, e22, W22, st22⟩ := putF X21 hx hZ hown (host := "") (Or.inl (oW hw 81 rfl)) Via.refl e21 ((((((((F42.ext E8).ext E10).ext E12).ext E14).ext E16).ext E18).other W20 (Or.inr (slot_ne (Or.inr (oW hw 82 rfl)) (Or.inr (oW hw 78 rfl)) (by decide +kernel) (t := (.object sAB)) (t' := (.object sAC)) (by decide +kernel) (by decide +kernel)))).other W21 (Or.inr (slot_ne (Or.inr (oW hw 82 rfl)) (Or.inr (oW hw 80 rfl)) (by decide +kernel) (t := (.object sAB)) (t' := (.object sAB)) (by decide +kernel) (by decide +kernel)))) ((((((((E4.ext E8).ext E10).ext E12).ext E14).ext E16).ext E18).wr W20).wr W21) (Or.inr ⟨(oW hw 82 rfl), rfl, hnm⟩) (oW hw 42 rfl) (ty := (.object sAB)) (by decide) rfl rfl (g := (mkF m 341 #[rv a4, rv w2, rv ac, .val .null, rv un, .val .null, .val .null, .val .null, .val .null, iv (0 : Int32), iv (1 : Int32), uu, uu] [.null, (.ref a4)])) rfl rfl (hb hby own_d9_341)
  have Fw22 := ((((((((F42.ext E8).ext E10).ext E12).ext E14).ext E16).ext E18).other W20 (Or.inr (slot_ne (Or.inr (oW hw 82 rfl)) (Or.inr (oW hw 78 rfl)) (by decide +kernel) (t := (.object sAB)) (t' := (.object sAC)) (by decide +kernel) (by decide +kernel)))).other W21 (Or.inr (slot_ne (Or.inr (oW hw 82 rfl)) (Or.inr (oW hw 80 rfl)) (by decide +kernel) (t := (.object sAB)) (t' := (.object sAB)) (by decide +kernel) (by decide +kernel)))).same W22
  have N22 := Fr.snoc X22 N21 g_a4
  refine ov (B := T22.setTop (mkF m 344 #[rv a4, rv w2, rv ac, .val .null, rv un, .val .null, .val .null, .val .null, .val .null, iv (0 : Int32), iv (1 : Int32), uu, uu] [])) (fun t k => st22 t k) ?_
  refine oALN (n := 345) X22 hx (hb hby own_d9_344) rfl rfl rfl ?_
  refine oAL (n := 347) X22 hx (hb hby own_d9_345) rfl rfl rfl ?_
  obtain ⟨T23, h23, X23, e23, W23, st23⟩ := putF X22 hx hZ hown (host := "") (Or.inl (oW hw 83 rfl)) Via.refl e22 (((((((((F43.ext E8).ext E10).ext E12).ext E14).ext E16).ext E18).other W20 (Or.inr (slot_ne (Or.inr (oW hw 84 rfl)) (Or.inr (oW hw 78 rfl)) (by decide +kernel) (t := (.object sAB)) (t' := (.object sAC)) (by decide +kernel) (by decide +kernel)))).other W21 (Or.inr (slot_ne (Or.inr (oW hw 84 rfl)) (Or.inr (oW hw 80 rfl)) (by decide +kernel) (t := (.object sAB)) (t' := (.object sAB)) (by decide +kernel) (by decide +kernel)))).other W22 (Or.inr (slot_ne (Or.inr (oW hw 84 rfl)) (Or.inr (oW hw 82 rfl)) (by decide +kernel) (t := (.object sAB)) (t' := (.object sAB)) (by decide +kernel) (by decide +kernel)))) (((((((((E4.ext E8).ext E10).ext E12).ext E14).ext E16).ext E18).wr W20).wr W21).wr W22) (Or.inr ⟨(oW hw 84 rfl), rfl, hnm⟩) (oW hw 42 rfl) (ty := (.object sAB)) (by decide) rfl rfl (g := (mkF m 347 #[rv a4, rv w2, rv ac, .val .null, rv un, .val .null, .val .null, .val .null, .val .null, iv (0 : Int32), iv (1 : Int32), uu, uu] [(.ref un), (.ref a4)])) rfl rfl (hb hby own_d9_347)
  have Fw23 := (((((((((F43.ext E8).ext E10).ext E12).ext E14).ext E16).ext E18).other W20 (Or.inr (slot_ne (Or.inr (oW hw 84 rfl)) (Or.inr (oW hw 78 rfl)) (by decide +kernel) (t := (.object sAB)) (t' := (.object sAC)) (by decide +kernel) (by decide +kernel)))).other W21 (Or.inr (slot_ne (Or.inr (oW hw 84 rfl)) (Or.inr (oW hw 80 rfl)) (by decide +kernel) (t := (.object sAB)) (t' := (.object sAB)) (by decide +kernel) (by decide +kernel)))).other W22 (Or.inr (slot_ne (Or.inr (oW hw 84 rfl)) (Or.inr (oW hw 82 rfl)) (by decide +kernel) (t := (.object sAB)) (t' := (.object sAB)) (by decide +kernel) (by decide +kernel)))).same W23
  have N23 := Fr.snoc X23 N22 g_a4
  refine ov (B := T23.setTop (mkF m 350 #[rv a4, rv w2, rv ac, .val .null, rv un, .val .null, .val .null, .val .null, .val .null, iv (0 : Int32), iv (1 : Int32), uu, uu] [])) (fun t k => st23 t k) ?_
  refine oALN (n := 351) X23 hx (hb hby own_d9_350) rfl rfl rfl ?_
  refine oAL (n := 353) X23 hx (hb hby own_d9_351) rfl rfl rfl ?_
  obtain ⟨T24, h24, X24, e24, W24, st24⟩ := putF X23 hx hZ hown (host := "") (Or.inl (oW hw 85 rfl)) Via.refl e23 ((((((((((F44.ext E8).ext E10).ext E12).ext E14).ext E16).ext E18).other W20 (Or.inr (slot_ne (Or.inr (oW hw 86 rfl)) (Or.inr (oW hw 78 rfl)) (by decide +kernel) (t := (.object sAB)) (t' := (.object sAC)) (by decide +kernel) (by decide +kernel)))).other W21 (Or.inr (slot_ne (Or.inr (oW hw 86 rfl)) (Or.inr (oW hw 80 rfl)) (by decide +kernel) (t := (.object sAB)) (t' := (.object sAB)) (by decide +kernel) (by decide +kernel)))).other W22 (Or.inr (slot_ne (Or.inr (oW hw 86 rfl)) (Or.inr (oW hw 82 rfl)) (by decide +kernel) (t := (.object sAB)) (t' := (.object sAB)) (by decide +kernel) (by decide +kernel)))).other W23 (Or.inr (slot_ne (Or.inr (oW hw 86 rfl)) (Or.inr (oW hw 84 rfl)) (by decide +kernel) (t := (.object sAB)) (t' := (.object sAB)) (by decide +kernel) (by decide +kernel)))) ((((((((((E4.ext E8).ext E10).ext E12).ext E14).ext E16).ext E18).wr W20).wr W21).wr W22).wr W23) (Or.inr ⟨(oW hw 86 rfl), rfl, hnm⟩) (oW hw 42 rfl) (ty := (.object sAB)) (by decide) rfl rfl (g := (mkF m 353 #[rv a4, rv w2, rv ac, .val .null, rv un, .val .null, .val .null, .val .null, .val .null, iv (0 : Int32), iv (1 : Int32), uu, uu] [.null, (.ref a4)])) rfl rfl (hb hby own_d9_353)
  have Fw24 := ((((((((((F44.ext E8).ext E10).ext E12).ext E14).ext E16).ext E18).other W20 (Or.inr (slot_ne (Or.inr (oW hw 86 rfl)) (Or.inr (oW hw 78 rfl)) (by decide +kernel) (t := (.object sAB)) (t' := (.object sAC)) (by decide +kernel) (by decide +kernel)))).other W21 (Or.inr (slot_ne (Or.inr (oW hw 86 rfl)) (Or.inr (oW hw 80 rfl)) (by decide +kernel) (t := (.object sAB)) (t' := (.object sAB)) (by decide +kernel) (by decide +kernel)))).other W22 (Or.inr (slot_ne (Or.inr (oW hw 86 rfl)) (Or.inr (oW hw 82 rfl)) (by decide +kernel) (t := (.object sAB)) (t' := (.object sAB)) (by decide +kernel) (by decide +kernel)))).other W23 (Or.inr (slot_ne (Or.inr (oW hw 86 rfl)) (Or.inr (oW hw 84 rfl)) (by decide +kernel) (t := (.object sAB)) (t' := (.object sAB)) (by decide +kernel) (by decide +kernel)))).same W24
  have N24 := Fr.snoc X24 N23 g_a4
  refine ov (B := T24.setTop (mkF m 356 #[rv a4, rv w2, rv ac, .val .null, rv un, .val .null, .val .null, .val .null, .val .null, iv (0 : Int32), iv (1 : Int32), uu, uu] [])) (fun t k => st24 t k) ?_
  refine oALN (n := 357) X24 hx (hb hby own_d9_356) rfl rfl rfl ?_
  refine oAL (n := 359) X24 hx (hb hby own_d9_357) rfl rfl rfl ?_
  obtain ⟨T25, h25, X25, e25, W25, st25⟩ := putF X24 hx hZ hown (host := "") (Or.inl (oW hw 87 rfl)) Via.refl e24 (((((((((((F45.ext E8).ext E10).ext E12).ext E14).ext E16).ext E18).other W20 (Or.inr (slot_ne (Or.inr (oW hw 88 rfl)) (Or.inr (oW hw 78 rfl)) (by decide +kernel) (t := (.object sAB)) (t' := (.object sAC)) (by decide +kernel) (by decide +kernel)))).other W21 (Or.inr (slot_ne (Or.inr (oW hw 88 rfl)) (Or.inr (oW hw 80 rfl)) (by decide +kernel) (t := (.object sAB)) (t' := (.object sAB)) (by decide +kernel) (by decide +kernel)))).other W22 (Or.inr (slot_ne (Or.inr (oW hw 88 rfl)) (Or.inr (oW hw 82 rfl)) (by decide +kernel) (t := (.object sAB)) (t' := (.object sAB)) (by decide +kernel) (by decide +kernel)))).other W23 (Or.inr (slot_ne (Or.inr (oW hw 88 rfl)) (Or.inr (oW hw 84 rfl)) (by decide +kernel) (t := (.object sAB)) (t' := (.object sAB)) (by decide +kernel) (by decide +kernel)))).other W24 (Or.inr (slot_ne (Or.inr (oW hw 88 rfl)) (Or.inr (oW hw 86 rfl)) (by decide +kernel) (t := (.object sAB)) (t' := (.object sAB)) (by decide +kernel) (by decide +kernel)))) (((((((((((E4.ext E8).ext E10).ext E12).ext E14).ext E16).ext E18).wr W20).wr W21).wr W22).wr W23).wr W24) (Or.inr ⟨(oW hw 88 rfl), rfl, hnm⟩) (oW hw 42 rfl) (ty := (.object sAB)) (by decide) rfl rfl (g := (mkF m 359 #[rv a4, rv w2, rv ac, .val .null, rv un, .val .null, .val .null, .val .null, .val .null, iv (0 : Int32), iv (1 : Int32), uu, uu] [.null, (.ref a4)])) rfl rfl (hb hby own_d9_359)
  have Fw25 := (((((((((((F45.ext E8).ext E10).ext E12).ext E14).ext E16).ext E18).other W20 (Or.inr (slot_ne (Or.inr (oW hw 88 rfl)) (Or.inr (oW hw 78 rfl)) (by decide +kernel) (t := (.object sAB)) (t' := (.object sAC)) (by decide +kernel) (by decide +kernel)))).other W21 (Or.inr (slot_ne (Or.inr (oW hw 88 rfl)) (Or.inr (oW hw 80 rfl)) (by decide +kernel) (t := (.object sAB)) (t' := (.object sAB)) (by decide +kernel) (by decide +kernel)))).other W22 (Or.inr (slot_ne (Or.inr (oW hw 88 rfl)) (Or.inr (oW hw 82 rfl)) (by decide +kernel) (t := (.object sAB)) (t' := (.object sAB)) (by decide +kernel) (by decide +kernel)))).other W23 (Or.inr (slot_ne (Or.inr (oW hw 88 rfl)) (Or.inr (oW hw 84 rfl)) (by decide +kernel) (t := (.object sAB)) (t' := (.object sAB)) (by decide +kernel) (by decide +kernel)))).other W24 (Or.inr (slot_ne (Or.inr (oW hw 88 rfl)) (Or.inr (oW hw 86 rfl)) (by decide +kernel) (t := (.object sAB)) (t' := (.object sAB)) (by decide +kernel) (by decide +kernel)))).same W25
  have N25 := Fr.snoc X25 N24 g_a4
  refine ov (B := T25.setTop (mkF m 362 #[rv a4, rv w2, rv ac, .val .null, rv un, .val .null, .val .null, .val .null, .val .null, iv (0 : Int32), iv (1 : Int32), uu, uu] [])) (fun t k => st25 t k) ?_
  refine oALN (n := 363) X25 hx (hb hby own_d9_362) rfl rfl rfl ?_
  refine oAL (n := 365) X25 hx (hb hby own_d9_363) rfl rfl rfl ?_
  obtain ⟨T26, h26, X26, e26, W26, st26⟩ := putF X25 hx hZ hown (host := "") (Or.inl (oW hw 89 rfl)) Via.refl e25 ((((((((((((F46.ext E8).ext E10).ext E12).ext E14).ext E16).ext E18).other W20 (Or.inr (slot_ne (Or.inr (oW hw 90 rfl)) (Or.inr (oW hw 78 rfl)) (by decide +kernel) (t := (.object "java/util/Set")) (t' := (.object sAC)) (by decide +kernel) (by decide +kernel)))).other W21 (Or.inr (slot_ne (Or.inr (oW hw 90 rfl)) (Or.inr (oW hw 80 rfl)) (by decide +kernel) (t := (.object "java/util/Set")) (t' := (.object sAB)) (by decide +kernel) (by decide +kernel)))).other W22 (Or.inr (slot_ne (Or.inr (oW hw 90 rfl)) (Or.inr (oW hw 82 rfl)) (by decide +kernel) (t := (.object "java/util/Set")) (t' := (.object sAB)) (by decide +kernel) (by decide +kernel)))).other W23 (Or.inr (slot_ne (Or.inr (oW hw 90 rfl)) (Or.inr (oW hw 84 rfl)) (by decide +kernel) (t := (.object "java/util/Set")) (t' := (.object sAB)) (by decide +kernel) (by decide +kernel)))).other W24 (Or.inr (slot_ne (Or.inr (oW hw 90 rfl)) (Or.inr (oW hw 86 rfl)) (by decide +kernel) (t := (.object "java/util/Set")) (t' := (.object sAB)) (by decide +kernel) (by decide +kernel)))).other W25 (Or.inr (slot_ne (Or.inr (oW hw 90 rfl)) (Or.inr (oW hw 88 rfl)) (by decide +kernel) (t := (.object "java/util/Set")) (t' := (.object sAB)) (by decide +kernel) (by decide +kernel)))) ((((((((((((E4.ext E8).ext E10).ext E12).ext E14).ext E16).ext E18).wr W20).wr W21).wr W22).wr W23).wr W24).wr W25) (Or.inr ⟨(oW hw 90 rfl), rfl, hnm⟩) (oW hw 42 rfl) (ty := (.object "java/util/Set")) (by decide) rfl rfl (g := (mkF m 365 #[rv a4, rv w2, rv ac, .val .null, rv un, .val .null, .val .null, .val .null, .val .null, iv (0 : Int32), iv (1 : Int32), uu, uu] [.null, (.ref a4)])) rfl rfl (hb hby own_d9_365)
  have Fw26 := ((((((((((((F46.ext E8).ext E10).ext E12).ext E14).ext E16).ext E18).other W20 (Or.inr (slot_ne (Or.inr (oW hw 90 rfl)) (Or.inr (oW hw 78 rfl)) (by decide +kernel) (t := (.object "java/util/Set")) (t' := (.object sAC)) (by decide +kernel) (by decide +kernel)))).other W21 (Or.inr (slot_ne (Or.inr (oW hw 90 rfl)) (Or.inr (oW hw 80 rfl)) (by decide +kernel) (t := (.object "java/util/Set")) (t' := (.object sAB)) (by decide +kernel) (by decide +kernel)))).other W22 (Or.inr (slot_ne (Or.inr (oW hw 90 rfl)) (Or.inr (oW hw 82 rfl)) (by decide +kernel) (t := (.object "java/util/Set")) (t' := (.object sAB)) (by decide +kernel) (by decide +kernel)))).other W23 (Or.inr (slot_ne (Or.inr (oW hw 90 rfl)) (Or.inr (oW hw 84 rfl)) (by decide +kernel) (t := (.object "java/util/Set")) (t' := (.object sAB)) (by decide +kernel) (by decide +kernel)))).other W24 (Or.inr (slot_ne (Or.inr (oW hw 90 rfl)) (Or.inr (oW hw 86 rfl)) (by decide +kernel) (t := (.object "java/util/Set")) (t' := (.object sAB)) (by decide +kernel) (by decide +kernel)))).other W25 (Or.inr (slot_ne (Or.inr (oW hw 90 rfl)) (Or.inr (oW hw 88 rfl)) (by decide +kernel) (t := (.object "java/util/Set")) (t' := (.object sAB)) (by decide +kernel) (by decide +kernel)))).same W26
  have N26 := Fr.snoc X26 N25 g_a4
  refine ov (B := T26.setTop (mkF m 368 #[rv a4, rv w2, rv ac, .val .null, rv un, .val .null, .val .null, .val .null, .val .null, iv (0 : Int32), iv (1 : Int32), uu, uu] [])) (fun t k => st26 t k) ?_
  refine oALN (n := 369) X26 hx (hb hby own_d9_368) rfl rfl rfl ?_
  refine oAL (n := 371) X26 hx (hb hby own_d9_369) rfl rfl rfl ?_
  obtain ⟨T27, h27, X27, e27, W27, st27⟩ := putF X26 hx hZ hown (host := "") (Or.inl (oW hw 91 rfl)) Via.refl e26 (((((((((((((F47.ext E8).ext E10).ext E12).ext E14).ext E16).ext E18).other W20 (Or.inr (slot_ne (Or.inr (oW hw 92 rfl)) (Or.inr (oW hw 78 rfl)) (by decide +kernel) (t := (.object sAB)) (t' := (.object sAC)) (by decide +kernel) (by decide +kernel)))).other W21 (Or.inr (slot_ne (Or.inr (oW hw 92 rfl)) (Or.inr (oW hw 80 rfl)) (by decide +kernel) (t := (.object sAB)) (t' := (.object sAB)) (by decide +kernel) (by decide +kernel)))).other W22 (Or.inr (slot_ne (Or.inr (oW hw 92 rfl)) (Or.inr (oW hw 82 rfl)) (by decide +kernel) (t := (.object sAB)) (t' := (.object sAB)) (by decide +kernel) (by decide +kernel)))).other W23 (Or.inr (slot_ne (Or.inr (oW hw 92 rfl)) (Or.inr (oW hw 84 rfl)) (by decide +kernel) (t := (.object sAB)) (t' := (.object sAB)) (by decide +kernel) (by decide +kernel)))).other W24 (Or.inr (slot_ne (Or.inr (oW hw 92 rfl)) (Or.inr (oW hw 86 rfl)) (by decide +kernel) (t := (.object sAB)) (t' := (.object sAB)) (by decide +kernel) (by decide +kernel)))).other W25 (Or.inr (slot_ne (Or.inr (oW hw 92 rfl)) (Or.inr (oW hw 88 rfl)) (by decide +kernel) (t := (.object sAB)) (t' := (.object sAB)) (by decide +kernel) (by decide +kernel)))).other W26 (Or.inr (slot_ne (Or.inr (oW hw 92 rfl)) (Or.inr (oW hw 90 rfl)) (by decide +kernel) (t := (.object sAB)) (t' := (.object "java/util/Set")) (by decide +kernel) (by decide +kernel)))) (((((((((((((E4.ext E8).ext E10).ext E12).ext E14).ext E16).ext E18).wr W20).wr W21).wr W22).wr W23).wr W24).wr W25).wr W26) (Or.inr ⟨(oW hw 92 rfl), rfl, hnm⟩) (oW hw 42 rfl) (ty := (.object sAB)) (by decide) rfl rfl (g := (mkF m 371 #[rv a4, rv w2, rv ac, .val .null, rv un, .val .null, .val .null, .val .null, .val .null, iv (0 : Int32), iv (1 : Int32), uu, uu] [.null, (.ref a4)])) rfl rfl (hb hby own_d9_371)
  have Fw27 := (((((((((((((F47.ext E8).ext E10).ext E12).ext E14).ext E16).ext E18).other W20 (Or.inr (slot_ne (Or.inr (oW hw 92 rfl)) (Or.inr (oW hw 78 rfl)) (by decide +kernel) (t := (.object sAB)) (t' := (.object sAC)) (by decide +kernel) (by decide +kernel)))).other W21 (Or.inr (slot_ne (Or.inr (oW hw 92 rfl)) (Or.inr (oW hw 80 rfl)) (by decide +kernel) (t := (.object sAB)) (t' := (.object sAB)) (by decide +kernel) (by decide +kernel)))).other W22 (Or.inr (slot_ne (Or.inr (oW hw 92 rfl)) (Or.inr (oW hw 82 rfl)) (by decide +kernel) (t := (.object sAB)) (t' := (.object sAB)) (by decide +kernel) (by decide +kernel)))).other W23 (Or.inr (slot_ne (Or.inr (oW hw 92 rfl)) (Or.inr (oW hw 84 rfl)) (by decide +kernel) (t := (.object sAB)) (t' := (.object sAB)) (by decide +kernel) (by decide +kernel)))).other W24 (Or.inr (slot_ne (Or.inr (oW hw 92 rfl)) (Or.inr (oW hw 86 rfl)) (by decide +kernel) (t := (.object sAB)) (t' := (.object sAB)) (by decide +kernel) (by decide +kernel)))).other W25 (Or.inr (slot_ne (Or.inr (oW hw 92 rfl)) (Or.inr (oW hw 88 rfl)) (by decide +kernel) (t := (.object sAB)) (t' := (.object sAB)) (by decide +kernel) (by decide +kernel)))).other W26 (Or.inr (slot_ne (Or.inr (oW hw 92 rfl)) (Or.inr (oW hw 90 rfl)) (by decide +kernel) (t := (.object sAB)) (t' := (.object "java/util/Set")) (by decide +kernel) (by decide +kernel)))).same W27
  have N27 := Fr.snoc X27 N26 g_a4
  refine ov (B := T27.setTop (mkF m 374 #[rv a4, rv w2, rv ac, .val .null, rv un, .val .null, .val .null, .val .null, .val .null, iv (0 : Int32), iv (1 : Int32), uu, uu] [])) (fun t k => st27 t k) ?_
  refine own_leafVW X27 hx hlk hS18 (by rw [e27]; exact (Nat.le_trans (Nat.le_trans (Nat.le_trans (Nat.le_trans (Nat.le_trans (Nat.le_trans (Nat.le_trans (Nat.le_trans hk18 (Keep.of_wr W20).1) (Keep.of_wr W21).1) (Keep.of_wr W22).1) (Keep.of_wr W23).1) (Keep.of_wr W24).1) (Keep.of_wr W25).1) (Keep.of_wr W26).1) (Keep.of_wr W27).1)) Bd.returns (hb hby own_d9_374) (by decide) (by decide) ?_
  show QQ2snsnnnn Z a4 w2 ac un w0 w1 w3 w4 w5 u0 u1 u2 u3 u4 u5 u6 u7 t_ac k_ac cs_ac t_un k_un cs_un h0 n0 _ T27.heap _
  rw [e27]
  refine ⟨?_, N27, (((((((((((((((Keep.refl h0 [a4]).ext E8).ext E10).ext E12).ext E14).ext E16).ext E18).wr W20 (Or.inl (List.mem_of_getElem? (i := 0) rfl))).wr W21 (Or.inl (List.mem_of_getElem? (i := 0) rfl))).wr W22 (Or.inl (List.mem_of_getElem? (i := 0) rfl))).wr W23 (Or.inl (List.mem_of_getElem? (i := 0) rfl))).wr W24 (Or.inl (List.mem_of_getElem? (i := 0) rfl))).wr W25 (Or.inl (List.mem_of_getElem? (i := 0) rfl))).wr W26 (Or.inl (List.mem_of_getElem? (i := 0) rfl))).wr W27 (Or.inl (List.mem_of_getElem? (i := 0) rfl))), (((((((Fw20.other W21 (Or.inr (slot_ne (Or.inr (oW hw 78 rfl)) (Or.inr (oW hw 80 rfl)) (by decide +kernel) (t := (.object sAC)) (t' := (.object sAB)) (by decide +kernel) (by decide +kernel)))).other W22 (Or.inr (slot_ne (Or.inr (oW hw 78 rfl)) (Or.inr (oW hw 82 rfl)) (by decide +kernel) (t := (.object sAC)) (t' := (.object sAB)) (by decide +kernel) (by decide +kernel)))).other W23 (Or.inr (slot_ne (Or.inr (oW hw 78 rfl)) (Or.inr (oW hw 84 rfl)) (by decide +kernel) (t := (.object sAC)) (t' := (.object sAB)) (by decide +kernel) (by decide +kernel)))).other W24 (Or.inr (slot_ne (Or.inr (oW hw 78 rfl)) (Or.inr (oW hw 86 rfl)) (by decide +kernel) (t := (.object sAC)) (t' := (.object sAB)) (by decide +kernel) (by decide +kernel)))).other W25 (Or.inr (slot_ne (Or.inr (oW hw 78 rfl)) (Or.inr (oW hw 88 rfl)) (by decide +kernel) (t := (.object sAC)) (t' := (.object sAB)) (by decide +kernel) (by decide +kernel)))).other W26 (Or.inr (slot_ne (Or.inr (oW hw 78 rfl)) (Or.inr (oW hw 90 rfl)) (by decide +kernel) (t := (.object sAC)) (t' := (.object "java/util/Set")) (by decide +kernel) (by decide +kernel)))).other W27 (Or.inr (slot_ne (Or.inr (oW hw 78 rfl)) (Or.inr (oW hw 92 rfl)) (by decide +kernel) (t := (.object sAC)) (t' := (.object sAB)) (by decide +kernel) (by decide +kernel)))), ((((((Fw21.other W22 (Or.inr (slot_ne (Or.inr (oW hw 80 rfl)) (Or.inr (oW hw 82 rfl)) (by decide +kernel) (t := (.object sAB)) (t' := (.object sAB)) (by decide +kernel) (by decide +kernel)))).other W23 (Or.inr (slot_ne (Or.inr (oW hw 80 rfl)) (Or.inr (oW hw 84 rfl)) (by decide +kernel) (t := (.object sAB)) (t' := (.object sAB)) (by decide +kernel) (by decide +kernel)))).other W24 (Or.inr (slot_ne (Or.inr (oW hw 80 rfl)) (Or.inr (oW hw 86 rfl)) (by decide +kernel) (t := (.object sAB)) (t' := (.object sAB)) (by decide +kernel) (by decide +kernel)))).other W25 (Or.inr (slot_ne (Or.inr (oW hw 80 rfl)) (Or.inr (oW hw 88 rfl)) (by decide +kernel) (t := (.object sAB)) (t' := (.object sAB)) (by decide +kernel) (by decide +kernel)))).other W26 (Or.inr (slot_ne (Or.inr (oW hw 80 rfl)) (Or.inr (oW hw 90 rfl)) (by decide +kernel) (t := (.object sAB)) (t' := (.object "java/util/Set")) (by decide +kernel) (by decide +kernel)))).other W27 (Or.inr (slot_ne (Or.inr (oW hw 80 rfl)) (Or.inr (oW hw 92 rfl)) (by decide +kernel) (t := (.object sAB)) (t' := (.object sAB)) (by decide +kernel) (by decide +kernel))))⟩
  rfl
theorem own_efQ2ssnnnnn (m : MethodId) (x0 : Addr) (x1 : Addr) (x2 : Addr) (x3 : Addr) : entryFrame m #[(.ref x0), (.ref x1), (.ref x2), (.ref x3), .null, .null, .null, .null, .null] 13 = mkF m 0 #[rv x0, rv x1, rv x2, rv x3, .val .null, .val .null, .val .null, .val .null, .val .null, uu, uu, uu, uu] [] := by first | (simp [entryFrame, mkF, argsToLocals, Value.category]; done) | rfl
def QQ2ssnnnnn (Z : State) (a4 : Addr) (w2 : Addr) (ac : Addr) (ui : Addr) (w0 : Addr) (w1 : Addr) (w3 : Addr) (w4 : Addr) (w5 : Addr) (u0 : Value) (u1 : Value) (u2 : Value) (u3 : Value) (u4 : Value) (u5 : Value) (u6 : Value) (u7 : Value) (t_ac : Addr) (k_ac : ClassId) (cs_ac : List Int32) (t_ui : Addr) (k_ui : ClassId) (cs_ui : List Int32) (h0 : Heap) (n0 : Nat) (v : Option Value) (h : Heap) (L : List Loc) : Prop := v = none ∧ Fr n0 L ∧ Keep h0 h [a4] ∧ (Fld Z h a4 sAA "kind" sAG (.ref w2)) ∧ (Fld Z h a4 sAA "account" sAH (.ref ac))
set_option maxRecDepth 65536 in
set_option maxHeartbeats 40000000 in
theorem rmQ2ssnnnnn (l : Launch) (Z : State) (a0 : Array Value) (hw : ∀ d ∈ tables_1, d.before a0 Z = true) (ws : List Jvm.Cond) (a4 : Addr) (w2 : Addr) (ac : Addr) (ui : Addr) (w0 : Addr) (w1 : Addr) (w3 : Addr) (w4 : Addr) (w5 : Addr) (u0 : Value) (u1 : Value) (u2 : Value) (u3 : Value) (u4 : Value) (u5 : Value) (u6 : Value) (u7 : Value) (t_ac : Addr) (k_ac : ClassId) (cs_ac : List Int32) (t_ui : Addr) (k_ui : ClassId) (cs_ui : List Int32) (h0 : Heap) (n0 : Nat) (Z0 : n0 ≤ h0.size) (hall : own_All Z Z.heap w0 w1 w2 w3 w4 w5) (O0 : Old Z n0 h0) (E4 : Exa Z h0 a4 sAA) (F40 : Fld Z h0 a4 sAA "kind" sAG u0) (F41 : Fld Z h0 a4 sAA "account" sAH u1) (F42 : Fld Z h0 a4 sAA "userId" sAH u2) (F43 : Fld Z h0 a4 sAA "userName" sAH u3) (F44 : Fld Z h0 a4 sAA "agency" sAH u4) (F45 : Fld Z h0 a4 sAA sAU sAH u5) (F46 : Fld Z h0 a4 sAA "groups" "Ljava/util/Set;" u6) (F47 : Fld Z h0 a4 sAA "service" sAH u7) (g_a4 : n0 ≤ a4) (SE_ac : Exa Z h0 ac sAB) (SC_ac : Fld Z h0 ac sAB "coder" "B" (.int (0 : Int32))) (SV_ac : Fld Z h0 ac sAB "value" "[B" (.ref t_ac)) (SA_ac : Arv Z h0 t_ac k_ac .byte (Int32.ofNat cs_ac.length) ((cs_ac.map StrChars.lo8).map Value.int) (.int 0)) (Sp_ac : ∀ c ∈ cs_ac, ¬ c < 0 ∧ ¬ (255 : Int32) < c) (Sl_ac : 0 < cs_ac.length ∧ cs_ac.length ≤ 4000) (SE_ui : Exa Z h0 ui sAB) (SC_ui : Fld Z h0 ui sAB "coder" "B" (.int (0 : Int32))) (SV_ui : Fld Z h0 ui sAB "value" "[B" (.ref t_ui)) (SA_ui : Arv Z h0 t_ui k_ui .byte (Int32.ofNat cs_ui.length) ((cs_ui.map StrChars.lo8).map Value.int) (.int 0)) (Sp_ui : ∀ c ∈ cs_ui, ¬ c < 0 ∧ ¬ (255 : Int32) < c) (Sl_ui : 0 < cs_ui.length ∧ cs_ui.length ≤ 4000) :
    MetFree l (⟨sAA, "<init>", sAE⟩ : MethodName) (head1 (Jvm.Cond.code (⟨sAA, "<init>", sAE⟩ : MethodName) prog_50_method_1_code 13 none :: ws) ({ frames := 2, cells := 12, slots := 216, locals := 25 } : Room)) (fun a U => a = #[(.ref a4), (.ref w2), (.ref ac), (.ref ui), .null, .null, .null, .null, .null] ∧ Z.Warmed39 U.vm ∧ U.heap = h0) (fun _ _ _ _ _ => True) (fun _ U o U' => ∃ v L, o = .returned v ∧ QQ2ssnnnnn Z a4 w2 ac ui w0 w1 w3 w4 w5 u0 u1 u2 u3 u4 u5 u6 u7 t_ac k_ac cs_ac t_ui k_ui cs_ui h0 n0 v U'.heap L ∧ ReturnedEndW U o U' L ({ frames := 2, cells := 12, slots := 216, locals := 25 } : Room).cells ({ frames := 2, cells := 12, slots := 216, locals := 25 } : Room).slots) := by
  refine MetFree.of_bodySF (plainFor_of_name own_pn4) hisR ?_
  intro p e s m args below meth c s₁ Bd hml0 hP hK
  obtain ⟨rfl, hZ, hh⟩ := hP
  have hx := Bd.exec
  have hby := Bd.bytes
  have hlk : meth.locks = false := Bd.notSynchronized
  have hml : c.maxLocals = 13 := hml0
  have hown : s.vm.findClass sAA = some m.cls := findClass_of_methodNamed Bd.named
  have hnm := (name_of_methodNamed Bd.named Bd.method).1
  have X0 : Stand p l e ({ frames := 2, cells := 12, slots := 216, locals := 25 } : Room) (s.setVm s.vm) m #[(.ref a4), (.ref w2), (.ref ac), (.ref ui), .null, .null, .null, .null, .null] below meth c s₁ [] 0 0 := Stand.of_body Bd
  have e0 : s₁.heap = h0 := by rw [← hh, Bd.state]; rfl
  have N0 := Fr.nil n0
  have hS0 : s.Since s.vm h0.size := (State.WarmedH.refl s).since _
  have hk0 : h0.size ≤ h0.size := Nat.le_refl _
  have wS : ∀ a ∈ Bundle.stringAtoms, a.before a0 Z = true := by
    intro a ha
    simp only [Bundle.stringAtoms, List.mem_cons, List.not_mem_nil, or_false] at ha
    rcases ha with rfl | rfl | rfl | rfl | rfl | rfl | rfl
    · exact (oW hw 9 rfl)
    · exact (oW hw 10 rfl)
    · exact (oW hw 11 rfl)
    · exact (oW hw 12 rfl)
    · exact (oW hw 13 rfl)
    · exact (oW hw 14 rfl)
    · exact (oW hw 15 rfl)
  refine own_bodyW (A := s₁.setTop (mkF m 0 #[rv a4, rv w2, rv ac, rv ui, .val .null, .val .null, .val .null, .val .null, .val .null, uu, uu, uu, uu] [])) (Q := QQ2ssnnnnn Z a4 w2 ac ui w0 w1 w3 w4 w5 u0 u1 u2 u3 u4 u5 u6 u7 t_ac k_ac cs_ac t_ui k_ui cs_ui h0 n0) (fun t k => castTop (own_efQ2ssnnnnn m a4 w2 ac ui) k) ?_
  have hall' := hall
  obtain ⟨AA0, AA1, AA2, AA3, AA4, AA5⟩ := hall'
  refine oALN (n := 1) X0 hx (hb hby own_d9_0) rfl rfl rfl ?_
  obtain ⟨_, _, ⟨T1, L1, k1, n1⟩, -, X1, ⟨Lc1, hQ1, l1, y1, z1⟩, st1⟩ := X0.specialBack hx (y := (⟨sAV, "<init>", "()V"⟩ : MethodName)) rfl hown (mvT hZ (oW hw 49 rfl)) (mvT hZ (oW hw 50 rfl)) (mvT hZ (oW hw 53 rfl)) (by decide) (backOf (W := 0) (rmR l Z a0 hw [] a4 h0 n0 Z0 ) hZ (oW hw 53 rfl) (oW hw 52 rfl) (by decide) (by decide)) (g := (mkF m 1 #[rv a4, rv w2, rv ac, rv ui, .val .null, .val .null, .val .null, .val .null, .val .null, uu, uu, uu, uu] [(.ref a4)])) rfl (by rw [hml]; rfl) (Steps.refl _) (a := a4) (argsL := []) (rest := []) (lenOf own_pd6 rfl) rfl (by show 2 * 0 + _ ≤ _; exact Nat.le_of_eq rfl) (hb hby own_d9_1) (fun _ _ => ⟨rfl, e0, (by decide : 0 + 0 ≤ _), (by decide : 0 + 0 ≤ _)⟩)
  dsimp only [Pt.U, Pt.locs, Pt.cells, Pt.slots] at X1 l1 y1 z1 st1 hQ1
  subst l1 y1 z1
  obtain ⟨rfl, Nq1, eq1⟩ := hQ1
  have N1 := Fr.app N0 Nq1
  refine ov (B := T1.setTop (mkF m 4 #[rv a4, rv w2, rv ac, rv ui, .val .null, .val .null, .val .null, .val .null, .val .null, uu, uu, uu, uu] [])) (fun t k => st1.trans k) ?_
  refine oALN (n := 5) X1 hx (hb hby own_d9_4) rfl rfl rfl ?_
  refine ov (B := T1.setTop (mkF m 18 #[rv a4, rv w2, rv ac, rv ui, .val .null, .val .null, .val .null, .val .null, .val .null, uu, uu, uu, uu] [])) (fun t k => XS.ifnonnullYes X1.here hx rfl (pc0 := 5) (pc' := 18) rfl (hb hby own_d9_5) rfl (by decide) (by decide) k) ?_
  refine oALN (n := 19) X1 hx (hb hby own_d9_18) rfl rfl rfl ?_
  obtain ⟨T2, X2, e2, st2⟩ := getS2 X1 hx hZ hown (host := "") (Or.inl (oW hw 55 rfl)) Via.refl eq1 (AA4.1.ext O0.2) (g := (mkF m 19 #[rv a4, rv w2, rv ac, rv ui, .val .null, .val .null, .val .null, .val .null, .val .null, uu, uu, uu, uu] [(.ref w2)])) rfl (hb hby own_d9_19)
  refine ov (B := T2.setTop (mkF m 22 #[rv a4, rv w2, rv ac, rv ui, .val .null, .val .null, .val .null, .val .null, .val .null, uu, uu, uu, uu] [(.ref w4), (.ref w2)])) (fun t k => st2 t k) ?_
  have hc22 : ¬ (w2 = w4) := own_ne AA2 AA4 (by decide)
  refine ov (B := T2.setTop (mkF m 29 #[rv a4, rv w2, rv ac, rv ui, .val .null, .val .null, .val .null, .val .null, .val .null, uu, uu, uu, uu] [])) (fun t k => Jvm.RoadKit.acmp (g := (mkF m 22 #[rv a4, rv w2, rv ac, rv ui, .val .null, .val .null, .val .null, .val .null, .val .null, uu, uu, uu, uu] [(.ref w4), (.ref w2)])) X2 hx rfl rfl rfl (pc0 := 22) (pc' := 29) (same := false) rfl (hb hby own_d9_22) rfl (decide_eq_false fun q => hc22 (Value.ref.inj q)) (by decide) (by decide) k) ?_
  refine oIC (n := 30) X2 hx (0 : Int32) (hb hby own_d9_29) (by decide) rfl ?_
  refine ov (B := T2.setTop (mkF m 32 #[rv a4, rv w2, rv ac, rv ui, .val .null, .val .null, .val .null, .val .null, .val .null, iv (0 : Int32), uu, uu, uu] [])) (fun t k => XS.istore X2.here hx rfl (hb hby own_d9_30) rfl (l' := #[rv a4, rv w2, rv ac, rv ui, .val .null, .val .null, .val .null, .val .null, .val .null, iv (0 : Int32), uu, uu, uu]) rfl k) ?_
  refine oALN (n := 33) X2 hx (hb hby own_d9_32) rfl rfl rfl ?_
  refine ov (B := T2.setTop (mkF m 36 #[rv a4, rv w2, rv ac, rv ui, .val .null, .val .null, .val .null, .val .null, .val .null, iv (0 : Int32), uu, uu, uu] [])) (fun t k => XS.ifnullNo X2.here hx rfl (hb hby own_d9_33) rfl k) ?_
  refine oIC (n := 37) X2 hx (1 : Int32) (hb hby own_d9_36) (by decide) rfl ?_
  refine oGO (n := 41) X2 hx (hb hby own_d9_37) (by decide) (by decide) ?_
  refine oALN (n := 42) X2 hx (hb hby own_d9_41) rfl rfl rfl ?_
  obtain ⟨T3, X3, e3, st3⟩ := getS2 X2 hx hZ hown (host := "") (Or.inl (oW hw 57 rfl)) Via.refl e2 (AA0.1.ext O0.2) (g := (mkF m 42 #[rv a4, rv w2, rv ac, rv ui, .val .null, .val .null, .val .null, .val .null, .val .null, iv (0 : Int32), uu, uu, uu] [(.ref w2), (.int (1 : Int32))])) rfl (hb hby own_d9_42)
  refine ov (B := T3.setTop (mkF m 45 #[rv a4, rv w2, rv ac, rv ui, .val .null, .val .null, .val .null, .val .null, .val .null, iv (0 : Int32), uu, uu, uu] [(.ref w0), (.ref w2), (.int (1 : Int32))])) (fun t k => st3 t k) ?_
  have hc45 : ¬ (w2 = w0) := own_ne AA2 AA0 (by decide)
  refine ov (B := T3.setTop (mkF m 48 #[rv a4, rv w2, rv ac, rv ui, .val .null, .val .null, .val .null, .val .null, .val .null, iv (0 : Int32), uu, uu, uu] [(.int (1 : Int32))])) (fun t k => Jvm.RoadKit.acmp (g := (mkF m 45 #[rv a4, rv w2, rv ac, rv ui, .val .null, .val .null, .val .null, .val .null, .val .null, iv (0 : Int32), uu, uu, uu] [(.ref w0), (.ref w2), (.int (1 : Int32))])) X3 hx rfl rfl rfl (pc0 := 45) (pc' := 48) (same := false) rfl (hb hby own_d9_45) rfl (decide_eq_false fun q => hc45 (Value.ref.inj q)) (by decide) (by decide) k) ?_
  refine oALN (n := 49) X3 hx (hb hby own_d9_48) rfl rfl rfl ?_
  obtain ⟨T4, X4, e4, st4⟩ := getS2 X3 hx hZ hown (host := "") (Or.inl (oW hw 59 rfl)) Via.refl e3 (AA5.1.ext O0.2) (g := (mkF m 49 #[rv a4, rv w2, rv ac, rv ui, .val .null, .val .null, .val .null, .val .null, .val .null, iv (0 : Int32), uu, uu, uu] [(.ref w2), (.int (1 : Int32))])) rfl (hb hby own_d9_49)
  refine ov (B := T4.setTop (mkF m 52 #[rv a4, rv w2, rv ac, rv ui, .val .null, .val .null, .val .null, .val .null, .val .null, iv (0 : Int32), uu, uu, uu] [(.ref w5), (.ref w2), (.int (1 : Int32))])) (fun t k => st4 t k) ?_
  have hc52 : ¬ (w2 = w5) := own_ne AA2 AA5 (by decide)
  refine ov (B := T4.setTop (mkF m 55 #[rv a4, rv w2, rv ac, rv ui, .val .null, .val .null, .val .null, .val .null, .val .null, iv (0 : Int32), uu, uu, uu] [(.int (1 : Int32))])) (fun t k => Jvm.RoadKit.acmp (g := (mkF m 52 #[rv a4, rv w2, rv ac, rv ui, .val .null, .val .null, .val .null, .val .null, .val .null, iv (0 : Int32), uu, uu, uu] [(.ref w5), (.ref w2), (.int (1 : Int32))])) X4 hx rfl rfl rfl (pc0 := 52) (pc' := 55) (same := false) rfl (hb hby own_d9_52) rfl (decide_eq_false fun q => hc52 (Value.ref.inj q)) (by decide) (by decide) k) ?_
  refine oIC (n := 56) X4 hx (1 : Int32) (hb hby own_d9_55) (by decide) rfl ?_
  refine oGO (n := 60) X4 hx (hb hby own_d9_56) (by decide) (by decide) ?_
  have hc60 : (1 : Int32) = (1 : Int32) := by decide
  refine ov (B := T4.setTop (mkF m 63 #[rv a4, rv w2, rv ac, rv ui, .val .null, .val .null, .val .null, .val .null, .val .null, iv (0 : Int32), uu, uu, uu] [])) (fun t k => XS.icmpNo X4.here hx rfl (hb hby own_d9_60) rfl (teq hc60).2 k) ?_
  refine oIC (n := 64) X4 hx (1 : Int32) (hb hby own_d9_63) (by decide) rfl ?_
  refine oGO (n := 68) X4 hx (hb hby own_d9_64) (by decide) (by decide) ?_
  refine ov (B := T4.setTop (mkF m 70 #[rv a4, rv w2, rv ac, rv ui, .val .null, .val .null, .val .null, .val .null, .val .null, iv (0 : Int32), iv (1 : Int32), uu, uu] [])) (fun t k => XS.istore X4.here hx rfl (hb hby own_d9_68) rfl (l' := #[rv a4, rv w2, rv ac, rv ui, .val .null, .val .null, .val .null, .val .null, .val .null, iv (0 : Int32), iv (1 : Int32), uu, uu]) rfl k) ?_
  refine oIL (n := 72) X4 hx (hb hby own_d9_70) rfl rfl ?_
  refine oALN (n := 73) X4 hx (hb hby own_d9_72) rfl rfl rfl ?_
  refine ov (B := T4.setTop (mkF m 81 #[rv a4, rv w2, rv ac, rv ui, .val .null, .val .null, .val .null, .val .null, .val .null, iv (0 : Int32), iv (1 : Int32), uu, uu] [(.int (1 : Int32))])) (fun t k => XS.ifnonnullYes X4.here hx rfl (pc0 := 73) (pc' := 81) rfl (hb hby own_d9_73) rfl (by decide) (by decide) k) ?_
  refine oIC (n := 82) X4 hx (1 : Int32) (hb hby own_d9_81) (by decide) rfl ?_
  refine oGO (n := 86) X4 hx (hb hby own_d9_82) (by decide) (by decide) ?_
  refine oALN (n := 87) X4 hx (hb hby own_d9_86) rfl rfl rfl ?_
  obtain ⟨T5, X5, e5, st5⟩ := getS2 X4 hx hZ hown (host := "") (Or.inl (oW hw 43 rfl)) Via.refl e4 (AA2.1.ext O0.2) (g := (mkF m 87 #[rv a4, rv w2, rv ac, rv ui, .val .null, .val .null, .val .null, .val .null, .val .null, iv (0 : Int32), iv (1 : Int32), uu, uu] [(.ref w2), (.int (1 : Int32)), (.int (1 : Int32))])) rfl (hb hby own_d9_87)
  refine ov (B := T5.setTop (mkF m 90 #[rv a4, rv w2, rv ac, rv ui, .val .null, .val .null, .val .null, .val .null, .val .null, iv (0 : Int32), iv (1 : Int32), uu, uu] [(.ref w2), (.ref w2), (.int (1 : Int32)), (.int (1 : Int32))])) (fun t k => st5 t k) ?_
  have hc90 : w2 = w2 := rfl
  refine ov (B := T5.setTop (mkF m 93 #[rv a4, rv w2, rv ac, rv ui, .val .null, .val .null, .val .null, .val .null, .val .null, iv (0 : Int32), iv (1 : Int32), uu, uu] [(.int (1 : Int32)), (.int (1 : Int32))])) (fun t k => Jvm.RoadKit.acmp (g := (mkF m 90 #[rv a4, rv w2, rv ac, rv ui, .val .null, .val .null, .val .null, .val .null, .val .null, iv (0 : Int32), iv (1 : Int32), uu, uu] [(.ref w2), (.ref w2), (.int (1 : Int32)), (.int (1 : Int32))])) X5 hx rfl rfl rfl (pc0 := 90) (pc' := 93) (same := true) rfl (hb hby own_d9_90) rfl (decide_eq_true (congrArg Value.ref hc90)) (by decide) (by decide) k) ?_
  refine oIC (n := 94) X5 hx (1 : Int32) (hb hby own_d9_93) (by decide) rfl ?_
  refine oGO (n := 98) X5 hx (hb hby own_d9_94) (by decide) (by decide) ?_
  have hc98 : (1 : Int32) = (1 : Int32) := by decide
  refine ov (B := T5.setTop (mkF m 101 #[rv a4, rv w2, rv ac, rv ui, .val .null, .val .null, .val .null, .val .null, .val .null, iv (0 : Int32), iv (1 : Int32), uu, uu] [(.int (1 : Int32))])) (fun t k => XS.icmpNo X5.here hx rfl (hb hby own_d9_98) rfl (teq hc98).2 k) ?_
  refine oIC (n := 102) X5 hx (1 : Int32) (hb hby own_d9_101) (by decide) rfl ?_
  refine oGO (n := 106) X5 hx (hb hby own_d9_102) (by decide) (by decide) ?_
  refine ov (B := T5.setTop (mkF m 107 #[rv a4, rv w2, rv ac, rv ui, .val .null, .val .null, .val .null, .val .null, .val .null, iv (0 : Int32), iv (1 : Int32), uu, uu] [(.int (1 : Int32))])) (fun t k => XS.iand X5.here hx rfl (hb hby own_d9_106) rfl k) ?_
  refine ov (B := T5.setTop (mkF m 109 #[rv a4, rv w2, rv ac, rv ui, .val .null, .val .null, .val .null, .val .null, .val .null, iv (0 : Int32), iv (1 : Int32), uu, uu] [])) (fun t k => XS.istore X5.here hx rfl (hb hby own_d9_107) rfl (l' := #[rv a4, rv w2, rv ac, rv ui, .val .null, .val .null, .val .null, .val .null, .val .null, iv (0 : Int32), iv (1 : Int32), uu, uu]) rfl k) ?_
  refine oIL (n := 111) X5 hx (hb hby own_d9_109) rfl rfl ?_
  refine oAL (n := 113) X5 hx (hb hby own_d9_111) rfl rfl rfl ?_
  refine ov (B := T5.setTop (mkF m 120 #[rv a4, rv w2, rv ac, rv ui, .val .null, .val .null, .val .null, .val .null, .val .null, iv (0 : Int32), iv (1 : Int32), uu, uu] [(.int (1 : Int32))])) (fun t k => XS.ifnullYes X5.here hx rfl (pc0 := 113) (pc' := 120) rfl (hb hby own_d9_113) rfl (by decide) (by decide) k) ?_
  refine oIC (n := 121) X5 hx (0 : Int32) (hb hby own_d9_120) (by decide) rfl ?_
  refine oALN (n := 122) X5 hx (hb hby own_d9_121) rfl rfl rfl ?_
  obtain ⟨T6, X6, e6, st6⟩ := getS2 X5 hx hZ hown (host := "") (Or.inl (oW hw 61 rfl)) Via.refl e5 (AA3.1.ext O0.2) (g := (mkF m 122 #[rv a4, rv w2, rv ac, rv ui, .val .null, .val .null, .val .null, .val .null, .val .null, iv (0 : Int32), iv (1 : Int32), uu, uu] [(.ref w2), (.int (0 : Int32)), (.int (1 : Int32))])) rfl (hb hby own_d9_122)
  refine ov (B := T6.setTop (mkF m 125 #[rv a4, rv w2, rv ac, rv ui, .val .null, .val .null, .val .null, .val .null, .val .null, iv (0 : Int32), iv (1 : Int32), uu, uu] [(.ref w3), (.ref w2), (.int (0 : Int32)), (.int (1 : Int32))])) (fun t k => st6 t k) ?_
  have hc125 : ¬ (w2 = w3) := own_ne AA2 AA3 (by decide)
  refine ov (B := T6.setTop (mkF m 132 #[rv a4, rv w2, rv ac, rv ui, .val .null, .val .null, .val .null, .val .null, .val .null, iv (0 : Int32), iv (1 : Int32), uu, uu] [(.int (0 : Int32)), (.int (1 : Int32))])) (fun t k => Jvm.RoadKit.acmp (g := (mkF m 125 #[rv a4, rv w2, rv ac, rv ui, .val .null, .val .null, .val .null, .val .null, .val .null, iv (0 : Int32), iv (1 : Int32), uu, uu] [(.ref w3), (.ref w2), (.int (0 : Int32)), (.int (1 : Int32))])) X6 hx rfl rfl rfl (pc0 := 125) (pc' := 132) (same := false) rfl (hb hby own_d9_125) rfl (decide_eq_false fun q => hc125 (Value.ref.inj q)) (by decide) (by decide) k) ?_
  refine oIC (n := 133) X6 hx (0 : Int32) (hb hby own_d9_132) (by decide) rfl ?_
  have hc133 : (0 : Int32) = (0 : Int32) := by decide
  refine ov (B := T6.setTop (mkF m 136 #[rv a4, rv w2, rv ac, rv ui, .val .null, .val .null, .val .null, .val .null, .val .null, iv (0 : Int32), iv (1 : Int32), uu, uu] [(.int (1 : Int32))])) (fun t k => XS.icmpNo X6.here hx rfl (hb hby own_d9_133) rfl (teq hc133).2 k) ?_
  refine oIC (n := 137) X6 hx (1 : Int32) (hb hby own_d9_136) (by decide) rfl ?_
  refine oGO (n := 141) X6 hx (hb hby own_d9_137) (by decide) (by decide) ?_
  refine ov (B := T6.setTop (mkF m 142 #[rv a4, rv w2, rv ac, rv ui, .val .null, .val .null, .val .null, .val .null, .val .null, iv (0 : Int32), iv (1 : Int32), uu, uu] [(.int (1 : Int32))])) (fun t k => XS.iand X6.here hx rfl (hb hby own_d9_141) rfl k) ?_
  refine ov (B := T6.setTop (mkF m 144 #[rv a4, rv w2, rv ac, rv ui, .val .null, .val .null, .val .null, .val .null, .val .null, iv (0 : Int32), iv (1 : Int32), uu, uu] [])) (fun t k => XS.istore X6.here hx rfl (hb hby own_d9_142) rfl (l' := #[rv a4, rv w2, rv ac, rv ui, .val .null, .val .null, .val .null, .val .null, .val .null, iv (0 : Int32), iv (1 : Int32), uu, uu]) rfl k) ?_
  refine oIL (n := 146) X6 hx (hb hby own_d9_144) rfl rfl ?_
  refine oAL (n := 148) X6 hx (hb hby own_d9_146) rfl rfl rfl ?_
  refine ov (B := T6.setTop (mkF m 155 #[rv a4, rv w2, rv ac, rv ui, .val .null, .val .null, .val .null, .val .null, .val .null, iv (0 : Int32), iv (1 : Int32), uu, uu] [(.int (1 : Int32))])) (fun t k => XS.ifnullYes X6.here hx rfl (pc0 := 148) (pc' := 155) rfl (hb hby own_d9_148) rfl (by decide) (by decide) k) ?_
  refine oIC (n := 156) X6 hx (0 : Int32) (hb hby own_d9_155) (by decide) rfl ?_
  refine oIL (n := 158) X6 hx (hb hby own_d9_156) rfl rfl ?_
  have hc158 : (0 : Int32) = (0 : Int32) := by decide
  refine ov (B := T6.setTop (mkF m 161 #[rv a4, rv w2, rv ac, rv ui, .val .null, .val .null, .val .null, .val .null, .val .null, iv (0 : Int32), iv (1 : Int32), uu, uu] [(.int (1 : Int32))])) (fun t k => XS.icmpNo X6.here hx rfl (hb hby own_d9_158) rfl (teq hc158).2 k) ?_
  refine oAL (n := 163) X6 hx (hb hby own_d9_161) rfl rfl rfl ?_
  refine ov (B := T6.setTop (mkF m 170 #[rv a4, rv w2, rv ac, rv ui, .val .null, .val .null, .val .null, .val .null, .val .null, iv (0 : Int32), iv (1 : Int32), uu, uu] [(.int (1 : Int32))])) (fun t k => XS.ifnullYes X6.here hx rfl (pc0 := 163) (pc' := 170) rfl (hb hby own_d9_163) rfl (by decide) (by decide) k) ?_
  refine oIC (n := 171) X6 hx (0 : Int32) (hb hby own_d9_170) (by decide) rfl ?_
  refine oIL (n := 173) X6 hx (hb hby own_d9_171) rfl rfl ?_
  have hc173 : (0 : Int32) = (0 : Int32) := by decide
  refine ov (B := T6.setTop (mkF m 176 #[rv a4, rv w2, rv ac, rv ui, .val .null, .val .null, .val .null, .val .null, .val .null, iv (0 : Int32), iv (1 : Int32), uu, uu] [(.int (1 : Int32))])) (fun t k => XS.icmpNo X6.here hx rfl (hb hby own_d9_173) rfl (teq hc173).2 k) ?_
  refine oIC (n := 177) X6 hx (1 : Int32) (hb hby own_d9_176) (by decide) rfl ?_
  refine oGO (n := 181) X6 hx (hb hby own_d9_177) (by decide) (by decide) ?_
  refine ov (B := T6.setTop (mkF m 182 #[rv a4, rv w2, rv ac, rv ui, .val .null, .val .null, .val .null, .val .null, .val .null, iv (0 : Int32), iv (1 : Int32), uu, uu] [(.int (1 : Int32))])) (fun t k => XS.iand X6.here hx rfl (hb hby own_d9_181) rfl k) ?_
  refine ov (B := T6.setTop (mkF m 184 #[rv a4, rv w2, rv ac, rv ui, .val .null, .val .null, .val .null, .val .null, .val .null, iv (0 : Int32), iv (1 : Int32), uu, uu] [])) (fun t k => XS.istore X6.here hx rfl (hb hby own_d9_182) rfl (l' := #[rv a4, rv w2, rv ac, rv ui, .val .null, .val .null, .val .null, .val .null, .val .null, iv (0 : Int32), iv (1 : Int32), uu, uu]) rfl k) ?_
  refine oIL (n := 186) X6 hx (hb hby own_d9_184) rfl rfl ?_
  refine oAL (n := 188) X6 hx (hb hby own_d9_186) rfl rfl rfl ?_
  refine ov (B := T6.setTop (mkF m 195 #[rv a4, rv w2, rv ac, rv ui, .val .null, .val .null, .val .null, .val .null, .val .null, iv (0 : Int32), iv (1 : Int32), uu, uu] [(.int (1 : Int32))])) (fun t k => XS.ifnullYes X6.here hx rfl (pc0 := 188) (pc' := 195) rfl (hb hby own_d9_188) rfl (by decide) (by decide) k) ?_
  refine oIC (n := 196) X6 hx (0 : Int32) (hb hby own_d9_195) (by decide) rfl ?_
  refine oALN (n := 197) X6 hx (hb hby own_d9_196) rfl rfl rfl ?_
  obtain ⟨T7, X7, e7, st7⟩ := getS2 X6 hx hZ hown (host := "") (Or.inl (oW hw 59 rfl)) Via.refl e6 (AA5.1.ext O0.2) (g := (mkF m 197 #[rv a4, rv w2, rv ac, rv ui, .val .null, .val .null, .val .null, .val .null, .val .null, iv (0 : Int32), iv (1 : Int32), uu, uu] [(.ref w2), (.int (0 : Int32)), (.int (1 : Int32))])) rfl (hb hby own_d9_197)
  refine ov (B := T7.setTop (mkF m 200 #[rv a4, rv w2, rv ac, rv ui, .val .null, .val .null, .val .null, .val .null, .val .null, iv (0 : Int32), iv (1 : Int32), uu, uu] [(.ref w5), (.ref w2), (.int (0 : Int32)), (.int (1 : Int32))])) (fun t k => st7 t k) ?_
  have hc200 : ¬ (w2 = w5) := own_ne AA2 AA5 (by decide)
  refine ov (B := T7.setTop (mkF m 207 #[rv a4, rv w2, rv ac, rv ui, .val .null, .val .null, .val .null, .val .null, .val .null, iv (0 : Int32), iv (1 : Int32), uu, uu] [(.int (0 : Int32)), (.int (1 : Int32))])) (fun t k => Jvm.RoadKit.acmp (g := (mkF m 200 #[rv a4, rv w2, rv ac, rv ui, .val .null, .val .null, .val .null, .val .null, .val .null, iv (0 : Int32), iv (1 : Int32), uu, uu] [(.ref w5), (.ref w2), (.int (0 : Int32)), (.int (1 : Int32))])) X7 hx rfl rfl rfl (pc0 := 200) (pc' := 207) (same := false) rfl (hb hby own_d9_200) rfl (decide_eq_false fun q => hc200 (Value.ref.inj q)) (by decide) (by decide) k) ?_
  refine oIC (n := 208) X7 hx (0 : Int32) (hb hby own_d9_207) (by decide) rfl ?_
  have hc208 : (0 : Int32) = (0 : Int32) := by decide
  refine ov (B := T7.setTop (mkF m 211 #[rv a4, rv w2, rv ac, rv ui, .val .null, .val .null, .val .null, .val .null, .val .null, iv (0 : Int32), iv (1 : Int32), uu, uu] [(.int (1 : Int32))])) (fun t k => XS.icmpNo X7.here hx rfl (hb hby own_d9_208) rfl (teq hc208).2 k) ?_
  refine oIC (n := 212) X7 hx (1 : Int32) (hb hby own_d9_211) (by decide) rfl ?_
  refine oGO (n := 216) X7 hx (hb hby own_d9_212) (by decide) (by decide) ?_
  refine ov (B := T7.setTop (mkF m 217 #[rv a4, rv w2, rv ac, rv ui, .val .null, .val .null, .val .null, .val .null, .val .null, iv (0 : Int32), iv (1 : Int32), uu, uu] [(.int (1 : Int32))])) (fun t k => XS.iand X7.here hx rfl (hb hby own_d9_216) rfl k) ?_
  refine ov (B := T7.setTop (mkF m 219 #[rv a4, rv w2, rv ac, rv ui, .val .null, .val .null, .val .null, .val .null, .val .null, iv (0 : Int32), iv (1 : Int32), uu, uu] [])) (fun t k => XS.istore X7.here hx rfl (hb hby own_d9_217) rfl (l' := #[rv a4, rv w2, rv ac, rv ui, .val .null, .val .null, .val .null, .val .null, .val .null, iv (0 : Int32), iv (1 : Int32), uu, uu]) rfl k) ?_
  refine oIL (n := 221) X7 hx (hb hby own_d9_219) rfl rfl ?_
  have hc221 : ¬ ((1 : Int32) = (0 : Int32)) := by decide
  refine ov (B := T7.setTop (mkF m 236 #[rv a4, rv w2, rv ac, rv ui, .val .null, .val .null, .val .null, .val .null, .val .null, iv (0 : Int32), iv (1 : Int32), uu, uu] [])) (fun t k => XS.ifYes X7.here hx rfl (pc0 := 221) (pc' := 236) rfl (hb hby own_d9_221) rfl ((if0 _ _).trans (feq hc221).2) (by decide) (by decide) k) ?_
  obtain ⟨c8, T8, h8, k8, X8, e8, E8, hS8, hk8, hZ, hown, st8⟩ := ldcS X7 hx hZ hown (oW hw 63 rfl) wS e7 hS0 hk0 (g := (mkF m 236 #[rv a4, rv w2, rv ac, rv ui, .val .null, .val .null, .val .null, .val .null, .val .null, iv (0 : Int32), iv (1 : Int32), uu, uu] [])) rfl (hb hby own_d9_236) (n := 28) (by decide) (by decide) (by decide) (by decide)
  refine ov (B := T8.setTop (mkF m 238 #[rv a4, rv w2, rv ac, rv ui, .val .null, .val .null, .val .null, .val .null, .val .null, iv (0 : Int32), iv (1 : Int32), uu, uu] [(.ref c8)])) (fun t k => st8 t k) ?_
  refine oALN (n := 239) X8 hx (hb hby own_d9_238) rfl rfl rfl ?_
  obtain ⟨_, _, ⟨T9, L9, k9, n9⟩, -, X9, ⟨Lc9, hQ9, l9, y9, z9⟩, st9⟩ := Jvm.LawKit.callS X8 hx (y := (⟨sAA, "requireNonEmpty", sAN⟩ : MethodName)) hown (mvT hZ (oW hw 64 rfl)) (mvT hZ (oW hw 65 rfl)) (mvT hZ (oW hw 39 rfl)) (mvT hZ (oW hw 66 rfl)) (by decide) (backOf (W := 0) (rmN1 l Z a0 hw [] c8 ac t_ac k_ac cs_ac h8 n0 (Nat.le_trans Z0 E8.1) (SE_ac.ext E8) (SC_ac.ext E8) (SV_ac.ext E8) (SA_ac.ext E8) Sp_ac Sl_ac) hZ (oW hw 66 rfl) (oW hw 39 rfl) (by decide) (by decide)) (g := (mkF m 239 #[rv a4, rv w2, rv ac, rv ui, .val .null, .val .null, .val .null, .val .null, .val .null, iv (0 : Int32), iv (1 : Int32), uu, uu] [(.ref ac), (.ref c8)])) rfl (by rw [hml]; rfl) (argsL := [(.ref c8), (.ref ac)]) (rest := []) (lenOf own_pd7 rfl) rfl (by show 2 * 0 + _ ≤ _; exact Nat.le_of_eq rfl) (hb hby own_d9_239) (fun _ _ => ⟨rfl, e8, (by decide : ((0 + 0) + 2) + 0 ≤ _), (by decide : ((0 + 0) + (28 + 4)) + 0 ≤ _)⟩)
  dsimp only [Pt.U, Pt.locs, Pt.cells, Pt.slots] at X9 l9 y9 z9 st9 hQ9
  subst l9 y9 z9
  obtain ⟨rfl, Nq9, eq9⟩ := hQ9
  have N9 := Fr.app N1 Nq9
  refine ov (B := T9.setTop (mkF m 242 #[rv a4, rv w2, rv ac, rv ui, .val .null, .val .null, .val .null, .val .null, .val .null, iv (0 : Int32), iv (1 : Int32), uu, uu] [])) (fun t k => st9 t k) ?_
  obtain ⟨c10, T10, h10, k10, X10, e10, E10, hS10, hk10, hZ, hown, st10⟩ := ldcS X9 hx hZ hown (oW hw 72 rfl) wS eq9 hS8 hk8 (g := (mkF m 242 #[rv a4, rv w2, rv ac, rv ui, .val .null, .val .null, .val .null, .val .null, .val .null, iv (0 : Int32), iv (1 : Int32), uu, uu] [])) rfl (hb hby own_d9_242) (n := 16) (by decide) (by decide) (by decide) (by decide)
  refine ov (B := T10.setTop (mkF m 244 #[rv a4, rv w2, rv ac, rv ui, .val .null, .val .null, .val .null, .val .null, .val .null, iv (0 : Int32), iv (1 : Int32), uu, uu] [(.ref c10)])) (fun t k => st10 t k) ?_
  refine oALN (n := 245) X10 hx (hb hby own_d9_244) rfl rfl rfl ?_
  obtain ⟨_, _, ⟨T11, L11, k11, n11⟩, -, X11, ⟨Lc11, hQ11, l11, y11, z11⟩, st11⟩ := Jvm.LawKit.callS X10 hx (y := (⟨sAA, "requireNonEmpty", sAN⟩ : MethodName)) hown (mvT hZ (oW hw 64 rfl)) (mvT hZ (oW hw 65 rfl)) (mvT hZ (oW hw 39 rfl)) (mvT hZ (oW hw 66 rfl)) (by decide) (backOf (W := 0) (rmN1 l Z a0 hw [] c10 ui t_ui k_ui cs_ui h10 n0 (Nat.le_trans (Nat.le_trans Z0 E8.1) E10.1) ((SE_ui.ext E8).ext E10) ((SC_ui.ext E8).ext E10) ((SV_ui.ext E8).ext E10) ((SA_ui.ext E8).ext E10) Sp_ui Sl_ui) hZ (oW hw 66 rfl) (oW hw 39 rfl) (by decide) (by decide)) (g := (mkF m 245 #[rv a4, rv w2, rv ac, rv ui, .val .null, .val .null, .val .null, .val .null, .val .null, iv (0 : Int32), iv (1 : Int32), uu, uu] [(.ref ui), (.ref c10)])) rfl (by rw [hml]; rfl) (argsL := [(.ref c10), (.ref ui)]) (rest := []) (lenOf own_pd7 rfl) rfl (by show 2 * 0 + _ ≤ _; exact Nat.le_of_eq rfl) (hb hby own_d9_245) (fun _ _ => ⟨rfl, e10, (by decide : ((((0 + 0) + 2) + 0) + 2) + 0 ≤ _), (by decide : ((((0 + 0) + (28 + 4)) + 0) + (16 + 4)) + 0 ≤ _)⟩)
  dsimp only [Pt.U, Pt.locs, Pt.cells, Pt.slots] at X11 l11 y11 z11 st11 hQ11
  subst l11 y11 z11
  obtain ⟨rfl, Nq11, eq11⟩ := hQ11
  have N11 := Fr.app N9 Nq11
  refine ov (B := T11.setTop (mkF m 248 #[rv a4, rv w2, rv ac, rv ui, .val .null, .val .null, .val .null, .val .null, .val .null, iv (0 : Int32), iv (1 : Int32), uu, uu] [])) (fun t k => st11 t k) ?_
  obtain ⟨c12, T12, h12, k12, X12, e12, E12, hS12, hk12, hZ, hown, st12⟩ := ldcS X11 hx hZ hown (oW hw 73 rfl) wS eq11 hS10 hk10 (g := (mkF m 248 #[rv a4, rv w2, rv ac, rv ui, .val .null, .val .null, .val .null, .val .null, .val .null, iv (0 : Int32), iv (1 : Int32), uu, uu] [])) rfl (hb hby own_d9_248) (n := 32) (by decide) (by decide) (by decide) (by decide)
  refine ov (B := T12.setTop (mkF m 250 #[rv a4, rv w2, rv ac, rv ui, .val .null, .val .null, .val .null, .val .null, .val .null, iv (0 : Int32), iv (1 : Int32), uu, uu] [(.ref c12)])) (fun t k => st12 t k) ?_
  refine oAL (n := 252) X12 hx (hb hby own_d9_250) rfl rfl rfl ?_
  obtain ⟨_, _, ⟨T13, L13, k13, n13⟩, -, X13, ⟨Lc13, hQ13, l13, y13, z13⟩, st13⟩ := Jvm.LawKit.callS X12 hx (y := (⟨sAA, "requireNonEmpty", sAN⟩ : MethodName)) hown (mvT hZ (oW hw 64 rfl)) (mvT hZ (oW hw 65 rfl)) (mvT hZ (oW hw 39 rfl)) (mvT hZ (oW hw 66 rfl)) (by decide) (backOf (W := 0) (rmN0 l Z a0 hw [] c12 h12 n0 (Nat.le_trans (Nat.le_trans (Nat.le_trans Z0 E8.1) E10.1) E12.1) ) hZ (oW hw 66 rfl) (oW hw 39 rfl) (by decide) (by decide)) (g := (mkF m 252 #[rv a4, rv w2, rv ac, rv ui, .val .null, .val .null, .val .null, .val .null, .val .null, iv (0 : Int32), iv (1 : Int32), uu, uu] [.null, (.ref c12)])) rfl (by rw [hml]; rfl) (argsL := [(.ref c12), .null]) (rest := []) (lenOf own_pd7 rfl) rfl (by show 2 * 0 + _ ≤ _; exact Nat.le_of_eq rfl) (hb hby own_d9_252) (fun _ _ => ⟨rfl, e12, (by decide : ((((((0 + 0) + 2) + 0) + 2) + 0) + 2) + 0 ≤ _), (by decide : ((((((0 + 0) + (28 + 4)) + 0) + (16 + 4)) + 0) + (32 + 4)) + 0 ≤ _)⟩)
  dsimp only [Pt.U, Pt.locs, Pt.cells, Pt.slots] at X13 l13 y13 z13 st13 hQ13
  subst l13 y13 z13
  obtain ⟨rfl, Nq13, eq13⟩ := hQ13
  have N13 := Fr.app N11 Nq13
  refine ov (B := T13.setTop (mkF m 255 #[rv a4, rv w2, rv ac, rv ui, .val .null, .val .null, .val .null, .val .null, .val .null, iv (0 : Int32), iv (1 : Int32), uu, uu] [])) (fun t k => st13 t k) ?_
  obtain ⟨c14, T14, h14, k14, X14, e14, E14, hS14, hk14, hZ, hown, st14⟩ := ldcS X13 hx hZ hown (oW hw 74 rfl) wS eq13 hS12 hk12 (g := (mkF m 255 #[rv a4, rv w2, rv ac, rv ui, .val .null, .val .null, .val .null, .val .null, .val .null, iv (0 : Int32), iv (1 : Int32), uu, uu] [])) rfl (hb hby own_d9_255) (n := 24) (by decide) (by decide) (by decide) (by decide)
  refine ov (B := T14.setTop (mkF m 257 #[rv a4, rv w2, rv ac, rv ui, .val .null, .val .null, .val .null, .val .null, .val .null, iv (0 : Int32), iv (1 : Int32), uu, uu] [(.ref c14)])) (fun t k => st14 t k) ?_
  refine oAL (n := 259) X14 hx (hb hby own_d9_257) rfl rfl rfl ?_
  obtain ⟨_, _, ⟨T15, L15, k15, n15⟩, -, X15, ⟨Lc15, hQ15, l15, y15, z15⟩, st15⟩ := Jvm.LawKit.callS X14 hx (y := (⟨sAA, "requireNonEmpty", sAN⟩ : MethodName)) hown (mvT hZ (oW hw 64 rfl)) (mvT hZ (oW hw 65 rfl)) (mvT hZ (oW hw 39 rfl)) (mvT hZ (oW hw 66 rfl)) (by decide) (backOf (W := 0) (rmN0 l Z a0 hw [] c14 h14 n0 (Nat.le_trans (Nat.le_trans (Nat.le_trans (Nat.le_trans Z0 E8.1) E10.1) E12.1) E14.1) ) hZ (oW hw 66 rfl) (oW hw 39 rfl) (by decide) (by decide)) (g := (mkF m 259 #[rv a4, rv w2, rv ac, rv ui, .val .null, .val .null, .val .null, .val .null, .val .null, iv (0 : Int32), iv (1 : Int32), uu, uu] [.null, (.ref c14)])) rfl (by rw [hml]; rfl) (argsL := [(.ref c14), .null]) (rest := []) (lenOf own_pd7 rfl) rfl (by show 2 * 0 + _ ≤ _; exact Nat.le_of_eq rfl) (hb hby own_d9_259) (fun _ _ => ⟨rfl, e14, (by decide : ((((((((0 + 0) + 2) + 0) + 2) + 0) + 2) + 0) + 2) + 0 ≤ _), (by decide : ((((((((0 + 0) + (28 + 4)) + 0) + (16 + 4)) + 0) + (32 + 4)) + 0) + (24 + 4)) + 0 ≤ _)⟩)
  dsimp only [Pt.U, Pt.locs, Pt.cells, Pt.slots] at X15 l15 y15 z15 st15 hQ15
  subst l15 y15 z15
  obtain ⟨rfl, Nq15, eq15⟩ := hQ15
  have N15 := Fr.app N13 Nq15
  refine ov (B := T15.setTop (mkF m 262 #[rv a4, rv w2, rv ac, rv ui, .val .null, .val .null, .val .null, .val .null, .val .null, iv (0 : Int32), iv (1 : Int32), uu, uu] [])) (fun t k => st15 t k) ?_
  obtain ⟨c16, T16, h16, k16, X16, e16, E16, hS16, hk16, hZ, hown, st16⟩ := ldcS X15 hx hZ hown (oW hw 75 rfl) wS eq15 hS14 hk14 (g := (mkF m 262 #[rv a4, rv w2, rv ac, rv ui, .val .null, .val .null, .val .null, .val .null, .val .null, iv (0 : Int32), iv (1 : Int32), uu, uu] [])) rfl (hb hby own_d9_262) (n := 64) (by decide) (by decide) (by decide) (by decide)
  refine ov (B := T16.setTop (mkF m 264 #[rv a4, rv w2, rv ac, rv ui, .val .null, .val .null, .val .null, .val .null, .val .null, iv (0 : Int32), iv (1 : Int32), uu, uu] [(.ref c16)])) (fun t k => st16 t k) ?_
  refine oAL (n := 266) X16 hx (hb hby own_d9_264) rfl rfl rfl ?_
  obtain ⟨_, _, ⟨T17, L17, k17, n17⟩, -, X17, ⟨Lc17, hQ17, l17, y17, z17⟩, st17⟩ := Jvm.LawKit.callS X16 hx (y := (⟨sAA, "requireNonEmpty", sAN⟩ : MethodName)) hown (mvT hZ (oW hw 64 rfl)) (mvT hZ (oW hw 65 rfl)) (mvT hZ (oW hw 39 rfl)) (mvT hZ (oW hw 66 rfl)) (by decide) (backOf (W := 0) (rmN0 l Z a0 hw [] c16 h16 n0 (Nat.le_trans (Nat.le_trans (Nat.le_trans (Nat.le_trans (Nat.le_trans Z0 E8.1) E10.1) E12.1) E14.1) E16.1) ) hZ (oW hw 66 rfl) (oW hw 39 rfl) (by decide) (by decide)) (g := (mkF m 266 #[rv a4, rv w2, rv ac, rv ui, .val .null, .val .null, .val .null, .val .null, .val .null, iv (0 : Int32), iv (1 : Int32), uu, uu] [.null, (.ref c16)])) rfl (by rw [hml]; rfl) (argsL := [(.ref c16), .null]) (rest := []) (lenOf own_pd7 rfl) rfl (by show 2 * 0 + _ ≤ _; exact Nat.le_of_eq rfl) (hb hby own_d9_266) (fun _ _ => ⟨rfl, e16, (by decide : ((((((((((0 + 0) + 2) + 0) + 2) + 0) + 2) + 0) + 2) + 0) + 2) + 0 ≤ _), (by decide : ((((((((((0 + 0) + (28 + 4)) + 0) + (16 + 4)) + 0) + (32 + 4)) + 0) + (24 + 4)) + 0) + (64 + 4)) + 0 ≤ _)⟩)
  dsimp only [Pt.U, Pt.locs, Pt.cells, Pt.slots] at X17 l17 y17 z17 st17 hQ17
  subst l17 y17 z17
  obtain ⟨rfl, Nq17, eq17⟩ := hQ17
  have N17 := Fr.app N15 Nq17
  refine ov (B := T17.setTop (mkF m 269 #[rv a4, rv w2, rv ac, rv ui, .val .null, .val .null, .val .null, .val .null, .val .null, iv (0 : Int32), iv (1 : Int32), uu, uu] [])) (fun t k => st17 t k) ?_
  obtain ⟨c18, T18, h18, k18, X18, e18, E18, hS18, hk18, hZ, hown, st18⟩ := ldcS X17 hx hZ hown (oW hw 76 rfl) wS eq17 hS16 hk16 (g := (mkF m 269 #[rv a4, rv w2, rv ac, rv ui, .val .null, .val .null, .val .null, .val .null, .val .null, iv (0 : Int32), iv (1 : Int32), uu, uu] [])) rfl (hb hby own_d9_269) (n := 28) (by decide) (by decide) (by decide) (by decide)
  refine ov (B := T18.setTop (mkF m 271 #[rv a4, rv w2, rv ac, rv ui, .val .null, .val .null, .val .null, .val .null, .val .null, iv (0 : Int32), iv (1 : Int32), uu, uu] [(.ref c18)])) (fun t k => st18 t k) ?_
  refine oAL (n := 273) X18 hx (hb hby own_d9_271) rfl rfl rfl ?_
  obtain ⟨_, _, ⟨T19, L19, k19, n19⟩, -, X19, ⟨Lc19, hQ19, l19, y19, z19⟩, st19⟩ := Jvm.LawKit.callS X18 hx (y := (⟨sAA, "requireNonEmpty", sAN⟩ : MethodName)) hown (mvT hZ (oW hw 64 rfl)) (mvT hZ (oW hw 65 rfl)) (mvT hZ (oW hw 39 rfl)) (mvT hZ (oW hw 66 rfl)) (by decide) (backOf (W := 0) (rmN0 l Z a0 hw [] c18 h18 n0 (Nat.le_trans (Nat.le_trans (Nat.le_trans (Nat.le_trans (Nat.le_trans (Nat.le_trans Z0 E8.1) E10.1) E12.1) E14.1) E16.1) E18.1) ) hZ (oW hw 66 rfl) (oW hw 39 rfl) (by decide) (by decide)) (g := (mkF m 273 #[rv a4, rv w2, rv ac, rv ui, .val .null, .val .null, .val .null, .val .null, .val .null, iv (0 : Int32), iv (1 : Int32), uu, uu] [.null, (.ref c18)])) rfl (by rw [hml]; rfl) (argsL := [(.ref c18), .null]) (rest := []) (lenOf own_pd7 rfl) rfl (by show 2 * 0 + _ ≤ _; exact Nat.le_of_eq rfl) (hb hby own_d9_273) (fun _ _ => ⟨rfl, e18, (by decide : ((((((((((((0 + 0) + 2) + 0) + 2) + 0) + 2) + 0) + 2) + 0) + 2) + 0) + 2) + 0 ≤ _), (by decide : ((((((((((((0 + 0) + (28 + 4)) + 0) + (16 + 4)) + 0) + (32 + 4)) + 0) + (24 + 4)) + 0) + (64 + 4)) + 0) + (28 + 4)) + 0 ≤ _)⟩)
  dsimp only [Pt.U, Pt.locs, Pt.cells, Pt.slots] at X19 l19 y19 z19 st19 hQ19
  subst l19 y19 z19
  obtain ⟨rfl, Nq19, eq19⟩ := hQ19
  have N19 := Fr.app N17 Nq19
  refine ov (B := T19.setTop (mkF m 276 #[rv a4, rv w2, rv ac, rv ui, .val .null, .val .null, .val .null, .val .null, .val .null, iv (0 : Int32), iv (1 : Int32), uu, uu] [])) (fun t k => st19 t k) ?_
  refine oAL (n := 278) X19 hx (hb hby own_d9_276) rfl rfl rfl ?_
  refine ov (B := T19.setTop (mkF m 329 #[rv a4, rv w2, rv ac, rv ui, .val .null, .val .null, .val .null, .val .null, .val .null, iv (0 : Int32), iv (1 : Int32), uu, uu] [])) (fun t k => XS.ifnullYes X19.here hx rfl (pc0 := 278) (pc' := 329) rfl (hb hby own_d9_278) rfl (by decide) (by decide) k) ?_
  refine oALN (n := 330) X19 hx (hb hby own_d9_329) rfl rfl rfl ?_
  refine oALN (n := 331) X19 hx (hb hby own_d9_330) rfl rfl rfl ?_
  obtain ⟨T20, h20, X20, e20, W20, st20⟩ := putF X19 hx hZ hown (host := "") (Or.inl (oW hw 77 rfl)) Via.refl eq19 ((((((F40.ext E8).ext E10).ext E12).ext E14).ext E16).ext E18) ((((((E4.ext E8).ext E10).ext E12).ext E14).ext E16).ext E18) (Or.inr ⟨(oW hw 78 rfl), rfl, hnm⟩) (oW hw 42 rfl) (ty := (.object sAC)) (by decide) rfl rfl (g := (mkF m 331 #[rv a4, rv w2, rv ac, rv ui, .val .null, .val .null, .val .null, .val .null, .val .null, iv (0 : Int32), iv (1 : Int32), uu, uu] [(.ref w2), (.ref a4)])) rfl rfl (hb hby own_d9_331)
  have Fw20 := ((((((F40.ext E8).ext E10).ext E12).ext E14).ext E16).ext E18).same W20
  have N20 := Fr.snoc X20 N19 g_a4
  refine ov (B := T20.setTop (mkF m 334 #[rv a4, rv w2, rv ac, rv ui, .val .null, .val .null, .val .null, .val .null, .val .null, iv (0 : Int32), iv (1 : Int32), uu, uu] [])) (fun t k => st20 t k) ?_
  refine oALN (n := 335) X20 hx (hb hby own_d9_334) rfl rfl rfl ?_
  refine oALN (n := 336) X20 hx (hb hby own_d9_335) rfl rfl rfl ?_
  obtain ⟨T21, h21, X21, e21, W21, st21⟩ := putF X20 hx hZ hown (host := "") (Or.inl (oW hw 79 rfl)) Via.refl e20 (((((((F41.ext E8).ext E10).ext E12).ext E14).ext E16).ext E18).other W20 (Or.inr (slot_ne (Or.inr (oW hw 80 rfl)) (Or.inr (oW hw 78 rfl)) (by decide +kernel) (t := (.object sAB)) (t' := (.object sAC)) (by decide +kernel) (by decide +kernel)))) (((((((E4.ext E8).ext E10).ext E12).ext E14).ext E16).ext E18).wr W20) (Or.inr ⟨(oW hw 80 rfl), rfl, hnm⟩) (oW hw 42 rfl) (ty := (.object sAB)) (by decide) rfl rfl (g := (mkF m 336 #[rv a4, rv w2, rv ac, rv ui, .val .null, .val .null, .val .null, .val .null, .val .null, iv (0 : Int32), iv (1 : Int32), uu, uu] [(.ref ac), (.ref a4)])) rfl rfl (hb hby own_d9_336)
  have Fw21 := (((((((F41.ext E8).ext E10).ext E12).ext E14).ext E16).ext E18).other W20 (Or.inr (slot_ne (Or.inr (oW hw 80 rfl)) (Or.inr (oW hw 78 rfl)) (by decide +kernel) (t := (.object sAB)) (t' := (.object sAC)) (by decide +kernel) (by decide +kernel)))).same W21
  have N21 := Fr.snoc X21 N20 g_a4
  refine ov (B := T21.setTop (mkF m 339 #[rv a4, rv w2, rv ac, rv ui, .val .null, .val .null, .val .null, .val .null, .val .null, iv (0 : Int32), iv (1 : Int32), uu, uu] [])) (fun t k => st21 t k) ?_
  refine oALN (n := 340) X21 hx (hb hby own_d9_339) rfl rfl rfl ?_
  refine oALN (n := 341) X21 hx (hb hby own_d9_340) rfl rfl rfl ?_
  obtain ⟨T22, h22, X22, e22, W22, st22⟩ := putF X21 hx hZ hown (host := "") (Or.inl (oW hw 81 rfl)) Via.refl e21 ((((((((F42.ext E8).ext E10).ext E12).ext E14).ext E16).ext E18).other W20 (Or.inr (slot_ne (Or.inr (oW hw 82 rfl)) (Or.inr (oW hw 78 rfl)) (by decide +kernel) (t := (.object sAB)) (t' := (.object sAC)) (by decide +kernel) (by decide +kernel)))).other W21 (Or.inr (slot_ne (Or.inr (oW hw 82 rfl)) (Or.inr (oW hw 80 rfl)) (by decide +kernel) (t := (.object sAB)) (t' := (.object sAB)) (by decide +kernel) (by decide +kernel)))) ((((((((E4.ext E8).ext E10).ext E12).ext E14).ext E16).ext E18).wr W20).wr W21) (Or.inr ⟨(oW hw 82 rfl), rfl, hnm⟩) (oW hw 42 rfl) (ty := (.object sAB)) (by decide) rfl rfl (g := (mkF m 341 #[rv a4, rv w2, rv ac, rv ui, .val .null, .val .null, .val .null, .val .null, .val .null, iv (0 : Int32), iv (1 : Int32), uu, uu] [(.ref ui), (.ref a4)])) rfl rfl (hb hby own_d9_341)
  have Fw22 := ((((((((F42.ext E8).ext E10).ext E12).ext E14).ext E16).ext E18).other W20 (Or.inr (slot_ne (Or.inr (oW hw 82 rfl)) (Or.inr (oW hw 78 rfl)) (by decide +kernel) (t := (.object sAB)) (t' := (.object sAC)) (by decide +kernel) (by decide +kernel)))).other W21 (Or.inr (slot_ne (Or.inr (oW hw 82 rfl)) (Or.inr (oW hw 80 rfl)) (by decide +kernel) (t := (.object sAB)) (t' := (.object sAB)) (by decide +kernel) (by decide +kernel)))).same W22
  have N22 := Fr.snoc X22 N21 g_a4
  refine ov (B := T22.setTop (mkF m 344 #[rv a4, rv w2, rv ac, rv ui, .val .null, .val .null, .val .null, .val .null, .val .null, iv (0 : Int32), iv (1 : Int32), uu, uu] [])) (fun t k => st22 t k) ?_
  refine oALN (n := 345) X22 hx (hb hby own_d9_344) rfl rfl rfl ?_
  refine oAL (n := 347) X22 hx (hb hby own_d9_345) rfl rfl rfl ?_
  obtain ⟨T23, h23, X23, e23, W23, st23⟩ := putF X22 hx hZ hown (host := "") (Or.inl (oW hw 83 rfl)) Via.refl e22 (((((((((F43.ext E8).ext E10).ext E12).ext E14).ext E16).ext E18).other W20 (Or.inr (slot_ne (Or.inr (oW hw 84 rfl)) (Or.inr (oW hw 78 rfl)) (by decide +kernel) (t := (.object sAB)) (t' := (.object sAC)) (by decide +kernel) (by decide +kernel)))).other W21 (Or.inr (slot_ne (Or.inr (oW hw 84 rfl)) (Or.inr (oW hw 80 rfl)) (by decide +kernel) (t := (.object sAB)) (t' := (.object sAB)) (by decide +kernel) (by decide +kernel)))).other W22 (Or.inr (slot_ne (Or.inr (oW hw 84 rfl)) (Or.inr (oW hw 82 rfl)) (by decide +kernel) (t := (.object sAB)) (t' := (.object sAB)) (by decide +kernel) (by decide +kernel)))) (((((((((E4.ext E8).ext E10).ext E12).ext E14).ext E16).ext E18).wr W20).wr W21).wr W22) (Or.inr ⟨(oW hw 84 rfl), rfl, hnm⟩) (oW hw 42 rfl) (ty := (.object sAB)) (by decide) rfl rfl (g := (mkF m 347 #[rv a4, rv w2, rv ac, rv ui, .val .null, .val .null, .val .null, .val .null, .val .null, iv (0 : Int32), iv (1 : Int32), uu, uu] [.null, (.ref a4)])) rfl rfl (hb hby own_d9_347)
  have Fw23 := (((((((((F43.ext E8).ext E10).ext E12).ext E14).ext E16).ext E18).other W20 (Or.inr (slot_ne (Or.inr (oW hw 84 rfl)) (Or.inr (oW hw 78 rfl)) (by decide +kernel) (t := (.object sAB)) (t' := (.object sAC)) (by decide +kernel) (by decide +kernel)))).other W21 (Or.inr (slot_ne (Or.inr (oW hw 84 rfl)) (Or.inr (oW hw 80 rfl)) (by decide +kernel) (t := (.object sAB)) (t' := (.object sAB)) (by decide +kernel) (by decide +kernel)))).other W22 (Or.inr (slot_ne (Or.inr (oW hw 84 rfl)) (Or.inr (oW hw 82 rfl)) (by decide +kernel) (t := (.object sAB)) (t' := (.object sAB)) (by decide +kernel) (by decide +kernel)))).same W23
  have N23 := Fr.snoc X23 N22 g_a4
  refine ov (B := T23.setTop (mkF m 350 #[rv a4, rv w2, rv ac, rv ui, .val .null, .val .null, .val .null, .val .null, .val .null, iv (0 : Int32), iv (1 : Int32), uu, uu] [])) (fun t k => st23 t k) ?_
  refine oALN (n := 351) X23 hx (hb hby own_d9_350) rfl rfl rfl ?_
  refine oAL (n := 353) X23 hx (hb hby own_d9_351) rfl rfl rfl ?_
  obtain ⟨T24, h24, X24, e24, W24, st24⟩ := putF X23 hx hZ hown (host := "") (Or.inl (oW hw 85 rfl)) Via.refl e23 ((((((((((F44.ext E8).ext E10).ext E12).ext E14).ext E16).ext E18).other W20 (Or.inr (slot_ne (Or.inr (oW hw 86 rfl)) (Or.inr (oW hw 78 rfl)) (by decide +kernel) (t := (.object sAB)) (t' := (.object sAC)) (by decide +kernel) (by decide +kernel)))).other W21 (Or.inr (slot_ne (Or.inr (oW hw 86 rfl)) (Or.inr (oW hw 80 rfl)) (by decide +kernel) (t := (.object sAB)) (t' := (.object sAB)) (by decide +kernel) (by decide +kernel)))).other W22 (Or.inr (slot_ne (Or.inr (oW hw 86 rfl)) (Or.inr (oW hw 82 rfl)) (by decide +kernel) (t := (.object sAB)) (t' := (.object sAB)) (by decide +kernel) (by decide +kernel)))).other W23 (Or.inr (slot_ne (Or.inr (oW hw 86 rfl)) (Or.inr (oW hw 84 rfl)) (by decide +kernel) (t := (.object sAB)) (t' := (.object sAB)) (by decide +kernel) (by decide +kernel)))) ((((((((((E4.ext E8).ext E10).ext E12).ext E14).ext E16).ext E18).wr W20).wr W21).wr W22).wr W23) (Or.inr ⟨(oW hw 86 rfl), rfl, hnm⟩) (oW hw 42 rfl) (ty := (.object sAB)) (by decide) rfl rfl (g := (mkF m 353 #[rv a4, rv w2, rv ac, rv ui, .val .null, .val .null, .val .null, .val .null, .val .null, iv (0 : Int32), iv (1 : Int32), uu, uu] [.null, (.ref a4)])) rfl rfl (hb hby own_d9_353)
  have Fw24 := ((((((((((F44.ext E8).ext E10).ext E12).ext E14).ext E16).ext E18).other W20 (Or.inr (slot_ne (Or.inr (oW hw 86 rfl)) (Or.inr (oW hw 78 rfl)) (by decide +kernel) (t := (.object sAB)) (t' := (.object sAC)) (by decide +kernel) (by decide +kernel)))).other W21 (Or.inr (slot_ne (Or.inr (oW hw 86 rfl)) (Or.inr (oW hw 80 rfl)) (by decide +kernel) (t := (.object sAB)) (t' := (.object sAB)) (by decide +kernel) (by decide +kernel)))).other W22 (Or.inr (slot_ne (Or.inr (oW hw 86 rfl)) (Or.inr (oW hw 82 rfl)) (by decide +kernel) (t := (.object sAB)) (t' := (.object sAB)) (by decide +kernel) (by decide +kernel)))).other W23 (Or.inr (slot_ne (Or.inr (oW hw 86 rfl)) (Or.inr (oW hw 84 rfl)) (by decide +kernel) (t := (.object sAB)) (t' := (.object sAB)) (by decide +kernel) (by decide +kernel)))).same W24
  have N24 := Fr.snoc X24 N23 g_a4
  refine ov (B := T24.setTop (mkF m 356 #[rv a4, rv w2, rv ac, rv ui, .val .null, .val .null, .val .null, .val .null, .val .null, iv (0 : Int32), iv (1 : Int32), uu, uu] [])) (fun t k => st24 t k) ?_
  refine oALN (n := 357) X24 hx (hb hby own_d9_356) rfl rfl rfl ?_
  refine oAL (n := 359) X24 hx (hb hby own_d9_357) rfl rfl rfl ?_
  obtain ⟨T25, h25, X25, e25, W25, st25⟩ := putF X24 hx hZ hown (host := "") (Or.inl (oW hw 87 rfl)) Via.refl e24 (((((((((((F45.ext E8).ext E10).ext E12).ext E14).ext E16).ext E18).other W20 (Or.inr (slot_ne (Or.inr (oW hw 88 rfl)) (Or.inr (oW hw 78 rfl)) (by decide +kernel) (t := (.object sAB)) (t' := (.object sAC)) (by decide +kernel) (by decide +kernel)))).other W21 (Or.inr (slot_ne (Or.inr (oW hw 88 rfl)) (Or.inr (oW hw 80 rfl)) (by decide +kernel) (t := (.object sAB)) (t' := (.object sAB)) (by decide +kernel) (by decide +kernel)))).other W22 (Or.inr (slot_ne (Or.inr (oW hw 88 rfl)) (Or.inr (oW hw 82 rfl)) (by decide +kernel) (t := (.object sAB)) (t' := (.object sAB)) (by decide +kernel) (by decide +kernel)))).other W23 (Or.inr (slot_ne (Or.inr (oW hw 88 rfl)) (Or.inr (oW hw 84 rfl)) (by decide +kernel) (t := (.object sAB)) (t' := (.object sAB)) (by decide +kernel) (by decide +kernel)))).other W24 (Or.inr (slot_ne (Or.inr (oW hw 88 rfl)) (Or.inr (oW hw 86 rfl)) (by decide +kernel) (t := (.object sAB)) (t' := (.object sAB)) (by decide +kernel) (by decide +kernel)))) (((((((((((E4.ext E8).ext E10).ext E12).ext E14).ext E16).ext E18).wr W20).wr W21).wr W22).wr W23).wr W24) (Or.inr ⟨(oW hw 88 rfl), rfl, hnm⟩) (oW hw 42 rfl) (ty := (.object sAB)) (by decide) rfl rfl (g := (mkF m 359 #[rv a4, rv w2, rv ac, rv ui, .val .null, .val .null, .val .null, .val .null, .val .null, iv (0 : Int32), iv (1 : Int32), uu, uu] [.null, (.ref a4)])) rfl rfl (hb hby own_d9_359)
  have Fw25 := (((((((((((F45.ext E8).ext E10).ext E12).ext E14).ext E16).ext E18).other W20 (Or.inr (slot_ne (Or.inr (oW hw 88 rfl)) (Or.inr (oW hw 78 rfl)) (by decide +kernel) (t := (.object sAB)) (t' := (.object sAC)) (by decide +kernel) (by decide +kernel)))).other W21 (Or.inr (slot_ne (Or.inr (oW hw 88 rfl)) (Or.inr (oW hw 80 rfl)) (by decide +kernel) (t := (.object sAB)) (t' := (.object sAB)) (by decide +kernel) (by decide +kernel)))).other W22 (Or.inr (slot_ne (Or.inr (oW hw 88 rfl)) (Or.inr (oW hw 82 rfl)) (by decide +kernel) (t := (.object sAB)) (t' := (.object sAB)) (by decide +kernel) (by decide +kernel)))).other W23 (Or.inr (slot_ne (Or.inr (oW hw 88 rfl)) (Or.inr (oW hw 84 rfl)) (by decide +kernel) (t := (.object sAB)) (t' := (.object sAB)) (by decide +kernel) (by decide +kernel)))).other W24 (Or.inr (slot_ne (Or.inr (oW hw 88 rfl)) (Or.inr (oW hw 86 rfl)) (by decide +kernel) (t := (.object sAB)) (t' := (.object sAB)) (by decide +kernel) (by decide +kernel)))).same W25
  have N25 := Fr.snoc X25 N24 g_a4
  refine ov (B := T25.setTop (mkF m 362 #[rv a4, rv w2, rv ac, rv ui, .val .null, .val .null, .val .null, .val .null, .val .null, iv (0 : Int32), iv (1 : Int32), uu, uu] [])) (fun t k => st25 t k) ?_
  refine oALN (n := 363) X25 hx (hb hby own_d9_362) rfl rfl rfl ?_
  refine oAL (n := 365) X25 hx (hb hby own_d9_363) rfl rfl rfl ?_
  obtain ⟨T26, h26, X26, e26, W26, st26⟩ := putF X25 hx hZ hown (host := "") (Or.inl (oW hw 89 rfl)) Via.refl e25 ((((((((((((F46.ext E8).ext E10).ext E12).ext E14).ext E16).ext E18).other W20 (Or.inr (slot_ne (Or.inr (oW hw 90 rfl)) (Or.inr (oW hw 78 rfl)) (by decide +kernel) (t := (.object "java/util/Set")) (t' := (.object sAC)) (by decide +kernel) (by decide +kernel)))).other W21 (Or.inr (slot_ne (Or.inr (oW hw 90 rfl)) (Or.inr (oW hw 80 rfl)) (by decide +kernel) (t := (.object "java/util/Set")) (t' := (.object sAB)) (by decide +kernel) (by decide +kernel)))).other W22 (Or.inr (slot_ne (Or.inr (oW hw 90 rfl)) (Or.inr (oW hw 82 rfl)) (by decide +kernel) (t := (.object "java/util/Set")) (t' := (.object sAB)) (by decide +kernel) (by decide +kernel)))).other W23 (Or.inr (slot_ne (Or.inr (oW hw 90 rfl)) (Or.inr (oW hw 84 rfl)) (by decide +kernel) (t := (.object "java/util/Set")) (t' := (.object sAB)) (by decide +kernel) (by decide +kernel)))).other W24 (Or.inr (slot_ne (Or.inr (oW hw 90 rfl)) (Or.inr (oW hw 86 rfl)) (by decide +kernel) (t := (.object "java/util/Set")) (t' := (.object sAB)) (by decide +kernel) (by decide +kernel)))).other W25 (Or.inr (slot_ne (Or.inr (oW hw 90 rfl)) (Or.inr (oW hw 88 rfl)) (by decide +kernel) (t := (.object "java/util/Set")) (t' := (.object sAB)) (by decide +kernel) (by decide +kernel)))) ((((((((((((E4.ext E8).ext E10).ext E12).ext E14).ext E16).ext E18).wr W20).wr W21).wr W22).wr W23).wr W24).wr W25) (Or.inr ⟨(oW hw 90 rfl), rfl, hnm⟩) (oW hw 42 rfl) (ty := (.object "java/util/Set")) (by decide) rfl rfl (g := (mkF m 365 #[rv a4, rv w2, rv ac, rv ui, .val .null, .val .null, .val .null, .val .null, .val .null, iv (0 : Int32), iv (1 : Int32), uu, uu] [.null, (.ref a4)])) rfl rfl (hb hby own_d9_365)
  have Fw26 := ((((((((((((F46.ext E8).ext E10).ext E12).ext E14).ext E16).ext E18).other W20 (Or.inr (slot_ne (Or.inr (oW hw 90 rfl)) (Or.inr (oW hw 78 rfl)) (by decide +kernel) (t := (.object "java/util/Set")) (t' := (.object sAC)) (by decide +kernel) (by decide +kernel)))).other W21 (Or.inr (slot_ne (Or.inr (oW hw 90 rfl)) (Or.inr (oW hw 80 rfl)) (by decide +kernel) (t := (.object "java/util/Set")) (t' := (.object sAB)) (by decide +kernel) (by decide +kernel)))).other W22 (Or.inr (slot_ne (Or.inr (oW hw 90 rfl)) (Or.inr (oW hw 82 rfl)) (by decide +kernel) (t := (.object "java/util/Set")) (t' := (.object sAB)) (by decide +kernel) (by decide +kernel)))).other W23 (Or.inr (slot_ne (Or.inr (oW hw 90 rfl)) (Or.inr (oW hw 84 rfl)) (by decide +kernel) (t := (.object "java/util/Set")) (t' := (.object sAB)) (by decide +kernel) (by decide +kernel)))).other W24 (Or.inr (slot_ne (Or.inr (oW hw 90 rfl)) (Or.inr (oW hw 86 rfl)) (by decide +kernel) (t := (.object "java/util/Set")) (t' := (.object sAB)) (by decide +kernel) (by decide +kernel)))).other W25 (Or.inr (slot_ne (Or.inr (oW hw 90 rfl)) (Or.inr (oW hw 88 rfl)) (by decide +kernel) (t := (.object "java/util/Set")) (t' := (.object sAB)) (by decide +kernel) (by decide +kernel)))).same W26
  have N26 := Fr.snoc X26 N25 g_a4
  refine ov (B := T26.setTop (mkF m 368 #[rv a4, rv w2, rv ac, rv ui, .val .null, .val .null, .val .null, .val .null, .val .null, iv (0 : Int32), iv (1 : Int32), uu, uu] [])) (fun t k => st26 t k) ?_
  refine oALN (n := 369) X26 hx (hb hby own_d9_368) rfl rfl rfl ?_
  refine oAL (n := 371) X26 hx (hb hby own_d9_369) rfl rfl rfl ?_
  obtain ⟨T27, h27, X27, e27, W27, st27⟩ := putF X26 hx hZ hown (host := "") (Or.inl (oW hw 91 rfl)) Via.refl e26 (((((((((((((F47.ext E8).ext E10).ext E12).ext E14).ext E16).ext E18).other W20 (Or.inr (slot_ne (Or.inr (oW hw 92 rfl)) (Or.inr (oW hw 78 rfl)) (by decide +kernel) (t := (.object sAB)) (t' := (.object sAC)) (by decide +kernel) (by decide +kernel)))).other W21 (Or.inr (slot_ne (Or.inr (oW hw 92 rfl)) (Or.inr (oW hw 80 rfl)) (by decide +kernel) (t := (.object sAB)) (t' := (.object sAB)) (by decide +kernel) (by decide +kernel)))).other W22 (Or.inr (slot_ne (Or.inr (oW hw 92 rfl)) (Or.inr (oW hw 82 rfl)) (by decide +kernel) (t := (.object sAB)) (t' := (.object sAB)) (by decide +kernel) (by decide +kernel)))).other W23 (Or.inr (slot_ne (Or.inr (oW hw 92 rfl)) (Or.inr (oW hw 84 rfl)) (by decide +kernel) (t := (.object sAB)) (t' := (.object sAB)) (by decide +kernel) (by decide +kernel)))).other W24 (Or.inr (slot_ne (Or.inr (oW hw 92 rfl)) (Or.inr (oW hw 86 rfl)) (by decide +kernel) (t := (.object sAB)) (t' := (.object sAB)) (by decide +kernel) (by decide +kernel)))).other W25 (Or.inr (slot_ne (Or.inr (oW hw 92 rfl)) (Or.inr (oW hw 88 rfl)) (by decide +kernel) (t := (.object sAB)) (t' := (.object sAB)) (by decide +kernel) (by decide +kernel)))).other W26 (Or.inr (slot_ne (Or.inr (oW hw 92 rfl)) (Or.inr (oW hw 90 rfl)) (by decide +kernel) (t := (.object sAB)) (t' := (.object "java/util/Set")) (by decide +kernel) (by decide +kernel)))) (((((((((((((E4.ext E8).ext E10).ext E12).ext E14).ext E16).ext E18).wr W20).wr W21).wr W22).wr W23).wr W24).wr W25).wr W26) (Or.inr ⟨(oW hw 92 rfl), rfl, hnm⟩) (oW hw 42 rfl) (ty := (.object sAB)) (by decide) rfl rfl (g := (mkF m 371 #[rv a4, rv w2, rv ac, rv ui, .val .null, .val .null, .val .null, .val .null, .val .null, iv (0 : Int32), iv (1 : Int32), uu, uu] [.null, (.ref a4)])) rfl rfl (hb hby own_d9_371)
  have Fw27 := (((((((((((((F47.ext E8).ext E10).ext E12).ext E14).ext E16).ext E18).other W20 (Or.inr (slot_ne (Or.inr (oW hw 92 rfl)) (Or.inr (oW hw 78 rfl)) (by decide +kernel) (t := (.object sAB)) (t' := (.object sAC)) (by decide +kernel) (by decide +kernel)))).other W21 (Or.inr (slot_ne (Or.inr (oW hw 92 rfl)) (Or.inr (oW hw 80 rfl)) (by decide +kernel) (t := (.object sAB)) (t' := (.object sAB)) (by decide +kernel) (by decide +kernel)))).other W22 (Or.inr (slot_ne (Or.inr (oW hw 92 rfl)) (Or.inr (oW hw 82 rfl)) (by decide +kernel) (t := (.object sAB)) (t' := (.object sAB)) (by decide +kernel) (by decide +kernel)))).other W23 (Or.inr (slot_ne (Or.inr (oW hw 92 rfl)) (Or.inr (oW hw 84 rfl)) (by decide +kernel) (t := (.object sAB)) (t' := (.object sAB)) (by decide +kernel) (by decide +kernel)))).other W24 (Or.inr (slot_ne (Or.inr (oW hw 92 rfl)) (Or.inr (oW hw 86 rfl)) (by decide +kernel) (t := (.object sAB)) (t' := (.object sAB)) (by decide +kernel) (by decide +kernel)))).other W25 (Or.inr (slot_ne (Or.inr (oW hw 92 rfl)) (Or.inr (oW hw 88 rfl)) (by decide +kernel) (t := (.object sAB)) (t' := (.object sAB)) (by decide +kernel) (by decide +kernel)))).other W26 (Or.inr (slot_ne (Or.inr (oW hw 92 rfl)) (Or.inr (oW hw 90 rfl)) (by decide +kernel) (t := (.object sAB)) (t' := (.object "java/util/Set")) (by decide +kernel) (by decide +kernel)))).same W27
  have N27 := Fr.snoc X27 N26 g_a4
  refine ov (B := T27.setTop (mkF m 374 #[rv a4, rv w2, rv ac, rv ui, .val .null, .val .null, .val .null, .val .null, .val .null, iv (0 : Int32), iv (1 : Int32), uu, uu] [])) (fun t k => st27 t k) ?_
  refine own_leafVW X27 hx hlk hS18 (by rw [e27]; exact (Nat.le_trans (Nat.le_trans (Nat.le_trans (Nat.le_trans (Nat.le_trans (Nat.le_trans (Nat.le_trans (Nat.le_trans hk18 (Keep.of_wr W20).1) (Keep.of_wr W21).1) (Keep.of_wr W22).1) (Keep.of_wr W23).1) (Keep.of_wr W24).1) (Keep.of_wr W25).1) (Keep.of_wr W26).1) (Keep.of_wr W27).1)) Bd.returns (hb hby own_d9_374) (by decide) (by decide) ?_
  show QQ2ssnnnnn Z a4 w2 ac ui w0 w1 w3 w4 w5 u0 u1 u2 u3 u4 u5 u6 u7 t_ac k_ac cs_ac t_ui k_ui cs_ui h0 n0 _ T27.heap _
  rw [e27]
  refine ⟨?_, N27, (((((((((((((((Keep.refl h0 [a4]).ext E8).ext E10).ext E12).ext E14).ext E16).ext E18).wr W20 (Or.inl (List.mem_of_getElem? (i := 0) rfl))).wr W21 (Or.inl (List.mem_of_getElem? (i := 0) rfl))).wr W22 (Or.inl (List.mem_of_getElem? (i := 0) rfl))).wr W23 (Or.inl (List.mem_of_getElem? (i := 0) rfl))).wr W24 (Or.inl (List.mem_of_getElem? (i := 0) rfl))).wr W25 (Or.inl (List.mem_of_getElem? (i := 0) rfl))).wr W26 (Or.inl (List.mem_of_getElem? (i := 0) rfl))).wr W27 (Or.inl (List.mem_of_getElem? (i := 0) rfl))), (((((((Fw20.other W21 (Or.inr (slot_ne (Or.inr (oW hw 78 rfl)) (Or.inr (oW hw 80 rfl)) (by decide +kernel) (t := (.object sAC)) (t' := (.object sAB)) (by decide +kernel) (by decide +kernel)))).other W22 (Or.inr (slot_ne (Or.inr (oW hw 78 rfl)) (Or.inr (oW hw 82 rfl)) (by decide +kernel) (t := (.object sAC)) (t' := (.object sAB)) (by decide +kernel) (by decide +kernel)))).other W23 (Or.inr (slot_ne (Or.inr (oW hw 78 rfl)) (Or.inr (oW hw 84 rfl)) (by decide +kernel) (t := (.object sAC)) (t' := (.object sAB)) (by decide +kernel) (by decide +kernel)))).other W24 (Or.inr (slot_ne (Or.inr (oW hw 78 rfl)) (Or.inr (oW hw 86 rfl)) (by decide +kernel) (t := (.object sAC)) (t' := (.object sAB)) (by decide +kernel) (by decide +kernel)))).other W25 (Or.inr (slot_ne (Or.inr (oW hw 78 rfl)) (Or.inr (oW hw 88 rfl)) (by decide +kernel) (t := (.object sAC)) (t' := (.object sAB)) (by decide +kernel) (by decide +kernel)))).other W26 (Or.inr (slot_ne (Or.inr (oW hw 78 rfl)) (Or.inr (oW hw 90 rfl)) (by decide +kernel) (t := (.object sAC)) (t' := (.object "java/util/Set")) (by decide +kernel) (by decide +kernel)))).other W27 (Or.inr (slot_ne (Or.inr (oW hw 78 rfl)) (Or.inr (oW hw 92 rfl)) (by decide +kernel) (t := (.object sAC)) (t' := (.object sAB)) (by decide +kernel) (by decide +kernel)))), ((((((Fw21.other W22 (Or.inr (slot_ne (Or.inr (oW hw 80 rfl)) (Or.inr (oW hw 82 rfl)) (by decide +kernel) (t := (.object sAB)) (t' := (.object sAB)) (by decide +kernel) (by decide +kernel)))).other W23 (Or.inr (slot_ne (Or.inr (oW hw 80 rfl)) (Or.inr (oW hw 84 rfl)) (by decide +kernel) (t := (.object sAB)) (t' := (.object sAB)) (by decide +kernel) (by decide +kernel)))).other W24 (Or.inr (slot_ne (Or.inr (oW hw 80 rfl)) (Or.inr (oW hw 86 rfl)) (by decide +kernel) (t := (.object sAB)) (t' := (.object sAB)) (by decide +kernel) (by decide +kernel)))).other W25 (Or.inr (slot_ne (Or.inr (oW hw 80 rfl)) (Or.inr (oW hw 88 rfl)) (by decide +kernel) (t := (.object sAB)) (t' := (.object sAB)) (by decide +kernel) (by decide +kernel)))).other W26 (Or.inr (slot_ne (Or.inr (oW hw 80 rfl)) (Or.inr (oW hw 90 rfl)) (by decide +kernel) (t := (.object sAB)) (t' := (.object "java/util/Set")) (by decide +kernel) (by decide +kernel)))).other W27 (Or.inr (slot_ne (Or.inr (oW hw 80 rfl)) (Or.inr (oW hw 92 rfl)) (by decide +kernel) (t := (.object sAB)) (t' := (.object sAB)) (by decide +kernel) (by decide +kernel))))⟩
  rfl
theorem own_d9_116 : decode prog_50_method_1_code 116 = .ok (.iconst 1, 1) := by decide +kernel
theorem own_d9_117 : decode prog_50_method_1_code 117 = .ok (.goto 4, 3) := by decide +kernel
theorem own_d9_128 : decode prog_50_method_1_code 128 = .ok (.iconst 1, 1) := by decide +kernel
theorem own_d9_129 : decode prog_50_method_1_code 129 = .ok (.goto 4, 3) := by decide +kernel
theorem own_efQ3snnsnnn (m : MethodId) (x0 : Addr) (x1 : Addr) (x2 : Addr) (x5 : Addr) : entryFrame m #[(.ref x0), (.ref x1), (.ref x2), .null, .null, (.ref x5), .null, .null, .null] 13 = mkF m 0 #[rv x0, rv x1, rv x2, .val .null, .val .null, rv x5, .val .null, .val .null, .val .null, uu, uu, uu, uu] [] := by first | (simp [entryFrame, mkF, argsToLocals, Value.category]; done) | rfl
def QQ3snnsnnn (Z : State) (a4 : Addr) (w3 : Addr) (ac : Addr) (ag : Addr) (w0 : Addr) (w1 : Addr) (w2 : Addr) (w4 : Addr) (w5 : Addr) (u0 : Value) (u1 : Value) (u2 : Value) (u3 : Value) (u4 : Value) (u5 : Value) (u6 : Value) (u7 : Value) (t_ac : Addr) (k_ac : ClassId) (cs_ac : List Int32) (t_ag : Addr) (k_ag : ClassId) (cs_ag : List Int32) (h0 : Heap) (n0 : Nat) (v : Option Value) (h : Heap) (L : List Loc) : Prop := v = none ∧ Fr n0 L ∧ Keep h0 h [a4] ∧ (Fld Z h a4 sAA "kind" sAG (.ref w3)) ∧ (Fld Z h a4 sAA "account" sAH (.ref ac))
set_option maxRecDepth 65536 in
set_option maxHeartbeats 40000000 in
theorem rmQ3snnsnnn (l : Launch) (Z : State) (a0 : Array Value) (hw : ∀ d ∈ tables_1, d.before a0 Z = true) (ws : List Jvm.Cond) (a4 : Addr) (w3 : Addr) (ac : Addr) (ag : Addr) (w0 : Addr) (w1 : Addr) (w2 : Addr) (w4 : Addr) (w5 : Addr) (u0 : Value) (u1 : Value) (u2 : Value) (u3 : Value) (u4 : Value) (u5 : Value) (u6 : Value) (u7 : Value) (t_ac : Addr) (k_ac : ClassId) (cs_ac : List Int32) (t_ag : Addr) (k_ag : ClassId) (cs_ag : List Int32) (h0 : Heap) (n0 : Nat) (Z0 : n0 ≤ h0.size) (hall : own_All Z Z.heap w0 w1 w2 w3 w4 w5) (O0 : Old Z n0 h0) (E4 : Exa Z h0 a4 sAA) (F40 : Fld Z h0 a4 sAA "kind" sAG u0) (F41 : Fld Z h0 a4 sAA "account" sAH u1) (F42 : Fld Z h0 a4 sAA "userId" sAH u2) (F43 : Fld Z h0 a4 sAA "userName" sAH u3) (F44 : Fld Z h0 a4 sAA "agency" sAH u4) (F45 : Fld Z h0 a4 sAA sAU sAH u5) (F46 : Fld Z h0 a4 sAA "groups" "Ljava/util/Set;" u6) (F47 : Fld Z h0 a4 sAA "service" sAH u7) (g_a4 : n0 ≤ a4) (SE_ac : Exa Z h0 ac sAB) (SC_ac : Fld Z h0 ac sAB "coder" "B" (.int (0 : Int32))) (SV_ac : Fld Z h0 ac sAB "value" "[B" (.ref t_ac)) (SA_ac : Arv Z h0 t_ac k_ac .byte (Int32.ofNat cs_ac.length) ((cs_ac.map StrChars.lo8).map Value.int) (.int 0)) (Sp_ac : ∀ c ∈ cs_ac, ¬ c < 0 ∧ ¬ (255 : Int32) < c) (Sl_ac : 0 < cs_ac.length ∧ cs_ac.length ≤ 4000) (SE_ag : Exa Z h0 ag sAB) (SC_ag : Fld Z h0 ag sAB "coder" "B" (.int (0 : Int32))) (SV_ag : Fld Z h0 ag sAB "value" "[B" (.ref t_ag)) (SA_ag : Arv Z h0 t_ag k_ag .byte (Int32.ofNat cs_ag.length) ((cs_ag.map StrChars.lo8).map Value.int) (.int 0)) (Sp_ag : ∀ c ∈ cs_ag, ¬ c < 0 ∧ ¬ (255 : Int32) < c) (Sl_ag : 0 < cs_ag.length ∧ cs_ag.length ≤ 4000) :
    MetFree l (⟨sAA, "<init>", sAE⟩ : MethodName) (head1 (Jvm.Cond.code (⟨sAA, "<init>", sAE⟩ : MethodName) prog_50_method_1_code 13 none :: ws) ({ frames := 2, cells := 12, slots := 216, locals := 25 } : Room)) (fun a U => a = #[(.ref a4), (.ref w3), (.ref ac), .null, .null, (.ref ag), .null, .null, .null] ∧ Z.Warmed39 U.vm ∧ U.heap = h0) (fun _ _ _ _ _ => True) (fun _ U o U' => ∃ v L, o = .returned v ∧ QQ3snnsnnn Z a4 w3 ac ag w0 w1 w2 w4 w5 u0 u1 u2 u3 u4 u5 u6 u7 t_ac k_ac cs_ac t_ag k_ag cs_ag h0 n0 v U'.heap L ∧ ReturnedEndW U o U' L ({ frames := 2, cells := 12, slots := 216, locals := 25 } : Room).cells ({ frames := 2, cells := 12, slots := 216, locals := 25 } : Room).slots) := by
  refine MetFree.of_bodySF (plainFor_of_name own_pn4) hisR ?_
  intro p e s m args below meth c s₁ Bd hml0 hP hK
  obtain ⟨rfl, hZ, hh⟩ := hP
  have hx := Bd.exec
  have hby := Bd.bytes
  have hlk : meth.locks = false := Bd.notSynchronized
  have hml : c.maxLocals = 13 := hml0
  have hown : s.vm.findClass sAA = some m.cls := findClass_of_methodNamed Bd.named
  have hnm := (name_of_methodNamed Bd.named Bd.method).1
  have X0 : Stand p l e ({ frames := 2, cells := 12, slots := 216, locals := 25 } : Room) (s.setVm s.vm) m #[(.ref a4), (.ref w3), (.ref ac), .null, .null, (.ref ag), .null, .null, .null] below meth c s₁ [] 0 0 := Stand.of_body Bd
  have e0 : s₁.heap = h0 := by rw [← hh, Bd.state]; rfl
  have N0 := Fr.nil n0
  have hS0 : s.Since s.vm h0.size := (State.WarmedH.refl s).since _
  have hk0 : h0.size ≤ h0.size := Nat.le_refl _
  have wS : ∀ a ∈ Bundle.stringAtoms, a.before a0 Z = true := by
    intro a ha
    simp only [Bundle.stringAtoms, List.mem_cons, List.not_mem_nil, or_false] at ha
    rcases ha with rfl | rfl | rfl | rfl | rfl | rfl | rfl
    · exact (oW hw 9 rfl)
    · exact (oW hw 10 rfl)
    · exact (oW hw 11 rfl)
    · exact (oW hw 12 rfl)
    · exact (oW hw 13 rfl)
    · exact (oW hw 14 rfl)
    · exact (oW hw 15 rfl)
  refine own_bodyW (A := s₁.setTop (mkF m 0 #[rv a4, rv w3, rv ac, .val .null, .val .null, rv ag, .val .null, .val .null, .val .null, uu, uu, uu, uu] [])) (Q := QQ3snnsnnn Z a4 w3 ac ag w0 w1 w2 w4 w5 u0 u1 u2 u3 u4 u5 u6 u7 t_ac k_ac cs_ac t_ag k_ag cs_ag h0 n0) (fun t k => castTop (own_efQ3snnsnnn m a4 w3 ac ag) k) ?_
  have hall' := hall
  obtain ⟨AA0, AA1, AA2, AA3, AA4, AA5⟩ := hall'
  refine oALN (n := 1) X0 hx (hb hby own_d9_0) rfl rfl rfl ?_
  obtain ⟨_, _, ⟨T1, L1, k1, n1⟩, -, X1, ⟨Lc1, hQ1, l1, y1, z1⟩, st1⟩ := X0.specialBack hx (y := (⟨sAV, "<init>", "()V"⟩ : MethodName)) rfl hown (mvT hZ (oW hw 49 rfl)) (mvT hZ (oW hw 50 rfl)) (mvT hZ (oW hw 53 rfl)) (by decide) (backOf (W := 0) (rmR l Z a0 hw [] a4 h0 n0 Z0 ) hZ (oW hw 53 rfl) (oW hw 52 rfl) (by decide) (by decide)) (g := (mkF m 1 #[rv a4, rv w3, rv ac, .val .null, .val .null, rv ag, .val .null, .val .null, .val .null, uu, uu, uu, uu] [(.ref a4)])) rfl (by rw [hml]; rfl) (Steps.refl _) (a := a4) (argsL := []) (rest := []) (lenOf own_pd6 rfl) rfl (by show 2 * 0 + _ ≤ _; exact Nat.le_of_eq rfl) (hb hby own_d9_1) (fun _ _ => ⟨rfl, e0, (by decide : 0 + 0 ≤ _), (by decide : 0 + 0 ≤ _)⟩)
  dsimp only [Pt.U, Pt.locs, Pt.cells, Pt.slots] at X1 l1 y1 z1 st1 hQ1
  subst l1 y1 z1
  obtain ⟨rfl, Nq1, eq1⟩ := hQ1
  have N1 := Fr.app N0 Nq1
  refine ov (B := T1.setTop (mkF m 4 #[rv a4, rv w3, rv ac, .val .null, .val .null, rv ag, .val .null, .val .null, .val .null, uu, uu, uu, uu] [])) (fun t k => st1.trans k) ?_
  refine oALN (n := 5) X1 hx (hb hby own_d9_4) rfl rfl rfl ?_
  refine ov (B := T1.setTop (mkF m 18 #[rv a4, rv w3, rv ac, .val .null, .val .null, rv ag, .val .null, .val .null, .val .null, uu, uu, uu, uu] [])) (fun t k => XS.ifnonnullYes X1.here hx rfl (pc0 := 5) (pc' := 18) rfl (hb hby own_d9_5) rfl (by decide) (by decide) k) ?_
  refine oALN (n := 19) X1 hx (hb hby own_d9_18) rfl rfl rfl ?_
  obtain ⟨T2, X2, e2, st2⟩ := getS2 X1 hx hZ hown (host := "") (Or.inl (oW hw 55 rfl)) Via.refl eq1 (AA4.1.ext O0.2) (g := (mkF m 19 #[rv a4, rv w3, rv ac, .val .null, .val .null, rv ag, .val .null, .val .null, .val .null, uu, uu, uu, uu] [(.ref w3)])) rfl (hb hby own_d9_19)
  refine ov (B := T2.setTop (mkF m 22 #[rv a4, rv w3, rv ac, .val .null, .val .null, rv ag, .val .null, .val .null, .val .null, uu, uu, uu, uu] [(.ref w4), (.ref w3)])) (fun t k => st2 t k) ?_
  have hc22 : ¬ (w3 = w4) := own_ne AA3 AA4 (by decide)
  refine ov (B := T2.setTop (mkF m 29 #[rv a4, rv w3, rv ac, .val .null, .val .null, rv ag, .val .null, .val .null, .val .null, uu, uu, uu, uu] [])) (fun t k => Jvm.RoadKit.acmp (g := (mkF m 22 #[rv a4, rv w3, rv ac, .val .null, .val .null, rv ag, .val .null, .val .null, .val .null, uu, uu, uu, uu] [(.ref w4), (.ref w3)])) X2 hx rfl rfl rfl (pc0 := 22) (pc' := 29) (same := false) rfl (hb hby own_d9_22) rfl (decide_eq_false fun q => hc22 (Value.ref.inj q)) (by decide) (by decide) k) ?_
  refine oIC (n := 30) X2 hx (0 : Int32) (hb hby own_d9_29) (by decide) rfl ?_
  refine ov (B := T2.setTop (mkF m 32 #[rv a4, rv w3, rv ac, .val .null, .val .null, rv ag, .val .null, .val .null, .val .null, iv (0 : Int32), uu, uu, uu] [])) (fun t k => XS.istore X2.here hx rfl (hb hby own_d9_30) rfl (l' := #[rv a4, rv w3, rv ac, .val .null, .val .null, rv ag, .val .null, .val .null, .val .null, iv (0 : Int32), uu, uu, uu]) rfl k) ?_
  refine oALN (n := 33) X2 hx (hb hby own_d9_32) rfl rfl rfl ?_
  refine ov (B := T2.setTop (mkF m 36 #[rv a4, rv w3, rv ac, .val .null, .val .null, rv ag, .val .null, .val .null, .val .null, iv (0 : Int32), uu, uu, uu] [])) (fun t k => XS.ifnullNo X2.here hx rfl (hb hby own_d9_33) rfl k) ?_
  refine oIC (n := 37) X2 hx (1 : Int32) (hb hby own_d9_36) (by decide) rfl ?_
  refine oGO (n := 41) X2 hx (hb hby own_d9_37) (by decide) (by decide) ?_
  refine oALN (n := 42) X2 hx (hb hby own_d9_41) rfl rfl rfl ?_
  obtain ⟨T3, X3, e3, st3⟩ := getS2 X2 hx hZ hown (host := "") (Or.inl (oW hw 57 rfl)) Via.refl e2 (AA0.1.ext O0.2) (g := (mkF m 42 #[rv a4, rv w3, rv ac, .val .null, .val .null, rv ag, .val .null, .val .null, .val .null, iv (0 : Int32), uu, uu, uu] [(.ref w3), (.int (1 : Int32))])) rfl (hb hby own_d9_42)
  refine ov (B := T3.setTop (mkF m 45 #[rv a4, rv w3, rv ac, .val .null, .val .null, rv ag, .val .null, .val .null, .val .null, iv (0 : Int32), uu, uu, uu] [(.ref w0), (.ref w3), (.int (1 : Int32))])) (fun t k => st3 t k) ?_
  have hc45 : ¬ (w3 = w0) := own_ne AA3 AA0 (by decide)
  refine ov (B := T3.setTop (mkF m 48 #[rv a4, rv w3, rv ac, .val .null, .val .null, rv ag, .val .null, .val .null, .val .null, iv (0 : Int32), uu, uu, uu] [(.int (1 : Int32))])) (fun t k => Jvm.RoadKit.acmp (g := (mkF m 45 #[rv a4, rv w3, rv ac, .val .null, .val .null, rv ag, .val .null, .val .null, .val .null, iv (0 : Int32), uu, uu, uu] [(.ref w0), (.ref w3), (.int (1 : Int32))])) X3 hx rfl rfl rfl (pc0 := 45) (pc' := 48) (same := false) rfl (hb hby own_d9_45) rfl (decide_eq_false fun q => hc45 (Value.ref.inj q)) (by decide) (by decide) k) ?_
  refine oALN (n := 49) X3 hx (hb hby own_d9_48) rfl rfl rfl ?_
  obtain ⟨T4, X4, e4, st4⟩ := getS2 X3 hx hZ hown (host := "") (Or.inl (oW hw 59 rfl)) Via.refl e3 (AA5.1.ext O0.2) (g := (mkF m 49 #[rv a4, rv w3, rv ac, .val .null, .val .null, rv ag, .val .null, .val .null, .val .null, iv (0 : Int32), uu, uu, uu] [(.ref w3), (.int (1 : Int32))])) rfl (hb hby own_d9_49)
  refine ov (B := T4.setTop (mkF m 52 #[rv a4, rv w3, rv ac, .val .null, .val .null, rv ag, .val .null, .val .null, .val .null, iv (0 : Int32), uu, uu, uu] [(.ref w5), (.ref w3), (.int (1 : Int32))])) (fun t k => st4 t k) ?_
  have hc52 : ¬ (w3 = w5) := own_ne AA3 AA5 (by decide)
  refine ov (B := T4.setTop (mkF m 55 #[rv a4, rv w3, rv ac, .val .null, .val .null, rv ag, .val .null, .val .null, .val .null, iv (0 : Int32), uu, uu, uu] [(.int (1 : Int32))])) (fun t k => Jvm.RoadKit.acmp (g := (mkF m 52 #[rv a4, rv w3, rv ac, .val .null, .val .null, rv ag, .val .null, .val .null, .val .null, iv (0 : Int32), uu, uu, uu] [(.ref w5), (.ref w3), (.int (1 : Int32))])) X4 hx rfl rfl rfl (pc0 := 52) (pc' := 55) (same := false) rfl (hb hby own_d9_52) rfl (decide_eq_false fun q => hc52 (Value.ref.inj q)) (by decide) (by decide) k) ?_
  refine oIC (n := 56) X4 hx (1 : Int32) (hb hby own_d9_55) (by decide) rfl ?_
  refine oGO (n := 60) X4 hx (hb hby own_d9_56) (by decide) (by decide) ?_
  have hc60 : (1 : Int32) = (1 : Int32) := by decide
  refine ov (B := T4.setTop (mkF m 63 #[rv a4, rv w3, rv ac, .val .null, .val .null, rv ag, .val .null, .val .null, .val .null, iv (0 : Int32), uu, uu, uu] [])) (fun t k => XS.icmpNo X4.here hx rfl (hb hby own_d9_60) rfl (teq hc60).2 k) ?_
  refine oIC (n := 64) X4 hx (1 : Int32) (hb hby own_d9_63) (by decide) rfl ?_
  refine oGO (n := 68) X4 hx (hb hby own_d9_64) (by decide) (by decide) ?_
  refine ov (B := T4.setTop (mkF m 70 #[rv a4, rv w3, rv ac, .val .null, .val .null, rv ag, .val .null, .val .null, .val .null, iv (0 : Int32), iv (1 : Int32), uu, uu] [])) (fun t k => XS.istore X4.here hx rfl (hb hby own_d9_68) rfl (l' := #[rv a4, rv w3, rv ac, .val .null, .val .null, rv ag, .val .null, .val .null, .val .null, iv (0 : Int32), iv (1 : Int32), uu, uu]) rfl k) ?_
  refine oIL (n := 72) X4 hx (hb hby own_d9_70) rfl rfl ?_
  refine oALN (n := 73) X4 hx (hb hby own_d9_72) rfl rfl rfl ?_
  refine ov (B := T4.setTop (mkF m 76 #[rv a4, rv w3, rv ac, .val .null, .val .null, rv ag, .val .null, .val .null, .val .null, iv (0 : Int32), iv (1 : Int32), uu, uu] [(.int (1 : Int32))])) (fun t k => XS.ifnonnullNo X4.here hx rfl (hb hby own_d9_73) rfl k) ?_
  refine oAL (n := 78) X4 hx (hb hby own_d9_76) rfl rfl rfl ?_
  refine ov (B := T4.setTop (mkF m 85 #[rv a4, rv w3, rv ac, .val .null, .val .null, rv ag, .val .null, .val .null, .val .null, iv (0 : Int32), iv (1 : Int32), uu, uu] [(.int (1 : Int32))])) (fun t k => XS.ifnullYes X4.here hx rfl (pc0 := 78) (pc' := 85) rfl (hb hby own_d9_78) rfl (by decide) (by decide) k) ?_
  refine oIC (n := 86) X4 hx (0 : Int32) (hb hby own_d9_85) (by decide) rfl ?_
  refine oALN (n := 87) X4 hx (hb hby own_d9_86) rfl rfl rfl ?_
  obtain ⟨T5, X5, e5, st5⟩ := getS2 X4 hx hZ hown (host := "") (Or.inl (oW hw 43 rfl)) Via.refl e4 (AA2.1.ext O0.2) (g := (mkF m 87 #[rv a4, rv w3, rv ac, .val .null, .val .null, rv ag, .val .null, .val .null, .val .null, iv (0 : Int32), iv (1 : Int32), uu, uu] [(.ref w3), (.int (0 : Int32)), (.int (1 : Int32))])) rfl (hb hby own_d9_87)
  refine ov (B := T5.setTop (mkF m 90 #[rv a4, rv w3, rv ac, .val .null, .val .null, rv ag, .val .null, .val .null, .val .null, iv (0 : Int32), iv (1 : Int32), uu, uu] [(.ref w2), (.ref w3), (.int (0 : Int32)), (.int (1 : Int32))])) (fun t k => st5 t k) ?_
  have hc90 : ¬ (w3 = w2) := own_ne AA3 AA2 (by decide)
  refine ov (B := T5.setTop (mkF m 97 #[rv a4, rv w3, rv ac, .val .null, .val .null, rv ag, .val .null, .val .null, .val .null, iv (0 : Int32), iv (1 : Int32), uu, uu] [(.int (0 : Int32)), (.int (1 : Int32))])) (fun t k => Jvm.RoadKit.acmp (g := (mkF m 90 #[rv a4, rv w3, rv ac, .val .null, .val .null, rv ag, .val .null, .val .null, .val .null, iv (0 : Int32), iv (1 : Int32), uu, uu] [(.ref w2), (.ref w3), (.int (0 : Int32)), (.int (1 : Int32))])) X5 hx rfl rfl rfl (pc0 := 90) (pc' := 97) (same := false) rfl (hb hby own_d9_90) rfl (decide_eq_false fun q => hc90 (Value.ref.inj q)) (by decide) (by decide) k) ?_
  refine oIC (n := 98) X5 hx (0 : Int32) (hb hby own_d9_97) (by decide) rfl ?_
  have hc98 : (0 : Int32) = (0 : Int32) := by decide
  refine ov (B := T5.setTop (mkF m 101 #[rv a4, rv w3, rv ac, .val .null, .val .null, rv ag, .val .null, .val .null, .val .null, iv (0 : Int32), iv (1 : Int32), uu, uu] [(.int (1 : Int32))])) (fun t k => XS.icmpNo X5.here hx rfl (hb hby own_d9_98) rfl (teq hc98).2 k) ?_
  refine oIC (n := 102) X5 hx (1 : Int32) (hb hby own_d9_101) (by decide) rfl ?_
  refine oGO (n := 106) X5 hx (hb hby own_d9_102) (by decide) (by decide) ?_
  refine ov (B := T5.setTop (mkF m 107 #[rv a4, rv w3, rv ac, .val .null, .val .null, rv ag, .val .null, .val .null, .val .null, iv (0 : Int32), iv (1 : Int32), uu, uu] [(.int (1 : Int32))])) (fun t k => XS.iand X5.here hx rfl (hb hby own_d9_106) rfl k) ?_
  refine ov (B := T5.setTop (mkF m 109 #[rv a4, rv w3, rv ac, .val .null, .val .null, rv ag, .val .null, .val .null, .val .null, iv (0 : Int32), iv (1 : Int32), uu, uu] [])) (fun t k => XS.istore X5.here hx rfl (hb hby own_d9_107) rfl (l' := #[rv a4, rv w3, rv ac, .val .null, .val .null, rv ag, .val .null, .val .null, .val .null, iv (0 : Int32), iv (1 : Int32), uu, uu]) rfl k) ?_
  refine oIL (n := 111) X5 hx (hb hby own_d9_109) rfl rfl ?_
  refine oAL (n := 113) X5 hx (hb hby own_d9_111) rfl rfl rfl ?_
  refine ov (B := T5.setTop (mkF m 116 #[rv a4, rv w3, rv ac, .val .null, .val .null, rv ag, .val .null, .val .null, .val .null, iv (0 : Int32), iv (1 : Int32), uu, uu] [(.int (1 : Int32))])) (fun t k => XS.ifnullNo X5.here hx rfl (hb hby own_d9_113) rfl k) ?_
  refine oIC (n := 117) X5 hx (1 : Int32) (hb hby own_d9_116) (by decide) rfl ?_
  refine oGO (n := 121) X5 hx (hb hby own_d9_117) (by decide) (by decide) ?_
  refine oALN (n := 122) X5 hx (hb hby own_d9_121) rfl rfl rfl ?_
  obtain ⟨T6, X6, e6, st6⟩ := getS2 X5 hx hZ hown (host := "") (Or.inl (oW hw 61 rfl)) Via.refl e5 (AA3.1.ext O0.2) (g := (mkF m 122 #[rv a4, rv w3, rv ac, .val .null, .val .null, rv ag, .val .null, .val .null, .val .null, iv (0 : Int32), iv (1 : Int32), uu, uu] [(.ref w3), (.int (1 : Int32)), (.int (1 : Int32))])) rfl (hb hby own_d9_122)
  refine ov (B := T6.setTop (mkF m 125 #[rv a4, rv w3, rv ac, .val .null, .val .null, rv ag, .val .null, .val .null, .val .null, iv (0 : Int32), iv (1 : Int32), uu, uu] [(.ref w3), (.ref w3), (.int (1 : Int32)), (.int (1 : Int32))])) (fun t k => st6 t k) ?_
  have hc125 : w3 = w3 := rfl
  refine ov (B := T6.setTop (mkF m 128 #[rv a4, rv w3, rv ac, .val .null, .val .null, rv ag, .val .null, .val .null, .val .null, iv (0 : Int32), iv (1 : Int32), uu, uu] [(.int (1 : Int32)), (.int (1 : Int32))])) (fun t k => Jvm.RoadKit.acmp (g := (mkF m 125 #[rv a4, rv w3, rv ac, .val .null, .val .null, rv ag, .val .null, .val .null, .val .null, iv (0 : Int32), iv (1 : Int32), uu, uu] [(.ref w3), (.ref w3), (.int (1 : Int32)), (.int (1 : Int32))])) X6 hx rfl rfl rfl (pc0 := 125) (pc' := 128) (same := true) rfl (hb hby own_d9_125) rfl (decide_eq_true (congrArg Value.ref hc125)) (by decide) (by decide) k) ?_
  refine oIC (n := 129) X6 hx (1 : Int32) (hb hby own_d9_128) (by decide) rfl ?_
  refine oGO (n := 133) X6 hx (hb hby own_d9_129) (by decide) (by decide) ?_
  have hc133 : (1 : Int32) = (1 : Int32) := by decide
  refine ov (B := T6.setTop (mkF m 136 #[rv a4, rv w3, rv ac, .val .null, .val .null, rv ag, .val .null, .val .null, .val .null, iv (0 : Int32), iv (1 : Int32), uu, uu] [(.int (1 : Int32))])) (fun t k => XS.icmpNo X6.here hx rfl (hb hby own_d9_133) rfl (teq hc133).2 k) ?_
  refine oIC (n := 137) X6 hx (1 : Int32) (hb hby own_d9_136) (by decide) rfl ?_
  refine oGO (n := 141) X6 hx (hb hby own_d9_137) (by decide) (by decide) ?_
  refine ov (B := T6.setTop (mkF m 142 #[rv a4, rv w3, rv ac, .val .null, .val .null, rv ag, .val .null, .val .null, .val .null, iv (0 : Int32), iv (1 : Int32), uu, uu] [(.int (1 : Int32))])) (fun t k => XS.iand X6.here hx rfl (hb hby own_d9_141) rfl k) ?_
  refine ov (B := T6.setTop (mkF m 144 #[rv a4, rv w3, rv ac, .val .null, .val .null, rv ag, .val .null, .val .null, .val .null, iv (0 : Int32), iv (1 : Int32), uu, uu] [])) (fun t k => XS.istore X6.here hx rfl (hb hby own_d9_142) rfl (l' := #[rv a4, rv w3, rv ac, .val .null, .val .null, rv ag, .val .null, .val .null, .val .null, iv (0 : Int32), iv (1 : Int32), uu, uu]) rfl k) ?_
  refine oIL (n := 146) X6 hx (hb hby own_d9_144) rfl rfl ?_
  refine oAL (n := 148) X6 hx (hb hby own_d9_146) rfl rfl rfl ?_
  refine ov (B := T6.setTop (mkF m 155 #[rv a4, rv w3, rv ac, .val .null, .val .null, rv ag, .val .null, .val .null, .val .null, iv (0 : Int32), iv (1 : Int32), uu, uu] [(.int (1 : Int32))])) (fun t k => XS.ifnullYes X6.here hx rfl (pc0 := 148) (pc' := 155) rfl (hb hby own_d9_148) rfl (by decide) (by decide) k) ?_
  refine oIC (n := 156) X6 hx (0 : Int32) (hb hby own_d9_155) (by decide) rfl ?_
  refine oIL (n := 158) X6 hx (hb hby own_d9_156) rfl rfl ?_
  have hc158 : (0 : Int32) = (0 : Int32) := by decide
  refine ov (B := T6.setTop (mkF m 161 #[rv a4, rv w3, rv ac, .val .null, .val .null, rv ag, .val .null, .val .null, .val .null, iv (0 : Int32), iv (1 : Int32), uu, uu] [(.int (1 : Int32))])) (fun t k => XS.icmpNo X6.here hx rfl (hb hby own_d9_158) rfl (teq hc158).2 k) ?_
  refine oAL (n := 163) X6 hx (hb hby own_d9_161) rfl rfl rfl ?_
  refine ov (B := T6.setTop (mkF m 170 #[rv a4, rv w3, rv ac, .val .null, .val .null, rv ag, .val .null, .val .null, .val .null, iv (0 : Int32), iv (1 : Int32), uu, uu] [(.int (1 : Int32))])) (fun t k => XS.ifnullYes X6.here hx rfl (pc0 := 163) (pc' := 170) rfl (hb hby own_d9_163) rfl (by decide) (by decide) k) ?_
  refine oIC (n := 171) X6 hx (0 : Int32) (hb hby own_d9_170) (by decide) rfl ?_
  refine oIL (n := 173) X6 hx (hb hby own_d9_171) rfl rfl ?_
  have hc173 : (0 : Int32) = (0 : Int32) := by decide
  refine ov (B := T6.setTop (mkF m 176 #[rv a4, rv w3, rv ac, .val .null, .val .null, rv ag, .val .null, .val .null, .val .null, iv (0 : Int32), iv (1 : Int32), uu, uu] [(.int (1 : Int32))])) (fun t k => XS.icmpNo X6.here hx rfl (hb hby own_d9_173) rfl (teq hc173).2 k) ?_
  refine oIC (n := 177) X6 hx (1 : Int32) (hb hby own_d9_176) (by decide) rfl ?_
  refine oGO (n := 181) X6 hx (hb hby own_d9_177) (by decide) (by decide) ?_
  refine ov (B := T6.setTop (mkF m 182 #[rv a4, rv w3, rv ac, .val .null, .val .null, rv ag, .val .null, .val .null, .val .null, iv (0 : Int32), iv (1 : Int32), uu, uu] [(.int (1 : Int32))])) (fun t k => XS.iand X6.here hx rfl (hb hby own_d9_181) rfl k) ?_
  refine ov (B := T6.setTop (mkF m 184 #[rv a4, rv w3, rv ac, .val .null, .val .null, rv ag, .val .null, .val .null, .val .null, iv (0 : Int32), iv (1 : Int32), uu, uu] [])) (fun t k => XS.istore X6.here hx rfl (hb hby own_d9_182) rfl (l' := #[rv a4, rv w3, rv ac, .val .null, .val .null, rv ag, .val .null, .val .null, .val .null, iv (0 : Int32), iv (1 : Int32), uu, uu]) rfl k) ?_
  refine oIL (n := 186) X6 hx (hb hby own_d9_184) rfl rfl ?_
  refine oAL (n := 188) X6 hx (hb hby own_d9_186) rfl rfl rfl ?_
  refine ov (B := T6.setTop (mkF m 195 #[rv a4, rv w3, rv ac, .val .null, .val .null, rv ag, .val .null, .val .null, .val .null, iv (0 : Int32), iv (1 : Int32), uu, uu] [(.int (1 : Int32))])) (fun t k => XS.ifnullYes X6.here hx rfl (pc0 := 188) (pc' := 195) rfl (hb hby own_d9_188) rfl (by decide) (by decide) k) ?_
  refine oIC (n := 196) X6 hx (0 : Int32) (hb hby own_d9_195) (by decide) rfl ?_
  refine oALN (n := 197) X6 hx (hb hby own_d9_196) rfl rfl rfl ?_
  obtain ⟨T7, X7, e7, st7⟩ := getS2 X6 hx hZ hown (host := "") (Or.inl (oW hw 59 rfl)) Via.refl e6 (AA5.1.ext O0.2) (g := (mkF m 197 #[rv a4, rv w3, rv ac, .val .null, .val .null, rv ag, .val .null, .val .null, .val .null, iv (0 : Int32), iv (1 : Int32), uu, uu] [(.ref w3), (.int (0 : Int32)), (.int (1 : Int32))])) rfl (hb hby own_d9_197)
  refine ov (B := T7.setTop (mkF m 200 #[rv a4, rv w3, rv ac, .val .null, .val .null, rv ag, .val .null, .val .null, .val .null, iv (0 : Int32), iv (1 : Int32), uu, uu] [(.ref w5), (.ref w3), (.int (0 : Int32)), (.int (1 : Int32))])) (fun t k => st7 t k) ?_
  have hc200 : ¬ (w3 = w5) := own_ne AA3 AA5 (by decide)
  refine ov (B := T7.setTop (mkF m 207 #[rv a4, rv w3, rv ac, .val .null, .val .null, rv ag, .val .null, .val .null, .val .null, iv (0 : Int32), iv (1 : Int32), uu, uu] [(.int (0 : Int32)), (.int (1 : Int32))])) (fun t k => Jvm.RoadKit.acmp (g := (mkF m 200 #[rv a4, rv w3, rv ac, .val .null, .val .null, rv ag, .val .null, .val .null, .val .null, iv (0 : Int32), iv (1 : Int32), uu, uu] [(.ref w5), (.ref w3), (.int (0 : Int32)), (.int (1 : Int32))])) X7 hx rfl rfl rfl (pc0 := 200) (pc' := 207) (same := false) rfl (hb hby own_d9_200) rfl (decide_eq_false fun q => hc200 (Value.ref.inj q)) (by decide) (by decide) k) ?_
  refine oIC (n := 208) X7 hx (0 : Int32) (hb hby own_d9_207) (by decide) rfl ?_
  have hc208 : (0 : Int32) = (0 : Int32) := by decide
  refine ov (B := T7.setTop (mkF m 211 #[rv a4, rv w3, rv ac, .val .null, .val .null, rv ag, .val .null, .val .null, .val .null, iv (0 : Int32), iv (1 : Int32), uu, uu] [(.int (1 : Int32))])) (fun t k => XS.icmpNo X7.here hx rfl (hb hby own_d9_208) rfl (teq hc208).2 k) ?_
  refine oIC (n := 212) X7 hx (1 : Int32) (hb hby own_d9_211) (by decide) rfl ?_
  refine oGO (n := 216) X7 hx (hb hby own_d9_212) (by decide) (by decide) ?_
  refine ov (B := T7.setTop (mkF m 217 #[rv a4, rv w3, rv ac, .val .null, .val .null, rv ag, .val .null, .val .null, .val .null, iv (0 : Int32), iv (1 : Int32), uu, uu] [(.int (1 : Int32))])) (fun t k => XS.iand X7.here hx rfl (hb hby own_d9_216) rfl k) ?_
  refine ov (B := T7.setTop (mkF m 219 #[rv a4, rv w3, rv ac, .val .null, .val .null, rv ag, .val .null, .val .null, .val .null, iv (0 : Int32), iv (1 : Int32), uu, uu] [])) (fun t k => XS.istore X7.here hx rfl (hb hby own_d9_217) rfl (l' := #[rv a4, rv w3, rv ac, .val .null, .val .null, rv ag, .val .null, .val .null, .val .null, iv (0 : Int32), iv (1 : Int32), uu, uu]) rfl k) ?_
  refine oIL (n := 221) X7 hx (hb hby own_d9_219) rfl rfl ?_
  have hc221 : ¬ ((1 : Int32) = (0 : Int32)) := by decide
  refine ov (B := T7.setTop (mkF m 236 #[rv a4, rv w3, rv ac, .val .null, .val .null, rv ag, .val .null, .val .null, .val .null, iv (0 : Int32), iv (1 : Int32), uu, uu] [])) (fun t k => XS.ifYes X7.here hx rfl (pc0 := 221) (pc' := 236) rfl (hb hby own_d9_221) rfl ((if0 _ _).trans (feq hc221).2) (by decide) (by decide) k) ?_
  obtain ⟨c8, T8, h8, k8, X8, e8, E8, hS8, hk8, hZ, hown, st8⟩ := ldcS X7 hx hZ hown (oW hw 63 rfl) wS e7 hS0 hk0 (g := (mkF m 236 #[rv a4, rv w3, rv ac, .val .null, .val .null, rv ag, .val .null, .val .null, .val .null, iv (0 : Int32), iv (1 : Int32), uu, uu] [])) rfl (hb hby own_d9_236) (n := 28) (by decide) (by decide) (by decide) (by decide)
  refine ov (B := T8.setTop (mkF m 238 #[rv a4, rv w3, rv ac, .val .null, .val .null, rv ag, .val .null, .val .null, .val .null, iv (0 : Int32), iv (1 : Int32), uu, uu] [(.ref c8)])) (fun t k => st8 t k) ?_
  refine oALN (n := 239) X8 hx (hb hby own_d9_238) rfl rfl rfl ?_
  obtain ⟨_, _, ⟨T9, L9, k9, n9⟩, -, X9, ⟨Lc9, hQ9, l9, y9, z9⟩, st9⟩ := Jvm.LawKit.callS X8 hx (y := (⟨sAA, "requireNonEmpty", sAN⟩ : MethodName)) hown (mvT hZ (oW hw 64 rfl)) (mvT hZ (oW hw 65 rfl)) (mvT hZ (oW hw 39 rfl)) (mvT hZ (oW hw 66 rfl)) (by decide) (backOf (W := 0) (rmN1 l Z a0 hw [] c8 ac t_ac k_ac cs_ac h8 n0 (Nat.le_trans Z0 E8.1) (SE_ac.ext E8) (SC_ac.ext E8) (SV_ac.ext E8) (SA_ac.ext E8) Sp_ac Sl_ac) hZ (oW hw 66 rfl) (oW hw 39 rfl) (by decide) (by decide)) (g := (mkF m 239 #[rv a4, rv w3, rv ac, .val .null, .val .null, rv ag, .val .null, .val .null, .val .null, iv (0 : Int32), iv (1 : Int32), uu, uu] [(.ref ac), (.ref c8)])) rfl (by rw [hml]; rfl) (argsL := [(.ref c8), (.ref ac)]) (rest := []) (lenOf own_pd7 rfl) rfl (by show 2 * 0 + _ ≤ _; exact Nat.le_of_eq rfl) (hb hby own_d9_239) (fun _ _ => ⟨rfl, e8, (by decide : ((0 + 0) + 2) + 0 ≤ _), (by decide : ((0 + 0) + (28 + 4)) + 0 ≤ _)⟩)
  dsimp only [Pt.U, Pt.locs, Pt.cells, Pt.slots] at X9 l9 y9 z9 st9 hQ9
  subst l9 y9 z9
  obtain ⟨rfl, Nq9, eq9⟩ := hQ9
  have N9 := Fr.app N1 Nq9
  refine ov (B := T9.setTop (mkF m 242 #[rv a4, rv w3, rv ac, .val .null, .val .null, rv ag, .val .null, .val .null, .val .null, iv (0 : Int32), iv (1 : Int32), uu, uu] [])) (fun t k => st9 t k) ?_
  obtain ⟨c10, T10, h10, k10, X10, e10, E10, hS10, hk10, hZ, hown, st10⟩ := ldcS X9 hx hZ hown (oW hw 72 rfl) wS eq9 hS8 hk8 (g := (mkF m 242 #[rv a4, rv w3, rv ac, .val .null, .val .null, rv ag, .val .null, .val .null, .val .null, iv (0 : Int32), iv (1 : Int32), uu, uu] [])) rfl (hb hby own_d9_242) (n := 16) (by decide) (by decide) (by decide) (by decide)
  refine ov (B := T10.setTop (mkF m 244 #[rv a4, rv w3, rv ac, .val .null, .val .null, rv ag, .val .null, .val .null, .val .null, iv (0 : Int32), iv (1 : Int32), uu, uu] [(.ref c10)])) (fun t k => st10 t k) ?_
  refine oALN (n := 245) X10 hx (hb hby own_d9_244) rfl rfl rfl ?_
  obtain ⟨_, _, ⟨T11, L11, k11, n11⟩, -, X11, ⟨Lc11, hQ11, l11, y11, z11⟩, st11⟩ := Jvm.LawKit.callS X10 hx (y := (⟨sAA, "requireNonEmpty", sAN⟩ : MethodName)) hown (mvT hZ (oW hw 64 rfl)) (mvT hZ (oW hw 65 rfl)) (mvT hZ (oW hw 39 rfl)) (mvT hZ (oW hw 66 rfl)) (by decide) (backOf (W := 0) (rmN0 l Z a0 hw [] c10 h10 n0 (Nat.le_trans (Nat.le_trans Z0 E8.1) E10.1) ) hZ (oW hw 66 rfl) (oW hw 39 rfl) (by decide) (by decide)) (g := (mkF m 245 #[rv a4, rv w3, rv ac, .val .null, .val .null, rv ag, .val .null, .val .null, .val .null, iv (0 : Int32), iv (1 : Int32), uu, uu] [.null, (.ref c10)])) rfl (by rw [hml]; rfl) (argsL := [(.ref c10), .null]) (rest := []) (lenOf own_pd7 rfl) rfl (by show 2 * 0 + _ ≤ _; exact Nat.le_of_eq rfl) (hb hby own_d9_245) (fun _ _ => ⟨rfl, e10, (by decide : ((((0 + 0) + 2) + 0) + 2) + 0 ≤ _), (by decide : ((((0 + 0) + (28 + 4)) + 0) + (16 + 4)) + 0 ≤ _)⟩)
  dsimp only [Pt.U, Pt.locs, Pt.cells, Pt.slots] at X11 l11 y11 z11 st11 hQ11
  subst l11 y11 z11
  obtain ⟨rfl, Nq11, eq11⟩ := hQ11
  have N11 := Fr.app N9 Nq11
  refine ov (B := T11.setTop (mkF m 248 #[rv a4, rv w3, rv ac, .val .null, .val .null, rv ag, .val .null, .val .null, .val .null, iv (0 : Int32), iv (1 : Int32), uu, uu] [])) (fun t k => st11 t k) ?_
  obtain ⟨c12, T12, h12, k12, X12, e12, E12, hS12, hk12, hZ, hown, st12⟩ := ldcS X11 hx hZ hown (oW hw 73 rfl) wS eq11 hS10 hk10 (g := (mkF m 248 #[rv a4, rv w3, rv ac, .val .null, .val .null, rv ag, .val .null, .val .null, .val .null, iv (0 : Int32), iv (1 : Int32), uu, uu] [])) rfl (hb hby own_d9_248) (n := 32) (by decide) (by decide) (by decide) (by decide)
  refine ov (B := T12.setTop (mkF m 250 #[rv a4, rv w3, rv ac, .val .null, .val .null, rv ag, .val .null, .val .null, .val .null, iv (0 : Int32), iv (1 : Int32), uu, uu] [(.ref c12)])) (fun t k => st12 t k) ?_
  refine oAL (n := 252) X12 hx (hb hby own_d9_250) rfl rfl rfl ?_
  obtain ⟨_, _, ⟨T13, L13, k13, n13⟩, -, X13, ⟨Lc13, hQ13, l13, y13, z13⟩, st13⟩ := Jvm.LawKit.callS X12 hx (y := (⟨sAA, "requireNonEmpty", sAN⟩ : MethodName)) hown (mvT hZ (oW hw 64 rfl)) (mvT hZ (oW hw 65 rfl)) (mvT hZ (oW hw 39 rfl)) (mvT hZ (oW hw 66 rfl)) (by decide) (backOf (W := 0) (rmN0 l Z a0 hw [] c12 h12 n0 (Nat.le_trans (Nat.le_trans (Nat.le_trans Z0 E8.1) E10.1) E12.1) ) hZ (oW hw 66 rfl) (oW hw 39 rfl) (by decide) (by decide)) (g := (mkF m 252 #[rv a4, rv w3, rv ac, .val .null, .val .null, rv ag, .val .null, .val .null, .val .null, iv (0 : Int32), iv (1 : Int32), uu, uu] [.null, (.ref c12)])) rfl (by rw [hml]; rfl) (argsL := [(.ref c12), .null]) (rest := []) (lenOf own_pd7 rfl) rfl (by show 2 * 0 + _ ≤ _; exact Nat.le_of_eq rfl) (hb hby own_d9_252) (fun _ _ => ⟨rfl, e12, (by decide : ((((((0 + 0) + 2) + 0) + 2) + 0) + 2) + 0 ≤ _), (by decide : ((((((0 + 0) + (28 + 4)) + 0) + (16 + 4)) + 0) + (32 + 4)) + 0 ≤ _)⟩)
  dsimp only [Pt.U, Pt.locs, Pt.cells, Pt.slots] at X13 l13 y13 z13 st13 hQ13
  subst l13 y13 z13
  obtain ⟨rfl, Nq13, eq13⟩ := hQ13
  have N13 := Fr.app N11 Nq13
  refine ov (B := T13.setTop (mkF m 255 #[rv a4, rv w3, rv ac, .val .null, .val .null, rv ag, .val .null, .val .null, .val .null, iv (0 : Int32), iv (1 : Int32), uu, uu] [])) (fun t k => st13 t k) ?_
  obtain ⟨c14, T14, h14, k14, X14, e14, E14, hS14, hk14, hZ, hown, st14⟩ := ldcS X13 hx hZ hown (oW hw 74 rfl) wS eq13 hS12 hk12 (g := (mkF m 255 #[rv a4, rv w3, rv ac, .val .null, .val .null, rv ag, .val .null, .val .null, .val .null, iv (0 : Int32), iv (1 : Int32), uu, uu] [])) rfl (hb hby own_d9_255) (n := 24) (by decide) (by decide) (by decide) (by decide)
  refine ov (B := T14.setTop (mkF m 257 #[rv a4, rv w3, rv ac, .val .null, .val .null, rv ag, .val .null, .val .null, .val .null, iv (0 : Int32), iv (1 : Int32), uu, uu] [(.ref c14)])) (fun t k => st14 t k) ?_
  refine oAL (n := 259) X14 hx (hb hby own_d9_257) rfl rfl rfl ?_
  obtain ⟨_, _, ⟨T15, L15, k15, n15⟩, -, X15, ⟨Lc15, hQ15, l15, y15, z15⟩, st15⟩ := Jvm.LawKit.callS X14 hx (y := (⟨sAA, "requireNonEmpty", sAN⟩ : MethodName)) hown (mvT hZ (oW hw 64 rfl)) (mvT hZ (oW hw 65 rfl)) (mvT hZ (oW hw 39 rfl)) (mvT hZ (oW hw 66 rfl)) (by decide) (backOf (W := 0) (rmN1 l Z a0 hw [] c14 ag t_ag k_ag cs_ag h14 n0 (Nat.le_trans (Nat.le_trans (Nat.le_trans (Nat.le_trans Z0 E8.1) E10.1) E12.1) E14.1) ((((SE_ag.ext E8).ext E10).ext E12).ext E14) ((((SC_ag.ext E8).ext E10).ext E12).ext E14) ((((SV_ag.ext E8).ext E10).ext E12).ext E14) ((((SA_ag.ext E8).ext E10).ext E12).ext E14) Sp_ag Sl_ag) hZ (oW hw 66 rfl) (oW hw 39 rfl) (by decide) (by decide)) (g := (mkF m 259 #[rv a4, rv w3, rv ac, .val .null, .val .null, rv ag, .val .null, .val .null, .val .null, iv (0 : Int32), iv (1 : Int32), uu, uu] [(.ref ag), (.ref c14)])) rfl (by rw [hml]; rfl) (argsL := [(.ref c14), (.ref ag)]) (rest := []) (lenOf own_pd7 rfl) rfl (by show 2 * 0 + _ ≤ _; exact Nat.le_of_eq rfl) (hb hby own_d9_259) (fun _ _ => ⟨rfl, e14, (by decide : ((((((((0 + 0) + 2) + 0) + 2) + 0) + 2) + 0) + 2) + 0 ≤ _), (by decide : ((((((((0 + 0) + (28 + 4)) + 0) + (16 + 4)) + 0) + (32 + 4)) + 0) + (24 + 4)) + 0 ≤ _)⟩)
  dsimp only [Pt.U, Pt.locs, Pt.cells, Pt.slots] at X15 l15 y15 z15 st15 hQ15
  subst l15 y15 z15
  obtain ⟨rfl, Nq15, eq15⟩ := hQ15
  have N15 := Fr.app N13 Nq15
  refine ov (B := T15.setTop (mkF m 262 #[rv a4, rv w3, rv ac, .val .null, .val .null, rv ag, .val .null, .val .null, .val .null, iv (0 : Int32), iv (1 : Int32), uu, uu] [])) (fun t k => st15 t k) ?_
  obtain ⟨c16, T16, h16, k16, X16, e16, E16, hS16, hk16, hZ, hown, st16⟩ := ldcS X15 hx hZ hown (oW hw 75 rfl) wS eq15 hS14 hk14 (g := (mkF m 262 #[rv a4, rv w3, rv ac, .val .null, .val .null, rv ag, .val .null, .val .null, .val .null, iv (0 : Int32), iv (1 : Int32), uu, uu] [])) rfl (hb hby own_d9_262) (n := 64) (by decide) (by decide) (by decide) (by decide)
  refine ov (B := T16.setTop (mkF m 264 #[rv a4, rv w3, rv ac, .val .null, .val .null, rv ag, .val .null, .val .null, .val .null, iv (0 : Int32), iv (1 : Int32), uu, uu] [(.ref c16)])) (fun t k => st16 t k) ?_
  refine oAL (n := 266) X16 hx (hb hby own_d9_264) rfl rfl rfl ?_
  obtain ⟨_, _, ⟨T17, L17, k17, n17⟩, -, X17, ⟨Lc17, hQ17, l17, y17, z17⟩, st17⟩ := Jvm.LawKit.callS X16 hx (y := (⟨sAA, "requireNonEmpty", sAN⟩ : MethodName)) hown (mvT hZ (oW hw 64 rfl)) (mvT hZ (oW hw 65 rfl)) (mvT hZ (oW hw 39 rfl)) (mvT hZ (oW hw 66 rfl)) (by decide) (backOf (W := 0) (rmN0 l Z a0 hw [] c16 h16 n0 (Nat.le_trans (Nat.le_trans (Nat.le_trans (Nat.le_trans (Nat.le_trans Z0 E8.1) E10.1) E12.1) E14.1) E16.1) ) hZ (oW hw 66 rfl) (oW hw 39 rfl) (by decide) (by decide)) (g := (mkF m 266 #[rv a4, rv w3, rv ac, .val .null, .val .null, rv ag, .val .null, .val .null, .val .null, iv (0 : Int32), iv (1 : Int32), uu, uu] [.null, (.ref c16)])) rfl (by rw [hml]; rfl) (argsL := [(.ref c16), .null]) (rest := []) (lenOf own_pd7 rfl) rfl (by show 2 * 0 + _ ≤ _; exact Nat.le_of_eq rfl) (hb hby own_d9_266) (fun _ _ => ⟨rfl, e16, (by decide : ((((((((((0 + 0) + 2) + 0) + 2) + 0) + 2) + 0) + 2) + 0) + 2) + 0 ≤ _), (by decide : ((((((((((0 + 0) + (28 + 4)) + 0) + (16 + 4)) + 0) + (32 + 4)) + 0) + (24 + 4)) + 0) + (64 + 4)) + 0 ≤ _)⟩)
  dsimp only [Pt.U, Pt.locs, Pt.cells, Pt.slots] at X17 l17 y17 z17 st17 hQ17
  subst l17 y17 z17
  obtain ⟨rfl, Nq17, eq17⟩ := hQ17
  have N17 := Fr.app N15 Nq17
  refine ov (B := T17.setTop (mkF m 269 #[rv a4, rv w3, rv ac, .val .null, .val .null, rv ag, .val .null, .val .null, .val .null, iv (0 : Int32), iv (1 : Int32), uu, uu] [])) (fun t k => st17 t k) ?_
  obtain ⟨c18, T18, h18, k18, X18, e18, E18, hS18, hk18, hZ, hown, st18⟩ := ldcS X17 hx hZ hown (oW hw 76 rfl) wS eq17 hS16 hk16 (g := (mkF m 269 #[rv a4, rv w3, rv ac, .val .null, .val .null, rv ag, .val .null, .val .null, .val .null, iv (0 : Int32), iv (1 : Int32), uu, uu] [])) rfl (hb hby own_d9_269) (n := 28) (by decide) (by decide) (by decide) (by decide)
  refine ov (B := T18.setTop (mkF m 271 #[rv a4, rv w3, rv ac, .val .null, .val .null, rv ag, .val .null, .val .null, .val .null, iv (0 : Int32), iv (1 : Int32), uu, uu] [(.ref c18)])) (fun t k => st18 t k) ?_
  refine oAL (n := 273) X18 hx (hb hby own_d9_271) rfl rfl rfl ?_
  obtain ⟨_, _, ⟨T19, L19, k19, n19⟩, -, X19, ⟨Lc19, hQ19, l19, y19, z19⟩, st19⟩ := Jvm.LawKit.callS X18 hx (y := (⟨sAA, "requireNonEmpty", sAN⟩ : MethodName)) hown (mvT hZ (oW hw 64 rfl)) (mvT hZ (oW hw 65 rfl)) (mvT hZ (oW hw 39 rfl)) (mvT hZ (oW hw 66 rfl)) (by decide) (backOf (W := 0) (rmN0 l Z a0 hw [] c18 h18 n0 (Nat.le_trans (Nat.le_trans (Nat.le_trans (Nat.le_trans (Nat.le_trans (Nat.le_trans Z0 E8.1) E10.1) E12.1) E14.1) E16.1) E18.1) ) hZ (oW hw 66 rfl) (oW hw 39 rfl) (by decide) (by decide)) (g := (mkF m 273 #[rv a4, rv w3, rv ac, .val .null, .val .null, rv ag, .val .null, .val .null, .val .null, iv (0 : Int32), iv (1 : Int32), uu, uu] [.null, (.ref c18)])) rfl (by rw [hml]; rfl) (argsL := [(.ref c18), .null]) (rest := []) (lenOf own_pd7 rfl) rfl (by show 2 * 0 + _ ≤ _; exact Nat.le_of_eq rfl) (hb hby own_d9_273) (fun _ _ => ⟨rfl, e18, (by decide : ((((((((((((0 + 0) + 2) + 0) + 2) + 0) + 2) + 0) + 2) + 0) + 2) + 0) + 2) + 0 ≤ _), (by decide : ((((((((((((0 + 0) + (28 + 4)) + 0) + (16 + 4)) + 0) + (32 + 4)) + 0) + (24 + 4)) + 0) + (64 + 4)) + 0) + (28 + 4)) + 0 ≤ _)⟩)
  dsimp only [Pt.U, Pt.locs, Pt.cells, Pt.slots] at X19 l19 y19 z19 st19 hQ19
  subst l19 y19 z19
  obtain ⟨rfl, Nq19, eq19⟩ := hQ19
  have N19 := Fr.app N17 Nq19
  refine ov (B := T19.setTop (mkF m 276 #[rv a4, rv w3, rv ac, .val .null, .val .null, rv ag, .val .null, .val .null, .val .null, iv (0 : Int32), iv (1 : Int32), uu, uu] [])) (fun t k => st19 t k) ?_
  refine oAL (n := 278) X19 hx (hb hby own_d9_276) rfl rfl rfl ?_
  refine ov (B := T19.setTop (mkF m 329 #[rv a4, rv w3, rv ac, .val .null, .val .null, rv ag, .val .null, .val .null, .val .null, iv (0 : Int32), iv (1 : Int32), uu, uu] [])) (fun t k => XS.ifnullYes X19.here hx rfl (pc0 := 278) (pc' := 329) rfl (hb hby own_d9_278) rfl (by decide) (by decide) k) ?_
  refine oALN (n := 330) X19 hx (hb hby own_d9_329) rfl rfl rfl ?_
  refine oALN (n := 331) X19 hx (hb hby own_d9_330) rfl rfl rfl ?_
  obtain ⟨T20, h20, X20, e20, W20, st20⟩ := putF X19 hx hZ hown (host := "") (Or.inl (oW hw 77 rfl)) Via.refl eq19 ((((((F40.ext E8).ext E10).ext E12).ext E14).ext E16).ext E18) ((((((E4.ext E8).ext E10).ext E12).ext E14).ext E16).ext E18) (Or.inr ⟨(oW hw 78 rfl), rfl, hnm⟩) (oW hw 42 rfl) (ty := (.object sAC)) (by decide) rfl rfl (g := (mkF m 331 #[rv a4, rv w3, rv ac, .val .null, .val .null, rv ag, .val .null, .val .null, .val .null, iv (0 : Int32), iv (1 : Int32), uu, uu] [(.ref w3), (.ref a4)])) rfl rfl (hb hby own_d9_331)
  have Fw20 := ((((((F40.ext E8).ext E10).ext E12).ext E14).ext E16).ext E18).same W20
  have N20 := Fr.snoc X20 N19 g_a4
  refine ov (B := T20.setTop (mkF m 334 #[rv a4, rv w3, rv ac, .val .null, .val .null, rv ag, .val .null, .val .null, .val .null, iv (0 : Int32), iv (1 : Int32), uu, uu] [])) (fun t k => st20 t k) ?_
  refine oALN (n := 335) X20 hx (hb hby own_d9_334) rfl rfl rfl ?_
  refine oALN (n := 336) X20 hx (hb hby own_d9_335) rfl rfl rfl ?_
  obtain ⟨T21, h21, X21, e21, W21, st21⟩ := putF X20 hx hZ hown (host := "") (Or.inl (oW hw 79 rfl)) Via.refl e20 (((((((F41.ext E8).ext E10).ext E12).ext E14).ext E16).ext E18).other W20 (Or.inr (slot_ne (Or.inr (oW hw 80 rfl)) (Or.inr (oW hw 78 rfl)) (by decide +kernel) (t := (.object sAB)) (t' := (.object sAC)) (by decide +kernel) (by decide +kernel)))) (((((((E4.ext E8).ext E10).ext E12).ext E14).ext E16).ext E18).wr W20) (Or.inr ⟨(oW hw 80 rfl), rfl, hnm⟩) (oW hw 42 rfl) (ty := (.object sAB)) (by decide) rfl rfl (g := (mkF m 336 #[rv a4, rv w3, rv ac, .val .null, .val .null, rv ag, .val .null, .val .null, .val .null, iv (0 : Int32), iv (1 : Int32), uu, uu] [(.ref ac), (.ref a4)])) rfl rfl (hb hby own_d9_336)
  have Fw21 := (((((((F41.ext E8).ext E10).ext E12).ext E14).ext E16).ext E18).other W20 (Or.inr (slot_ne (Or.inr (oW hw 80 rfl)) (Or.inr (oW hw 78 rfl)) (by decide +kernel) (t := (.object sAB)) (t' := (.object sAC)) (by decide +kernel) (by decide +kernel)))).same W21
  have N21 := Fr.snoc X21 N20 g_a4
  refine ov (B := T21.setTop (mkF m 339 #[rv a4, rv w3, rv ac, .val .null, .val .null, rv ag, .val .null, .val .null, .val .null, iv (0 : Int32), iv (1 : Int32), uu, uu] [])) (fun t k => st21 t k) ?_
  refine oALN (n := 340) X21 hx (hb hby own_d9_339) rfl rfl rfl ?_
  refine oALN (n := 341) X21 hx (hb hby own_d9_340) rfl rfl rfl ?_
  obtain ⟨T22, h22, X22, e22, W22, st22⟩ := putF X21 hx hZ hown (host := "") (Or.inl (oW hw 81 rfl)) Via.refl e21 ((((((((F42.ext E8).ext E10).ext E12).ext E14).ext E16).ext E18).other W20 (Or.inr (slot_ne (Or.inr (oW hw 82 rfl)) (Or.inr (oW hw 78 rfl)) (by decide +kernel) (t := (.object sAB)) (t' := (.object sAC)) (by decide +kernel) (by decide +kernel)))).other W21 (Or.inr (slot_ne (Or.inr (oW hw 82 rfl)) (Or.inr (oW hw 80 rfl)) (by decide +kernel) (t := (.object sAB)) (t' := (.object sAB)) (by decide +kernel) (by decide +kernel)))) ((((((((E4.ext E8).ext E10).ext E12).ext E14).ext E16).ext E18).wr W20).wr W21) (Or.inr ⟨(oW hw 82 rfl), rfl, hnm⟩) (oW hw 42 rfl) (ty := (.object sAB)) (by decide) rfl rfl (g := (mkF m 341 #[rv a4, rv w3, rv ac, .val .null, .val .null, rv ag, .val .null, .val .null, .val .null, iv (0 : Int32), iv (1 : Int32), uu, uu] [.null, (.ref a4)])) rfl rfl (hb hby own_d9_341)
  have Fw22 := ((((((((F42.ext E8).ext E10).ext E12).ext E14).ext E16).ext E18).other W20 (Or.inr (slot_ne (Or.inr (oW hw 82 rfl)) (Or.inr (oW hw 78 rfl)) (by decide +kernel) (t := (.object sAB)) (t' := (.object sAC)) (by decide +kernel) (by decide +kernel)))).other W21 (Or.inr (slot_ne (Or.inr (oW hw 82 rfl)) (Or.inr (oW hw 80 rfl)) (by decide +kernel) (t := (.object sAB)) (t' := (.object sAB)) (by decide +kernel) (by decide +kernel)))).same W22
  have N22 := Fr.snoc X22 N21 g_a4
  refine ov (B := T22.setTop (mkF m 344 #[rv a4, rv w3, rv ac, .val .null, .val .null, rv ag, .val .null, .val .null, .val .null, iv (0 : Int32), iv (1 : Int32), uu, uu] [])) (fun t k => st22 t k) ?_
  refine oALN (n := 345) X22 hx (hb hby own_d9_344) rfl rfl rfl ?_
  refine oAL (n := 347) X22 hx (hb hby own_d9_345) rfl rfl rfl ?_
  obtain ⟨T23, h23, X23, e23, W23, st23⟩ := putF X22 hx hZ hown (host := "") (Or.inl (oW hw 83 rfl)) Via.refl e22 (((((((((F43.ext E8).ext E10).ext E12).ext E14).ext E16).ext E18).other W20 (Or.inr (slot_ne (Or.inr (oW hw 84 rfl)) (Or.inr (oW hw 78 rfl)) (by decide +kernel) (t := (.object sAB)) (t' := (.object sAC)) (by decide +kernel) (by decide +kernel)))).other W21 (Or.inr (slot_ne (Or.inr (oW hw 84 rfl)) (Or.inr (oW hw 80 rfl)) (by decide +kernel) (t := (.object sAB)) (t' := (.object sAB)) (by decide +kernel) (by decide +kernel)))).other W22 (Or.inr (slot_ne (Or.inr (oW hw 84 rfl)) (Or.inr (oW hw 82 rfl)) (by decide +kernel) (t := (.object sAB)) (t' := (.object sAB)) (by decide +kernel) (by decide +kernel)))) (((((((((E4.ext E8).ext E10).ext E12).ext E14).ext E16).ext E18).wr W20).wr W21).wr W22) (Or.inr ⟨(oW hw 84 rfl), rfl, hnm⟩) (oW hw 42 rfl) (ty := (.object sAB)) (by decide) rfl rfl (g := (mkF m 347 #[rv a4, rv w3, rv ac, .val .null, .val .null, rv ag, .val .null, .val .null, .val .null, iv (0 : Int32), iv (1 : Int32), uu, uu] [.null, (.ref a4)])) rfl rfl (hb hby own_d9_347)
  have Fw23 := (((((((((F43.ext E8).ext E10).ext E12).ext E14).ext E16).ext E18).other W20 (Or.inr (slot_ne (Or.inr (oW hw 84 rfl)) (Or.inr (oW hw 78 rfl)) (by decide +kernel) (t := (.object sAB)) (t' := (.object sAC)) (by decide +kernel) (by decide +kernel)))).other W21 (Or.inr (slot_ne (Or.inr (oW hw 84 rfl)) (Or.inr (oW hw 80 rfl)) (by decide +kernel) (t := (.object sAB)) (t' := (.object sAB)) (by decide +kernel) (by decide +kernel)))).other W22 (Or.inr (slot_ne (Or.inr (oW hw 84 rfl)) (Or.inr (oW hw 82 rfl)) (by decide +kernel) (t := (.object sAB)) (t' := (.object sAB)) (by decide +kernel) (by decide +kernel)))).same W23
  have N23 := Fr.snoc X23 N22 g_a4
  refine ov (B := T23.setTop (mkF m 350 #[rv a4, rv w3, rv ac, .val .null, .val .null, rv ag, .val .null, .val .null, .val .null, iv (0 : Int32), iv (1 : Int32), uu, uu] [])) (fun t k => st23 t k) ?_
  refine oALN (n := 351) X23 hx (hb hby own_d9_350) rfl rfl rfl ?_
  refine oAL (n := 353) X23 hx (hb hby own_d9_351) rfl rfl rfl ?_
  obtain ⟨T24, h24, X24, e24, W24, st24⟩ := putF X23 hx hZ hown (host := "") (Or.inl (oW hw 85 rfl)) Via.refl e23 ((((((((((F44.ext E8).ext E10).ext E12).ext E14).ext E16).ext E18).other W20 (Or.inr (slot_ne (Or.inr (oW hw 86 rfl)) (Or.inr (oW hw 78 rfl)) (by decide +kernel) (t := (.object sAB)) (t' := (.object sAC)) (by decide +kernel) (by decide +kernel)))).other W21 (Or.inr (slot_ne (Or.inr (oW hw 86 rfl)) (Or.inr (oW hw 80 rfl)) (by decide +kernel) (t := (.object sAB)) (t' := (.object sAB)) (by decide +kernel) (by decide +kernel)))).other W22 (Or.inr (slot_ne (Or.inr (oW hw 86 rfl)) (Or.inr (oW hw 82 rfl)) (by decide +kernel) (t := (.object sAB)) (t' := (.object sAB)) (by decide +kernel) (by decide +kernel)))).other W23 (Or.inr (slot_ne (Or.inr (oW hw 86 rfl)) (Or.inr (oW hw 84 rfl)) (by decide +kernel) (t := (.object sAB)) (t' := (.object sAB)) (by decide +kernel) (by decide +kernel)))) ((((((((((E4.ext E8).ext E10).ext E12).ext E14).ext E16).ext E18).wr W20).wr W21).wr W22).wr W23) (Or.inr ⟨(oW hw 86 rfl), rfl, hnm⟩) (oW hw 42 rfl) (ty := (.object sAB)) (by decide) rfl rfl (g := (mkF m 353 #[rv a4, rv w3, rv ac, .val .null, .val .null, rv ag, .val .null, .val .null, .val .null, iv (0 : Int32), iv (1 : Int32), uu, uu] [(.ref ag), (.ref a4)])) rfl rfl (hb hby own_d9_353)
  have Fw24 := ((((((((((F44.ext E8).ext E10).ext E12).ext E14).ext E16).ext E18).other W20 (Or.inr (slot_ne (Or.inr (oW hw 86 rfl)) (Or.inr (oW hw 78 rfl)) (by decide +kernel) (t := (.object sAB)) (t' := (.object sAC)) (by decide +kernel) (by decide +kernel)))).other W21 (Or.inr (slot_ne (Or.inr (oW hw 86 rfl)) (Or.inr (oW hw 80 rfl)) (by decide +kernel) (t := (.object sAB)) (t' := (.object sAB)) (by decide +kernel) (by decide +kernel)))).other W22 (Or.inr (slot_ne (Or.inr (oW hw 86 rfl)) (Or.inr (oW hw 82 rfl)) (by decide +kernel) (t := (.object sAB)) (t' := (.object sAB)) (by decide +kernel) (by decide +kernel)))).other W23 (Or.inr (slot_ne (Or.inr (oW hw 86 rfl)) (Or.inr (oW hw 84 rfl)) (by decide +kernel) (t := (.object sAB)) (t' := (.object sAB)) (by decide +kernel) (by decide +kernel)))).same W24
  have N24 := Fr.snoc X24 N23 g_a4
  refine ov (B := T24.setTop (mkF m 356 #[rv a4, rv w3, rv ac, .val .null, .val .null, rv ag, .val .null, .val .null, .val .null, iv (0 : Int32), iv (1 : Int32), uu, uu] [])) (fun t k => st24 t k) ?_
  refine oALN (n := 357) X24 hx (hb hby own_d9_356) rfl rfl rfl ?_
  refine oAL (n := 359) X24 hx (hb hby own_d9_357) rfl rfl rfl ?_
  obtain ⟨T25, h25, X25, e25, W25, st25⟩ := putF X24 hx hZ hown (host := "") (Or.inl (oW hw 87 rfl)) Via.refl e24 (((((((((((F45.ext E8).ext E10).ext E12).ext E14).ext E16).ext E18).other W20 (Or.inr (slot_ne (Or.inr (oW hw 88 rfl)) (Or.inr (oW hw 78 rfl)) (by decide +kernel) (t := (.object sAB)) (t' := (.object sAC)) (by decide +kernel) (by decide +kernel)))).other W21 (Or.inr (slot_ne (Or.inr (oW hw 88 rfl)) (Or.inr (oW hw 80 rfl)) (by decide +kernel) (t := (.object sAB)) (t' := (.object sAB)) (by decide +kernel) (by decide +kernel)))).other W22 (Or.inr (slot_ne (Or.inr (oW hw 88 rfl)) (Or.inr (oW hw 82 rfl)) (by decide +kernel) (t := (.object sAB)) (t' := (.object sAB)) (by decide +kernel) (by decide +kernel)))).other W23 (Or.inr (slot_ne (Or.inr (oW hw 88 rfl)) (Or.inr (oW hw 84 rfl)) (by decide +kernel) (t := (.object sAB)) (t' := (.object sAB)) (by decide +kernel) (by decide +kernel)))).other W24 (Or.inr (slot_ne (Or.inr (oW hw 88 rfl)) (Or.inr (oW hw 86 rfl)) (by decide +kernel) (t := (.object sAB)) (t' := (.object sAB)) (by decide +kernel) (by decide +kernel)))) (((((((((((E4.ext E8).ext E10).ext E12).ext E14).ext E16).ext E18).wr W20).wr W21).wr W22).wr W23).wr W24) (Or.inr ⟨(oW hw 88 rfl), rfl, hnm⟩) (oW hw 42 rfl) (ty := (.object sAB)) (by decide) rfl rfl (g := (mkF m 359 #[rv a4, rv w3, rv ac, .val .null, .val .null, rv ag, .val .null, .val .null, .val .null, iv (0 : Int32), iv (1 : Int32), uu, uu] [.null, (.ref a4)])) rfl rfl (hb hby own_d9_359)
  have Fw25 := (((((((((((F45.ext E8).ext E10).ext E12).ext E14).ext E16).ext E18).other W20 (Or.inr (slot_ne (Or.inr (oW hw 88 rfl)) (Or.inr (oW hw 78 rfl)) (by decide +kernel) (t := (.object sAB)) (t' := (.object sAC)) (by decide +kernel) (by decide +kernel)))).other W21 (Or.inr (slot_ne (Or.inr (oW hw 88 rfl)) (Or.inr (oW hw 80 rfl)) (by decide +kernel) (t := (.object sAB)) (t' := (.object sAB)) (by decide +kernel) (by decide +kernel)))).other W22 (Or.inr (slot_ne (Or.inr (oW hw 88 rfl)) (Or.inr (oW hw 82 rfl)) (by decide +kernel) (t := (.object sAB)) (t' := (.object sAB)) (by decide +kernel) (by decide +kernel)))).other W23 (Or.inr (slot_ne (Or.inr (oW hw 88 rfl)) (Or.inr (oW hw 84 rfl)) (by decide +kernel) (t := (.object sAB)) (t' := (.object sAB)) (by decide +kernel) (by decide +kernel)))).other W24 (Or.inr (slot_ne (Or.inr (oW hw 88 rfl)) (Or.inr (oW hw 86 rfl)) (by decide +kernel) (t := (.object sAB)) (t' := (.object sAB)) (by decide +kernel) (by decide +kernel)))).same W25
  have N25 := Fr.snoc X25 N24 g_a4
  refine ov (B := T25.setTop (mkF m 362 #[rv a4, rv w3, rv ac, .val .null, .val .null, rv ag, .val .null, .val .null, .val .null, iv (0 : Int32), iv (1 : Int32), uu, uu] [])) (fun t k => st25 t k) ?_
  refine oALN (n := 363) X25 hx (hb hby own_d9_362) rfl rfl rfl ?_
  refine oAL (n := 365) X25 hx (hb hby own_d9_363) rfl rfl rfl ?_
  obtain ⟨T26, h26, X26, e26, W26, st26⟩ := putF X25 hx hZ hown (host := "") (Or.inl (oW hw 89 rfl)) Via.refl e25 ((((((((((((F46.ext E8).ext E10).ext E12).ext E14).ext E16).ext E18).other W20 (Or.inr (slot_ne (Or.inr (oW hw 90 rfl)) (Or.inr (oW hw 78 rfl)) (by decide +kernel) (t := (.object "java/util/Set")) (t' := (.object sAC)) (by decide +kernel) (by decide +kernel)))).other W21 (Or.inr (slot_ne (Or.inr (oW hw 90 rfl)) (Or.inr (oW hw 80 rfl)) (by decide +kernel) (t := (.object "java/util/Set")) (t' := (.object sAB)) (by decide +kernel) (by decide +kernel)))).other W22 (Or.inr (slot_ne (Or.inr (oW hw 90 rfl)) (Or.inr (oW hw 82 rfl)) (by decide +kernel) (t := (.object "java/util/Set")) (t' := (.object sAB)) (by decide +kernel) (by decide +kernel)))).other W23 (Or.inr (slot_ne (Or.inr (oW hw 90 rfl)) (Or.inr (oW hw 84 rfl)) (by decide +kernel) (t := (.object "java/util/Set")) (t' := (.object sAB)) (by decide +kernel) (by decide +kernel)))).other W24 (Or.inr (slot_ne (Or.inr (oW hw 90 rfl)) (Or.inr (oW hw 86 rfl)) (by decide +kernel) (t := (.object "java/util/Set")) (t' := (.object sAB)) (by decide +kernel) (by decide +kernel)))).other W25 (Or.inr (slot_ne (Or.inr (oW hw 90 rfl)) (Or.inr (oW hw 88 rfl)) (by decide +kernel) (t := (.object "java/util/Set")) (t' := (.object sAB)) (by decide +kernel) (by decide +kernel)))) ((((((((((((E4.ext E8).ext E10).ext E12).ext E14).ext E16).ext E18).wr W20).wr W21).wr W22).wr W23).wr W24).wr W25) (Or.inr ⟨(oW hw 90 rfl), rfl, hnm⟩) (oW hw 42 rfl) (ty := (.object "java/util/Set")) (by decide) rfl rfl (g := (mkF m 365 #[rv a4, rv w3, rv ac, .val .null, .val .null, rv ag, .val .null, .val .null, .val .null, iv (0 : Int32), iv (1 : Int32), uu, uu] [.null, (.ref a4)])) rfl rfl (hb hby own_d9_365)
  have Fw26 := ((((((((((((F46.ext E8).ext E10).ext E12).ext E14).ext E16).ext E18).other W20 (Or.inr (slot_ne (Or.inr (oW hw 90 rfl)) (Or.inr (oW hw 78 rfl)) (by decide +kernel) (t := (.object "java/util/Set")) (t' := (.object sAC)) (by decide +kernel) (by decide +kernel)))).other W21 (Or.inr (slot_ne (Or.inr (oW hw 90 rfl)) (Or.inr (oW hw 80 rfl)) (by decide +kernel) (t := (.object "java/util/Set")) (t' := (.object sAB)) (by decide +kernel) (by decide +kernel)))).other W22 (Or.inr (slot_ne (Or.inr (oW hw 90 rfl)) (Or.inr (oW hw 82 rfl)) (by decide +kernel) (t := (.object "java/util/Set")) (t' := (.object sAB)) (by decide +kernel) (by decide +kernel)))).other W23 (Or.inr (slot_ne (Or.inr (oW hw 90 rfl)) (Or.inr (oW hw 84 rfl)) (by decide +kernel) (t := (.object "java/util/Set")) (t' := (.object sAB)) (by decide +kernel) (by decide +kernel)))).other W24 (Or.inr (slot_ne (Or.inr (oW hw 90 rfl)) (Or.inr (oW hw 86 rfl)) (by decide +kernel) (t := (.object "java/util/Set")) (t' := (.object sAB)) (by decide +kernel) (by decide +kernel)))).other W25 (Or.inr (slot_ne (Or.inr (oW hw 90 rfl)) (Or.inr (oW hw 88 rfl)) (by decide +kernel) (t := (.object "java/util/Set")) (t' := (.object sAB)) (by decide +kernel) (by decide +kernel)))).same W26
  have N26 := Fr.snoc X26 N25 g_a4
  refine ov (B := T26.setTop (mkF m 368 #[rv a4, rv w3, rv ac, .val .null, .val .null, rv ag, .val .null, .val .null, .val .null, iv (0 : Int32), iv (1 : Int32), uu, uu] [])) (fun t k => st26 t k) ?_
  refine oALN (n := 369) X26 hx (hb hby own_d9_368) rfl rfl rfl ?_
  refine oAL (n := 371) X26 hx (hb hby own_d9_369) rfl rfl rfl ?_
  obtain ⟨T27, h27, X27, e27, W27, st27⟩ := putF X26 hx hZ hown (host := "") (Or.inl (oW hw 91 rfl)) Via.refl e26 (((((((((((((F47.ext E8).ext E10).ext E12).ext E14).ext E16).ext E18).other W20 (Or.inr (slot_ne (Or.inr (oW hw 92 rfl)) (Or.inr (oW hw 78 rfl)) (by decide +kernel) (t := (.object sAB)) (t' := (.object sAC)) (by decide +kernel) (by decide +kernel)))).other W21 (Or.inr (slot_ne (Or.inr (oW hw 92 rfl)) (Or.inr (oW hw 80 rfl)) (by decide +kernel) (t := (.object sAB)) (t' := (.object sAB)) (by decide +kernel) (by decide +kernel)))).other W22 (Or.inr (slot_ne (Or.inr (oW hw 92 rfl)) (Or.inr (oW hw 82 rfl)) (by decide +kernel) (t := (.object sAB)) (t' := (.object sAB)) (by decide +kernel) (by decide +kernel)))).other W23 (Or.inr (slot_ne (Or.inr (oW hw 92 rfl)) (Or.inr (oW hw 84 rfl)) (by decide +kernel) (t := (.object sAB)) (t' := (.object sAB)) (by decide +kernel) (by decide +kernel)))).other W24 (Or.inr (slot_ne (Or.inr (oW hw 92 rfl)) (Or.inr (oW hw 86 rfl)) (by decide +kernel) (t := (.object sAB)) (t' := (.object sAB)) (by decide +kernel) (by decide +kernel)))).other W25 (Or.inr (slot_ne (Or.inr (oW hw 92 rfl)) (Or.inr (oW hw 88 rfl)) (by decide +kernel) (t := (.object sAB)) (t' := (.object sAB)) (by decide +kernel) (by decide +kernel)))).other W26 (Or.inr (slot_ne (Or.inr (oW hw 92 rfl)) (Or.inr (oW hw 90 rfl)) (by decide +kernel) (t := (.object sAB)) (t' := (.object "java/util/Set")) (by decide +kernel) (by decide +kernel)))) (((((((((((((E4.ext E8).ext E10).ext E12).ext E14).ext E16).ext E18).wr W20).wr W21).wr W22).wr W23).wr W24).wr W25).wr W26) (Or.inr ⟨(oW hw 92 rfl), rfl, hnm⟩) (oW hw 42 rfl) (ty := (.object sAB)) (by decide) rfl rfl (g := (mkF m 371 #[rv a4, rv w3, rv ac, .val .null, .val .null, rv ag, .val .null, .val .null, .val .null, iv (0 : Int32), iv (1 : Int32), uu, uu] [.null, (.ref a4)])) rfl rfl (hb hby own_d9_371)
  have Fw27 := (((((((((((((F47.ext E8).ext E10).ext E12).ext E14).ext E16).ext E18).other W20 (Or.inr (slot_ne (Or.inr (oW hw 92 rfl)) (Or.inr (oW hw 78 rfl)) (by decide +kernel) (t := (.object sAB)) (t' := (.object sAC)) (by decide +kernel) (by decide +kernel)))).other W21 (Or.inr (slot_ne (Or.inr (oW hw 92 rfl)) (Or.inr (oW hw 80 rfl)) (by decide +kernel) (t := (.object sAB)) (t' := (.object sAB)) (by decide +kernel) (by decide +kernel)))).other W22 (Or.inr (slot_ne (Or.inr (oW hw 92 rfl)) (Or.inr (oW hw 82 rfl)) (by decide +kernel) (t := (.object sAB)) (t' := (.object sAB)) (by decide +kernel) (by decide +kernel)))).other W23 (Or.inr (slot_ne (Or.inr (oW hw 92 rfl)) (Or.inr (oW hw 84 rfl)) (by decide +kernel) (t := (.object sAB)) (t' := (.object sAB)) (by decide +kernel) (by decide +kernel)))).other W24 (Or.inr (slot_ne (Or.inr (oW hw 92 rfl)) (Or.inr (oW hw 86 rfl)) (by decide +kernel) (t := (.object sAB)) (t' := (.object sAB)) (by decide +kernel) (by decide +kernel)))).other W25 (Or.inr (slot_ne (Or.inr (oW hw 92 rfl)) (Or.inr (oW hw 88 rfl)) (by decide +kernel) (t := (.object sAB)) (t' := (.object sAB)) (by decide +kernel) (by decide +kernel)))).other W26 (Or.inr (slot_ne (Or.inr (oW hw 92 rfl)) (Or.inr (oW hw 90 rfl)) (by decide +kernel) (t := (.object sAB)) (t' := (.object "java/util/Set")) (by decide +kernel) (by decide +kernel)))).same W27
  have N27 := Fr.snoc X27 N26 g_a4
  refine ov (B := T27.setTop (mkF m 374 #[rv a4, rv w3, rv ac, .val .null, .val .null, rv ag, .val .null, .val .null, .val .null, iv (0 : Int32), iv (1 : Int32), uu, uu] [])) (fun t k => st27 t k) ?_
  refine own_leafVW X27 hx hlk hS18 (by rw [e27]; exact (Nat.le_trans (Nat.le_trans (Nat.le_trans (Nat.le_trans (Nat.le_trans (Nat.le_trans (Nat.le_trans (Nat.le_trans hk18 (Keep.of_wr W20).1) (Keep.of_wr W21).1) (Keep.of_wr W22).1) (Keep.of_wr W23).1) (Keep.of_wr W24).1) (Keep.of_wr W25).1) (Keep.of_wr W26).1) (Keep.of_wr W27).1)) Bd.returns (hb hby own_d9_374) (by decide) (by decide) ?_
  show QQ3snnsnnn Z a4 w3 ac ag w0 w1 w2 w4 w5 u0 u1 u2 u3 u4 u5 u6 u7 t_ac k_ac cs_ac t_ag k_ag cs_ag h0 n0 _ T27.heap _
  rw [e27]
  refine ⟨?_, N27, (((((((((((((((Keep.refl h0 [a4]).ext E8).ext E10).ext E12).ext E14).ext E16).ext E18).wr W20 (Or.inl (List.mem_of_getElem? (i := 0) rfl))).wr W21 (Or.inl (List.mem_of_getElem? (i := 0) rfl))).wr W22 (Or.inl (List.mem_of_getElem? (i := 0) rfl))).wr W23 (Or.inl (List.mem_of_getElem? (i := 0) rfl))).wr W24 (Or.inl (List.mem_of_getElem? (i := 0) rfl))).wr W25 (Or.inl (List.mem_of_getElem? (i := 0) rfl))).wr W26 (Or.inl (List.mem_of_getElem? (i := 0) rfl))).wr W27 (Or.inl (List.mem_of_getElem? (i := 0) rfl))), (((((((Fw20.other W21 (Or.inr (slot_ne (Or.inr (oW hw 78 rfl)) (Or.inr (oW hw 80 rfl)) (by decide +kernel) (t := (.object sAC)) (t' := (.object sAB)) (by decide +kernel) (by decide +kernel)))).other W22 (Or.inr (slot_ne (Or.inr (oW hw 78 rfl)) (Or.inr (oW hw 82 rfl)) (by decide +kernel) (t := (.object sAC)) (t' := (.object sAB)) (by decide +kernel) (by decide +kernel)))).other W23 (Or.inr (slot_ne (Or.inr (oW hw 78 rfl)) (Or.inr (oW hw 84 rfl)) (by decide +kernel) (t := (.object sAC)) (t' := (.object sAB)) (by decide +kernel) (by decide +kernel)))).other W24 (Or.inr (slot_ne (Or.inr (oW hw 78 rfl)) (Or.inr (oW hw 86 rfl)) (by decide +kernel) (t := (.object sAC)) (t' := (.object sAB)) (by decide +kernel) (by decide +kernel)))).other W25 (Or.inr (slot_ne (Or.inr (oW hw 78 rfl)) (Or.inr (oW hw 88 rfl)) (by decide +kernel) (t := (.object sAC)) (t' := (.object sAB)) (by decide +kernel) (by decide +kernel)))).other W26 (Or.inr (slot_ne (Or.inr (oW hw 78 rfl)) (Or.inr (oW hw 90 rfl)) (by decide +kernel) (t := (.object sAC)) (t' := (.object "java/util/Set")) (by decide +kernel) (by decide +kernel)))).other W27 (Or.inr (slot_ne (Or.inr (oW hw 78 rfl)) (Or.inr (oW hw 92 rfl)) (by decide +kernel) (t := (.object sAC)) (t' := (.object sAB)) (by decide +kernel) (by decide +kernel)))), ((((((Fw21.other W22 (Or.inr (slot_ne (Or.inr (oW hw 80 rfl)) (Or.inr (oW hw 82 rfl)) (by decide +kernel) (t := (.object sAB)) (t' := (.object sAB)) (by decide +kernel) (by decide +kernel)))).other W23 (Or.inr (slot_ne (Or.inr (oW hw 80 rfl)) (Or.inr (oW hw 84 rfl)) (by decide +kernel) (t := (.object sAB)) (t' := (.object sAB)) (by decide +kernel) (by decide +kernel)))).other W24 (Or.inr (slot_ne (Or.inr (oW hw 80 rfl)) (Or.inr (oW hw 86 rfl)) (by decide +kernel) (t := (.object sAB)) (t' := (.object sAB)) (by decide +kernel) (by decide +kernel)))).other W25 (Or.inr (slot_ne (Or.inr (oW hw 80 rfl)) (Or.inr (oW hw 88 rfl)) (by decide +kernel) (t := (.object sAB)) (t' := (.object sAB)) (by decide +kernel) (by decide +kernel)))).other W26 (Or.inr (slot_ne (Or.inr (oW hw 80 rfl)) (Or.inr (oW hw 90 rfl)) (by decide +kernel) (t := (.object sAB)) (t' := (.object "java/util/Set")) (by decide +kernel) (by decide +kernel)))).other W27 (Or.inr (slot_ne (Or.inr (oW hw 80 rfl)) (Or.inr (oW hw 92 rfl)) (by decide +kernel) (t := (.object sAB)) (t' := (.object sAB)) (by decide +kernel) (by decide +kernel))))⟩
  rfl
theorem own_d9_40 : decode prog_50_method_1_code 40 = .ok (.iconst 0, 1) := by decide +kernel
theorem own_d9_59 : decode prog_50_method_1_code 59 = .ok (.iconst 0, 1) := by decide +kernel
theorem own_d9_191 : decode prog_50_method_1_code 191 = .ok (.iconst 1, 1) := by decide +kernel
theorem own_d9_192 : decode prog_50_method_1_code 192 = .ok (.goto 4, 3) := by decide +kernel
theorem own_d9_203 : decode prog_50_method_1_code 203 = .ok (.iconst 1, 1) := by decide +kernel
theorem own_d9_204 : decode prog_50_method_1_code 204 = .ok (.goto 4, 3) := by decide +kernel
theorem own_efQ5nnnnnns (m : MethodId) (x0 : Addr) (x1 : Addr) (x8 : Addr) : entryFrame m #[(.ref x0), (.ref x1), .null, .null, .null, .null, .null, .null, (.ref x8)] 13 = mkF m 0 #[rv x0, rv x1, .val .null, .val .null, .val .null, .val .null, .val .null, .val .null, rv x8, uu, uu, uu, uu] [] := by first | (simp [entryFrame, mkF, argsToLocals, Value.category]; done) | rfl
def QQ5nnnnnns (Z : State) (a4 : Addr) (w5 : Addr) (sv : Addr) (w0 : Addr) (w1 : Addr) (w2 : Addr) (w3 : Addr) (w4 : Addr) (u0 : Value) (u1 : Value) (u2 : Value) (u3 : Value) (u4 : Value) (u5 : Value) (u6 : Value) (u7 : Value) (t_sv : Addr) (k_sv : ClassId) (cs_sv : List Int32) (h0 : Heap) (n0 : Nat) (v : Option Value) (h : Heap) (L : List Loc) : Prop := v = none ∧ Fr n0 L ∧ Keep h0 h [a4] ∧ (Fld Z h a4 sAA "kind" sAG (.ref w5)) ∧ (Fld Z h a4 sAA "account" sAH .null)
set_option maxRecDepth 65536 in
set_option maxHeartbeats 40000000 in
theorem rmQ5nnnnnns (l : Launch) (Z : State) (a0 : Array Value) (hw : ∀ d ∈ tables_1, d.before a0 Z = true) (ws : List Jvm.Cond) (a4 : Addr) (w5 : Addr) (sv : Addr) (w0 : Addr) (w1 : Addr) (w2 : Addr) (w3 : Addr) (w4 : Addr) (u0 : Value) (u1 : Value) (u2 : Value) (u3 : Value) (u4 : Value) (u5 : Value) (u6 : Value) (u7 : Value) (t_sv : Addr) (k_sv : ClassId) (cs_sv : List Int32) (h0 : Heap) (n0 : Nat) (Z0 : n0 ≤ h0.size) (hall : own_All Z Z.heap w0 w1 w2 w3 w4 w5) (O0 : Old Z n0 h0) (E4 : Exa Z h0 a4 sAA) (F40 : Fld Z h0 a4 sAA "kind" sAG u0) (F41 : Fld Z h0 a4 sAA "account" sAH u1) (F42 : Fld Z h0 a4 sAA "userId" sAH u2) (F43 : Fld Z h0 a4 sAA "userName" sAH u3) (F44 : Fld Z h0 a4 sAA "agency" sAH u4) (F45 : Fld Z h0 a4 sAA sAU sAH u5) (F46 : Fld Z h0 a4 sAA "groups" "Ljava/util/Set;" u6) (F47 : Fld Z h0 a4 sAA "service" sAH u7) (g_a4 : n0 ≤ a4) (SE_sv : Exa Z h0 sv sAB) (SC_sv : Fld Z h0 sv sAB "coder" "B" (.int (0 : Int32))) (SV_sv : Fld Z h0 sv sAB "value" "[B" (.ref t_sv)) (SA_sv : Arv Z h0 t_sv k_sv .byte (Int32.ofNat cs_sv.length) ((cs_sv.map StrChars.lo8).map Value.int) (.int 0)) (Sp_sv : ∀ c ∈ cs_sv, ¬ c < 0 ∧ ¬ (255 : Int32) < c) (Sl_sv : 0 < cs_sv.length ∧ cs_sv.length ≤ 4000) :
    MetFree l (⟨sAA, "<init>", sAE⟩ : MethodName) (head1 (Jvm.Cond.code (⟨sAA, "<init>", sAE⟩ : MethodName) prog_50_method_1_code 13 none :: ws) ({ frames := 2, cells := 12, slots := 216, locals := 25 } : Room)) (fun a U => a = #[(.ref a4), (.ref w5), .null, .null, .null, .null, .null, .null, (.ref sv)] ∧ Z.Warmed39 U.vm ∧ U.heap = h0) (fun _ _ _ _ _ => True) (fun _ U o U' => ∃ v L, o = .returned v ∧ QQ5nnnnnns Z a4 w5 sv w0 w1 w2 w3 w4 u0 u1 u2 u3 u4 u5 u6 u7 t_sv k_sv cs_sv h0 n0 v U'.heap L ∧ ReturnedEndW U o U' L ({ frames := 2, cells := 12, slots := 216, locals := 25 } : Room).cells ({ frames := 2, cells := 12, slots := 216, locals := 25 } : Room).slots) := by
  refine MetFree.of_bodySF (plainFor_of_name own_pn4) hisR ?_
  intro p e s m args below meth c s₁ Bd hml0 hP hK
  obtain ⟨rfl, hZ, hh⟩ := hP
  have hx := Bd.exec
  have hby := Bd.bytes
  have hlk : meth.locks = false := Bd.notSynchronized
  have hml : c.maxLocals = 13 := hml0
  have hown : s.vm.findClass sAA = some m.cls := findClass_of_methodNamed Bd.named
  have hnm := (name_of_methodNamed Bd.named Bd.method).1
  have X0 : Stand p l e ({ frames := 2, cells := 12, slots := 216, locals := 25 } : Room) (s.setVm s.vm) m #[(.ref a4), (.ref w5), .null, .null, .null, .null, .null, .null, (.ref sv)] below meth c s₁ [] 0 0 := Stand.of_body Bd
  have e0 : s₁.heap = h0 := by rw [← hh, Bd.state]; rfl
  have N0 := Fr.nil n0
  have hS0 : s.Since s.vm h0.size := (State.WarmedH.refl s).since _
  have hk0 : h0.size ≤ h0.size := Nat.le_refl _
  have wS : ∀ a ∈ Bundle.stringAtoms, a.before a0 Z = true := by
    intro a ha
    simp only [Bundle.stringAtoms, List.mem_cons, List.not_mem_nil, or_false] at ha
    rcases ha with rfl | rfl | rfl | rfl | rfl | rfl | rfl
    · exact (oW hw 9 rfl)
    · exact (oW hw 10 rfl)
    · exact (oW hw 11 rfl)
    · exact (oW hw 12 rfl)
    · exact (oW hw 13 rfl)
    · exact (oW hw 14 rfl)
    · exact (oW hw 15 rfl)
  refine own_bodyW (A := s₁.setTop (mkF m 0 #[rv a4, rv w5, .val .null, .val .null, .val .null, .val .null, .val .null, .val .null, rv sv, uu, uu, uu, uu] [])) (Q := QQ5nnnnnns Z a4 w5 sv w0 w1 w2 w3 w4 u0 u1 u2 u3 u4 u5 u6 u7 t_sv k_sv cs_sv h0 n0) (fun t k => castTop (own_efQ5nnnnnns m a4 w5 sv) k) ?_
  have hall' := hall
  obtain ⟨AA0, AA1, AA2, AA3, AA4, AA5⟩ := hall'
  refine oALN (n := 1) X0 hx (hb hby own_d9_0) rfl rfl rfl ?_
  obtain ⟨_, _, ⟨T1, L1, k1, n1⟩, -, X1, ⟨Lc1, hQ1, l1, y1, z1⟩, st1⟩ := X0.specialBack hx (y := (⟨sAV, "<init>", "()V"⟩ : MethodName)) rfl hown (mvT hZ (oW hw 49 rfl)) (mvT hZ (oW hw 50 rfl)) (mvT hZ (oW hw 53 rfl)) (by decide) (backOf (W := 0) (rmR l Z a0 hw [] a4 h0 n0 Z0 ) hZ (oW hw 53 rfl) (oW hw 52 rfl) (by decide) (by decide)) (g := (mkF m 1 #[rv a4, rv w5, .val .null, .val .null, .val .null, .val .null, .val .null, .val .null, rv sv, uu, uu, uu, uu] [(.ref a4)])) rfl (by rw [hml]; rfl) (Steps.refl _) (a := a4) (argsL := []) (rest := []) (lenOf own_pd6 rfl) rfl (by show 2 * 0 + _ ≤ _; exact Nat.le_of_eq rfl) (hb hby own_d9_1) (fun _ _ => ⟨rfl, e0, (by decide : 0 + 0 ≤ _), (by decide : 0 + 0 ≤ _)⟩)
  dsimp only [Pt.U, Pt.locs, Pt.cells, Pt.slots] at X1 l1 y1 z1 st1 hQ1
  subst l1 y1 z1
  obtain ⟨rfl, Nq1, eq1⟩ := hQ1
  have N1 := Fr.app N0 Nq1
  refine ov (B := T1.setTop (mkF m 4 #[rv a4, rv w5, .val .null, .val .null, .val .null, .val .null, .val .null, .val .null, rv sv, uu, uu, uu, uu] [])) (fun t k => st1.trans k) ?_
  refine oALN (n := 5) X1 hx (hb hby own_d9_4) rfl rfl rfl ?_
  refine ov (B := T1.setTop (mkF m 18 #[rv a4, rv w5, .val .null, .val .null, .val .null, .val .null, .val .null, .val .null, rv sv, uu, uu, uu, uu] [])) (fun t k => XS.ifnonnullYes X1.here hx rfl (pc0 := 5) (pc' := 18) rfl (hb hby own_d9_5) rfl (by decide) (by decide) k) ?_
  refine oALN (n := 19) X1 hx (hb hby own_d9_18) rfl rfl rfl ?_
  obtain ⟨T2, X2, e2, st2⟩ := getS2 X1 hx hZ hown (host := "") (Or.inl (oW hw 55 rfl)) Via.refl eq1 (AA4.1.ext O0.2) (g := (mkF m 19 #[rv a4, rv w5, .val .null, .val .null, .val .null, .val .null, .val .null, .val .null, rv sv, uu, uu, uu, uu] [(.ref w5)])) rfl (hb hby own_d9_19)
  refine ov (B := T2.setTop (mkF m 22 #[rv a4, rv w5, .val .null, .val .null, .val .null, .val .null, .val .null, .val .null, rv sv, uu, uu, uu, uu] [(.ref w4), (.ref w5)])) (fun t k => st2 t k) ?_
  have hc22 : ¬ (w5 = w4) := own_ne AA5 AA4 (by decide)
  refine ov (B := T2.setTop (mkF m 29 #[rv a4, rv w5, .val .null, .val .null, .val .null, .val .null, .val .null, .val .null, rv sv, uu, uu, uu, uu] [])) (fun t k => Jvm.RoadKit.acmp (g := (mkF m 22 #[rv a4, rv w5, .val .null, .val .null, .val .null, .val .null, .val .null, .val .null, rv sv, uu, uu, uu, uu] [(.ref w4), (.ref w5)])) X2 hx rfl rfl rfl (pc0 := 22) (pc' := 29) (same := false) rfl (hb hby own_d9_22) rfl (decide_eq_false fun q => hc22 (Value.ref.inj q)) (by decide) (by decide) k) ?_
  refine oIC (n := 30) X2 hx (0 : Int32) (hb hby own_d9_29) (by decide) rfl ?_
  refine ov (B := T2.setTop (mkF m 32 #[rv a4, rv w5, .val .null, .val .null, .val .null, .val .null, .val .null, .val .null, rv sv, iv (0 : Int32), uu, uu, uu] [])) (fun t k => XS.istore X2.here hx rfl (hb hby own_d9_30) rfl (l' := #[rv a4, rv w5, .val .null, .val .null, .val .null, .val .null, .val .null, .val .null, rv sv, iv (0 : Int32), uu, uu, uu]) rfl k) ?_
  refine oALN (n := 33) X2 hx (hb hby own_d9_32) rfl rfl rfl ?_
  refine ov (B := T2.setTop (mkF m 40 #[rv a4, rv w5, .val .null, .val .null, .val .null, .val .null, .val .null, .val .null, rv sv, iv (0 : Int32), uu, uu, uu] [])) (fun t k => XS.ifnullYes X2.here hx rfl (pc0 := 33) (pc' := 40) rfl (hb hby own_d9_33) rfl (by decide) (by decide) k) ?_
  refine oIC (n := 41) X2 hx (0 : Int32) (hb hby own_d9_40) (by decide) rfl ?_
  refine oALN (n := 42) X2 hx (hb hby own_d9_41) rfl rfl rfl ?_
  obtain ⟨T3, X3, e3, st3⟩ := getS2 X2 hx hZ hown (host := "") (Or.inl (oW hw 57 rfl)) Via.refl e2 (AA0.1.ext O0.2) (g := (mkF m 42 #[rv a4, rv w5, .val .null, .val .null, .val .null, .val .null, .val .null, .val .null, rv sv, iv (0 : Int32), uu, uu, uu] [(.ref w5), (.int (0 : Int32))])) rfl (hb hby own_d9_42)
  refine ov (B := T3.setTop (mkF m 45 #[rv a4, rv w5, .val .null, .val .null, .val .null, .val .null, .val .null, .val .null, rv sv, iv (0 : Int32), uu, uu, uu] [(.ref w0), (.ref w5), (.int (0 : Int32))])) (fun t k => st3 t k) ?_
  have hc45 : ¬ (w5 = w0) := own_ne AA5 AA0 (by decide)
  refine ov (B := T3.setTop (mkF m 48 #[rv a4, rv w5, .val .null, .val .null, .val .null, .val .null, .val .null, .val .null, rv sv, iv (0 : Int32), uu, uu, uu] [(.int (0 : Int32))])) (fun t k => Jvm.RoadKit.acmp (g := (mkF m 45 #[rv a4, rv w5, .val .null, .val .null, .val .null, .val .null, .val .null, .val .null, rv sv, iv (0 : Int32), uu, uu, uu] [(.ref w0), (.ref w5), (.int (0 : Int32))])) X3 hx rfl rfl rfl (pc0 := 45) (pc' := 48) (same := false) rfl (hb hby own_d9_45) rfl (decide_eq_false fun q => hc45 (Value.ref.inj q)) (by decide) (by decide) k) ?_
  refine oALN (n := 49) X3 hx (hb hby own_d9_48) rfl rfl rfl ?_
  obtain ⟨T4, X4, e4, st4⟩ := getS2 X3 hx hZ hown (host := "") (Or.inl (oW hw 59 rfl)) Via.refl e3 (AA5.1.ext O0.2) (g := (mkF m 49 #[rv a4, rv w5, .val .null, .val .null, .val .null, .val .null, .val .null, .val .null, rv sv, iv (0 : Int32), uu, uu, uu] [(.ref w5), (.int (0 : Int32))])) rfl (hb hby own_d9_49)
  refine ov (B := T4.setTop (mkF m 52 #[rv a4, rv w5, .val .null, .val .null, .val .null, .val .null, .val .null, .val .null, rv sv, iv (0 : Int32), uu, uu, uu] [(.ref w5), (.ref w5), (.int (0 : Int32))])) (fun t k => st4 t k) ?_
  have hc52 : w5 = w5 := rfl
  refine ov (B := T4.setTop (mkF m 59 #[rv a4, rv w5, .val .null, .val .null, .val .null, .val .null, .val .null, .val .null, rv sv, iv (0 : Int32), uu, uu, uu] [(.int (0 : Int32))])) (fun t k => Jvm.RoadKit.acmp (g := (mkF m 52 #[rv a4, rv w5, .val .null, .val .null, .val .null, .val .null, .val .null, .val .null, rv sv, iv (0 : Int32), uu, uu, uu] [(.ref w5), (.ref w5), (.int (0 : Int32))])) X4 hx rfl rfl rfl (pc0 := 52) (pc' := 59) (same := true) rfl (hb hby own_d9_52) rfl (decide_eq_true (congrArg Value.ref hc52)) (by decide) (by decide) k) ?_
  refine oIC (n := 60) X4 hx (0 : Int32) (hb hby own_d9_59) (by decide) rfl ?_
  have hc60 : (0 : Int32) = (0 : Int32) := by decide
  refine ov (B := T4.setTop (mkF m 63 #[rv a4, rv w5, .val .null, .val .null, .val .null, .val .null, .val .null, .val .null, rv sv, iv (0 : Int32), uu, uu, uu] [])) (fun t k => XS.icmpNo X4.here hx rfl (hb hby own_d9_60) rfl (teq hc60).2 k) ?_
  refine oIC (n := 64) X4 hx (1 : Int32) (hb hby own_d9_63) (by decide) rfl ?_
  refine oGO (n := 68) X4 hx (hb hby own_d9_64) (by decide) (by decide) ?_
  refine ov (B := T4.setTop (mkF m 70 #[rv a4, rv w5, .val .null, .val .null, .val .null, .val .null, .val .null, .val .null, rv sv, iv (0 : Int32), iv (1 : Int32), uu, uu] [])) (fun t k => XS.istore X4.here hx rfl (hb hby own_d9_68) rfl (l' := #[rv a4, rv w5, .val .null, .val .null, .val .null, .val .null, .val .null, .val .null, rv sv, iv (0 : Int32), iv (1 : Int32), uu, uu]) rfl k) ?_
  refine oIL (n := 72) X4 hx (hb hby own_d9_70) rfl rfl ?_
  refine oALN (n := 73) X4 hx (hb hby own_d9_72) rfl rfl rfl ?_
  refine ov (B := T4.setTop (mkF m 76 #[rv a4, rv w5, .val .null, .val .null, .val .null, .val .null, .val .null, .val .null, rv sv, iv (0 : Int32), iv (1 : Int32), uu, uu] [(.int (1 : Int32))])) (fun t k => XS.ifnonnullNo X4.here hx rfl (hb hby own_d9_73) rfl k) ?_
  refine oAL (n := 78) X4 hx (hb hby own_d9_76) rfl rfl rfl ?_
  refine ov (B := T4.setTop (mkF m 85 #[rv a4, rv w5, .val .null, .val .null, .val .null, .val .null, .val .null, .val .null, rv sv, iv (0 : Int32), iv (1 : Int32), uu, uu] [(.int (1 : Int32))])) (fun t k => XS.ifnullYes X4.here hx rfl (pc0 := 78) (pc' := 85) rfl (hb hby own_d9_78) rfl (by decide) (by decide) k) ?_
  refine oIC (n := 86) X4 hx (0 : Int32) (hb hby own_d9_85) (by decide) rfl ?_
  refine oALN (n := 87) X4 hx (hb hby own_d9_86) rfl rfl rfl ?_
  obtain ⟨T5, X5, e5, st5⟩ := getS2 X4 hx hZ hown (host := "") (Or.inl (oW hw 43 rfl)) Via.refl e4 (AA2.1.ext O0.2) (g := (mkF m 87 #[rv a4, rv w5, .val .null, .val .null, .val .null, .val .null, .val .null, .val .null, rv sv, iv (0 : Int32), iv (1 : Int32), uu, uu] [(.ref w5), (.int (0 : Int32)), (.int (1 : Int32))])) rfl (hb hby own_d9_87)
  refine ov (B := T5.setTop (mkF m 90 #[rv a4, rv w5, .val .null, .val .null, .val .null, .val .null, .val .null, .val .null, rv sv, iv (0 : Int32), iv (1 : Int32), uu, uu] [(.ref w2), (.ref w5), (.int (0 : Int32)), (.int (1 : Int32))])) (fun t k => st5 t k) ?_
  have hc90 : ¬ (w5 = w2) := own_ne AA5 AA2 (by decide)
  refine ov (B := T5.setTop (mkF m 97 #[rv a4, rv w5, .val .null, .val .null, .val .null, .val .null, .val .null, .val .null, rv sv, iv (0 : Int32), iv (1 : Int32), uu, uu] [(.int (0 : Int32)), (.int (1 : Int32))])) (fun t k => Jvm.RoadKit.acmp (g := (mkF m 90 #[rv a4, rv w5, .val .null, .val .null, .val .null, .val .null, .val .null, .val .null, rv sv, iv (0 : Int32), iv (1 : Int32), uu, uu] [(.ref w2), (.ref w5), (.int (0 : Int32)), (.int (1 : Int32))])) X5 hx rfl rfl rfl (pc0 := 90) (pc' := 97) (same := false) rfl (hb hby own_d9_90) rfl (decide_eq_false fun q => hc90 (Value.ref.inj q)) (by decide) (by decide) k) ?_
  refine oIC (n := 98) X5 hx (0 : Int32) (hb hby own_d9_97) (by decide) rfl ?_
  have hc98 : (0 : Int32) = (0 : Int32) := by decide
  refine ov (B := T5.setTop (mkF m 101 #[rv a4, rv w5, .val .null, .val .null, .val .null, .val .null, .val .null, .val .null, rv sv, iv (0 : Int32), iv (1 : Int32), uu, uu] [(.int (1 : Int32))])) (fun t k => XS.icmpNo X5.here hx rfl (hb hby own_d9_98) rfl (teq hc98).2 k) ?_
  refine oIC (n := 102) X5 hx (1 : Int32) (hb hby own_d9_101) (by decide) rfl ?_
  refine oGO (n := 106) X5 hx (hb hby own_d9_102) (by decide) (by decide) ?_
  refine ov (B := T5.setTop (mkF m 107 #[rv a4, rv w5, .val .null, .val .null, .val .null, .val .null, .val .null, .val .null, rv sv, iv (0 : Int32), iv (1 : Int32), uu, uu] [(.int (1 : Int32))])) (fun t k => XS.iand X5.here hx rfl (hb hby own_d9_106) rfl k) ?_
  refine ov (B := T5.setTop (mkF m 109 #[rv a4, rv w5, .val .null, .val .null, .val .null, .val .null, .val .null, .val .null, rv sv, iv (0 : Int32), iv (1 : Int32), uu, uu] [])) (fun t k => XS.istore X5.here hx rfl (hb hby own_d9_107) rfl (l' := #[rv a4, rv w5, .val .null, .val .null, .val .null, .val .null, .val .null, .val .null, rv sv, iv (0 : Int32), iv (1 : Int32), uu, uu]) rfl k) ?_
  refine oIL (n := 111) X5 hx (hb hby own_d9_109) rfl rfl ?_
  refine oAL (n := 113) X5 hx (hb hby own_d9_111) rfl rfl rfl ?_
  refine ov (B := T5.setTop (mkF m 120 #[rv a4, rv w5, .val .null, .val .null, .val .null, .val .null, .val .null, .val .null, rv sv, iv (0 : Int32), iv (1 : Int32), uu, uu] [(.int (1 : Int32))])) (fun t k => XS.ifnullYes X5.here hx rfl (pc0 := 113) (pc' := 120) rfl (hb hby own_d9_113) rfl (by decide) (by decide) k) ?_
  refine oIC (n := 121) X5 hx (0 : Int32) (hb hby own_d9_120) (by decide) rfl ?_
  refine oALN (n := 122) X5 hx (hb hby own_d9_121) rfl rfl rfl ?_
  obtain ⟨T6, X6, e6, st6⟩ := getS2 X5 hx hZ hown (host := "") (Or.inl (oW hw 61 rfl)) Via.refl e5 (AA3.1.ext O0.2) (g := (mkF m 122 #[rv a4, rv w5, .val .null, .val .null, .val .null, .val .null, .val .null, .val .null, rv sv, iv (0 : Int32), iv (1 : Int32), uu, uu] [(.ref w5), (.int (0 : Int32)), (.int (1 : Int32))])) rfl (hb hby own_d9_122)
  refine ov (B := T6.setTop (mkF m 125 #[rv a4, rv w5, .val .null, .val .null, .val .null, .val .null, .val .null, .val .null, rv sv, iv (0 : Int32), iv (1 : Int32), uu, uu] [(.ref w3), (.ref w5), (.int (0 : Int32)), (.int (1 : Int32))])) (fun t k => st6 t k) ?_
  have hc125 : ¬ (w5 = w3) := own_ne AA5 AA3 (by decide)
  refine ov (B := T6.setTop (mkF m 132 #[rv a4, rv w5, .val .null, .val .null, .val .null, .val .null, .val .null, .val .null, rv sv, iv (0 : Int32), iv (1 : Int32), uu, uu] [(.int (0 : Int32)), (.int (1 : Int32))])) (fun t k => Jvm.RoadKit.acmp (g := (mkF m 125 #[rv a4, rv w5, .val .null, .val .null, .val .null, .val .null, .val .null, .val .null, rv sv, iv (0 : Int32), iv (1 : Int32), uu, uu] [(.ref w3), (.ref w5), (.int (0 : Int32)), (.int (1 : Int32))])) X6 hx rfl rfl rfl (pc0 := 125) (pc' := 132) (same := false) rfl (hb hby own_d9_125) rfl (decide_eq_false fun q => hc125 (Value.ref.inj q)) (by decide) (by decide) k) ?_
  refine oIC (n := 133) X6 hx (0 : Int32) (hb hby own_d9_132) (by decide) rfl ?_
  have hc133 : (0 : Int32) = (0 : Int32) := by decide
  refine ov (B := T6.setTop (mkF m 136 #[rv a4, rv w5, .val .null, .val .null, .val .null, .val .null, .val .null, .val .null, rv sv, iv (0 : Int32), iv (1 : Int32), uu, uu] [(.int (1 : Int32))])) (fun t k => XS.icmpNo X6.here hx rfl (hb hby own_d9_133) rfl (teq hc133).2 k) ?_
  refine oIC (n := 137) X6 hx (1 : Int32) (hb hby own_d9_136) (by decide) rfl ?_
  refine oGO (n := 141) X6 hx (hb hby own_d9_137) (by decide) (by decide) ?_
  refine ov (B := T6.setTop (mkF m 142 #[rv a4, rv w5, .val .null, .val .null, .val .null, .val .null, .val .null, .val .null, rv sv, iv (0 : Int32), iv (1 : Int32), uu, uu] [(.int (1 : Int32))])) (fun t k => XS.iand X6.here hx rfl (hb hby own_d9_141) rfl k) ?_
  refine ov (B := T6.setTop (mkF m 144 #[rv a4, rv w5, .val .null, .val .null, .val .null, .val .null, .val .null, .val .null, rv sv, iv (0 : Int32), iv (1 : Int32), uu, uu] [])) (fun t k => XS.istore X6.here hx rfl (hb hby own_d9_142) rfl (l' := #[rv a4, rv w5, .val .null, .val .null, .val .null, .val .null, .val .null, .val .null, rv sv, iv (0 : Int32), iv (1 : Int32), uu, uu]) rfl k) ?_
  refine oIL (n := 146) X6 hx (hb hby own_d9_144) rfl rfl ?_
  refine oAL (n := 148) X6 hx (hb hby own_d9_146) rfl rfl rfl ?_
  refine ov (B := T6.setTop (mkF m 155 #[rv a4, rv w5, .val .null, .val .null, .val .null, .val .null, .val .null, .val .null, rv sv, iv (0 : Int32), iv (1 : Int32), uu, uu] [(.int (1 : Int32))])) (fun t k => XS.ifnullYes X6.here hx rfl (pc0 := 148) (pc' := 155) rfl (hb hby own_d9_148) rfl (by decide) (by decide) k) ?_
  refine oIC (n := 156) X6 hx (0 : Int32) (hb hby own_d9_155) (by decide) rfl ?_
  refine oIL (n := 158) X6 hx (hb hby own_d9_156) rfl rfl ?_
  have hc158 : (0 : Int32) = (0 : Int32) := by decide
  refine ov (B := T6.setTop (mkF m 161 #[rv a4, rv w5, .val .null, .val .null, .val .null, .val .null, .val .null, .val .null, rv sv, iv (0 : Int32), iv (1 : Int32), uu, uu] [(.int (1 : Int32))])) (fun t k => XS.icmpNo X6.here hx rfl (hb hby own_d9_158) rfl (teq hc158).2 k) ?_
  refine oAL (n := 163) X6 hx (hb hby own_d9_161) rfl rfl rfl ?_
  refine ov (B := T6.setTop (mkF m 170 #[rv a4, rv w5, .val .null, .val .null, .val .null, .val .null, .val .null, .val .null, rv sv, iv (0 : Int32), iv (1 : Int32), uu, uu] [(.int (1 : Int32))])) (fun t k => XS.ifnullYes X6.here hx rfl (pc0 := 163) (pc' := 170) rfl (hb hby own_d9_163) rfl (by decide) (by decide) k) ?_
  refine oIC (n := 171) X6 hx (0 : Int32) (hb hby own_d9_170) (by decide) rfl ?_
  refine oIL (n := 173) X6 hx (hb hby own_d9_171) rfl rfl ?_
  have hc173 : (0 : Int32) = (0 : Int32) := by decide
  refine ov (B := T6.setTop (mkF m 176 #[rv a4, rv w5, .val .null, .val .null, .val .null, .val .null, .val .null, .val .null, rv sv, iv (0 : Int32), iv (1 : Int32), uu, uu] [(.int (1 : Int32))])) (fun t k => XS.icmpNo X6.here hx rfl (hb hby own_d9_173) rfl (teq hc173).2 k) ?_
  refine oIC (n := 177) X6 hx (1 : Int32) (hb hby own_d9_176) (by decide) rfl ?_
  refine oGO (n := 181) X6 hx (hb hby own_d9_177) (by decide) (by decide) ?_
  refine ov (B := T6.setTop (mkF m 182 #[rv a4, rv w5, .val .null, .val .null, .val .null, .val .null, .val .null, .val .null, rv sv, iv (0 : Int32), iv (1 : Int32), uu, uu] [(.int (1 : Int32))])) (fun t k => XS.iand X6.here hx rfl (hb hby own_d9_181) rfl k) ?_
  refine ov (B := T6.setTop (mkF m 184 #[rv a4, rv w5, .val .null, .val .null, .val .null, .val .null, .val .null, .val .null, rv sv, iv (0 : Int32), iv (1 : Int32), uu, uu] [])) (fun t k => XS.istore X6.here hx rfl (hb hby own_d9_182) rfl (l' := #[rv a4, rv w5, .val .null, .val .null, .val .null, .val .null, .val .null, .val .null, rv sv, iv (0 : Int32), iv (1 : Int32), uu, uu]) rfl k) ?_
  refine oIL (n := 186) X6 hx (hb hby own_d9_184) rfl rfl ?_
  refine oAL (n := 188) X6 hx (hb hby own_d9_186) rfl rfl rfl ?_
  refine ov (B := T6.setTop (mkF m 191 #[rv a4, rv w5, .val .null, .val .null, .val .null, .val .null, .val .null, .val .null, rv sv, iv (0 : Int32), iv (1 : Int32), uu, uu] [(.int (1 : Int32))])) (fun t k => XS.ifnullNo X6.here hx rfl (hb hby own_d9_188) rfl k) ?_
  refine oIC (n := 192) X6 hx (1 : Int32) (hb hby own_d9_191) (by decide) rfl ?_
  refine oGO (n := 196) X6 hx (hb hby own_d9_192) (by decide) (by decide) ?_
  refine oALN (n := 197) X6 hx (hb hby own_d9_196) rfl rfl rfl ?_
  obtain ⟨T7, X7, e7, st7⟩ := getS2 X6 hx hZ hown (host := "") (Or.inl (oW hw 59 rfl)) Via.refl e6 (AA5.1.ext O0.2) (g := (mkF m 197 #[rv a4, rv w5, .val .null, .val .null, .val .null, .val .null, .val .null, .val .null, rv sv, iv (0 : Int32), iv (1 : Int32), uu, uu] [(.ref w5), (.int (1 : Int32)), (.int (1 : Int32))])) rfl (hb hby own_d9_197)
  refine ov (B := T7.setTop (mkF m 200 #[rv a4, rv w5, .val .null, .val .null, .val .null, .val .null, .val .null, .val .null, rv sv, iv (0 : Int32), iv (1 : Int32), uu, uu] [(.ref w5), (.ref w5), (.int (1 : Int32)), (.int (1 : Int32))])) (fun t k => st7 t k) ?_
  have hc200 : w5 = w5 := rfl
  refine ov (B := T7.setTop (mkF m 203 #[rv a4, rv w5, .val .null, .val .null, .val .null, .val .null, .val .null, .val .null, rv sv, iv (0 : Int32), iv (1 : Int32), uu, uu] [(.int (1 : Int32)), (.int (1 : Int32))])) (fun t k => Jvm.RoadKit.acmp (g := (mkF m 200 #[rv a4, rv w5, .val .null, .val .null, .val .null, .val .null, .val .null, .val .null, rv sv, iv (0 : Int32), iv (1 : Int32), uu, uu] [(.ref w5), (.ref w5), (.int (1 : Int32)), (.int (1 : Int32))])) X7 hx rfl rfl rfl (pc0 := 200) (pc' := 203) (same := true) rfl (hb hby own_d9_200) rfl (decide_eq_true (congrArg Value.ref hc200)) (by decide) (by decide) k) ?_
  refine oIC (n := 204) X7 hx (1 : Int32) (hb hby own_d9_203) (by decide) rfl ?_
  refine oGO (n := 208) X7 hx (hb hby own_d9_204) (by decide) (by decide) ?_
  have hc208 : (1 : Int32) = (1 : Int32) := by decide
  refine ov (B := T7.setTop (mkF m 211 #[rv a4, rv w5, .val .null, .val .null, .val .null, .val .null, .val .null, .val .null, rv sv, iv (0 : Int32), iv (1 : Int32), uu, uu] [(.int (1 : Int32))])) (fun t k => XS.icmpNo X7.here hx rfl (hb hby own_d9_208) rfl (teq hc208).2 k) ?_
  refine oIC (n := 212) X7 hx (1 : Int32) (hb hby own_d9_211) (by decide) rfl ?_
  refine oGO (n := 216) X7 hx (hb hby own_d9_212) (by decide) (by decide) ?_
  refine ov (B := T7.setTop (mkF m 217 #[rv a4, rv w5, .val .null, .val .null, .val .null, .val .null, .val .null, .val .null, rv sv, iv (0 : Int32), iv (1 : Int32), uu, uu] [(.int (1 : Int32))])) (fun t k => XS.iand X7.here hx rfl (hb hby own_d9_216) rfl k) ?_
  refine ov (B := T7.setTop (mkF m 219 #[rv a4, rv w5, .val .null, .val .null, .val .null, .val .null, .val .null, .val .null, rv sv, iv (0 : Int32), iv (1 : Int32), uu, uu] [])) (fun t k => XS.istore X7.here hx rfl (hb hby own_d9_217) rfl (l' := #[rv a4, rv w5, .val .null, .val .null, .val .null, .val .null, .val .null, .val .null, rv sv, iv (0 : Int32), iv (1 : Int32), uu, uu]) rfl k) ?_
  refine oIL (n := 221) X7 hx (hb hby own_d9_219) rfl rfl ?_
  have hc221 : ¬ ((1 : Int32) = (0 : Int32)) := by decide
  refine ov (B := T7.setTop (mkF m 236 #[rv a4, rv w5, .val .null, .val .null, .val .null, .val .null, .val .null, .val .null, rv sv, iv (0 : Int32), iv (1 : Int32), uu, uu] [])) (fun t k => XS.ifYes X7.here hx rfl (pc0 := 221) (pc' := 236) rfl (hb hby own_d9_221) rfl ((if0 _ _).trans (feq hc221).2) (by decide) (by decide) k) ?_
  obtain ⟨c8, T8, h8, k8, X8, e8, E8, hS8, hk8, hZ, hown, st8⟩ := ldcS X7 hx hZ hown (oW hw 63 rfl) wS e7 hS0 hk0 (g := (mkF m 236 #[rv a4, rv w5, .val .null, .val .null, .val .null, .val .null, .val .null, .val .null, rv sv, iv (0 : Int32), iv (1 : Int32), uu, uu] [])) rfl (hb hby own_d9_236) (n := 28) (by decide) (by decide) (by decide) (by decide)
  refine ov (B := T8.setTop (mkF m 238 #[rv a4, rv w5, .val .null, .val .null, .val .null, .val .null, .val .null, .val .null, rv sv, iv (0 : Int32), iv (1 : Int32), uu, uu] [(.ref c8)])) (fun t k => st8 t k) ?_
  refine oALN (n := 239) X8 hx (hb hby own_d9_238) rfl rfl rfl ?_
  obtain ⟨_, _, ⟨T9, L9, k9, n9⟩, -, X9, ⟨Lc9, hQ9, l9, y9, z9⟩, st9⟩ := Jvm.LawKit.callS X8 hx (y := (⟨sAA, "requireNonEmpty", sAN⟩ : MethodName)) hown (mvT hZ (oW hw 64 rfl)) (mvT hZ (oW hw 65 rfl)) (mvT hZ (oW hw 39 rfl)) (mvT hZ (oW hw 66 rfl)) (by decide) (backOf (W := 0) (rmN0 l Z a0 hw [] c8 h8 n0 (Nat.le_trans Z0 E8.1) ) hZ (oW hw 66 rfl) (oW hw 39 rfl) (by decide) (by decide)) (g := (mkF m 239 #[rv a4, rv w5, .val .null, .val .null, .val .null, .val .null, .val .null, .val .null, rv sv, iv (0 : Int32), iv (1 : Int32), uu, uu] [.null, (.ref c8)])) rfl (by rw [hml]; rfl) (argsL := [(.ref c8), .null]) (rest := []) (lenOf own_pd7 rfl) rfl (by show 2 * 0 + _ ≤ _; exact Nat.le_of_eq rfl) (hb hby own_d9_239) (fun _ _ => ⟨rfl, e8, (by decide : ((0 + 0) + 2) + 0 ≤ _), (by decide : ((0 + 0) + (28 + 4)) + 0 ≤ _)⟩)
  dsimp only [Pt.U, Pt.locs, Pt.cells, Pt.slots] at X9 l9 y9 z9 st9 hQ9
  subst l9 y9 z9
  obtain ⟨rfl, Nq9, eq9⟩ := hQ9
  have N9 := Fr.app N1 Nq9
  refine ov (B := T9.setTop (mkF m 242 #[rv a4, rv w5, .val .null, .val .null, .val .null, .val .null, .val .null, .val .null, rv sv, iv (0 : Int32), iv (1 : Int32), uu, uu] [])) (fun t k => st9 t k) ?_
  obtain ⟨c10, T10, h10, k10, X10, e10, E10, hS10, hk10, hZ, hown, st10⟩ := ldcS X9 hx hZ hown (oW hw 72 rfl) wS eq9 hS8 hk8 (g := (mkF m 242 #[rv a4, rv w5, .val .null, .val .null, .val .null, .val .null, .val .null, .val .null, rv sv, iv (0 : Int32), iv (1 : Int32), uu, uu] [])) rfl (hb hby own_d9_242) (n := 16) (by decide) (by decide) (by decide) (by decide)
  refine ov (B := T10.setTop (mkF m 244 #[rv a4, rv w5, .val .null, .val .null, .val .null, .val .null, .val .null, .val .null, rv sv, iv (0 : Int32), iv (1 : Int32), uu, uu] [(.ref c10)])) (fun t k => st10 t k) ?_
  refine oALN (n := 245) X10 hx (hb hby own_d9_244) rfl rfl rfl ?_
  obtain ⟨_, _, ⟨T11, L11, k11, n11⟩, -, X11, ⟨Lc11, hQ11, l11, y11, z11⟩, st11⟩ := Jvm.LawKit.callS X10 hx (y := (⟨sAA, "requireNonEmpty", sAN⟩ : MethodName)) hown (mvT hZ (oW hw 64 rfl)) (mvT hZ (oW hw 65 rfl)) (mvT hZ (oW hw 39 rfl)) (mvT hZ (oW hw 66 rfl)) (by decide) (backOf (W := 0) (rmN0 l Z a0 hw [] c10 h10 n0 (Nat.le_trans (Nat.le_trans Z0 E8.1) E10.1) ) hZ (oW hw 66 rfl) (oW hw 39 rfl) (by decide) (by decide)) (g := (mkF m 245 #[rv a4, rv w5, .val .null, .val .null, .val .null, .val .null, .val .null, .val .null, rv sv, iv (0 : Int32), iv (1 : Int32), uu, uu] [.null, (.ref c10)])) rfl (by rw [hml]; rfl) (argsL := [(.ref c10), .null]) (rest := []) (lenOf own_pd7 rfl) rfl (by show 2 * 0 + _ ≤ _; exact Nat.le_of_eq rfl) (hb hby own_d9_245) (fun _ _ => ⟨rfl, e10, (by decide : ((((0 + 0) + 2) + 0) + 2) + 0 ≤ _), (by decide : ((((0 + 0) + (28 + 4)) + 0) + (16 + 4)) + 0 ≤ _)⟩)
  dsimp only [Pt.U, Pt.locs, Pt.cells, Pt.slots] at X11 l11 y11 z11 st11 hQ11
  subst l11 y11 z11
  obtain ⟨rfl, Nq11, eq11⟩ := hQ11
  have N11 := Fr.app N9 Nq11
  refine ov (B := T11.setTop (mkF m 248 #[rv a4, rv w5, .val .null, .val .null, .val .null, .val .null, .val .null, .val .null, rv sv, iv (0 : Int32), iv (1 : Int32), uu, uu] [])) (fun t k => st11 t k) ?_
  obtain ⟨c12, T12, h12, k12, X12, e12, E12, hS12, hk12, hZ, hown, st12⟩ := ldcS X11 hx hZ hown (oW hw 73 rfl) wS eq11 hS10 hk10 (g := (mkF m 248 #[rv a4, rv w5, .val .null, .val .null, .val .null, .val .null, .val .null, .val .null, rv sv, iv (0 : Int32), iv (1 : Int32), uu, uu] [])) rfl (hb hby own_d9_248) (n := 32) (by decide) (by decide) (by decide) (by decide)
  refine ov (B := T12.setTop (mkF m 250 #[rv a4, rv w5, .val .null, .val .null, .val .null, .val .null, .val .null, .val .null, rv sv, iv (0 : Int32), iv (1 : Int32), uu, uu] [(.ref c12)])) (fun t k => st12 t k) ?_
  refine oAL (n := 252) X12 hx (hb hby own_d9_250) rfl rfl rfl ?_
  obtain ⟨_, _, ⟨T13, L13, k13, n13⟩, -, X13, ⟨Lc13, hQ13, l13, y13, z13⟩, st13⟩ := Jvm.LawKit.callS X12 hx (y := (⟨sAA, "requireNonEmpty", sAN⟩ : MethodName)) hown (mvT hZ (oW hw 64 rfl)) (mvT hZ (oW hw 65 rfl)) (mvT hZ (oW hw 39 rfl)) (mvT hZ (oW hw 66 rfl)) (by decide) (backOf (W := 0) (rmN0 l Z a0 hw [] c12 h12 n0 (Nat.le_trans (Nat.le_trans (Nat.le_trans Z0 E8.1) E10.1) E12.1) ) hZ (oW hw 66 rfl) (oW hw 39 rfl) (by decide) (by decide)) (g := (mkF m 252 #[rv a4, rv w5, .val .null, .val .null, .val .null, .val .null, .val .null, .val .null, rv sv, iv (0 : Int32), iv (1 : Int32), uu, uu] [.null, (.ref c12)])) rfl (by rw [hml]; rfl) (argsL := [(.ref c12), .null]) (rest := []) (lenOf own_pd7 rfl) rfl (by show 2 * 0 + _ ≤ _; exact Nat.le_of_eq rfl) (hb hby own_d9_252) (fun _ _ => ⟨rfl, e12, (by decide : ((((((0 + 0) + 2) + 0) + 2) + 0) + 2) + 0 ≤ _), (by decide : ((((((0 + 0) + (28 + 4)) + 0) + (16 + 4)) + 0) + (32 + 4)) + 0 ≤ _)⟩)
  dsimp only [Pt.U, Pt.locs, Pt.cells, Pt.slots] at X13 l13 y13 z13 st13 hQ13
  subst l13 y13 z13
  obtain ⟨rfl, Nq13, eq13⟩ := hQ13
  have N13 := Fr.app N11 Nq13
  refine ov (B := T13.setTop (mkF m 255 #[rv a4, rv w5, .val .null, .val .null, .val .null, .val .null, .val .null, .val .null, rv sv, iv (0 : Int32), iv (1 : Int32), uu, uu] [])) (fun t k => st13 t k) ?_
  obtain ⟨c14, T14, h14, k14, X14, e14, E14, hS14, hk14, hZ, hown, st14⟩ := ldcS X13 hx hZ hown (oW hw 74 rfl) wS eq13 hS12 hk12 (g := (mkF m 255 #[rv a4, rv w5, .val .null, .val .null, .val .null, .val .null, .val .null, .val .null, rv sv, iv (0 : Int32), iv (1 : Int32), uu, uu] [])) rfl (hb hby own_d9_255) (n := 24) (by decide) (by decide) (by decide) (by decide)
  refine ov (B := T14.setTop (mkF m 257 #[rv a4, rv w5, .val .null, .val .null, .val .null, .val .null, .val .null, .val .null, rv sv, iv (0 : Int32), iv (1 : Int32), uu, uu] [(.ref c14)])) (fun t k => st14 t k) ?_
  refine oAL (n := 259) X14 hx (hb hby own_d9_257) rfl rfl rfl ?_
  obtain ⟨_, _, ⟨T15, L15, k15, n15⟩, -, X15, ⟨Lc15, hQ15, l15, y15, z15⟩, st15⟩ := Jvm.LawKit.callS X14 hx (y := (⟨sAA, "requireNonEmpty", sAN⟩ : MethodName)) hown (mvT hZ (oW hw 64 rfl)) (mvT hZ (oW hw 65 rfl)) (mvT hZ (oW hw 39 rfl)) (mvT hZ (oW hw 66 rfl)) (by decide) (backOf (W := 0) (rmN0 l Z a0 hw [] c14 h14 n0 (Nat.le_trans (Nat.le_trans (Nat.le_trans (Nat.le_trans Z0 E8.1) E10.1) E12.1) E14.1) ) hZ (oW hw 66 rfl) (oW hw 39 rfl) (by decide) (by decide)) (g := (mkF m 259 #[rv a4, rv w5, .val .null, .val .null, .val .null, .val .null, .val .null, .val .null, rv sv, iv (0 : Int32), iv (1 : Int32), uu, uu] [.null, (.ref c14)])) rfl (by rw [hml]; rfl) (argsL := [(.ref c14), .null]) (rest := []) (lenOf own_pd7 rfl) rfl (by show 2 * 0 + _ ≤ _; exact Nat.le_of_eq rfl) (hb hby own_d9_259) (fun _ _ => ⟨rfl, e14, (by decide : ((((((((0 + 0) + 2) + 0) + 2) + 0) + 2) + 0) + 2) + 0 ≤ _), (by decide : ((((((((0 + 0) + (28 + 4)) + 0) + (16 + 4)) + 0) + (32 + 4)) + 0) + (24 + 4)) + 0 ≤ _)⟩)
  dsimp only [Pt.U, Pt.locs, Pt.cells, Pt.slots] at X15 l15 y15 z15 st15 hQ15
  subst l15 y15 z15
  obtain ⟨rfl, Nq15, eq15⟩ := hQ15
  have N15 := Fr.app N13 Nq15
  refine ov (B := T15.setTop (mkF m 262 #[rv a4, rv w5, .val .null, .val .null, .val .null, .val .null, .val .null, .val .null, rv sv, iv (0 : Int32), iv (1 : Int32), uu, uu] [])) (fun t k => st15 t k) ?_
  obtain ⟨c16, T16, h16, k16, X16, e16, E16, hS16, hk16, hZ, hown, st16⟩ := ldcS X15 hx hZ hown (oW hw 75 rfl) wS eq15 hS14 hk14 (g := (mkF m 262 #[rv a4, rv w5, .val .null, .val .null, .val .null, .val .null, .val .null, .val .null, rv sv, iv (0 : Int32), iv (1 : Int32), uu, uu] [])) rfl (hb hby own_d9_262) (n := 64) (by decide) (by decide) (by decide) (by decide)
  refine ov (B := T16.setTop (mkF m 264 #[rv a4, rv w5, .val .null, .val .null, .val .null, .val .null, .val .null, .val .null, rv sv, iv (0 : Int32), iv (1 : Int32), uu, uu] [(.ref c16)])) (fun t k => st16 t k) ?_
  refine oAL (n := 266) X16 hx (hb hby own_d9_264) rfl rfl rfl ?_
  obtain ⟨_, _, ⟨T17, L17, k17, n17⟩, -, X17, ⟨Lc17, hQ17, l17, y17, z17⟩, st17⟩ := Jvm.LawKit.callS X16 hx (y := (⟨sAA, "requireNonEmpty", sAN⟩ : MethodName)) hown (mvT hZ (oW hw 64 rfl)) (mvT hZ (oW hw 65 rfl)) (mvT hZ (oW hw 39 rfl)) (mvT hZ (oW hw 66 rfl)) (by decide) (backOf (W := 0) (rmN0 l Z a0 hw [] c16 h16 n0 (Nat.le_trans (Nat.le_trans (Nat.le_trans (Nat.le_trans (Nat.le_trans Z0 E8.1) E10.1) E12.1) E14.1) E16.1) ) hZ (oW hw 66 rfl) (oW hw 39 rfl) (by decide) (by decide)) (g := (mkF m 266 #[rv a4, rv w5, .val .null, .val .null, .val .null, .val .null, .val .null, .val .null, rv sv, iv (0 : Int32), iv (1 : Int32), uu, uu] [.null, (.ref c16)])) rfl (by rw [hml]; rfl) (argsL := [(.ref c16), .null]) (rest := []) (lenOf own_pd7 rfl) rfl (by show 2 * 0 + _ ≤ _; exact Nat.le_of_eq rfl) (hb hby own_d9_266) (fun _ _ => ⟨rfl, e16, (by decide : ((((((((((0 + 0) + 2) + 0) + 2) + 0) + 2) + 0) + 2) + 0) + 2) + 0 ≤ _), (by decide : ((((((((((0 + 0) + (28 + 4)) + 0) + (16 + 4)) + 0) + (32 + 4)) + 0) + (24 + 4)) + 0) + (64 + 4)) + 0 ≤ _)⟩)
  dsimp only [Pt.U, Pt.locs, Pt.cells, Pt.slots] at X17 l17 y17 z17 st17 hQ17
  subst l17 y17 z17
  obtain ⟨rfl, Nq17, eq17⟩ := hQ17
  have N17 := Fr.app N15 Nq17
  refine ov (B := T17.setTop (mkF m 269 #[rv a4, rv w5, .val .null, .val .null, .val .null, .val .null, .val .null, .val .null, rv sv, iv (0 : Int32), iv (1 : Int32), uu, uu] [])) (fun t k => st17 t k) ?_
  obtain ⟨c18, T18, h18, k18, X18, e18, E18, hS18, hk18, hZ, hown, st18⟩ := ldcS X17 hx hZ hown (oW hw 76 rfl) wS eq17 hS16 hk16 (g := (mkF m 269 #[rv a4, rv w5, .val .null, .val .null, .val .null, .val .null, .val .null, .val .null, rv sv, iv (0 : Int32), iv (1 : Int32), uu, uu] [])) rfl (hb hby own_d9_269) (n := 28) (by decide) (by decide) (by decide) (by decide)
  refine ov (B := T18.setTop (mkF m 271 #[rv a4, rv w5, .val .null, .val .null, .val .null, .val .null, .val .null, .val .null, rv sv, iv (0 : Int32), iv (1 : Int32), uu, uu] [(.ref c18)])) (fun t k => st18 t k) ?_
  refine oAL (n := 273) X18 hx (hb hby own_d9_271) rfl rfl rfl ?_
  obtain ⟨_, _, ⟨T19, L19, k19, n19⟩, -, X19, ⟨Lc19, hQ19, l19, y19, z19⟩, st19⟩ := Jvm.LawKit.callS X18 hx (y := (⟨sAA, "requireNonEmpty", sAN⟩ : MethodName)) hown (mvT hZ (oW hw 64 rfl)) (mvT hZ (oW hw 65 rfl)) (mvT hZ (oW hw 39 rfl)) (mvT hZ (oW hw 66 rfl)) (by decide) (backOf (W := 0) (rmN1 l Z a0 hw [] c18 sv t_sv k_sv cs_sv h18 n0 (Nat.le_trans (Nat.le_trans (Nat.le_trans (Nat.le_trans (Nat.le_trans (Nat.le_trans Z0 E8.1) E10.1) E12.1) E14.1) E16.1) E18.1) ((((((SE_sv.ext E8).ext E10).ext E12).ext E14).ext E16).ext E18) ((((((SC_sv.ext E8).ext E10).ext E12).ext E14).ext E16).ext E18) ((((((SV_sv.ext E8).ext E10).ext E12).ext E14).ext E16).ext E18) ((((((SA_sv.ext E8).ext E10).ext E12).ext E14).ext E16).ext E18) Sp_sv Sl_sv) hZ (oW hw 66 rfl) (oW hw 39 rfl) (by decide) (by decide)) (g := (mkF m 273 #[rv a4, rv w5, .val .null, .val .null, .val .null, .val .null, .val .null, .val .null, rv sv, iv (0 : Int32), iv (1 : Int32), uu, uu] [(.ref sv), (.ref c18)])) rfl (by rw [hml]; rfl) (argsL := [(.ref c18), (.ref sv)]) (rest := []) (lenOf own_pd7 rfl) rfl (by show 2 * 0 + _ ≤ _; exact Nat.le_of_eq rfl) (hb hby own_d9_273) (fun _ _ => ⟨rfl, e18, (by decide : ((((((((((((0 + 0) + 2) + 0) + 2) + 0) + 2) + 0) + 2) + 0) + 2) + 0) + 2) + 0 ≤ _), (by decide : ((((((((((((0 + 0) + (28 + 4)) + 0) + (16 + 4)) + 0) + (32 + 4)) + 0) + (24 + 4)) + 0) + (64 + 4)) + 0) + (28 + 4)) + 0 ≤ _)⟩)
  dsimp only [Pt.U, Pt.locs, Pt.cells, Pt.slots] at X19 l19 y19 z19 st19 hQ19
  subst l19 y19 z19
  obtain ⟨rfl, Nq19, eq19⟩ := hQ19
  have N19 := Fr.app N17 Nq19
  refine ov (B := T19.setTop (mkF m 276 #[rv a4, rv w5, .val .null, .val .null, .val .null, .val .null, .val .null, .val .null, rv sv, iv (0 : Int32), iv (1 : Int32), uu, uu] [])) (fun t k => st19 t k) ?_
  refine oAL (n := 278) X19 hx (hb hby own_d9_276) rfl rfl rfl ?_
  refine ov (B := T19.setTop (mkF m 329 #[rv a4, rv w5, .val .null, .val .null, .val .null, .val .null, .val .null, .val .null, rv sv, iv (0 : Int32), iv (1 : Int32), uu, uu] [])) (fun t k => XS.ifnullYes X19.here hx rfl (pc0 := 278) (pc' := 329) rfl (hb hby own_d9_278) rfl (by decide) (by decide) k) ?_
  refine oALN (n := 330) X19 hx (hb hby own_d9_329) rfl rfl rfl ?_
  refine oALN (n := 331) X19 hx (hb hby own_d9_330) rfl rfl rfl ?_
  obtain ⟨T20, h20, X20, e20, W20, st20⟩ := putF X19 hx hZ hown (host := "") (Or.inl (oW hw 77 rfl)) Via.refl eq19 ((((((F40.ext E8).ext E10).ext E12).ext E14).ext E16).ext E18) ((((((E4.ext E8).ext E10).ext E12).ext E14).ext E16).ext E18) (Or.inr ⟨(oW hw 78 rfl), rfl, hnm⟩) (oW hw 42 rfl) (ty := (.object sAC)) (by decide) rfl rfl (g := (mkF m 331 #[rv a4, rv w5, .val .null, .val .null, .val .null, .val .null, .val .null, .val .null, rv sv, iv (0 : Int32), iv (1 : Int32), uu, uu] [(.ref w5), (.ref a4)])) rfl rfl (hb hby own_d9_331)
  have Fw20 := ((((((F40.ext E8).ext E10).ext E12).ext E14).ext E16).ext E18).same W20
  have N20 := Fr.snoc X20 N19 g_a4
  refine ov (B := T20.setTop (mkF m 334 #[rv a4, rv w5, .val .null, .val .null, .val .null, .val .null, .val .null, .val .null, rv sv, iv (0 : Int32), iv (1 : Int32), uu, uu] [])) (fun t k => st20 t k) ?_
  refine oALN (n := 335) X20 hx (hb hby own_d9_334) rfl rfl rfl ?_
  refine oALN (n := 336) X20 hx (hb hby own_d9_335) rfl rfl rfl ?_
  obtain ⟨T21, h21, X21, e21, W21, st21⟩ := putF X20 hx hZ hown (host := "") (Or.inl (oW hw 79 rfl)) Via.refl e20 (((((((F41.ext E8).ext E10).ext E12).ext E14).ext E16).ext E18).other W20 (Or.inr (slot_ne (Or.inr (oW hw 80 rfl)) (Or.inr (oW hw 78 rfl)) (by decide +kernel) (t := (.object sAB)) (t' := (.object sAC)) (by decide +kernel) (by decide +kernel)))) (((((((E4.ext E8).ext E10).ext E12).ext E14).ext E16).ext E18).wr W20) (Or.inr ⟨(oW hw 80 rfl), rfl, hnm⟩) (oW hw 42 rfl) (ty := (.object sAB)) (by decide) rfl rfl (g := (mkF m 336 #[rv a4, rv w5, .val .null, .val .null, .val .null, .val .null, .val .null, .val .null, rv sv, iv (0 : Int32), iv (1 : Int32), uu, uu] [.null, (.ref a4)])) rfl rfl (hb hby own_d9_336)
  have Fw21 := (((((((F41.ext E8).ext E10).ext E12).ext E14).ext E16).ext E18).other W20 (Or.inr (slot_ne (Or.inr (oW hw 80 rfl)) (Or.inr (oW hw 78 rfl)) (by decide +kernel) (t := (.object sAB)) (t' := (.object sAC)) (by decide +kernel) (by decide +kernel)))).same W21
  have N21 := Fr.snoc X21 N20 g_a4
  refine ov (B := T21.setTop (mkF m 339 #[rv a4, rv w5, .val .null, .val .null, .val .null, .val .null, .val .null, .val .null, rv sv, iv (0 : Int32), iv (1 : Int32), uu, uu] [])) (fun t k => st21 t k) ?_
  refine oALN (n := 340) X21 hx (hb hby own_d9_339) rfl rfl rfl ?_
  refine oALN (n := 341) X21 hx (hb hby own_d9_340) rfl rfl rfl ?_
  obtain ⟨T22, h22, X22, e22, W22, st22⟩ := putF X21 hx hZ hown (host := "") (Or.inl (oW hw 81 rfl)) Via.refl e21 ((((((((F42.ext E8).ext E10).ext E12).ext E14).ext E16).ext E18).other W20 (Or.inr (slot_ne (Or.inr (oW hw 82 rfl)) (Or.inr (oW hw 78 rfl)) (by decide +kernel) (t := (.object sAB)) (t' := (.object sAC)) (by decide +kernel) (by decide +kernel)))).other W21 (Or.inr (slot_ne (Or.inr (oW hw 82 rfl)) (Or.inr (oW hw 80 rfl)) (by decide +kernel) (t := (.object sAB)) (t' := (.object sAB)) (by decide +kernel) (by decide +kernel)))) ((((((((E4.ext E8).ext E10).ext E12).ext E14).ext E16).ext E18).wr W20).wr W21) (Or.inr ⟨(oW hw 82 rfl), rfl, hnm⟩) (oW hw 42 rfl) (ty := (.object sAB)) (by decide) rfl rfl (g := (mkF m 341 #[rv a4, rv w5, .val .null, .val .null, .val .null, .val .null, .val .null, .val .null, rv sv, iv (0 : Int32), iv (1 : Int32), uu, uu] [.null, (.ref a4)])) rfl rfl (hb hby own_d9_341)
  have Fw22 := ((((((((F42.ext E8).ext E10).ext E12).ext E14).ext E16).ext E18).other W20 (Or.inr (slot_ne (Or.inr (oW hw 82 rfl)) (Or.inr (oW hw 78 rfl)) (by decide +kernel) (t := (.object sAB)) (t' := (.object sAC)) (by decide +kernel) (by decide +kernel)))).other W21 (Or.inr (slot_ne (Or.inr (oW hw 82 rfl)) (Or.inr (oW hw 80 rfl)) (by decide +kernel) (t := (.object sAB)) (t' := (.object sAB)) (by decide +kernel) (by decide +kernel)))).same W22
  have N22 := Fr.snoc X22 N21 g_a4
  refine ov (B := T22.setTop (mkF m 344 #[rv a4, rv w5, .val .null, .val .null, .val .null, .val .null, .val .null, .val .null, rv sv, iv (0 : Int32), iv (1 : Int32), uu, uu] [])) (fun t k => st22 t k) ?_
  refine oALN (n := 345) X22 hx (hb hby own_d9_344) rfl rfl rfl ?_
  refine oAL (n := 347) X22 hx (hb hby own_d9_345) rfl rfl rfl ?_
  obtain ⟨T23, h23, X23, e23, W23, st23⟩ := putF X22 hx hZ hown (host := "") (Or.inl (oW hw 83 rfl)) Via.refl e22 (((((((((F43.ext E8).ext E10).ext E12).ext E14).ext E16).ext E18).other W20 (Or.inr (slot_ne (Or.inr (oW hw 84 rfl)) (Or.inr (oW hw 78 rfl)) (by decide +kernel) (t := (.object sAB)) (t' := (.object sAC)) (by decide +kernel) (by decide +kernel)))).other W21 (Or.inr (slot_ne (Or.inr (oW hw 84 rfl)) (Or.inr (oW hw 80 rfl)) (by decide +kernel) (t := (.object sAB)) (t' := (.object sAB)) (by decide +kernel) (by decide +kernel)))).other W22 (Or.inr (slot_ne (Or.inr (oW hw 84 rfl)) (Or.inr (oW hw 82 rfl)) (by decide +kernel) (t := (.object sAB)) (t' := (.object sAB)) (by decide +kernel) (by decide +kernel)))) (((((((((E4.ext E8).ext E10).ext E12).ext E14).ext E16).ext E18).wr W20).wr W21).wr W22) (Or.inr ⟨(oW hw 84 rfl), rfl, hnm⟩) (oW hw 42 rfl) (ty := (.object sAB)) (by decide) rfl rfl (g := (mkF m 347 #[rv a4, rv w5, .val .null, .val .null, .val .null, .val .null, .val .null, .val .null, rv sv, iv (0 : Int32), iv (1 : Int32), uu, uu] [.null, (.ref a4)])) rfl rfl (hb hby own_d9_347)
  have Fw23 := (((((((((F43.ext E8).ext E10).ext E12).ext E14).ext E16).ext E18).other W20 (Or.inr (slot_ne (Or.inr (oW hw 84 rfl)) (Or.inr (oW hw 78 rfl)) (by decide +kernel) (t := (.object sAB)) (t' := (.object sAC)) (by decide +kernel) (by decide +kernel)))).other W21 (Or.inr (slot_ne (Or.inr (oW hw 84 rfl)) (Or.inr (oW hw 80 rfl)) (by decide +kernel) (t := (.object sAB)) (t' := (.object sAB)) (by decide +kernel) (by decide +kernel)))).other W22 (Or.inr (slot_ne (Or.inr (oW hw 84 rfl)) (Or.inr (oW hw 82 rfl)) (by decide +kernel) (t := (.object sAB)) (t' := (.object sAB)) (by decide +kernel) (by decide +kernel)))).same W23
  have N23 := Fr.snoc X23 N22 g_a4
  refine ov (B := T23.setTop (mkF m 350 #[rv a4, rv w5, .val .null, .val .null, .val .null, .val .null, .val .null, .val .null, rv sv, iv (0 : Int32), iv (1 : Int32), uu, uu] [])) (fun t k => st23 t k) ?_
  refine oALN (n := 351) X23 hx (hb hby own_d9_350) rfl rfl rfl ?_
  refine oAL (n := 353) X23 hx (hb hby own_d9_351) rfl rfl rfl ?_
  obtain ⟨T24, h24, X24, e24, W24, st24⟩ := putF X23 hx hZ hown (host := "") (Or.inl (oW hw 85 rfl)) Via.refl e23 ((((((((((F44.ext E8).ext E10).ext E12).ext E14).ext E16).ext E18).other W20 (Or.inr (slot_ne (Or.inr (oW hw 86 rfl)) (Or.inr (oW hw 78 rfl)) (by decide +kernel) (t := (.object sAB)) (t' := (.object sAC)) (by decide +kernel) (by decide +kernel)))).other W21 (Or.inr (slot_ne (Or.inr (oW hw 86 rfl)) (Or.inr (oW hw 80 rfl)) (by decide +kernel) (t := (.object sAB)) (t' := (.object sAB)) (by decide +kernel) (by decide +kernel)))).other W22 (Or.inr (slot_ne (Or.inr (oW hw 86 rfl)) (Or.inr (oW hw 82 rfl)) (by decide +kernel) (t := (.object sAB)) (t' := (.object sAB)) (by decide +kernel) (by decide +kernel)))).other W23 (Or.inr (slot_ne (Or.inr (oW hw 86 rfl)) (Or.inr (oW hw 84 rfl)) (by decide +kernel) (t := (.object sAB)) (t' := (.object sAB)) (by decide +kernel) (by decide +kernel)))) ((((((((((E4.ext E8).ext E10).ext E12).ext E14).ext E16).ext E18).wr W20).wr W21).wr W22).wr W23) (Or.inr ⟨(oW hw 86 rfl), rfl, hnm⟩) (oW hw 42 rfl) (ty := (.object sAB)) (by decide) rfl rfl (g := (mkF m 353 #[rv a4, rv w5, .val .null, .val .null, .val .null, .val .null, .val .null, .val .null, rv sv, iv (0 : Int32), iv (1 : Int32), uu, uu] [.null, (.ref a4)])) rfl rfl (hb hby own_d9_353)
  have Fw24 := ((((((((((F44.ext E8).ext E10).ext E12).ext E14).ext E16).ext E18).other W20 (Or.inr (slot_ne (Or.inr (oW hw 86 rfl)) (Or.inr (oW hw 78 rfl)) (by decide +kernel) (t := (.object sAB)) (t' := (.object sAC)) (by decide +kernel) (by decide +kernel)))).other W21 (Or.inr (slot_ne (Or.inr (oW hw 86 rfl)) (Or.inr (oW hw 80 rfl)) (by decide +kernel) (t := (.object sAB)) (t' := (.object sAB)) (by decide +kernel) (by decide +kernel)))).other W22 (Or.inr (slot_ne (Or.inr (oW hw 86 rfl)) (Or.inr (oW hw 82 rfl)) (by decide +kernel) (t := (.object sAB)) (t' := (.object sAB)) (by decide +kernel) (by decide +kernel)))).other W23 (Or.inr (slot_ne (Or.inr (oW hw 86 rfl)) (Or.inr (oW hw 84 rfl)) (by decide +kernel) (t := (.object sAB)) (t' := (.object sAB)) (by decide +kernel) (by decide +kernel)))).same W24
  have N24 := Fr.snoc X24 N23 g_a4
  refine ov (B := T24.setTop (mkF m 356 #[rv a4, rv w5, .val .null, .val .null, .val .null, .val .null, .val .null, .val .null, rv sv, iv (0 : Int32), iv (1 : Int32), uu, uu] [])) (fun t k => st24 t k) ?_
  refine oALN (n := 357) X24 hx (hb hby own_d9_356) rfl rfl rfl ?_
  refine oAL (n := 359) X24 hx (hb hby own_d9_357) rfl rfl rfl ?_
  obtain ⟨T25, h25, X25, e25, W25, st25⟩ := putF X24 hx hZ hown (host := "") (Or.inl (oW hw 87 rfl)) Via.refl e24 (((((((((((F45.ext E8).ext E10).ext E12).ext E14).ext E16).ext E18).other W20 (Or.inr (slot_ne (Or.inr (oW hw 88 rfl)) (Or.inr (oW hw 78 rfl)) (by decide +kernel) (t := (.object sAB)) (t' := (.object sAC)) (by decide +kernel) (by decide +kernel)))).other W21 (Or.inr (slot_ne (Or.inr (oW hw 88 rfl)) (Or.inr (oW hw 80 rfl)) (by decide +kernel) (t := (.object sAB)) (t' := (.object sAB)) (by decide +kernel) (by decide +kernel)))).other W22 (Or.inr (slot_ne (Or.inr (oW hw 88 rfl)) (Or.inr (oW hw 82 rfl)) (by decide +kernel) (t := (.object sAB)) (t' := (.object sAB)) (by decide +kernel) (by decide +kernel)))).other W23 (Or.inr (slot_ne (Or.inr (oW hw 88 rfl)) (Or.inr (oW hw 84 rfl)) (by decide +kernel) (t := (.object sAB)) (t' := (.object sAB)) (by decide +kernel) (by decide +kernel)))).other W24 (Or.inr (slot_ne (Or.inr (oW hw 88 rfl)) (Or.inr (oW hw 86 rfl)) (by decide +kernel) (t := (.object sAB)) (t' := (.object sAB)) (by decide +kernel) (by decide +kernel)))) (((((((((((E4.ext E8).ext E10).ext E12).ext E14).ext E16).ext E18).wr W20).wr W21).wr W22).wr W23).wr W24) (Or.inr ⟨(oW hw 88 rfl), rfl, hnm⟩) (oW hw 42 rfl) (ty := (.object sAB)) (by decide) rfl rfl (g := (mkF m 359 #[rv a4, rv w5, .val .null, .val .null, .val .null, .val .null, .val .null, .val .null, rv sv, iv (0 : Int32), iv (1 : Int32), uu, uu] [.null, (.ref a4)])) rfl rfl (hb hby own_d9_359)
  have Fw25 := (((((((((((F45.ext E8).ext E10).ext E12).ext E14).ext E16).ext E18).other W20 (Or.inr (slot_ne (Or.inr (oW hw 88 rfl)) (Or.inr (oW hw 78 rfl)) (by decide +kernel) (t := (.object sAB)) (t' := (.object sAC)) (by decide +kernel) (by decide +kernel)))).other W21 (Or.inr (slot_ne (Or.inr (oW hw 88 rfl)) (Or.inr (oW hw 80 rfl)) (by decide +kernel) (t := (.object sAB)) (t' := (.object sAB)) (by decide +kernel) (by decide +kernel)))).other W22 (Or.inr (slot_ne (Or.inr (oW hw 88 rfl)) (Or.inr (oW hw 82 rfl)) (by decide +kernel) (t := (.object sAB)) (t' := (.object sAB)) (by decide +kernel) (by decide +kernel)))).other W23 (Or.inr (slot_ne (Or.inr (oW hw 88 rfl)) (Or.inr (oW hw 84 rfl)) (by decide +kernel) (t := (.object sAB)) (t' := (.object sAB)) (by decide +kernel) (by decide +kernel)))).other W24 (Or.inr (slot_ne (Or.inr (oW hw 88 rfl)) (Or.inr (oW hw 86 rfl)) (by decide +kernel) (t := (.object sAB)) (t' := (.object sAB)) (by decide +kernel) (by decide +kernel)))).same W25
  have N25 := Fr.snoc X25 N24 g_a4
  refine ov (B := T25.setTop (mkF m 362 #[rv a4, rv w5, .val .null, .val .null, .val .null, .val .null, .val .null, .val .null, rv sv, iv (0 : Int32), iv (1 : Int32), uu, uu] [])) (fun t k => st25 t k) ?_
  refine oALN (n := 363) X25 hx (hb hby own_d9_362) rfl rfl rfl ?_
  refine oAL (n := 365) X25 hx (hb hby own_d9_363) rfl rfl rfl ?_
  obtain ⟨T26, h26, X26, e26, W26, st26⟩ := putF X25 hx hZ hown (host := "") (Or.inl (oW hw 89 rfl)) Via.refl e25 ((((((((((((F46.ext E8).ext E10).ext E12).ext E14).ext E16).ext E18).other W20 (Or.inr (slot_ne (Or.inr (oW hw 90 rfl)) (Or.inr (oW hw 78 rfl)) (by decide +kernel) (t := (.object "java/util/Set")) (t' := (.object sAC)) (by decide +kernel) (by decide +kernel)))).other W21 (Or.inr (slot_ne (Or.inr (oW hw 90 rfl)) (Or.inr (oW hw 80 rfl)) (by decide +kernel) (t := (.object "java/util/Set")) (t' := (.object sAB)) (by decide +kernel) (by decide +kernel)))).other W22 (Or.inr (slot_ne (Or.inr (oW hw 90 rfl)) (Or.inr (oW hw 82 rfl)) (by decide +kernel) (t := (.object "java/util/Set")) (t' := (.object sAB)) (by decide +kernel) (by decide +kernel)))).other W23 (Or.inr (slot_ne (Or.inr (oW hw 90 rfl)) (Or.inr (oW hw 84 rfl)) (by decide +kernel) (t := (.object "java/util/Set")) (t' := (.object sAB)) (by decide +kernel) (by decide +kernel)))).other W24 (Or.inr (slot_ne (Or.inr (oW hw 90 rfl)) (Or.inr (oW hw 86 rfl)) (by decide +kernel) (t := (.object "java/util/Set")) (t' := (.object sAB)) (by decide +kernel) (by decide +kernel)))).other W25 (Or.inr (slot_ne (Or.inr (oW hw 90 rfl)) (Or.inr (oW hw 88 rfl)) (by decide +kernel) (t := (.object "java/util/Set")) (t' := (.object sAB)) (by decide +kernel) (by decide +kernel)))) ((((((((((((E4.ext E8).ext E10).ext E12).ext E14).ext E16).ext E18).wr W20).wr W21).wr W22).wr W23).wr W24).wr W25) (Or.inr ⟨(oW hw 90 rfl), rfl, hnm⟩) (oW hw 42 rfl) (ty := (.object "java/util/Set")) (by decide) rfl rfl (g := (mkF m 365 #[rv a4, rv w5, .val .null, .val .null, .val .null, .val .null, .val .null, .val .null, rv sv, iv (0 : Int32), iv (1 : Int32), uu, uu] [.null, (.ref a4)])) rfl rfl (hb hby own_d9_365)
  have Fw26 := ((((((((((((F46.ext E8).ext E10).ext E12).ext E14).ext E16).ext E18).other W20 (Or.inr (slot_ne (Or.inr (oW hw 90 rfl)) (Or.inr (oW hw 78 rfl)) (by decide +kernel) (t := (.object "java/util/Set")) (t' := (.object sAC)) (by decide +kernel) (by decide +kernel)))).other W21 (Or.inr (slot_ne (Or.inr (oW hw 90 rfl)) (Or.inr (oW hw 80 rfl)) (by decide +kernel) (t := (.object "java/util/Set")) (t' := (.object sAB)) (by decide +kernel) (by decide +kernel)))).other W22 (Or.inr (slot_ne (Or.inr (oW hw 90 rfl)) (Or.inr (oW hw 82 rfl)) (by decide +kernel) (t := (.object "java/util/Set")) (t' := (.object sAB)) (by decide +kernel) (by decide +kernel)))).other W23 (Or.inr (slot_ne (Or.inr (oW hw 90 rfl)) (Or.inr (oW hw 84 rfl)) (by decide +kernel) (t := (.object "java/util/Set")) (t' := (.object sAB)) (by decide +kernel) (by decide +kernel)))).other W24 (Or.inr (slot_ne (Or.inr (oW hw 90 rfl)) (Or.inr (oW hw 86 rfl)) (by decide +kernel) (t := (.object "java/util/Set")) (t' := (.object sAB)) (by decide +kernel) (by decide +kernel)))).other W25 (Or.inr (slot_ne (Or.inr (oW hw 90 rfl)) (Or.inr (oW hw 88 rfl)) (by decide +kernel) (t := (.object "java/util/Set")) (t' := (.object sAB)) (by decide +kernel) (by decide +kernel)))).same W26
  have N26 := Fr.snoc X26 N25 g_a4
  refine ov (B := T26.setTop (mkF m 368 #[rv a4, rv w5, .val .null, .val .null, .val .null, .val .null, .val .null, .val .null, rv sv, iv (0 : Int32), iv (1 : Int32), uu, uu] [])) (fun t k => st26 t k) ?_
  refine oALN (n := 369) X26 hx (hb hby own_d9_368) rfl rfl rfl ?_
  refine oAL (n := 371) X26 hx (hb hby own_d9_369) rfl rfl rfl ?_
  obtain ⟨T27, h27, X27, e27, W27, st27⟩ := putF X26 hx hZ hown (host := "") (Or.inl (oW hw 91 rfl)) Via.refl e26 (((((((((((((F47.ext E8).ext E10).ext E12).ext E14).ext E16).ext E18).other W20 (Or.inr (slot_ne (Or.inr (oW hw 92 rfl)) (Or.inr (oW hw 78 rfl)) (by decide +kernel) (t := (.object sAB)) (t' := (.object sAC)) (by decide +kernel) (by decide +kernel)))).other W21 (Or.inr (slot_ne (Or.inr (oW hw 92 rfl)) (Or.inr (oW hw 80 rfl)) (by decide +kernel) (t := (.object sAB)) (t' := (.object sAB)) (by decide +kernel) (by decide +kernel)))).other W22 (Or.inr (slot_ne (Or.inr (oW hw 92 rfl)) (Or.inr (oW hw 82 rfl)) (by decide +kernel) (t := (.object sAB)) (t' := (.object sAB)) (by decide +kernel) (by decide +kernel)))).other W23 (Or.inr (slot_ne (Or.inr (oW hw 92 rfl)) (Or.inr (oW hw 84 rfl)) (by decide +kernel) (t := (.object sAB)) (t' := (.object sAB)) (by decide +kernel) (by decide +kernel)))).other W24 (Or.inr (slot_ne (Or.inr (oW hw 92 rfl)) (Or.inr (oW hw 86 rfl)) (by decide +kernel) (t := (.object sAB)) (t' := (.object sAB)) (by decide +kernel) (by decide +kernel)))).other W25 (Or.inr (slot_ne (Or.inr (oW hw 92 rfl)) (Or.inr (oW hw 88 rfl)) (by decide +kernel) (t := (.object sAB)) (t' := (.object sAB)) (by decide +kernel) (by decide +kernel)))).other W26 (Or.inr (slot_ne (Or.inr (oW hw 92 rfl)) (Or.inr (oW hw 90 rfl)) (by decide +kernel) (t := (.object sAB)) (t' := (.object "java/util/Set")) (by decide +kernel) (by decide +kernel)))) (((((((((((((E4.ext E8).ext E10).ext E12).ext E14).ext E16).ext E18).wr W20).wr W21).wr W22).wr W23).wr W24).wr W25).wr W26) (Or.inr ⟨(oW hw 92 rfl), rfl, hnm⟩) (oW hw 42 rfl) (ty := (.object sAB)) (by decide) rfl rfl (g := (mkF m 371 #[rv a4, rv w5, .val .null, .val .null, .val .null, .val .null, .val .null, .val .null, rv sv, iv (0 : Int32), iv (1 : Int32), uu, uu] [(.ref sv), (.ref a4)])) rfl rfl (hb hby own_d9_371)
  have Fw27 := (((((((((((((F47.ext E8).ext E10).ext E12).ext E14).ext E16).ext E18).other W20 (Or.inr (slot_ne (Or.inr (oW hw 92 rfl)) (Or.inr (oW hw 78 rfl)) (by decide +kernel) (t := (.object sAB)) (t' := (.object sAC)) (by decide +kernel) (by decide +kernel)))).other W21 (Or.inr (slot_ne (Or.inr (oW hw 92 rfl)) (Or.inr (oW hw 80 rfl)) (by decide +kernel) (t := (.object sAB)) (t' := (.object sAB)) (by decide +kernel) (by decide +kernel)))).other W22 (Or.inr (slot_ne (Or.inr (oW hw 92 rfl)) (Or.inr (oW hw 82 rfl)) (by decide +kernel) (t := (.object sAB)) (t' := (.object sAB)) (by decide +kernel) (by decide +kernel)))).other W23 (Or.inr (slot_ne (Or.inr (oW hw 92 rfl)) (Or.inr (oW hw 84 rfl)) (by decide +kernel) (t := (.object sAB)) (t' := (.object sAB)) (by decide +kernel) (by decide +kernel)))).other W24 (Or.inr (slot_ne (Or.inr (oW hw 92 rfl)) (Or.inr (oW hw 86 rfl)) (by decide +kernel) (t := (.object sAB)) (t' := (.object sAB)) (by decide +kernel) (by decide +kernel)))).other W25 (Or.inr (slot_ne (Or.inr (oW hw 92 rfl)) (Or.inr (oW hw 88 rfl)) (by decide +kernel) (t := (.object sAB)) (t' := (.object sAB)) (by decide +kernel) (by decide +kernel)))).other W26 (Or.inr (slot_ne (Or.inr (oW hw 92 rfl)) (Or.inr (oW hw 90 rfl)) (by decide +kernel) (t := (.object sAB)) (t' := (.object "java/util/Set")) (by decide +kernel) (by decide +kernel)))).same W27
  have N27 := Fr.snoc X27 N26 g_a4
  refine ov (B := T27.setTop (mkF m 374 #[rv a4, rv w5, .val .null, .val .null, .val .null, .val .null, .val .null, .val .null, rv sv, iv (0 : Int32), iv (1 : Int32), uu, uu] [])) (fun t k => st27 t k) ?_
  refine own_leafVW X27 hx hlk hS18 (by rw [e27]; exact (Nat.le_trans (Nat.le_trans (Nat.le_trans (Nat.le_trans (Nat.le_trans (Nat.le_trans (Nat.le_trans (Nat.le_trans hk18 (Keep.of_wr W20).1) (Keep.of_wr W21).1) (Keep.of_wr W22).1) (Keep.of_wr W23).1) (Keep.of_wr W24).1) (Keep.of_wr W25).1) (Keep.of_wr W26).1) (Keep.of_wr W27).1)) Bd.returns (hb hby own_d9_374) (by decide) (by decide) ?_
  show QQ5nnnnnns Z a4 w5 sv w0 w1 w2 w3 w4 u0 u1 u2 u3 u4 u5 u6 u7 t_sv k_sv cs_sv h0 n0 _ T27.heap _
  rw [e27]
  refine ⟨?_, N27, (((((((((((((((Keep.refl h0 [a4]).ext E8).ext E10).ext E12).ext E14).ext E16).ext E18).wr W20 (Or.inl (List.mem_of_getElem? (i := 0) rfl))).wr W21 (Or.inl (List.mem_of_getElem? (i := 0) rfl))).wr W22 (Or.inl (List.mem_of_getElem? (i := 0) rfl))).wr W23 (Or.inl (List.mem_of_getElem? (i := 0) rfl))).wr W24 (Or.inl (List.mem_of_getElem? (i := 0) rfl))).wr W25 (Or.inl (List.mem_of_getElem? (i := 0) rfl))).wr W26 (Or.inl (List.mem_of_getElem? (i := 0) rfl))).wr W27 (Or.inl (List.mem_of_getElem? (i := 0) rfl))), (((((((Fw20.other W21 (Or.inr (slot_ne (Or.inr (oW hw 78 rfl)) (Or.inr (oW hw 80 rfl)) (by decide +kernel) (t := (.object sAC)) (t' := (.object sAB)) (by decide +kernel) (by decide +kernel)))).other W22 (Or.inr (slot_ne (Or.inr (oW hw 78 rfl)) (Or.inr (oW hw 82 rfl)) (by decide +kernel) (t := (.object sAC)) (t' := (.object sAB)) (by decide +kernel) (by decide +kernel)))).other W23 (Or.inr (slot_ne (Or.inr (oW hw 78 rfl)) (Or.inr (oW hw 84 rfl)) (by decide +kernel) (t := (.object sAC)) (t' := (.object sAB)) (by decide +kernel) (by decide +kernel)))).other W24 (Or.inr (slot_ne (Or.inr (oW hw 78 rfl)) (Or.inr (oW hw 86 rfl)) (by decide +kernel) (t := (.object sAC)) (t' := (.object sAB)) (by decide +kernel) (by decide +kernel)))).other W25 (Or.inr (slot_ne (Or.inr (oW hw 78 rfl)) (Or.inr (oW hw 88 rfl)) (by decide +kernel) (t := (.object sAC)) (t' := (.object sAB)) (by decide +kernel) (by decide +kernel)))).other W26 (Or.inr (slot_ne (Or.inr (oW hw 78 rfl)) (Or.inr (oW hw 90 rfl)) (by decide +kernel) (t := (.object sAC)) (t' := (.object "java/util/Set")) (by decide +kernel) (by decide +kernel)))).other W27 (Or.inr (slot_ne (Or.inr (oW hw 78 rfl)) (Or.inr (oW hw 92 rfl)) (by decide +kernel) (t := (.object sAC)) (t' := (.object sAB)) (by decide +kernel) (by decide +kernel)))), ((((((Fw21.other W22 (Or.inr (slot_ne (Or.inr (oW hw 80 rfl)) (Or.inr (oW hw 82 rfl)) (by decide +kernel) (t := (.object sAB)) (t' := (.object sAB)) (by decide +kernel) (by decide +kernel)))).other W23 (Or.inr (slot_ne (Or.inr (oW hw 80 rfl)) (Or.inr (oW hw 84 rfl)) (by decide +kernel) (t := (.object sAB)) (t' := (.object sAB)) (by decide +kernel) (by decide +kernel)))).other W24 (Or.inr (slot_ne (Or.inr (oW hw 80 rfl)) (Or.inr (oW hw 86 rfl)) (by decide +kernel) (t := (.object sAB)) (t' := (.object sAB)) (by decide +kernel) (by decide +kernel)))).other W25 (Or.inr (slot_ne (Or.inr (oW hw 80 rfl)) (Or.inr (oW hw 88 rfl)) (by decide +kernel) (t := (.object sAB)) (t' := (.object sAB)) (by decide +kernel) (by decide +kernel)))).other W26 (Or.inr (slot_ne (Or.inr (oW hw 80 rfl)) (Or.inr (oW hw 90 rfl)) (by decide +kernel) (t := (.object sAB)) (t' := (.object "java/util/Set")) (by decide +kernel) (by decide +kernel)))).other W27 (Or.inr (slot_ne (Or.inr (oW hw 80 rfl)) (Or.inr (oW hw 92 rfl)) (by decide +kernel) (t := (.object sAB)) (t' := (.object sAB)) (by decide +kernel) (by decide +kernel))))⟩
  rfl
theorem own_pd8 : parseMethodDescriptor sAE = some ⟨[(.object sAC), (.object sAB), (.object sAB), (.object sAB), (.object sAB), (.object sAB), (.object "java/util/Set"), (.object sAB)], none⟩ := by decide +kernel
theorem own_d25_0 : decode prog_50_method_3_code 0 = .ok (.new 33, 3) := by decide +kernel
theorem own_d25_3 : decode prog_50_method_3_code 3 = .ok (.dup, 1) := by decide +kernel
theorem own_d25_4 : decode prog_50_method_3_code 4 = .ok (.getstatic 102, 3) := by decide +kernel
theorem own_d25_7 : decode prog_50_method_3_code 7 = .ok (.aload_n 0, 1) := by decide +kernel
theorem own_d25_8 : decode prog_50_method_3_code 8 = .ok (.aconst_null, 1) := by decide +kernel
theorem own_d25_9 : decode prog_50_method_3_code 9 = .ok (.aconst_null, 1) := by decide +kernel
theorem own_d25_10 : decode prog_50_method_3_code 10 = .ok (.aconst_null, 1) := by decide +kernel
theorem own_d25_11 : decode prog_50_method_3_code 11 = .ok (.aconst_null, 1) := by decide +kernel
theorem own_d25_12 : decode prog_50_method_3_code 12 = .ok (.aconst_null, 1) := by decide +kernel
theorem own_d25_13 : decode prog_50_method_3_code 13 = .ok (.aconst_null, 1) := by decide +kernel
theorem own_d25_14 : decode prog_50_method_3_code 14 = .ok (.invokespecial 105, 3) := by decide +kernel
theorem own_d25_17 : decode prog_50_method_3_code 17 = .ok (.areturn, 1) := by decide +kernel
theorem own_efF1 (m : MethodId) (x0 : Addr) : entryFrame m #[(.ref x0)] 1 = mkF m 0 #[rv x0] [] := by first | (simp [entryFrame, mkF, argsToLocals, Value.category]; done) | rfl
def QF1 (Z : State) (ac : Addr) (w0 : Addr) (w1 : Addr) (w2 : Addr) (w3 : Addr) (w4 : Addr) (w5 : Addr) (t_ac : Addr) (k_ac : ClassId) (cs_ac : List Int32) (h0 : Heap) (n0 : Nat) (v : Option Value) (h : Heap) (L : List Loc) : Prop := ∃ (r : Addr), v = some (.ref r) ∧ Fr n0 L ∧ Keep h0 h [] ∧ (h0.size ≤ r) ∧ (Exa Z h r sAA) ∧ (Fld Z h r sAA "kind" sAG (.ref w1)) ∧ (Fld Z h r sAA "account" sAH (.ref ac))
set_option maxRecDepth 65536 in
set_option maxHeartbeats 40000000 in
theorem rmF1 (l : Launch) (Z : State) (a0 : Array Value) (hw : ∀ d ∈ tables_1, d.before a0 Z = true) (ws : List Jvm.Cond) (ac : Addr) (w0 : Addr) (w1 : Addr) (w2 : Addr) (w3 : Addr) (w4 : Addr) (w5 : Addr) (t_ac : Addr) (k_ac : ClassId) (cs_ac : List Int32) (h0 : Heap) (n0 : Nat) (Z0 : n0 ≤ h0.size) (hall : own_All Z Z.heap w0 w1 w2 w3 w4 w5) (O0 : Old Z n0 h0) (SE_ac : Exa Z h0 ac sAB) (SC_ac : Fld Z h0 ac sAB "coder" "B" (.int (0 : Int32))) (SV_ac : Fld Z h0 ac sAB "value" "[B" (.ref t_ac)) (SA_ac : Arv Z h0 t_ac k_ac .byte (Int32.ofNat cs_ac.length) ((cs_ac.map StrChars.lo8).map Value.int) (.int 0)) (Sp_ac : ∀ c ∈ cs_ac, ¬ c < 0 ∧ ¬ (255 : Int32) < c) (Sl_ac : 0 < cs_ac.length ∧ cs_ac.length ≤ 4000) :
    MetFree l (⟨sAA, "account", "(Ljava/lang/String;)Lcom/example/wardstone/wardstone/request/Requester;"⟩ : MethodName) (head1 (Jvm.Cond.code (⟨sAA, "account", "(Ljava/lang/String;)Lcom/example/wardstone/wardstone/request/Requester;"⟩ : MethodName) prog_50_method_3_code 1 (some (.object sAA)) :: ws) ({ frames := 3, cells := 13, slots := 224, locals := 50 } : Room)) (fun a U => a = #[(.ref ac)] ∧ Z.Warmed39 U.vm ∧ U.heap = h0) (fun _ _ _ _ _ => True) (fun _ U o U' => ∃ v L, o = .returned v ∧ QF1 Z ac w0 w1 w2 w3 w4 w5 t_ac k_ac cs_ac h0 n0 v U'.heap L ∧ ReturnedEndW U o U' L ({ frames := 3, cells := 13, slots := 224, locals := 50 } : Room).cells ({ frames := 3, cells := 13, slots := 224, locals := 50 } : Room).slots) := by
  refine MetFree.of_bodySF (plainFor_of_name own_pn4) hisR ?_
  intro p e s m args below meth c s₁ Bd hml0 hP hK
  obtain ⟨rfl, hZ, hh⟩ := hP
  have hx := Bd.exec
  have hby := Bd.bytes
  have hlk : meth.locks = false := Bd.notSynchronized
  have hml : c.maxLocals = 1 := hml0
  have hown : s.vm.findClass sAA = some m.cls := findClass_of_methodNamed Bd.named
  have hnm := (name_of_methodNamed Bd.named Bd.method).1
  have X0 : Stand p l e ({ frames := 3, cells := 13, slots := 224, locals := 50 } : Room) (s.setVm s.vm) m #[(.ref ac)] below meth c s₁ [] 0 0 := Stand.of_body Bd
  have e0 : s₁.heap = h0 := by rw [← hh, Bd.state]; rfl
  have N0 := Fr.nil n0
  have hS0 : s.Since s.vm h0.size := (State.WarmedH.refl s).since _
  have hk0 : h0.size ≤ h0.size := Nat.le_refl _
  have wS : ∀ a ∈ Bundle.stringAtoms, a.before a0 Z = true := by
    intro a ha
    simp only [Bundle.stringAtoms, List.mem_cons, List.not_mem_nil, or_false] at ha
    rcases ha with rfl | rfl | rfl | rfl | rfl | rfl | rfl
    · exact (oW hw 9 rfl)
    · exact (oW hw 10 rfl)
    · exact (oW hw 11 rfl)
    · exact (oW hw 12 rfl)
    · exact (oW hw 13 rfl)
    · exact (oW hw 14 rfl)
    · exact (oW hw 15 rfl)
  refine own_bodyW (A := s₁.setTop (mkF m 0 #[rv ac] [])) (Q := QF1 Z ac w0 w1 w2 w3 w4 w5 t_ac k_ac cs_ac h0 n0) (fun t k => castTop (own_efF1 m ac) k) ?_
  have hall' := hall
  obtain ⟨AA0, AA1, AA2, AA3, AA4, AA5⟩ := hall'
  obtain ⟨T1, h1, X1, e1, E1, A1, D1, -, st1⟩ := newO X0 hx hZ hown (oW hw 41 rfl) (oW hw 42 rfl) (oW hw 39 rfl) e0 (g := (mkF m 0 #[rv ac] [])) rfl (hb hby own_d25_0) (by decide) (by decide)
  obtain ⟨b1, g1⟩ : ∃ z, z = h0.size := ⟨_, rfl⟩
  rw [← g1] at A1 D1 st1
  have g_b1 : n0 ≤ b1 := Nat.le_trans Z0 (Nat.le_of_eq g1.symm)
  have F1_kind : Fld Z h1 b1 sAA "kind" sAG .null := D1 (Or.inr (oW hw 78 rfl)) (ty := (.object sAC)) (by decide)
  have F1_account : Fld Z h1 b1 sAA "account" sAH .null := D1 (Or.inr (oW hw 80 rfl)) (ty := (.object sAB)) (by decide)
  have F1_userId : Fld Z h1 b1 sAA "userId" sAH .null := D1 (Or.inr (oW hw 82 rfl)) (ty := (.object sAB)) (by decide)
  have F1_userName : Fld Z h1 b1 sAA "userName" sAH .null := D1 (Or.inr (oW hw 84 rfl)) (ty := (.object sAB)) (by decide)
  have F1_agency : Fld Z h1 b1 sAA "agency" sAH .null := D1 (Or.inr (oW hw 86 rfl)) (ty := (.object sAB)) (by decide)
  have F1_identityProvider : Fld Z h1 b1 sAA sAU sAH .null := D1 (Or.inr (oW hw 88 rfl)) (ty := (.object sAB)) (by decide)
  have F1_groups : Fld Z h1 b1 sAA "groups" "Ljava/util/Set;" .null := D1 (Or.inr (oW hw 90 rfl)) (ty := (.object "java/util/Set")) (by decide)
  have F1_service : Fld Z h1 b1 sAA "service" sAH .null := D1 (Or.inr (oW hw 92 rfl)) (ty := (.object sAB)) (by decide)
  refine ov (B := T1.setTop (mkF m 3 #[rv ac] [(.ref b1)])) (fun t k => st1 t k) ?_
  refine oDU (n := 4) X1 hx (hb hby own_d25_3) rfl rfl ?_
  obtain ⟨T2, X2, e2, st2⟩ := getS2 X1 hx hZ hown (host := "") (Or.inl (oW hw 149 rfl)) Via.refl e1 (AA1.1.ext (O0.ext E1).2) (g := (mkF m 4 #[rv ac] [(.ref b1), (.ref b1)])) rfl (hb hby own_d25_4)
  refine ov (B := T2.setTop (mkF m 7 #[rv ac] [(.ref w1), (.ref b1), (.ref b1)])) (fun t k => st2 t k) ?_
  refine oALN (n := 8) X2 hx (hb hby own_d25_7) rfl rfl rfl ?_
  refine oNU (n := 9) X2 hx (hb hby own_d25_8) rfl ?_
  refine oNU (n := 10) X2 hx (hb hby own_d25_9) rfl ?_
  refine oNU (n := 11) X2 hx (hb hby own_d25_10) rfl ?_
  refine oNU (n := 12) X2 hx (hb hby own_d25_11) rfl ?_
  refine oNU (n := 13) X2 hx (hb hby own_d25_12) rfl ?_
  refine oNU (n := 14) X2 hx (hb hby own_d25_13) rfl ?_
  obtain ⟨_, _, ⟨T3, L3, k3, n3⟩, -, X3, hT3, gT3, ⟨Lc3, hQ3, l3, y3, z3⟩, st3⟩ := X2.specialBackS hx (y := (⟨sAA, "<init>", sAE⟩ : MethodName)) rfl hown (mvT hZ (oW hw 46 rfl)) (mvT hZ (oW hw 47 rfl)) (mvT hZ (oW hw 48 rfl)) (by decide) (backOfS (W := 1) (rmQ1snnnnnn l Z a0 hw [] b1 w1 ac w0 w2 w3 w4 w5 .null .null .null .null .null .null .null .null t_ac k_ac cs_ac h1 n0 (Nat.le_trans Z0 E1.1) (by assumption) (O0.ext E1) A1 F1_kind F1_account F1_userId F1_userName F1_agency F1_identityProvider F1_groups F1_service g_b1 (SE_ac.ext E1) (SC_ac.ext E1) (SV_ac.ext E1) (SA_ac.ext E1) Sp_ac Sl_ac) hZ (oW hw 48 rfl) (oW hw 39 rfl) (by decide) (by decide)) (g := (mkF m 14 #[rv ac] [.null, .null, .null, .null, .null, .null, (.ref ac), (.ref w1), (.ref b1), (.ref b1)])) rfl (by rw [hml]; rfl) (Steps.refl _) (a := b1) (argsL := [(.ref w1), (.ref ac), .null, .null, .null, .null, .null, .null]) (rest := [(.ref b1)]) (lenOf own_pd8 rfl) rfl (by show 2 * 0 + _ ≤ _; exact Nat.le_of_eq rfl) (hb hby own_d25_14) (fun _ _ => ⟨rfl, e2, (by decide : (0 + 1) + 12 ≤ _), (by decide : (0 + 8) + 216 ≤ _)⟩)
  dsimp only [Pt.U, Pt.locs, Pt.cells, Pt.slots] at X3 l3 y3 z3 st3 hQ3 hT3 gT3
  subst l3 y3 z3
  obtain ⟨X3, hS3, hZ, hown⟩ := rebS hS0 (by rw [e2]; exact (Nat.le_trans hk0 E1.1)) X3 hT3 gT3 hZ hown
  obtain ⟨rfl, Nq3, Kq3, f3_0, f3_1⟩ := hQ3
  have N3 := Fr.app N0 Nq3
  refine ov (B := T3.setTop (mkF m 17 #[rv ac] [(.ref b1)])) (fun t k => st3.trans k) ?_
  refine own_leafW X3 hx hlk hS3 (Nat.le_refl _) (t := (.object sAA)) Bd.returns rfl (Or.inr (Or.inr (Or.inr (Or.inr ⟨rfl, rfl, rfl⟩)))) (hb hby own_d25_17) (by decide) (by decide) ?_
  show QF1 Z ac w0 w1 w2 w3 w4 w5 t_ac k_ac cs_ac h0 n0 _ T3.heap _
  refine ⟨b1, ?_, N3, (((Keep.refl h0 []).ext E1).trans Kq3 (allS (Or.inr (Nat.le_of_eq g1.symm)) all0)), ?_, (A1.keep Kq3), f3_0, f3_1⟩
  · rfl
  · exact (Nat.le_of_eq g1.symm)
theorem own_d8_0 : decode prog_50_method_4_code 0 = .ok (.new 33, 3) := by decide +kernel
theorem own_d8_3 : decode prog_50_method_4_code 3 = .ok (.dup, 1) := by decide +kernel
theorem own_d8_4 : decode prog_50_method_4_code 4 = .ok (.getstatic 26, 3) := by decide +kernel
theorem own_d8_7 : decode prog_50_method_4_code 7 = .ok (.aload_n 0, 1) := by decide +kernel
theorem own_d8_8 : decode prog_50_method_4_code 8 = .ok (.aload_n 1, 1) := by decide +kernel
theorem own_d8_9 : decode prog_50_method_4_code 9 = .ok (.aload_n 2, 1) := by decide +kernel
theorem own_d8_10 : decode prog_50_method_4_code 10 = .ok (.aconst_null, 1) := by decide +kernel
theorem own_d8_11 : decode prog_50_method_4_code 11 = .ok (.aconst_null, 1) := by decide +kernel
theorem own_d8_12 : decode prog_50_method_4_code 12 = .ok (.aconst_null, 1) := by decide +kernel
theorem own_d8_13 : decode prog_50_method_4_code 13 = .ok (.aconst_null, 1) := by decide +kernel
theorem own_d8_14 : decode prog_50_method_4_code 14 = .ok (.invokespecial 105, 3) := by decide +kernel
theorem own_d8_17 : decode prog_50_method_4_code 17 = .ok (.areturn, 1) := by decide +kernel
theorem own_efF2 (m : MethodId) (x0 : Addr) (x1 : Addr) (x2 : Addr) : entryFrame m #[(.ref x0), (.ref x1), (.ref x2)] 3 = mkF m 0 #[rv x0, rv x1, rv x2] [] := by first | (simp [entryFrame, mkF, argsToLocals, Value.category]; done) | rfl
def QF2 (Z : State) (ac : Addr) (ui : Addr) (un : Addr) (w0 : Addr) (w1 : Addr) (w2 : Addr) (w3 : Addr) (w4 : Addr) (w5 : Addr) (t_ac : Addr) (k_ac : ClassId) (cs_ac : List Int32) (t_ui : Addr) (k_ui : ClassId) (cs_ui : List Int32) (t_un : Addr) (k_un : ClassId) (cs_un : List Int32) (h0 : Heap) (n0 : Nat) (v : Option Value) (h : Heap) (L : List Loc) : Prop := ∃ (r : Addr), v = some (.ref r) ∧ Fr n0 L ∧ Keep h0 h [] ∧ (h0.size ≤ r) ∧ (Exa Z h r sAA) ∧ (Fld Z h r sAA "kind" sAG (.ref w2)) ∧ (Fld Z h r sAA "account" sAH (.ref ac))
set_option maxRecDepth 65536 in
set_option maxHeartbeats 40000000 in
theorem rmF2 (l : Launch) (Z : State) (a0 : Array Value) (hw : ∀ d ∈ tables_1, d.before a0 Z = true) (ws : List Jvm.Cond) (ac : Addr) (ui : Addr) (un : Addr) (w0 : Addr) (w1 : Addr) (w2 : Addr) (w3 : Addr) (w4 : Addr) (w5 : Addr) (t_ac : Addr) (k_ac : ClassId) (cs_ac : List Int32) (t_ui : Addr) (k_ui : ClassId) (cs_ui : List Int32) (t_un : Addr) (k_un : ClassId) (cs_un : List Int32) (h0 : Heap) (n0 : Nat) (Z0 : n0 ≤ h0.size) (hall : own_All Z Z.heap w0 w1 w2 w3 w4 w5) (O0 : Old Z n0 h0) (SE_ac : Exa Z h0 ac sAB) (SC_ac : Fld Z h0 ac sAB "coder" "B" (.int (0 : Int32))) (SV_ac : Fld Z h0 ac sAB "value" "[B" (.ref t_ac)) (SA_ac : Arv Z h0 t_ac k_ac .byte (Int32.ofNat cs_ac.length) ((cs_ac.map StrChars.lo8).map Value.int) (.int 0)) (Sp_ac : ∀ c ∈ cs_ac, ¬ c < 0 ∧ ¬ (255 : Int32) < c) (Sl_ac : 0 < cs_ac.length ∧ cs_ac.length ≤ 4000) (SE_ui : Exa Z h0 ui sAB) (SC_ui : Fld Z h0 ui sAB "coder" "B" (.int (0 : Int32))) (SV_ui : Fld Z h0 ui sAB "value" "[B" (.ref t_ui)) (SA_ui : Arv Z h0 t_ui k_ui .byte (Int32.ofNat cs_ui.length) ((cs_ui.map StrChars.lo8).map Value.int) (.int 0)) (Sp_ui : ∀ c ∈ cs_ui, ¬ c < 0 ∧ ¬ (255 : Int32) < c) (Sl_ui : 0 < cs_ui.length ∧ cs_ui.length ≤ 4000) (SE_un : Exa Z h0 un sAB) (SC_un : Fld Z h0 un sAB "coder" "B" (.int (0 : Int32))) (SV_un : Fld Z h0 un sAB "value" "[B" (.ref t_un)) (SA_un : Arv Z h0 t_un k_un .byte (Int32.ofNat cs_un.length) ((cs_un.map StrChars.lo8).map Value.int) (.int 0)) (Sp_un : ∀ c ∈ cs_un, ¬ c < 0 ∧ ¬ (255 : Int32) < c) (Sl_un : 0 < cs_un.length ∧ cs_un.length ≤ 4000) :
    MetFree l (⟨sAA, "user", sAP⟩ : MethodName) (head1 (Jvm.Cond.code (⟨sAA, "user", sAP⟩ : MethodName) prog_50_method_4_code 3 (some (.object sAA)) :: ws) ({ frames := 3, cells := 13, slots := 224, locals := 50 } : Room)) (fun a U => a = #[(.ref ac), (.ref ui), (.ref un)] ∧ Z.Warmed39 U.vm ∧ U.heap = h0) (fun _ _ _ _ _ => True) (fun _ U o U' => ∃ v L, o = .returned v ∧ QF2 Z ac ui un w0 w1 w2 w3 w4 w5 t_ac k_ac cs_ac t_ui k_ui cs_ui t_un k_un cs_un h0 n0 v U'.heap L ∧ ReturnedEndW U o U' L ({ frames := 3, cells := 13, slots := 224, locals := 50 } : Room).cells ({ frames := 3, cells := 13, slots := 224, locals := 50 } : Room).slots) := by
  refine MetFree.of_bodySF (plainFor_of_name own_pn4) hisR ?_
  intro p e s m args below meth c s₁ Bd hml0 hP hK
  obtain ⟨rfl, hZ, hh⟩ := hP
  have hx := Bd.exec
  have hby := Bd.bytes
  have hlk : meth.locks = false := Bd.notSynchronized
  have hml : c.maxLocals = 3 := hml0
  have hown : s.vm.findClass sAA = some m.cls := findClass_of_methodNamed Bd.named
  have hnm := (name_of_methodNamed Bd.named Bd.method).1
  have X0 : Stand p l e ({ frames := 3, cells := 13, slots := 224, locals := 50 } : Room) (s.setVm s.vm) m #[(.ref ac), (.ref ui), (.ref un)] below meth c s₁ [] 0 0 := Stand.of_body Bd
  have e0 : s₁.heap = h0 := by rw [← hh, Bd.state]; rfl
  have N0 := Fr.nil n0
  have hS0 : s.Since s.vm h0.size := (State.WarmedH.refl s).since _
  have hk0 : h0.size ≤ h0.size := Nat.le_refl _
  have wS : ∀ a ∈ Bundle.stringAtoms, a.before a0 Z = true := by
    intro a ha
    simp only [Bundle.stringAtoms, List.mem_cons, List.not_mem_nil, or_false] at ha
    rcases ha with rfl | rfl | rfl | rfl | rfl | rfl | rfl
    · exact (oW hw 9 rfl)
    · exact (oW hw 10 rfl)
    · exact (oW hw 11 rfl)
    · exact (oW hw 12 rfl)
    · exact (oW hw 13 rfl)
    · exact (oW hw 14 rfl)
    · exact (oW hw 15 rfl)
  refine own_bodyW (A := s₁.setTop (mkF m 0 #[rv ac, rv ui, rv un] [])) (Q := QF2 Z ac ui un w0 w1 w2 w3 w4 w5 t_ac k_ac cs_ac t_ui k_ui cs_ui t_un k_un cs_un h0 n0) (fun t k => castTop (own_efF2 m ac ui un) k) ?_
  have hall' := hall
  obtain ⟨AA0, AA1, AA2, AA3, AA4, AA5⟩ := hall'
  obtain ⟨T1, h1, X1, e1, E1, A1, D1, -, st1⟩ := newO X0 hx hZ hown (oW hw 41 rfl) (oW hw 42 rfl) (oW hw 39 rfl) e0 (g := (mkF m 0 #[rv ac, rv ui, rv un] [])) rfl (hb hby own_d8_0) (by decide) (by decide)
  obtain ⟨b1, g1⟩ : ∃ z, z = h0.size := ⟨_, rfl⟩
  rw [← g1] at A1 D1 st1
  have g_b1 : n0 ≤ b1 := Nat.le_trans Z0 (Nat.le_of_eq g1.symm)
  have F1_kind : Fld Z h1 b1 sAA "kind" sAG .null := D1 (Or.inr (oW hw 78 rfl)) (ty := (.object sAC)) (by decide)
  have F1_account : Fld Z h1 b1 sAA "account" sAH .null := D1 (Or.inr (oW hw 80 rfl)) (ty := (.object sAB)) (by decide)
  have F1_userId : Fld Z h1 b1 sAA "userId" sAH .null := D1 (Or.inr (oW hw 82 rfl)) (ty := (.object sAB)) (by decide)
  have F1_userName : Fld Z h1 b1 sAA "userName" sAH .null := D1 (Or.inr (oW hw 84 rfl)) (ty := (.object sAB)) (by decide)
  have F1_agency : Fld Z h1 b1 sAA "agency" sAH .null := D1 (Or.inr (oW hw 86 rfl)) (ty := (.object sAB)) (by decide)
  have F1_identityProvider : Fld Z h1 b1 sAA sAU sAH .null := D1 (Or.inr (oW hw 88 rfl)) (ty := (.object sAB)) (by decide)
  have F1_groups : Fld Z h1 b1 sAA "groups" "Ljava/util/Set;" .null := D1 (Or.inr (oW hw 90 rfl)) (ty := (.object "java/util/Set")) (by decide)
  have F1_service : Fld Z h1 b1 sAA "service" sAH .null := D1 (Or.inr (oW hw 92 rfl)) (ty := (.object sAB)) (by decide)
  refine ov (B := T1.setTop (mkF m 3 #[rv ac, rv ui, rv un] [(.ref b1)])) (fun t k => st1 t k) ?_
  refine oDU (n := 4) X1 hx (hb hby own_d8_3) rfl rfl ?_
  obtain ⟨T2, X2, e2, st2⟩ := getS2 X1 hx hZ hown (host := "") (Or.inl (oW hw 43 rfl)) Via.refl e1 (AA2.1.ext (O0.ext E1).2) (g := (mkF m 4 #[rv ac, rv ui, rv un] [(.ref b1), (.ref b1)])) rfl (hb hby own_d8_4)
  refine ov (B := T2.setTop (mkF m 7 #[rv ac, rv ui, rv un] [(.ref w2), (.ref b1), (.ref b1)])) (fun t k => st2 t k) ?_
  refine oALN (n := 8) X2 hx (hb hby own_d8_7) rfl rfl rfl ?_
  refine oALN (n := 9) X2 hx (hb hby own_d8_8) rfl rfl rfl ?_
  refine oALN (n := 10) X2 hx (hb hby own_d8_9) rfl rfl rfl ?_
  refine oNU (n := 11) X2 hx (hb hby own_d8_10) rfl ?_
  refine oNU (n := 12) X2 hx (hb hby own_d8_11) rfl ?_
  refine oNU (n := 13) X2 hx (hb hby own_d8_12) rfl ?_
  refine oNU (n := 14) X2 hx (hb hby own_d8_13) rfl ?_
  obtain ⟨_, _, ⟨T3, L3, k3, n3⟩, -, X3, hT3, gT3, ⟨Lc3, hQ3, l3, y3, z3⟩, st3⟩ := X2.specialBackS hx (y := (⟨sAA, "<init>", sAE⟩ : MethodName)) rfl hown (mvT hZ (oW hw 46 rfl)) (mvT hZ (oW hw 47 rfl)) (mvT hZ (oW hw 48 rfl)) (by decide) (backOfS (W := 1) (rmQ2sssnnnn l Z a0 hw [] b1 w2 ac ui un w0 w1 w3 w4 w5 .null .null .null .null .null .null .null .null t_ac k_ac cs_ac t_ui k_ui cs_ui t_un k_un cs_un h1 n0 (Nat.le_trans Z0 E1.1) (by assumption) (O0.ext E1) A1 F1_kind F1_account F1_userId F1_userName F1_agency F1_identityProvider F1_groups F1_service g_b1 (SE_ac.ext E1) (SC_ac.ext E1) (SV_ac.ext E1) (SA_ac.ext E1) Sp_ac Sl_ac (SE_ui.ext E1) (SC_ui.ext E1) (SV_ui.ext E1) (SA_ui.ext E1) Sp_ui Sl_ui (SE_un.ext E1) (SC_un.ext E1) (SV_un.ext E1) (SA_un.ext E1) Sp_un Sl_un) hZ (oW hw 48 rfl) (oW hw 39 rfl) (by decide) (by decide)) (g := (mkF m 14 #[rv ac, rv ui, rv un] [.null, .null, .null, .null, (.ref un), (.ref ui), (.ref ac), (.ref w2), (.ref b1), (.ref b1)])) rfl (by rw [hml]; rfl) (Steps.refl _) (a := b1) (argsL := [(.ref w2), (.ref ac), (.ref ui), (.ref un), .null, .null, .null, .null]) (rest := [(.ref b1)]) (lenOf own_pd8 rfl) rfl (by show 2 * 0 + _ ≤ _; exact Nat.le_of_eq rfl) (hb hby own_d8_14) (fun _ _ => ⟨rfl, e2, (by decide : (0 + 1) + 12 ≤ _), (by decide : (0 + 8) + 216 ≤ _)⟩)
  dsimp only [Pt.U, Pt.locs, Pt.cells, Pt.slots] at X3 l3 y3 z3 st3 hQ3 hT3 gT3
  subst l3 y3 z3
  obtain ⟨X3, hS3, hZ, hown⟩ := rebS hS0 (by rw [e2]; exact (Nat.le_trans hk0 E1.1)) X3 hT3 gT3 hZ hown
  obtain ⟨rfl, Nq3, Kq3, f3_0, f3_1⟩ := hQ3
  have N3 := Fr.app N0 Nq3
  refine ov (B := T3.setTop (mkF m 17 #[rv ac, rv ui, rv un] [(.ref b1)])) (fun t k => st3.trans k) ?_
  refine own_leafW X3 hx hlk hS3 (Nat.le_refl _) (t := (.object sAA)) Bd.returns rfl (Or.inr (Or.inr (Or.inr (Or.inr ⟨rfl, rfl, rfl⟩)))) (hb hby own_d8_17) (by decide) (by decide) ?_
  show QF2 Z ac ui un w0 w1 w2 w3 w4 w5 t_ac k_ac cs_ac t_ui k_ui cs_ui t_un k_un cs_un h0 n0 _ T3.heap _
  refine ⟨b1, ?_, N3, (((Keep.refl h0 []).ext E1).trans Kq3 (allS (Or.inr (Nat.le_of_eq g1.symm)) all0)), ?_, (A1.keep Kq3), f3_0, f3_1⟩
  · rfl
  · exact (Nat.le_of_eq g1.symm)
theorem own_efF21 (m : MethodId) (x0 : Addr) (x2 : Addr) : entryFrame m #[(.ref x0), .null, (.ref x2)] 3 = mkF m 0 #[rv x0, .val .null, rv x2] [] := by first | (simp [entryFrame, mkF, argsToLocals, Value.category]; done) | rfl
def QF21 (Z : State) (ac : Addr) (un : Addr) (w0 : Addr) (w1 : Addr) (w2 : Addr) (w3 : Addr) (w4 : Addr) (w5 : Addr) (t_ac : Addr) (k_ac : ClassId) (cs_ac : List Int32) (t_un : Addr) (k_un : ClassId) (cs_un : List Int32) (h0 : Heap) (n0 : Nat) (v : Option Value) (h : Heap) (L : List Loc) : Prop := ∃ (r : Addr), v = some (.ref r) ∧ Fr n0 L ∧ Keep h0 h [] ∧ (h0.size ≤ r) ∧ (Exa Z h r sAA) ∧ (Fld Z h r sAA "kind" sAG (.ref w2)) ∧ (Fld Z h r sAA "account" sAH (.ref ac))
set_option maxRecDepth 65536 in
set_option maxHeartbeats 40000000 in
theorem rmF21 (l : Launch) (Z : State) (a0 : Array Value) (hw : ∀ d ∈ tables_1, d.before a0 Z = true) (ws : List Jvm.Cond) (ac : Addr) (un : Addr) (w0 : Addr) (w1 : Addr) (w2 : Addr) (w3 : Addr) (w4 : Addr) (w5 : Addr) (t_ac : Addr) (k_ac : ClassId) (cs_ac : List Int32) (t_un : Addr) (k_un : ClassId) (cs_un : List Int32) (h0 : Heap) (n0 : Nat) (Z0 : n0 ≤ h0.size) (hall : own_All Z Z.heap w0 w1 w2 w3 w4 w5) (O0 : Old Z n0 h0) (SE_ac : Exa Z h0 ac sAB) (SC_ac : Fld Z h0 ac sAB "coder" "B" (.int (0 : Int32))) (SV_ac : Fld Z h0 ac sAB "value" "[B" (.ref t_ac)) (SA_ac : Arv Z h0 t_ac k_ac .byte (Int32.ofNat cs_ac.length) ((cs_ac.map StrChars.lo8).map Value.int) (.int 0)) (Sp_ac : ∀ c ∈ cs_ac, ¬ c < 0 ∧ ¬ (255 : Int32) < c) (Sl_ac : 0 < cs_ac.length ∧ cs_ac.length ≤ 4000) (SE_un : Exa Z h0 un sAB) (SC_un : Fld Z h0 un sAB "coder" "B" (.int (0 : Int32))) (SV_un : Fld Z h0 un sAB "value" "[B" (.ref t_un)) (SA_un : Arv Z h0 t_un k_un .byte (Int32.ofNat cs_un.length) ((cs_un.map StrChars.lo8).map Value.int) (.int 0)) (Sp_un : ∀ c ∈ cs_un, ¬ c < 0 ∧ ¬ (255 : Int32) < c) (Sl_un : 0 < cs_un.length ∧ cs_un.length ≤ 4000) :
    MetFree l (⟨sAA, "user", sAP⟩ : MethodName) (head1 (Jvm.Cond.code (⟨sAA, "user", sAP⟩ : MethodName) prog_50_method_4_code 3 (some (.object sAA)) :: ws) ({ frames := 3, cells := 13, slots := 224, locals := 50 } : Room)) (fun a U => a = #[(.ref ac), .null, (.ref un)] ∧ Z.Warmed39 U.vm ∧ U.heap = h0) (fun _ _ _ _ _ => True) (fun _ U o U' => ∃ v L, o = .returned v ∧ QF21 Z ac un w0 w1 w2 w3 w4 w5 t_ac k_ac cs_ac t_un k_un cs_un h0 n0 v U'.heap L ∧ ReturnedEndW U o U' L ({ frames := 3, cells := 13, slots := 224, locals := 50 } : Room).cells ({ frames := 3, cells := 13, slots := 224, locals := 50 } : Room).slots) := by
  refine MetFree.of_bodySF (plainFor_of_name own_pn4) hisR ?_
  intro p e s m args below meth c s₁ Bd hml0 hP hK
  obtain ⟨rfl, hZ, hh⟩ := hP
  have hx := Bd.exec
  have hby := Bd.bytes
  have hlk : meth.locks = false := Bd.notSynchronized
  have hml : c.maxLocals = 3 := hml0
  have hown : s.vm.findClass sAA = some m.cls := findClass_of_methodNamed Bd.named
  have hnm := (name_of_methodNamed Bd.named Bd.method).1
  have X0 : Stand p l e ({ frames := 3, cells := 13, slots := 224, locals := 50 } : Room) (s.setVm s.vm) m #[(.ref ac), .null, (.ref un)] below meth c s₁ [] 0 0 := Stand.of_body Bd
  have e0 : s₁.heap = h0 := by rw [← hh, Bd.state]; rfl
  have N0 := Fr.nil n0
  have hS0 : s.Since s.vm h0.size := (State.WarmedH.refl s).since _
  have hk0 : h0.size ≤ h0.size := Nat.le_refl _
  have wS : ∀ a ∈ Bundle.stringAtoms, a.before a0 Z = true := by
    intro a ha
    simp only [Bundle.stringAtoms, List.mem_cons, List.not_mem_nil, or_false] at ha
    rcases ha with rfl | rfl | rfl | rfl | rfl | rfl | rfl
    · exact (oW hw 9 rfl)
    · exact (oW hw 10 rfl)
    · exact (oW hw 11 rfl)
    · exact (oW hw 12 rfl)
    · exact (oW hw 13 rfl)
    · exact (oW hw 14 rfl)
    · exact (oW hw 15 rfl)
  refine own_bodyW (A := s₁.setTop (mkF m 0 #[rv ac, .val .null, rv un] [])) (Q := QF21 Z ac un w0 w1 w2 w3 w4 w5 t_ac k_ac cs_ac t_un k_un cs_un h0 n0) (fun t k => castTop (own_efF21 m ac un) k) ?_
  have hall' := hall
  obtain ⟨AA0, AA1, AA2, AA3, AA4, AA5⟩ := hall'
  obtain ⟨T1, h1, X1, e1, E1, A1, D1, -, st1⟩ := newO X0 hx hZ hown (oW hw 41 rfl) (oW hw 42 rfl) (oW hw 39 rfl) e0 (g := (mkF m 0 #[rv ac, .val .null, rv un] [])) rfl (hb hby own_d8_0) (by decide) (by decide)
  obtain ⟨b1, g1⟩ : ∃ z, z = h0.size := ⟨_, rfl⟩
  rw [← g1] at A1 D1 st1
  have g_b1 : n0 ≤ b1 := Nat.le_trans Z0 (Nat.le_of_eq g1.symm)
  have F1_kind : Fld Z h1 b1 sAA "kind" sAG .null := D1 (Or.inr (oW hw 78 rfl)) (ty := (.object sAC)) (by decide)
  have F1_account : Fld Z h1 b1 sAA "account" sAH .null := D1 (Or.inr (oW hw 80 rfl)) (ty := (.object sAB)) (by decide)
  have F1_userId : Fld Z h1 b1 sAA "userId" sAH .null := D1 (Or.inr (oW hw 82 rfl)) (ty := (.object sAB)) (by decide)
  have F1_userName : Fld Z h1 b1 sAA "userName" sAH .null := D1 (Or.inr (oW hw 84 rfl)) (ty := (.object sAB)) (by decide)
  have F1_agency : Fld Z h1 b1 sAA "agency" sAH .null := D1 (Or.inr (oW hw 86 rfl)) (ty := (.object sAB)) (by decide)
  have F1_identityProvider : Fld Z h1 b1 sAA sAU sAH .null := D1 (Or.inr (oW hw 88 rfl)) (ty := (.object sAB)) (by decide)
  have F1_groups : Fld Z h1 b1 sAA "groups" "Ljava/util/Set;" .null := D1 (Or.inr (oW hw 90 rfl)) (ty := (.object "java/util/Set")) (by decide)
  have F1_service : Fld Z h1 b1 sAA "service" sAH .null := D1 (Or.inr (oW hw 92 rfl)) (ty := (.object sAB)) (by decide)
  refine ov (B := T1.setTop (mkF m 3 #[rv ac, .val .null, rv un] [(.ref b1)])) (fun t k => st1 t k) ?_
  refine oDU (n := 4) X1 hx (hb hby own_d8_3) rfl rfl ?_
  obtain ⟨T2, X2, e2, st2⟩ := getS2 X1 hx hZ hown (host := "") (Or.inl (oW hw 43 rfl)) Via.refl e1 (AA2.1.ext (O0.ext E1).2) (g := (mkF m 4 #[rv ac, .val .null, rv un] [(.ref b1), (.ref b1)])) rfl (hb hby own_d8_4)
  refine ov (B := T2.setTop (mkF m 7 #[rv ac, .val .null, rv un] [(.ref w2), (.ref b1), (.ref b1)])) (fun t k => st2 t k) ?_
  refine oALN (n := 8) X2 hx (hb hby own_d8_7) rfl rfl rfl ?_
  refine oALN (n := 9) X2 hx (hb hby own_d8_8) rfl rfl rfl ?_
  refine oALN (n := 10) X2 hx (hb hby own_d8_9) rfl rfl rfl ?_
  refine oNU (n := 11) X2 hx (hb hby own_d8_10) rfl ?_
  refine oNU (n := 12) X2 hx (hb hby own_d8_11) rfl ?_
  refine oNU (n := 13) X2 hx (hb hby own_d8_12) rfl ?_
  refine oNU (n := 14) X2 hx (hb hby own_d8_13) rfl ?_
  obtain ⟨_, _, ⟨T3, L3, k3, n3⟩, -, X3, hT3, gT3, ⟨Lc3, hQ3, l3, y3, z3⟩, st3⟩ := X2.specialBackS hx (y := (⟨sAA, "<init>", sAE⟩ : MethodName)) rfl hown (mvT hZ (oW hw 46 rfl)) (mvT hZ (oW hw 47 rfl)) (mvT hZ (oW hw 48 rfl)) (by decide) (backOfS (W := 1) (rmQ2snsnnnn l Z a0 hw [] b1 w2 ac un w0 w1 w3 w4 w5 .null .null .null .null .null .null .null .null t_ac k_ac cs_ac t_un k_un cs_un h1 n0 (Nat.le_trans Z0 E1.1) (by assumption) (O0.ext E1) A1 F1_kind F1_account F1_userId F1_userName F1_agency F1_identityProvider F1_groups F1_service g_b1 (SE_ac.ext E1) (SC_ac.ext E1) (SV_ac.ext E1) (SA_ac.ext E1) Sp_ac Sl_ac (SE_un.ext E1) (SC_un.ext E1) (SV_un.ext E1) (SA_un.ext E1) Sp_un Sl_un) hZ (oW hw 48 rfl) (oW hw 39 rfl) (by decide) (by decide)) (g := (mkF m 14 #[rv ac, .val .null, rv un] [.null, .null, .null, .null, (.ref un), .null, (.ref ac), (.ref w2), (.ref b1), (.ref b1)])) rfl (by rw [hml]; rfl) (Steps.refl _) (a := b1) (argsL := [(.ref w2), (.ref ac), .null, (.ref un), .null, .null, .null, .null]) (rest := [(.ref b1)]) (lenOf own_pd8 rfl) rfl (by show 2 * 0 + _ ≤ _; exact Nat.le_of_eq rfl) (hb hby own_d8_14) (fun _ _ => ⟨rfl, e2, (by decide : (0 + 1) + 12 ≤ _), (by decide : (0 + 8) + 216 ≤ _)⟩)
  dsimp only [Pt.U, Pt.locs, Pt.cells, Pt.slots] at X3 l3 y3 z3 st3 hQ3 hT3 gT3
  subst l3 y3 z3
  obtain ⟨X3, hS3, hZ, hown⟩ := rebS hS0 (by rw [e2]; exact (Nat.le_trans hk0 E1.1)) X3 hT3 gT3 hZ hown
  obtain ⟨rfl, Nq3, Kq3, f3_0, f3_1⟩ := hQ3
  have N3 := Fr.app N0 Nq3
  refine ov (B := T3.setTop (mkF m 17 #[rv ac, .val .null, rv un] [(.ref b1)])) (fun t k => st3.trans k) ?_
  refine own_leafW X3 hx hlk hS3 (Nat.le_refl _) (t := (.object sAA)) Bd.returns rfl (Or.inr (Or.inr (Or.inr (Or.inr ⟨rfl, rfl, rfl⟩)))) (hb hby own_d8_17) (by decide) (by decide) ?_
  show QF21 Z ac un w0 w1 w2 w3 w4 w5 t_ac k_ac cs_ac t_un k_un cs_un h0 n0 _ T3.heap _
  refine ⟨b1, ?_, N3, (((Keep.refl h0 []).ext E1).trans Kq3 (allS (Or.inr (Nat.le_of_eq g1.symm)) all0)), ?_, (A1.keep Kq3), f3_0, f3_1⟩
  · rfl
  · exact (Nat.le_of_eq g1.symm)
theorem own_efF22 (m : MethodId) (x0 : Addr) (x1 : Addr) : entryFrame m #[(.ref x0), (.ref x1), .null] 3 = mkF m 0 #[rv x0, rv x1, .val .null] [] := by first | (simp [entryFrame, mkF, argsToLocals, Value.category]; done) | rfl
def QF22 (Z : State) (ac : Addr) (ui : Addr) (w0 : Addr) (w1 : Addr) (w2 : Addr) (w3 : Addr) (w4 : Addr) (w5 : Addr) (t_ac : Addr) (k_ac : ClassId) (cs_ac : List Int32) (t_ui : Addr) (k_ui : ClassId) (cs_ui : List Int32) (h0 : Heap) (n0 : Nat) (v : Option Value) (h : Heap) (L : List Loc) : Prop := ∃ (r : Addr), v = some (.ref r) ∧ Fr n0 L ∧ Keep h0 h [] ∧ (h0.size ≤ r) ∧ (Exa Z h r sAA) ∧ (Fld Z h r sAA "kind" sAG (.ref w2)) ∧ (Fld Z h r sAA "account" sAH (.ref ac))
set_option maxRecDepth 65536 in
set_option maxHeartbeats 40000000 in
theorem rmF22 (l : Launch) (Z : State) (a0 : Array Value) (hw : ∀ d ∈ tables_1, d.before a0 Z = true) (ws : List Jvm.Cond) (ac : Addr) (ui : Addr) (w0 : Addr) (w1 : Addr) (w2 : Addr) (w3 : Addr) (w4 : Addr) (w5 : Addr) (t_ac : Addr) (k_ac : ClassId) (cs_ac : List Int32) (t_ui : Addr) (k_ui : ClassId) (cs_ui : List Int32) (h0 : Heap) (n0 : Nat) (Z0 : n0 ≤ h0.size) (hall : own_All Z Z.heap w0 w1 w2 w3 w4 w5) (O0 : Old Z n0 h0) (SE_ac : Exa Z h0 ac sAB) (SC_ac : Fld Z h0 ac sAB "coder" "B" (.int (0 : Int32))) (SV_ac : Fld Z h0 ac sAB "value" "[B" (.ref t_ac)) (SA_ac : Arv Z h0 t_ac k_ac .byte (Int32.ofNat cs_ac.length) ((cs_ac.map StrChars.lo8).map Value.int) (.int 0)) (Sp_ac : ∀ c ∈ cs_ac, ¬ c < 0 ∧ ¬ (255 : Int32) < c) (Sl_ac : 0 < cs_ac.length ∧ cs_ac.length ≤ 4000) (SE_ui : Exa Z h0 ui sAB) (SC_ui : Fld Z h0 ui sAB "coder" "B" (.int (0 : Int32))) (SV_ui : Fld Z h0 ui sAB "value" "[B" (.ref t_ui)) (SA_ui : Arv Z h0 t_ui k_ui .byte (Int32.ofNat cs_ui.length) ((cs_ui.map StrChars.lo8).map Value.int) (.int 0)) (Sp_ui : ∀ c ∈ cs_ui, ¬ c < 0 ∧ ¬ (255 : Int32) < c) (Sl_ui : 0 < cs_ui.length ∧ cs_ui.length ≤ 4000) :
    MetFree l (⟨sAA, "user", sAP⟩ : MethodName) (head1 (Jvm.Cond.code (⟨sAA, "user", sAP⟩ : MethodName) prog_50_method_4_code 3 (some (.object sAA)) :: ws) ({ frames := 3, cells := 13, slots := 224, locals := 50 } : Room)) (fun a U => a = #[(.ref ac), (.ref ui), .null] ∧ Z.Warmed39 U.vm ∧ U.heap = h0) (fun _ _ _ _ _ => True) (fun _ U o U' => ∃ v L, o = .returned v ∧ QF22 Z ac ui w0 w1 w2 w3 w4 w5 t_ac k_ac cs_ac t_ui k_ui cs_ui h0 n0 v U'.heap L ∧ ReturnedEndW U o U' L ({ frames := 3, cells := 13, slots := 224, locals := 50 } : Room).cells ({ frames := 3, cells := 13, slots := 224, locals := 50 } : Room).slots) := by
  refine MetFree.of_bodySF (plainFor_of_name own_pn4) hisR ?_
  intro p e s m args below meth c s₁ Bd hml0 hP hK
  obtain ⟨rfl, hZ, hh⟩ := hP
  have hx := Bd.exec
  have hby := Bd.bytes
  have hlk : meth.locks = false := Bd.notSynchronized
  have hml : c.maxLocals = 3 := hml0
  have hown : s.vm.findClass sAA = some m.cls := findClass_of_methodNamed Bd.named
  have hnm := (name_of_methodNamed Bd.named Bd.method).1
  have X0 : Stand p l e ({ frames := 3, cells := 13, slots := 224, locals := 50 } : Room) (s.setVm s.vm) m #[(.ref ac), (.ref ui), .null] below meth c s₁ [] 0 0 := Stand.of_body Bd
  have e0 : s₁.heap = h0 := by rw [← hh, Bd.state]; rfl
  have N0 := Fr.nil n0
  have hS0 : s.Since s.vm h0.size := (State.WarmedH.refl s).since _
  have hk0 : h0.size ≤ h0.size := Nat.le_refl _
  have wS : ∀ a ∈ Bundle.stringAtoms, a.before a0 Z = true := by
    intro a ha
    simp only [Bundle.stringAtoms, List.mem_cons, List.not_mem_nil, or_false] at ha
    rcases ha with rfl | rfl | rfl | rfl | rfl | rfl | rfl
    · exact (oW hw 9 rfl)
    · exact (oW hw 10 rfl)
    · exact (oW hw 11 rfl)
    · exact (oW hw 12 rfl)
    · exact (oW hw 13 rfl)
    · exact (oW hw 14 rfl)
    · exact (oW hw 15 rfl)
  refine own_bodyW (A := s₁.setTop (mkF m 0 #[rv ac, rv ui, .val .null] [])) (Q := QF22 Z ac ui w0 w1 w2 w3 w4 w5 t_ac k_ac cs_ac t_ui k_ui cs_ui h0 n0) (fun t k => castTop (own_efF22 m ac ui) k) ?_
  have hall' := hall
  obtain ⟨AA0, AA1, AA2, AA3, AA4, AA5⟩ := hall'
  obtain ⟨T1, h1, X1, e1, E1, A1, D1, -, st1⟩ := newO X0 hx hZ hown (oW hw 41 rfl) (oW hw 42 rfl) (oW hw 39 rfl) e0 (g := (mkF m 0 #[rv ac, rv ui, .val .null] [])) rfl (hb hby own_d8_0) (by decide) (by decide)
  obtain ⟨b1, g1⟩ : ∃ z, z = h0.size := ⟨_, rfl⟩
  rw [← g1] at A1 D1 st1
  have g_b1 : n0 ≤ b1 := Nat.le_trans Z0 (Nat.le_of_eq g1.symm)
  have F1_kind : Fld Z h1 b1 sAA "kind" sAG .null := D1 (Or.inr (oW hw 78 rfl)) (ty := (.object sAC)) (by decide)
  have F1_account : Fld Z h1 b1 sAA "account" sAH .null := D1 (Or.inr (oW hw 80 rfl)) (ty := (.object sAB)) (by decide)
  have F1_userId : Fld Z h1 b1 sAA "userId" sAH .null := D1 (Or.inr (oW hw 82 rfl)) (ty := (.object sAB)) (by decide)
  have F1_userName : Fld Z h1 b1 sAA "userName" sAH .null := D1 (Or.inr (oW hw 84 rfl)) (ty := (.object sAB)) (by decide)
  have F1_agency : Fld Z h1 b1 sAA "agency" sAH .null := D1 (Or.inr (oW hw 86 rfl)) (ty := (.object sAB)) (by decide)
  have F1_identityProvider : Fld Z h1 b1 sAA sAU sAH .null := D1 (Or.inr (oW hw 88 rfl)) (ty := (.object sAB)) (by decide)
  have F1_groups : Fld Z h1 b1 sAA "groups" "Ljava/util/Set;" .null := D1 (Or.inr (oW hw 90 rfl)) (ty := (.object "java/util/Set")) (by decide)
  have F1_service : Fld Z h1 b1 sAA "service" sAH .null := D1 (Or.inr (oW hw 92 rfl)) (ty := (.object sAB)) (by decide)
  refine ov (B := T1.setTop (mkF m 3 #[rv ac, rv ui, .val .null] [(.ref b1)])) (fun t k => st1 t k) ?_
  refine oDU (n := 4) X1 hx (hb hby own_d8_3) rfl rfl ?_
  obtain ⟨T2, X2, e2, st2⟩ := getS2 X1 hx hZ hown (host := "") (Or.inl (oW hw 43 rfl)) Via.refl e1 (AA2.1.ext (O0.ext E1).2) (g := (mkF m 4 #[rv ac, rv ui, .val .null] [(.ref b1), (.ref b1)])) rfl (hb hby own_d8_4)
  refine ov (B := T2.setTop (mkF m 7 #[rv ac, rv ui, .val .null] [(.ref w2), (.ref b1), (.ref b1)])) (fun t k => st2 t k) ?_
  refine oALN (n := 8) X2 hx (hb hby own_d8_7) rfl rfl rfl ?_
  refine oALN (n := 9) X2 hx (hb hby own_d8_8) rfl rfl rfl ?_
  refine oALN (n := 10) X2 hx (hb hby own_d8_9) rfl rfl rfl ?_
  refine oNU (n := 11) X2 hx (hb hby own_d8_10) rfl ?_
  refine oNU (n := 12) X2 hx (hb hby own_d8_11) rfl ?_
  refine oNU (n := 13) X2 hx (hb hby own_d8_12) rfl ?_
  refine oNU (n := 14) X2 hx (hb hby own_d8_13) rfl ?_
  obtain ⟨_, _, ⟨T3, L3, k3, n3⟩, -, X3, hT3, gT3, ⟨Lc3, hQ3, l3, y3, z3⟩, st3⟩ := X2.specialBackS hx (y := (⟨sAA, "<init>", sAE⟩ : MethodName)) rfl hown (mvT hZ (oW hw 46 rfl)) (mvT hZ (oW hw 47 rfl)) (mvT hZ (oW hw 48 rfl)) (by decide) (backOfS (W := 1) (rmQ2ssnnnnn l Z a0 hw [] b1 w2 ac ui w0 w1 w3 w4 w5 .null .null .null .null .null .null .null .null t_ac k_ac cs_ac t_ui k_ui cs_ui h1 n0 (Nat.le_trans Z0 E1.1) (by assumption) (O0.ext E1) A1 F1_kind F1_account F1_userId F1_userName F1_agency F1_identityProvider F1_groups F1_service g_b1 (SE_ac.ext E1) (SC_ac.ext E1) (SV_ac.ext E1) (SA_ac.ext E1) Sp_ac Sl_ac (SE_ui.ext E1) (SC_ui.ext E1) (SV_ui.ext E1) (SA_ui.ext E1) Sp_ui Sl_ui) hZ (oW hw 48 rfl) (oW hw 39 rfl) (by decide) (by decide)) (g := (mkF m 14 #[rv ac, rv ui, .val .null] [.null, .null, .null, .null, .null, (.ref ui), (.ref ac), (.ref w2), (.ref b1), (.ref b1)])) rfl (by rw [hml]; rfl) (Steps.refl _) (a := b1) (argsL := [(.ref w2), (.ref ac), (.ref ui), .null, .null, .null, .null, .null]) (rest := [(.ref b1)]) (lenOf own_pd8 rfl) rfl (by show 2 * 0 + _ ≤ _; exact Nat.le_of_eq rfl) (hb hby own_d8_14) (fun _ _ => ⟨rfl, e2, (by decide : (0 + 1) + 12 ≤ _), (by decide : (0 + 8) + 216 ≤ _)⟩)
  dsimp only [Pt.U, Pt.locs, Pt.cells, Pt.slots] at X3 l3 y3 z3 st3 hQ3 hT3 gT3
  subst l3 y3 z3
  obtain ⟨X3, hS3, hZ, hown⟩ := rebS hS0 (by rw [e2]; exact (Nat.le_trans hk0 E1.1)) X3 hT3 gT3 hZ hown
  obtain ⟨rfl, Nq3, Kq3, f3_0, f3_1⟩ := hQ3
  have N3 := Fr.app N0 Nq3
  refine ov (B := T3.setTop (mkF m 17 #[rv ac, rv ui, .val .null] [(.ref b1)])) (fun t k => st3.trans k) ?_
  refine own_leafW X3 hx hlk hS3 (Nat.le_refl _) (t := (.object sAA)) Bd.returns rfl (Or.inr (Or.inr (Or.inr (Or.inr ⟨rfl, rfl, rfl⟩)))) (hb hby own_d8_17) (by decide) (by decide) ?_
  show QF22 Z ac ui w0 w1 w2 w3 w4 w5 t_ac k_ac cs_ac t_ui k_ui cs_ui h0 n0 _ T3.heap _
  refine ⟨b1, ?_, N3, (((Keep.refl h0 []).ext E1).trans Kq3 (allS (Or.inr (Nat.le_of_eq g1.symm)) all0)), ?_, (A1.keep Kq3), f3_0, f3_1⟩
  · rfl
  · exact (Nat.le_of_eq g1.symm)
theorem own_d23_0 : decode prog_50_method_5_code 0 = .ok (.new 33, 3) := by decide +kernel
theorem own_d23_3 : decode prog_50_method_5_code 3 = .ok (.dup, 1) := by decide +kernel
theorem own_d23_4 : decode prog_50_method_5_code 4 = .ok (.getstatic 29, 3) := by decide +kernel
theorem own_d23_7 : decode prog_50_method_5_code 7 = .ok (.aload_n 0, 1) := by decide +kernel
theorem own_d23_8 : decode prog_50_method_5_code 8 = .ok (.aconst_null, 1) := by decide +kernel
theorem own_d23_9 : decode prog_50_method_5_code 9 = .ok (.aconst_null, 1) := by decide +kernel
theorem own_d23_10 : decode prog_50_method_5_code 10 = .ok (.aload_n 1, 1) := by decide +kernel
theorem own_d23_11 : decode prog_50_method_5_code 11 = .ok (.aconst_null, 1) := by decide +kernel
theorem own_d23_12 : decode prog_50_method_5_code 12 = .ok (.aconst_null, 1) := by decide +kernel
theorem own_d23_13 : decode prog_50_method_5_code 13 = .ok (.aconst_null, 1) := by decide +kernel
theorem own_d23_14 : decode prog_50_method_5_code 14 = .ok (.invokespecial 105, 3) := by decide +kernel
theorem own_d23_17 : decode prog_50_method_5_code 17 = .ok (.areturn, 1) := by decide +kernel
theorem own_efF3 (m : MethodId) (x0 : Addr) (x1 : Addr) : entryFrame m #[(.ref x0), (.ref x1)] 2 = mkF m 0 #[rv x0, rv x1] [] := by first | (simp [entryFrame, mkF, argsToLocals, Value.category]; done) | rfl
def QF3 (Z : State) (ac : Addr) (ag : Addr) (w0 : Addr) (w1 : Addr) (w2 : Addr) (w3 : Addr) (w4 : Addr) (w5 : Addr) (t_ac : Addr) (k_ac : ClassId) (cs_ac : List Int32) (t_ag : Addr) (k_ag : ClassId) (cs_ag : List Int32) (h0 : Heap) (n0 : Nat) (v : Option Value) (h : Heap) (L : List Loc) : Prop := ∃ (r : Addr), v = some (.ref r) ∧ Fr n0 L ∧ Keep h0 h [] ∧ (h0.size ≤ r) ∧ (Exa Z h r sAA) ∧ (Fld Z h r sAA "kind" sAG (.ref w3)) ∧ (Fld Z h r sAA "account" sAH (.ref ac))
set_option maxRecDepth 65536 in
set_option maxHeartbeats 40000000 in
theorem rmF3 (l : Launch) (Z : State) (a0 : Array Value) (hw : ∀ d ∈ tables_1, d.before a0 Z = true) (ws : List Jvm.Cond) (ac : Addr) (ag : Addr) (w0 : Addr) (w1 : Addr) (w2 : Addr) (w3 : Addr) (w4 : Addr) (w5 : Addr) (t_ac : Addr) (k_ac : ClassId) (cs_ac : List Int32) (t_ag : Addr) (k_ag : ClassId) (cs_ag : List Int32) (h0 : Heap) (n0 : Nat) (Z0 : n0 ≤ h0.size) (hall : own_All Z Z.heap w0 w1 w2 w3 w4 w5) (O0 : Old Z n0 h0) (SE_ac : Exa Z h0 ac sAB) (SC_ac : Fld Z h0 ac sAB "coder" "B" (.int (0 : Int32))) (SV_ac : Fld Z h0 ac sAB "value" "[B" (.ref t_ac)) (SA_ac : Arv Z h0 t_ac k_ac .byte (Int32.ofNat cs_ac.length) ((cs_ac.map StrChars.lo8).map Value.int) (.int 0)) (Sp_ac : ∀ c ∈ cs_ac, ¬ c < 0 ∧ ¬ (255 : Int32) < c) (Sl_ac : 0 < cs_ac.length ∧ cs_ac.length ≤ 4000) (SE_ag : Exa Z h0 ag sAB) (SC_ag : Fld Z h0 ag sAB "coder" "B" (.int (0 : Int32))) (SV_ag : Fld Z h0 ag sAB "value" "[B" (.ref t_ag)) (SA_ag : Arv Z h0 t_ag k_ag .byte (Int32.ofNat cs_ag.length) ((cs_ag.map StrChars.lo8).map Value.int) (.int 0)) (Sp_ag : ∀ c ∈ cs_ag, ¬ c < 0 ∧ ¬ (255 : Int32) < c) (Sl_ag : 0 < cs_ag.length ∧ cs_ag.length ≤ 4000) :
    MetFree l (⟨sAA, "agency", "(Ljava/lang/String;Ljava/lang/String;)Lcom/example/wardstone/wardstone/request/Requester;"⟩ : MethodName) (head1 (Jvm.Cond.code (⟨sAA, "agency", "(Ljava/lang/String;Ljava/lang/String;)Lcom/example/wardstone/wardstone/request/Requester;"⟩ : MethodName) prog_50_method_5_code 2 (some (.object sAA)) :: ws) ({ frames := 3, cells := 13, slots := 224, locals := 50 } : Room)) (fun a U => a = #[(.ref ac), (.ref ag)] ∧ Z.Warmed39 U.vm ∧ U.heap = h0) (fun _ _ _ _ _ => True) (fun _ U o U' => ∃ v L, o = .returned v ∧ QF3 Z ac ag w0 w1 w2 w3 w4 w5 t_ac k_ac cs_ac t_ag k_ag cs_ag h0 n0 v U'.heap L ∧ ReturnedEndW U o U' L ({ frames := 3, cells := 13, slots := 224, locals := 50 } : Room).cells ({ frames := 3, cells := 13, slots := 224, locals := 50 } : Room).slots) := by
  refine MetFree.of_bodySF (plainFor_of_name own_pn4) hisR ?_
  intro p e s m args below meth c s₁ Bd hml0 hP hK
  obtain ⟨rfl, hZ, hh⟩ := hP
  have hx := Bd.exec
  have hby := Bd.bytes
  have hlk : meth.locks = false := Bd.notSynchronized
  have hml : c.maxLocals = 2 := hml0
  have hown : s.vm.findClass sAA = some m.cls := findClass_of_methodNamed Bd.named
  have hnm := (name_of_methodNamed Bd.named Bd.method).1
  have X0 : Stand p l e ({ frames := 3, cells := 13, slots := 224, locals := 50 } : Room) (s.setVm s.vm) m #[(.ref ac), (.ref ag)] below meth c s₁ [] 0 0 := Stand.of_body Bd
  have e0 : s₁.heap = h0 := by rw [← hh, Bd.state]; rfl
  have N0 := Fr.nil n0
  have hS0 : s.Since s.vm h0.size := (State.WarmedH.refl s).since _
  have hk0 : h0.size ≤ h0.size := Nat.le_refl _
  have wS : ∀ a ∈ Bundle.stringAtoms, a.before a0 Z = true := by
    intro a ha
    simp only [Bundle.stringAtoms, List.mem_cons, List.not_mem_nil, or_false] at ha
    rcases ha with rfl | rfl | rfl | rfl | rfl | rfl | rfl
    · exact (oW hw 9 rfl)
    · exact (oW hw 10 rfl)
    · exact (oW hw 11 rfl)
    · exact (oW hw 12 rfl)
    · exact (oW hw 13 rfl)
    · exact (oW hw 14 rfl)
    · exact (oW hw 15 rfl)
  refine own_bodyW (A := s₁.setTop (mkF m 0 #[rv ac, rv ag] [])) (Q := QF3 Z ac ag w0 w1 w2 w3 w4 w5 t_ac k_ac cs_ac t_ag k_ag cs_ag h0 n0) (fun t k => castTop (own_efF3 m ac ag) k) ?_
  have hall' := hall
  obtain ⟨AA0, AA1, AA2, AA3, AA4, AA5⟩ := hall'
  obtain ⟨T1, h1, X1, e1, E1, A1, D1, -, st1⟩ := newO X0 hx hZ hown (oW hw 41 rfl) (oW hw 42 rfl) (oW hw 39 rfl) e0 (g := (mkF m 0 #[rv ac, rv ag] [])) rfl (hb hby own_d23_0) (by decide) (by decide)
  obtain ⟨b1, g1⟩ : ∃ z, z = h0.size := ⟨_, rfl⟩
  rw [← g1] at A1 D1 st1
  have g_b1 : n0 ≤ b1 := Nat.le_trans Z0 (Nat.le_of_eq g1.symm)
  have F1_kind : Fld Z h1 b1 sAA "kind" sAG .null := D1 (Or.inr (oW hw 78 rfl)) (ty := (.object sAC)) (by decide)
  have F1_account : Fld Z h1 b1 sAA "account" sAH .null := D1 (Or.inr (oW hw 80 rfl)) (ty := (.object sAB)) (by decide)
  have F1_userId : Fld Z h1 b1 sAA "userId" sAH .null := D1 (Or.inr (oW hw 82 rfl)) (ty := (.object sAB)) (by decide)
  have F1_userName : Fld Z h1 b1 sAA "userName" sAH .null := D1 (Or.inr (oW hw 84 rfl)) (ty := (.object sAB)) (by decide)
  have F1_agency : Fld Z h1 b1 sAA "agency" sAH .null := D1 (Or.inr (oW hw 86 rfl)) (ty := (.object sAB)) (by decide)
  have F1_identityProvider : Fld Z h1 b1 sAA sAU sAH .null := D1 (Or.inr (oW hw 88 rfl)) (ty := (.object sAB)) (by decide)
  have F1_groups : Fld Z h1 b1 sAA "groups" "Ljava/util/Set;" .null := D1 (Or.inr (oW hw 90 rfl)) (ty := (.object "java/util/Set")) (by decide)
  have F1_service : Fld Z h1 b1 sAA "service" sAH .null := D1 (Or.inr (oW hw 92 rfl)) (ty := (.object sAB)) (by decide)
  refine ov (B := T1.setTop (mkF m 3 #[rv ac, rv ag] [(.ref b1)])) (fun t k => st1 t k) ?_
  refine oDU (n := 4) X1 hx (hb hby own_d23_3) rfl rfl ?_
  obtain ⟨T2, X2, e2, st2⟩ := getS2 X1 hx hZ hown (host := "") (Or.inl (oW hw 61 rfl)) Via.refl e1 (AA3.1.ext (O0.ext E1).2) (g := (mkF m 4 #[rv ac, rv ag] [(.ref b1), (.ref b1)])) rfl (hb hby own_d23_4)
  refine ov (B := T2.setTop (mkF m 7 #[rv ac, rv ag] [(.ref w3), (.ref b1), (.ref b1)])) (fun t k => st2 t k) ?_
  refine oALN (n := 8) X2 hx (hb hby own_d23_7) rfl rfl rfl ?_
  refine oNU (n := 9) X2 hx (hb hby own_d23_8) rfl ?_
  refine oNU (n := 10) X2 hx (hb hby own_d23_9) rfl ?_
  refine oALN (n := 11) X2 hx (hb hby own_d23_10) rfl rfl rfl ?_
  refine oNU (n := 12) X2 hx (hb hby own_d23_11) rfl ?_
  refine oNU (n := 13) X2 hx (hb hby own_d23_12) rfl ?_
  refine oNU (n := 14) X2 hx (hb hby own_d23_13) rfl ?_
  obtain ⟨_, _, ⟨T3, L3, k3, n3⟩, -, X3, hT3, gT3, ⟨Lc3, hQ3, l3, y3, z3⟩, st3⟩ := X2.specialBackS hx (y := (⟨sAA, "<init>", sAE⟩ : MethodName)) rfl hown (mvT hZ (oW hw 46 rfl)) (mvT hZ (oW hw 47 rfl)) (mvT hZ (oW hw 48 rfl)) (by decide) (backOfS (W := 1) (rmQ3snnsnnn l Z a0 hw [] b1 w3 ac ag w0 w1 w2 w4 w5 .null .null .null .null .null .null .null .null t_ac k_ac cs_ac t_ag k_ag cs_ag h1 n0 (Nat.le_trans Z0 E1.1) (by assumption) (O0.ext E1) A1 F1_kind F1_account F1_userId F1_userName F1_agency F1_identityProvider F1_groups F1_service g_b1 (SE_ac.ext E1) (SC_ac.ext E1) (SV_ac.ext E1) (SA_ac.ext E1) Sp_ac Sl_ac (SE_ag.ext E1) (SC_ag.ext E1) (SV_ag.ext E1) (SA_ag.ext E1) Sp_ag Sl_ag) hZ (oW hw 48 rfl) (oW hw 39 rfl) (by decide) (by decide)) (g := (mkF m 14 #[rv ac, rv ag] [.null, .null, .null, (.ref ag), .null, .null, (.ref ac), (.ref w3), (.ref b1), (.ref b1)])) rfl (by rw [hml]; rfl) (Steps.refl _) (a := b1) (argsL := [(.ref w3), (.ref ac), .null, .null, (.ref ag), .null, .null, .null]) (rest := [(.ref b1)]) (lenOf own_pd8 rfl) rfl (by show 2 * 0 + _ ≤ _; exact Nat.le_of_eq rfl) (hb hby own_d23_14) (fun _ _ => ⟨rfl, e2, (by decide : (0 + 1) + 12 ≤ _), (by decide : (0 + 8) + 216 ≤ _)⟩)
  dsimp only [Pt.U, Pt.locs, Pt.cells, Pt.slots] at X3 l3 y3 z3 st3 hQ3 hT3 gT3
  subst l3 y3 z3
  obtain ⟨X3, hS3, hZ, hown⟩ := rebS hS0 (by rw [e2]; exact (Nat.le_trans hk0 E1.1)) X3 hT3 gT3 hZ hown
  obtain ⟨rfl, Nq3, Kq3, f3_0, f3_1⟩ := hQ3
  have N3 := Fr.app N0 Nq3
  refine ov (B := T3.setTop (mkF m 17 #[rv ac, rv ag] [(.ref b1)])) (fun t k => st3.trans k) ?_
  refine own_leafW X3 hx hlk hS3 (Nat.le_refl _) (t := (.object sAA)) Bd.returns rfl (Or.inr (Or.inr (Or.inr (Or.inr ⟨rfl, rfl, rfl⟩)))) (hb hby own_d23_17) (by decide) (by decide) ?_
  show QF3 Z ac ag w0 w1 w2 w3 w4 w5 t_ac k_ac cs_ac t_ag k_ag cs_ag h0 n0 _ T3.heap _
  refine ⟨b1, ?_, N3, (((Keep.refl h0 []).ext E1).trans Kq3 (allS (Or.inr (Nat.le_of_eq g1.symm)) all0)), ?_, (A1.keep Kq3), f3_0, f3_1⟩
  · rfl
  · exact (Nat.le_of_eq g1.symm)
theorem own_d16_0 : decode prog_50_method_7_code 0 = .ok (.new 33, 3) := by decide +kernel
theorem own_d16_3 : decode prog_50_method_7_code 3 = .ok (.dup, 1) := by decide +kernel
theorem own_d16_4 : decode prog_50_method_7_code 4 = .ok (.getstatic 23, 3) := by decide +kernel
theorem own_d16_7 : decode prog_50_method_7_code 7 = .ok (.aconst_null, 1) := by decide +kernel
theorem own_d16_8 : decode prog_50_method_7_code 8 = .ok (.aconst_null, 1) := by decide +kernel
theorem own_d16_9 : decode prog_50_method_7_code 9 = .ok (.aconst_null, 1) := by decide +kernel
theorem own_d16_10 : decode prog_50_method_7_code 10 = .ok (.aconst_null, 1) := by decide +kernel
theorem own_d16_11 : decode prog_50_method_7_code 11 = .ok (.aconst_null, 1) := by decide +kernel
theorem own_d16_12 : decode prog_50_method_7_code 12 = .ok (.aconst_null, 1) := by decide +kernel
theorem own_d16_13 : decode prog_50_method_7_code 13 = .ok (.aload_n 0, 1) := by decide +kernel
theorem own_d16_14 : decode prog_50_method_7_code 14 = .ok (.invokespecial 105, 3) := by decide +kernel
theorem own_d16_17 : decode prog_50_method_7_code 17 = .ok (.areturn, 1) := by decide +kernel
theorem own_efF5 (m : MethodId) (x0 : Addr) : entryFrame m #[(.ref x0)] 1 = mkF m 0 #[rv x0] [] := by first | (simp [entryFrame, mkF, argsToLocals, Value.category]; done) | rfl
def QF5 (Z : State) (sv : Addr) (w0 : Addr) (w1 : Addr) (w2 : Addr) (w3 : Addr) (w4 : Addr) (w5 : Addr) (t_sv : Addr) (k_sv : ClassId) (cs_sv : List Int32) (h0 : Heap) (n0 : Nat) (v : Option Value) (h : Heap) (L : List Loc) : Prop := ∃ (r : Addr), v = some (.ref r) ∧ Fr n0 L ∧ Keep h0 h [] ∧ (h0.size ≤ r) ∧ (Exa Z h r sAA) ∧ (Fld Z h r sAA "kind" sAG (.ref w5))
set_option maxRecDepth 65536 in
set_option maxHeartbeats 40000000 in
theorem rmF5 (l : Launch) (Z : State) (a0 : Array Value) (hw : ∀ d ∈ tables_1, d.before a0 Z = true) (ws : List Jvm.Cond) (sv : Addr) (w0 : Addr) (w1 : Addr) (w2 : Addr) (w3 : Addr) (w4 : Addr) (w5 : Addr) (t_sv : Addr) (k_sv : ClassId) (cs_sv : List Int32) (h0 : Heap) (n0 : Nat) (Z0 : n0 ≤ h0.size) (hall : own_All Z Z.heap w0 w1 w2 w3 w4 w5) (O0 : Old Z n0 h0) (SE_sv : Exa Z h0 sv sAB) (SC_sv : Fld Z h0 sv sAB "coder" "B" (.int (0 : Int32))) (SV_sv : Fld Z h0 sv sAB "value" "[B" (.ref t_sv)) (SA_sv : Arv Z h0 t_sv k_sv .byte (Int32.ofNat cs_sv.length) ((cs_sv.map StrChars.lo8).map Value.int) (.int 0)) (Sp_sv : ∀ c ∈ cs_sv, ¬ c < 0 ∧ ¬ (255 : Int32) < c) (Sl_sv : 0 < cs_sv.length ∧ cs_sv.length ≤ 4000) :
    MetFree l (⟨sAA, "service", "(Ljava/lang/String;)Lcom/example/wardstone/wardstone/request/Requester;"⟩ : MethodName) (head1 (Jvm.Cond.code (⟨sAA, "service", "(Ljava/lang/String;)Lcom/example/wardstone/wardstone/request/Requester;"⟩ : MethodName) prog_50_method_7_code 1 (some (.object sAA)) :: ws) ({ frames := 3, cells := 13, slots := 224, locals := 50 } : Room)) (fun a U => a = #[(.ref sv)] ∧ Z.Warmed39 U.vm ∧ U.heap = h0) (fun _ _ _ _ _ => True) (fun _ U o U' => ∃ v L, o = .returned v ∧ QF5 Z sv w0 w1 w2 w3 w4 w5 t_sv k_sv cs_sv h0 n0 v U'.heap L ∧ ReturnedEndW U o U' L ({ frames := 3, cells := 13, slots := 224, locals := 50 } : Room).cells ({ frames := 3, cells := 13, slots := 224, locals := 50 } : Room).slots) := by
  refine MetFree.of_bodySF (plainFor_of_name own_pn4) hisR ?_
  intro p e s m args below meth c s₁ Bd hml0 hP hK
  obtain ⟨rfl, hZ, hh⟩ := hP
  have hx := Bd.exec
  have hby := Bd.bytes
  have hlk : meth.locks = false := Bd.notSynchronized
  have hml : c.maxLocals = 1 := hml0
  have hown : s.vm.findClass sAA = some m.cls := findClass_of_methodNamed Bd.named
  have hnm := (name_of_methodNamed Bd.named Bd.method).1
  have X0 : Stand p l e ({ frames := 3, cells := 13, slots := 224, locals := 50 } : Room) (s.setVm s.vm) m #[(.ref sv)] below meth c s₁ [] 0 0 := Stand.of_body Bd
  have e0 : s₁.heap = h0 := by rw [← hh, Bd.state]; rfl
  have N0 := Fr.nil n0
  have hS0 : s.Since s.vm h0.size := (State.WarmedH.refl s).since _
  have hk0 : h0.size ≤ h0.size := Nat.le_refl _
  have wS : ∀ a ∈ Bundle.stringAtoms, a.before a0 Z = true := by
    intro a ha
    simp only [Bundle.stringAtoms, List.mem_cons, List.not_mem_nil, or_false] at ha
    rcases ha with rfl | rfl | rfl | rfl | rfl | rfl | rfl
    · exact (oW hw 9 rfl)
    · exact (oW hw 10 rfl)
    · exact (oW hw 11 rfl)
    · exact (oW hw 12 rfl)
    · exact (oW hw 13 rfl)
    · exact (oW hw 14 rfl)
    · exact (oW hw 15 rfl)
  refine own_bodyW (A := s₁.setTop (mkF m 0 #[rv sv] [])) (Q := QF5 Z sv w0 w1 w2 w3 w4 w5 t_sv k_sv cs_sv h0 n0) (fun t k => castTop (own_efF5 m sv) k) ?_
  have hall' := hall
  obtain ⟨AA0, AA1, AA2, AA3, AA4, AA5⟩ := hall'
  obtain ⟨T1, h1, X1, e1, E1, A1, D1, -, st1⟩ := newO X0 hx hZ hown (oW hw 41 rfl) (oW hw 42 rfl) (oW hw 39 rfl) e0 (g := (mkF m 0 #[rv sv] [])) rfl (hb hby own_d16_0) (by decide) (by decide)
  obtain ⟨b1, g1⟩ : ∃ z, z = h0.size := ⟨_, rfl⟩
  rw [← g1] at A1 D1 st1
  have g_b1 : n0 ≤ b1 := Nat.le_trans Z0 (Nat.le_of_eq g1.symm)
  have F1_kind : Fld Z h1 b1 sAA "kind" sAG .null := D1 (Or.inr (oW hw 78 rfl)) (ty := (.object sAC)) (by decide)
  have F1_account : Fld Z h1 b1 sAA "account" sAH .null := D1 (Or.inr (oW hw 80 rfl)) (ty := (.object sAB)) (by decide)
  have F1_userId : Fld Z h1 b1 sAA "userId" sAH .null := D1 (Or.inr (oW hw 82 rfl)) (ty := (.object sAB)) (by decide)
  have F1_userName : Fld Z h1 b1 sAA "userName" sAH .null := D1 (Or.inr (oW hw 84 rfl)) (ty := (.object sAB)) (by decide)
  have F1_agency : Fld Z h1 b1 sAA "agency" sAH .null := D1 (Or.inr (oW hw 86 rfl)) (ty := (.object sAB)) (by decide)
  have F1_identityProvider : Fld Z h1 b1 sAA sAU sAH .null := D1 (Or.inr (oW hw 88 rfl)) (ty := (.object sAB)) (by decide)
  have F1_groups : Fld Z h1 b1 sAA "groups" "Ljava/util/Set;" .null := D1 (Or.inr (oW hw 90 rfl)) (ty := (.object "java/util/Set")) (by decide)
  have F1_service : Fld Z h1 b1 sAA "service" sAH .null := D1 (Or.inr (oW hw 92 rfl)) (ty := (.object sAB)) (by decide)
  refine ov (B := T1.setTop (mkF m 3 #[rv sv] [(.ref b1)])) (fun t k => st1 t k) ?_
  refine oDU (n := 4) X1 hx (hb hby own_d16_3) rfl rfl ?_
  obtain ⟨T2, X2, e2, st2⟩ := getS2 X1 hx hZ hown (host := "") (Or.inl (oW hw 59 rfl)) Via.refl e1 (AA5.1.ext (O0.ext E1).2) (g := (mkF m 4 #[rv sv] [(.ref b1), (.ref b1)])) rfl (hb hby own_d16_4)
  refine ov (B := T2.setTop (mkF m 7 #[rv sv] [(.ref w5), (.ref b1), (.ref b1)])) (fun t k => st2 t k) ?_
  refine oNU (n := 8) X2 hx (hb hby own_d16_7) rfl ?_
  refine oNU (n := 9) X2 hx (hb hby own_d16_8) rfl ?_
  refine oNU (n := 10) X2 hx (hb hby own_d16_9) rfl ?_
  refine oNU (n := 11) X2 hx (hb hby own_d16_10) rfl ?_
  refine oNU (n := 12) X2 hx (hb hby own_d16_11) rfl ?_
  refine oNU (n := 13) X2 hx (hb hby own_d16_12) rfl ?_
  refine oALN (n := 14) X2 hx (hb hby own_d16_13) rfl rfl rfl ?_
  obtain ⟨_, _, ⟨T3, L3, k3, n3⟩, -, X3, hT3, gT3, ⟨Lc3, hQ3, l3, y3, z3⟩, st3⟩ := X2.specialBackS hx (y := (⟨sAA, "<init>", sAE⟩ : MethodName)) rfl hown (mvT hZ (oW hw 46 rfl)) (mvT hZ (oW hw 47 rfl)) (mvT hZ (oW hw 48 rfl)) (by decide) (backOfS (W := 1) (rmQ5nnnnnns l Z a0 hw [] b1 w5 sv w0 w1 w2 w3 w4 .null .null .null .null .null .null .null .null t_sv k_sv cs_sv h1 n0 (Nat.le_trans Z0 E1.1) (by assumption) (O0.ext E1) A1 F1_kind F1_account F1_userId F1_userName F1_agency F1_identityProvider F1_groups F1_service g_b1 (SE_sv.ext E1) (SC_sv.ext E1) (SV_sv.ext E1) (SA_sv.ext E1) Sp_sv Sl_sv) hZ (oW hw 48 rfl) (oW hw 39 rfl) (by decide) (by decide)) (g := (mkF m 14 #[rv sv] [(.ref sv), .null, .null, .null, .null, .null, .null, (.ref w5), (.ref b1), (.ref b1)])) rfl (by rw [hml]; rfl) (Steps.refl _) (a := b1) (argsL := [(.ref w5), .null, .null, .null, .null, .null, .null, (.ref sv)]) (rest := [(.ref b1)]) (lenOf own_pd8 rfl) rfl (by show 2 * 0 + _ ≤ _; exact Nat.le_of_eq rfl) (hb hby own_d16_14) (fun _ _ => ⟨rfl, e2, (by decide : (0 + 1) + 12 ≤ _), (by decide : (0 + 8) + 216 ≤ _)⟩)
  dsimp only [Pt.U, Pt.locs, Pt.cells, Pt.slots] at X3 l3 y3 z3 st3 hQ3 hT3 gT3
  subst l3 y3 z3
  obtain ⟨X3, hS3, hZ, hown⟩ := rebS hS0 (by rw [e2]; exact (Nat.le_trans hk0 E1.1)) X3 hT3 gT3 hZ hown
  obtain ⟨rfl, Nq3, Kq3, f3_0, f3_1⟩ := hQ3
  have N3 := Fr.app N0 Nq3
  refine ov (B := T3.setTop (mkF m 17 #[rv sv] [(.ref b1)])) (fun t k => st3.trans k) ?_
  refine own_leafW X3 hx hlk hS3 (Nat.le_refl _) (t := (.object sAA)) Bd.returns rfl (Or.inr (Or.inr (Or.inr (Or.inr ⟨rfl, rfl, rfl⟩)))) (hb hby own_d16_17) (by decide) (by decide) ?_
  show QF5 Z sv w0 w1 w2 w3 w4 w5 t_sv k_sv cs_sv h0 n0 _ T3.heap _
  refine ⟨b1, ?_, N3, (((Keep.refl h0 []).ext E1).trans Kq3 (allS (Or.inr (Nat.le_of_eq g1.symm)) all0)), ?_, (A1.keep Kq3), f3_0⟩
  · rfl
  · exact (Nat.le_of_eq g1.symm)
theorem own_d22_0 : decode prog_50_method_2_code 0 = .ok (.getstatic 99, 3) := by decide +kernel
theorem own_d22_3 : decode prog_50_method_2_code 3 = .ok (.areturn, 1) := by decide +kernel
theorem own_efAn (m : MethodId)  : entryFrame m #[] 0 = mkF m 0 #[] [] := by first | (simp [entryFrame, mkF, argsToLocals, Value.category]; done) | rfl
def QAn (Z : State) (wN : Addr) (h0 : Heap) (n0 : Nat) (v : Option Value) (h : Heap) (L : List Loc) : Prop := v = some (.ref wN) ∧ Fr n0 L ∧ h = h0
set_option maxRecDepth 65536 in
set_option maxHeartbeats 40000000 in
theorem rmAn (l : Launch) (Z : State) (a0 : Array Value) (hw : ∀ d ∈ tables_1, d.before a0 Z = true) (ws : List Jvm.Cond) (wN : Addr) (h0 : Heap) (n0 : Nat) (Z0 : n0 ≤ h0.size) (O0 : Old Z n0 h0) (SN : Sta Z Z.heap sAA "ANONYMOUS" "Lcom/example/wardstone/wardstone/request/Requester;" (.ref wN)) :
    MetFree l (⟨sAA, "anonymous", "()Lcom/example/wardstone/wardstone/request/Requester;"⟩ : MethodName) (head1 (Jvm.Cond.code (⟨sAA, "anonymous", "()Lcom/example/wardstone/wardstone/request/Requester;"⟩ : MethodName) prog_50_method_2_code 0 (some (.object sAA)) :: ws) ({ frames := 0, cells := 0, slots := 0, locals := 0 } : Room)) (fun a U => a = #[] ∧ Z.Warmed39 U.vm ∧ U.heap = h0) (fun _ _ _ _ _ => True) (fun _ U o U' => ∃ v L, o = .returned v ∧ QAn Z wN h0 n0 v U'.heap L ∧ FrameEnd U o U' L ({ frames := 0, cells := 0, slots := 0, locals := 0 } : Room).cells ({ frames := 0, cells := 0, slots := 0, locals := 0 } : Room).slots) := by
  refine MetFree.of_bodySF (plainFor_of_name own_pn4) hisR ?_
  intro p e s m args below meth c s₁ Bd hml0 hP hK
  obtain ⟨rfl, hZ, hh⟩ := hP
  have hx := Bd.exec
  have hby := Bd.bytes
  have hlk : meth.locks = false := Bd.notSynchronized
  have hml : c.maxLocals = 0 := hml0
  have hown : s.vm.findClass sAA = some m.cls := findClass_of_methodNamed Bd.named
  have hnm := (name_of_methodNamed Bd.named Bd.method).1
  have X0 : Stand p l e ({ frames := 0, cells := 0, slots := 0, locals := 0 } : Room) s m #[] below meth c s₁ [] 0 0 := Stand.of_body Bd
  have e0 : s₁.heap = h0 := by rw [← hh, Bd.state]; rfl
  have N0 := Fr.nil n0
  refine own_body (A := s₁.setTop (mkF m 0 #[] [])) (Q := QAn Z wN h0 n0) (fun t k => castTop (own_efAn m ) k) ?_
  obtain ⟨T1, X1, e1, st1⟩ := getS2 X0 hx hZ hown (host := "") (Or.inl (oW hw 138 rfl)) Via.refl e0 (SN.ext O0.2) (g := (mkF m 0 #[] [])) rfl (hb hby own_d22_0)
  refine ov (B := T1.setTop (mkF m 3 #[] [(.ref wN)])) (fun t k => st1 t k) ?_
  refine own_leaf X1 hx hlk (t := (.object sAA)) Bd.returns rfl (Or.inr (Or.inr (Or.inr (Or.inr ⟨rfl, rfl, rfl⟩)))) (hb hby own_d22_3) (by decide) (by decide) ?_
  show QAn Z wN h0 n0 _ T1.heap _
  rw [e1]
  refine ⟨?_, N0, rfl⟩
  rfl
theorem own_d15_0 : decode prog_50_method_13_code 0 = .ok (.aload_n 0, 1) := by decide +kernel
theorem own_d15_1 : decode prog_50_method_13_code 1 = .ok (.getfield 78, 3) := by decide +kernel
theorem own_d15_4 : decode prog_50_method_13_code 4 = .ok (.areturn, 1) := by decide +kernel
theorem own_efgkind (m : MethodId) (x0 : Addr) : entryFrame m #[(.ref x0)] 1 = mkF m 0 #[rv x0] [] := by first | (simp [entryFrame, mkF, argsToLocals, Value.category]; done) | rfl
def Qgkind (Z : State) (a8 : Addr) (p8 : Addr) (h0 : Heap) (n0 : Nat) (v : Option Value) (h : Heap) (L : List Loc) : Prop := v = some (.ref p8) ∧ Fr n0 L ∧ h = h0
set_option maxRecDepth 65536 in
set_option maxHeartbeats 40000000 in
theorem rmgkind (l : Launch) (Z : State) (a0 : Array Value) (hw : ∀ d ∈ tables_1, d.before a0 Z = true) (ws : List Jvm.Cond) (a8 : Addr) (p8 : Addr) (h0 : Heap) (n0 : Nat) (Z0 : n0 ≤ h0.size) (F8 : Fld Z h0 a8 sAA "kind" sAG (.ref p8)) :
    MetFree l (⟨sAA, "kind", sAQ⟩ : MethodName) (head1 (Jvm.Cond.code (⟨sAA, "kind", sAQ⟩ : MethodName) prog_50_method_13_code 1 (some (.object sAC)) :: ws) ({ frames := 0, cells := 0, slots := 0, locals := 0 } : Room)) (fun a U => a = #[(.ref a8)] ∧ Z.Warmed39 U.vm ∧ U.heap = h0) (fun _ _ _ _ _ => True) (fun _ U o U' => ∃ v L, o = .returned v ∧ Qgkind Z a8 p8 h0 n0 v U'.heap L ∧ FrameEnd U o U' L ({ frames := 0, cells := 0, slots := 0, locals := 0 } : Room).cells ({ frames := 0, cells := 0, slots := 0, locals := 0 } : Room).slots) := by
  refine MetFree.of_bodySF (plainFor_of_name own_pn4) hisR ?_
  intro p e s m args below meth c s₁ Bd hml0 hP hK
  obtain ⟨rfl, hZ, hh⟩ := hP
  have hx := Bd.exec
  have hby := Bd.bytes
  have hlk : meth.locks = false := Bd.notSynchronized
  have hml : c.maxLocals = 1 := hml0
  have hown : s.vm.findClass sAA = some m.cls := findClass_of_methodNamed Bd.named
  have hnm := (name_of_methodNamed Bd.named Bd.method).1
  have X0 : Stand p l e ({ frames := 0, cells := 0, slots := 0, locals := 0 } : Room) s m #[(.ref a8)] below meth c s₁ [] 0 0 := Stand.of_body Bd
  have e0 : s₁.heap = h0 := by rw [← hh, Bd.state]; rfl
  have N0 := Fr.nil n0
  refine own_body (A := s₁.setTop (mkF m 0 #[rv a8] [])) (Q := Qgkind Z a8 p8 h0 n0) (fun t k => castTop (own_efgkind m a8) k) ?_
  refine oALN (n := 1) X0 hx (hb hby own_d15_0) rfl rfl rfl ?_
  obtain ⟨T1, X1, e1, st1⟩ := getF X0 hx hZ hown (host := "") (Or.inl (oW hw 77 rfl)) Via.refl e0 F8 (g := (mkF m 1 #[rv a8] [(.ref a8)])) rfl rfl (hb hby own_d15_1)
  refine ov (B := T1.setTop (mkF m 4 #[rv a8] [(.ref p8)])) (fun t k => st1 t k) ?_
  refine own_leaf X1 hx hlk (t := (.object sAC)) Bd.returns rfl (Or.inr (Or.inr (Or.inr (Or.inr ⟨rfl, rfl, rfl⟩)))) (hb hby own_d15_4) (by decide) (by decide) ?_
  show Qgkind Z a8 p8 h0 n0 _ T1.heap _
  rw [e1]
  refine ⟨?_, N0, rfl⟩
  rfl
theorem own_d26_0 : decode prog_50_method_14_code 0 = .ok (.aload_n 0, 1) := by decide +kernel
theorem own_d26_1 : decode prog_50_method_14_code 1 = .ok (.getfield 81, 3) := by decide +kernel
theorem own_d26_4 : decode prog_50_method_14_code 4 = .ok (.areturn, 1) := by decide +kernel
theorem own_efgaccount (m : MethodId) (x0 : Addr) : entryFrame m #[(.ref x0)] 1 = mkF m 0 #[rv x0] [] := by first | (simp [entryFrame, mkF, argsToLocals, Value.category]; done) | rfl
def Qgaccount (Z : State) (a8 : Addr) (p8 : Addr) (h0 : Heap) (n0 : Nat) (v : Option Value) (h : Heap) (L : List Loc) : Prop := v = some (.ref p8) ∧ Fr n0 L ∧ h = h0
set_option maxRecDepth 65536 in
set_option maxHeartbeats 40000000 in
theorem rmgaccount (l : Launch) (Z : State) (a0 : Array Value) (hw : ∀ d ∈ tables_1, d.before a0 Z = true) (ws : List Jvm.Cond) (a8 : Addr) (p8 : Addr) (h0 : Heap) (n0 : Nat) (Z0 : n0 ≤ h0.size) (F8 : Fld Z h0 a8 sAA "account" sAH (.ref p8)) :
    MetFree l (⟨sAA, "account", "()Ljava/lang/String;"⟩ : MethodName) (head1 (Jvm.Cond.code (⟨sAA, "account", "()Ljava/lang/String;"⟩ : MethodName) prog_50_method_14_code 1 (some (.object sAB)) :: ws) ({ frames := 0, cells := 0, slots := 0, locals := 0 } : Room)) (fun a U => a = #[(.ref a8)] ∧ Z.Warmed39 U.vm ∧ U.heap = h0) (fun _ _ _ _ _ => True) (fun _ U o U' => ∃ v L, o = .returned v ∧ Qgaccount Z a8 p8 h0 n0 v U'.heap L ∧ FrameEnd U o U' L ({ frames := 0, cells := 0, slots := 0, locals := 0 } : Room).cells ({ frames := 0, cells := 0, slots := 0, locals := 0 } : Room).slots) := by
  refine MetFree.of_bodySF (plainFor_of_name own_pn4) hisR ?_
  intro p e s m args below meth c s₁ Bd hml0 hP hK
  obtain ⟨rfl, hZ, hh⟩ := hP
  have hx := Bd.exec
  have hby := Bd.bytes
  have hlk : meth.locks = false := Bd.notSynchronized
  have hml : c.maxLocals = 1 := hml0
  have hown : s.vm.findClass sAA = some m.cls := findClass_of_methodNamed Bd.named
  have hnm := (name_of_methodNamed Bd.named Bd.method).1
  have X0 : Stand p l e ({ frames := 0, cells := 0, slots := 0, locals := 0 } : Room) s m #[(.ref a8)] below meth c s₁ [] 0 0 := Stand.of_body Bd
  have e0 : s₁.heap = h0 := by rw [← hh, Bd.state]; rfl
  have N0 := Fr.nil n0
  refine own_body (A := s₁.setTop (mkF m 0 #[rv a8] [])) (Q := Qgaccount Z a8 p8 h0 n0) (fun t k => castTop (own_efgaccount m a8) k) ?_
  refine oALN (n := 1) X0 hx (hb hby own_d26_0) rfl rfl rfl ?_
  obtain ⟨T1, X1, e1, st1⟩ := getF X0 hx hZ hown (host := "") (Or.inl (oW hw 79 rfl)) Via.refl e0 F8 (g := (mkF m 1 #[rv a8] [(.ref a8)])) rfl rfl (hb hby own_d26_1)
  refine ov (B := T1.setTop (mkF m 4 #[rv a8] [(.ref p8)])) (fun t k => st1 t k) ?_
  refine own_leaf X1 hx hlk (t := (.object sAB)) Bd.returns rfl (Or.inr (Or.inr (Or.inr (Or.inr ⟨rfl, rfl, rfl⟩)))) (hb hby own_d26_4) (by decide) (by decide) ?_
  show Qgaccount Z a8 p8 h0 n0 _ T1.heap _
  rw [e1]
  refine ⟨?_, N0, rfl⟩
  rfl
theorem own_pn5 : plainName "com/example/wardstone/wardstone/policy/PrincipalPattern$Account" = true := by first | (simp [plainName, overriddenIn]; done) | decide +kernel
theorem own_d13_0 : decode prog_30_method_1_code 0 = .ok (.aload_n 0, 1) := by decide +kernel
theorem own_d13_1 : decode prog_30_method_1_code 1 = .ok (.invokespecial 1, 3) := by decide +kernel
theorem own_d13_4 : decode prog_30_method_1_code 4 = .ok (.aload_n 0, 1) := by decide +kernel
theorem own_d13_5 : decode prog_30_method_1_code 5 = .ok (.aload_n 1, 1) := by decide +kernel
theorem own_d13_6 : decode prog_30_method_1_code 6 = .ok (.putfield 7, 3) := by decide +kernel
theorem own_d13_9 : decode prog_30_method_1_code 9 = .ok (.return_, 1) := by decide +kernel
theorem own_efPi (m : MethodId) (x0 : Addr) (x1 : Addr) : entryFrame m #[(.ref x0), (.ref x1)] 2 = mkF m 0 #[rv x0, rv x1] [] := by first | (simp [entryFrame, mkF, argsToLocals, Value.category]; done) | rfl
def QPi (Z : State) (a5 : Addr) (x5 : Addr) (u5 : Value) (h0 : Heap) (n0 : Nat) (v : Option Value) (h : Heap) (L : List Loc) : Prop := v = none ∧ Fr n0 L ∧ Keep h0 h [a5] ∧ (Fld Z h a5 sAF "account" sAH (.ref x5))
set_option maxRecDepth 65536 in
set_option maxHeartbeats 40000000 in
theorem rmPi (l : Launch) (Z : State) (a0 : Array Value) (hw : ∀ d ∈ tables_1, d.before a0 Z = true) (ws : List Jvm.Cond) (a5 : Addr) (x5 : Addr) (u5 : Value) (h0 : Heap) (n0 : Nat) (Z0 : n0 ≤ h0.size) (E5 : Exa Z h0 a5 sAF) (F5 : Fld Z h0 a5 sAF "account" sAH u5) (g_a5 : n0 ≤ a5) :
    MetFree l (⟨sAF, "<init>", sAT⟩ : MethodName) (head1 (Jvm.Cond.code (⟨sAF, "<init>", sAT⟩ : MethodName) prog_30_method_1_code 2 none :: ws) ({ frames := 2, cells := 0, slots := 0, locals := 24 } : Room)) (fun a U => a = #[(.ref a5), (.ref x5)] ∧ Z.Warmed39 U.vm ∧ U.heap = h0) (fun _ _ _ _ _ => True) (fun _ U o U' => ∃ v L, o = .returned v ∧ QPi Z a5 x5 u5 h0 n0 v U'.heap L ∧ FrameEnd U o U' L ({ frames := 2, cells := 0, slots := 0, locals := 24 } : Room).cells ({ frames := 2, cells := 0, slots := 0, locals := 24 } : Room).slots) := by
  refine MetFree.of_bodySF (plainFor_of_name own_pn5) hisR ?_
  intro p e s m args below meth c s₁ Bd hml0 hP hK
  obtain ⟨rfl, hZ, hh⟩ := hP
  have hx := Bd.exec
  have hby := Bd.bytes
  have hlk : meth.locks = false := Bd.notSynchronized
  have hml : c.maxLocals = 2 := hml0
  have hown : s.vm.findClass sAF = some m.cls := findClass_of_methodNamed Bd.named
  have hnm := (name_of_methodNamed Bd.named Bd.method).1
  have X0 : Stand p l e ({ frames := 2, cells := 0, slots := 0, locals := 24 } : Room) s m #[(.ref a5), (.ref x5)] below meth c s₁ [] 0 0 := Stand.of_body Bd
  have e0 : s₁.heap = h0 := by rw [← hh, Bd.state]; rfl
  have N0 := Fr.nil n0
  refine own_body (A := s₁.setTop (mkF m 0 #[rv a5, rv x5] [])) (Q := QPi Z a5 x5 u5 h0 n0) (fun t k => castTop (own_efPi m a5 x5) k) ?_
  refine oALN (n := 1) X0 hx (hb hby own_d13_0) rfl rfl rfl ?_
  obtain ⟨_, _, ⟨T1, L1, k1, n1⟩, -, X1, ⟨Lc1, hQ1, l1, y1, z1⟩, st1⟩ := X0.specialBack hx (y := (⟨sAV, "<init>", "()V"⟩ : MethodName)) rfl hown (mvT hZ (oW hw 99 rfl)) (mvT hZ (oW hw 50 rfl)) (mvT hZ (oW hw 53 rfl)) (by decide) (backOf (W := 0) (rmR l Z a0 hw [] a5 h0 n0 Z0 ) hZ (oW hw 53 rfl) (oW hw 52 rfl) (by decide) (by decide)) (g := (mkF m 1 #[rv a5, rv x5] [(.ref a5)])) rfl (by rw [hml]; rfl) (Steps.refl _) (a := a5) (argsL := []) (rest := []) (lenOf own_pd6 rfl) rfl (by show 2 * 0 + _ ≤ _; exact Nat.le_of_eq rfl) (hb hby own_d13_1) (fun _ _ => ⟨rfl, e0, (by decide : 0 + 0 ≤ _), (by decide : 0 + 0 ≤ _)⟩)
  dsimp only [Pt.U, Pt.locs, Pt.cells, Pt.slots] at X1 l1 y1 z1 st1 hQ1
  subst l1 y1 z1
  obtain ⟨rfl, Nq1, eq1⟩ := hQ1
  have N1 := Fr.app N0 Nq1
  refine ov (B := T1.setTop (mkF m 4 #[rv a5, rv x5] [])) (fun t k => st1.trans k) ?_
  refine oALN (n := 5) X1 hx (hb hby own_d13_4) rfl rfl rfl ?_
  refine oALN (n := 6) X1 hx (hb hby own_d13_5) rfl rfl rfl ?_
  obtain ⟨T2, h2, X2, e2, W2, st2⟩ := putF X1 hx hZ hown (host := "") (Or.inl (oW hw 100 rfl)) Via.refl eq1 F5 E5 (Or.inr ⟨(oW hw 101 rfl), rfl, hnm⟩) (oW hw 94 rfl) (ty := (.object sAB)) (by decide) rfl rfl (g := (mkF m 6 #[rv a5, rv x5] [(.ref x5), (.ref a5)])) rfl rfl (hb hby own_d13_6)
  have Fw2 := F5.same W2
  have N2 := Fr.snoc X2 N1 g_a5
  refine ov (B := T2.setTop (mkF m 9 #[rv a5, rv x5] [])) (fun t k => st2 t k) ?_
  refine own_leafV X2 hx hlk Bd.returns (hb hby own_d13_9) (by decide) (by decide) ?_
  show QPi Z a5 x5 u5 h0 n0 _ T2.heap _
  rw [e2]
  refine ⟨?_, N2, ((Keep.refl h0 [a5]).wr W2 (Or.inl (List.mem_of_getElem? (i := 0) rfl))), Fw2⟩
  rfl
theorem own_pd9 : parseMethodDescriptor sAQ = some ⟨[], some (.object sAC)⟩ := by decide +kernel
theorem own_d14_0 : decode prog_30_method_2_code 0 = .ok (.aload_n 1, 1) := by decide +kernel
theorem own_d14_1 : decode prog_30_method_2_code 1 = .ok (.invokevirtual 13, 3) := by decide +kernel
theorem own_d14_4 : decode prog_30_method_2_code 4 = .ok (.getstatic 19, 3) := by decide +kernel
theorem own_d14_7 : decode prog_30_method_2_code 7 = .ok (.if_acmp .ne 21, 3) := by decide +kernel
theorem own_d14_28 : decode prog_30_method_2_code 28 = .ok (.iconst 0, 1) := by decide +kernel
theorem own_d14_29 : decode prog_30_method_2_code 29 = .ok (.ireturn, 1) := by decide +kernel
theorem own_efM0 (m : MethodId) (x0 : Addr) (x1 : Addr) : entryFrame m #[(.ref x0), (.ref x1)] 2 = mkF m 0 #[rv x0, rv x1] [] := by first | (simp [entryFrame, mkF, argsToLocals, Value.category]; done) | rfl
def QM0 (Z : State) (a6 : Addr) (b6 : Addr) (zc : Int32) (w0 : Addr) (w1 : Addr) (w2 : Addr) (w3 : Addr) (w4 : Addr) (w5 : Addr) (h0 : Heap) (n0 : Nat) (v : Option Value) (h : Heap) (L : List Loc) : Prop := v = some (.int (0 : Int32)) ∧ Fr n0 L ∧ h = h0
set_option maxRecDepth 65536 in
set_option maxHeartbeats 40000000 in
theorem rmM0 (l : Launch) (Z : State) (a0 : Array Value) (hw : ∀ d ∈ tables_1, d.before a0 Z = true) (ws : List Jvm.Cond) (a6 : Addr) (b6 : Addr) (zc : Int32) (w0 : Addr) (w1 : Addr) (w2 : Addr) (w3 : Addr) (w4 : Addr) (w5 : Addr) (h0 : Heap) (n0 : Nat) (Z0 : n0 ≤ h0.size) (hall : own_All Z Z.heap w0 w1 w2 w3 w4 w5) (O0 : Old Z n0 h0) (Scz : Sta Z Z.heap sAB "COMPACT_STRINGS" "Z" (.int zc)) (hcz : ¬ zc = 0) (E6 : Exa Z h0 b6 sAA) (G6 : Fld Z h0 b6 sAA "kind" sAG (.ref w0)) :
    MetFree l (⟨sAF, "matches", sAO⟩ : MethodName) (head1 (Jvm.Cond.code (⟨sAF, "matches", sAO⟩ : MethodName) prog_30_method_2_code 2 (some .boolean) :: ws) ({ frames := 2, cells := 0, slots := 0, locals := 28 } : Room)) (fun a U => a = #[(.ref a6), (.ref b6)] ∧ Z.Warmed39 U.vm ∧ U.heap = h0) (fun _ _ _ _ _ => True) (fun _ U o U' => ∃ v L, o = .returned v ∧ QM0 Z a6 b6 zc w0 w1 w2 w3 w4 w5 h0 n0 v U'.heap L ∧ FrameEnd U o U' L ({ frames := 2, cells := 0, slots := 0, locals := 28 } : Room).cells ({ frames := 2, cells := 0, slots := 0, locals := 28 } : Room).slots) := by
  refine MetFree.of_bodySF (plainFor_of_name own_pn5) hisR ?_
  intro p e s m args below meth c s₁ Bd hml0 hP hK
  obtain ⟨rfl, hZ, hh⟩ := hP
  have hx := Bd.exec
  have hby := Bd.bytes
  have hlk : meth.locks = false := Bd.notSynchronized
  have hml : c.maxLocals = 2 := hml0
  have hown : s.vm.findClass sAF = some m.cls := findClass_of_methodNamed Bd.named
  have hnm := (name_of_methodNamed Bd.named Bd.method).1
  have X0 : Stand p l e ({ frames := 2, cells := 0, slots := 0, locals := 28 } : Room) s m #[(.ref a6), (.ref b6)] below meth c s₁ [] 0 0 := Stand.of_body Bd
  have e0 : s₁.heap = h0 := by rw [← hh, Bd.state]; rfl
  have N0 := Fr.nil n0
  refine own_body (A := s₁.setTop (mkF m 0 #[rv a6, rv b6] [])) (Q := QM0 Z a6 b6 zc w0 w1 w2 w3 w4 w5 h0 n0) (fun t k => castTop (own_efM0 m a6 b6) k) ?_
  have hall' := hall
  obtain ⟨AA0, AA1, AA2, AA3, AA4, AA5⟩ := hall'
  have hwq : ∀ d ∈ StrChars.Road.wordsEq, d.before a0 Z = true := fun d hd => hw d ((by decide +kernel : ∀ d ∈ StrChars.Road.wordsEq, d ∈ tables_1) d hd)
  refine oALN (n := 1) X0 hx (hb hby own_d14_0) rfl rfl rfl ?_
  obtain ⟨cq1, kq1, q1a, q1b, q1c⟩ := isOf hZ e0 E6
  obtain ⟨_, _, ⟨T1, L1, k1, n1⟩, -, X1, ⟨Lc1, hQ1, l1, y1, z1⟩, st1⟩ := X0.virtualBack hx (y := (⟨sAA, "kind", sAQ⟩ : MethodName)) (z := (⟨sAA, "kind", sAQ⟩ : MethodName)) hown (mvT hZ (oW hw 107 rfl)) (mvT hZ (oW hw 108 rfl)) (notFace_of_selects (args := #[]) (mvT hZ (oW hw 110 rfl))) (mvT hZ (oW hw 110 rfl)) (mvT hZ (oW hw 109 rfl)) (by decide) (backOf (W := 0) (rmgkind l Z a0 hw [] b6 w0 h0 n0 Z0 G6) hZ (oW hw 111 rfl) (oW hw 39 rfl) (by decide) (by decide)) q1a q1c (g := (mkF m 1 #[rv a6, rv b6] [(.ref b6)])) rfl (by rw [hml]; rfl) (Steps.refl _) (argsL := []) (rest := []) (lenOf own_pd9 rfl) rfl (by show 2 * 0 + _ ≤ _; exact Nat.le_of_eq rfl) (hb hby own_d14_1) (fun _ _ => ⟨rfl, e0, (by decide : 0 + 0 ≤ _), (by decide : 0 + 0 ≤ _)⟩)
  dsimp only [Pt.U, Pt.locs, Pt.cells, Pt.slots] at X1 l1 y1 z1 st1 hQ1
  subst l1 y1 z1
  obtain ⟨rfl, Nq1, eq1⟩ := hQ1
  have N1 := Fr.app N0 Nq1
  refine ov (B := T1.setTop (mkF m 4 #[rv a6, rv b6] [(.ref w0)])) (fun t k => st1.trans k) ?_
  obtain ⟨T2, X2, e2, st2⟩ := getS2 X1 hx hZ hown (host := "") (Or.inl (oW hw 112 rfl)) Via.refl eq1 (AA1.1.ext O0.2) (g := (mkF m 4 #[rv a6, rv b6] [(.ref w0)])) rfl (hb hby own_d14_4)
  refine ov (B := T2.setTop (mkF m 7 #[rv a6, rv b6] [(.ref w1), (.ref w0)])) (fun t k => st2 t k) ?_
  have hc7 : ¬ (w0 = w1) := own_ne AA0 AA1 (by decide)
  refine ov (B := T2.setTop (mkF m 28 #[rv a6, rv b6] [])) (fun t k => Jvm.RoadKit.acmp (g := (mkF m 7 #[rv a6, rv b6] [(.ref w1), (.ref w0)])) X2 hx rfl rfl rfl (pc0 := 7) (pc' := 28) (same := false) rfl (hb hby own_d14_7) rfl (decide_eq_false fun q => hc7 (Value.ref.inj q)) (by decide) (by decide) k) ?_
  refine oIC (n := 29) X2 hx (0 : Int32) (hb hby own_d14_28) (by decide) rfl ?_
  refine own_leaf X2 hx hlk (t := .boolean) Bd.returns (by decide) (Or.inl ⟨rfl, by simp, _, rfl⟩) (hb hby own_d14_29) (by decide) (by decide) ?_
  show QM0 Z a6 b6 zc w0 w1 w2 w3 w4 w5 h0 n0 _ T2.heap _
  rw [e2]
  refine ⟨?_, N1, rfl⟩
  rfl
theorem own_pd10 : parseMethodDescriptor "()Ljava/lang/String;" = some ⟨[], some (.object sAB)⟩ := by decide +kernel
theorem own_pd11 : parseMethodDescriptor "(Ljava/lang/Object;)Z" = some ⟨[(.object "java/lang/Object")], some .boolean⟩ := by decide +kernel
theorem own_d14_10 : decode prog_30_method_2_code 10 = .ok (.aload_n 0, 1) := by decide +kernel
theorem own_d14_11 : decode prog_30_method_2_code 11 = .ok (.getfield 7, 3) := by decide +kernel
theorem own_d14_14 : decode prog_30_method_2_code 14 = .ok (.aload_n 1, 1) := by decide +kernel
theorem own_d14_15 : decode prog_30_method_2_code 15 = .ok (.invokevirtual 25, 3) := by decide +kernel
theorem own_d14_18 : decode prog_30_method_2_code 18 = .ok (.invokevirtual 28, 3) := by decide +kernel
theorem own_d14_21 : decode prog_30_method_2_code 21 = .ok (.ifCond .eq 7, 3) := by decide +kernel
theorem own_d14_24 : decode prog_30_method_2_code 24 = .ok (.iconst 1, 1) := by decide +kernel
theorem own_d14_25 : decode prog_30_method_2_code 25 = .ok (.goto 4, 3) := by decide +kernel
theorem own_efM1 (m : MethodId) (x0 : Addr) (x1 : Addr) : entryFrame m #[(.ref x0), (.ref x1)] 2 = mkF m 0 #[rv x0, rv x1] [] := by first | (simp [entryFrame, mkF, argsToLocals, Value.category]; done) | rfl
def QM1 (Z : State) (a6 : Addr) (b6 : Addr) (zc : Int32) (w0 : Addr) (w1 : Addr) (w2 : Addr) (w3 : Addr) (w4 : Addr) (w5 : Addr) (n6 : Addr) (m6 : Addr) (t_n6 : Addr) (k_n6 : ClassId) (cs_n6 : List Int32) (t_m6 : Addr) (k_m6 : ClassId) (cs_m6 : List Int32) (h0 : Heap) (n0 : Nat) (v : Option Value) (h : Heap) (L : List Loc) : Prop := v = some (.int (own_bit (cs_n6 = cs_m6))) ∧ Fr n0 L ∧ h = h0
set_option maxRecDepth 65536 in
set_option maxHeartbeats 40000000 in
theorem rmM1 (l : Launch) (Z : State) (a0 : Array Value) (hw : ∀ d ∈ tables_1, d.before a0 Z = true) (ws : List Jvm.Cond) (a6 : Addr) (b6 : Addr) (zc : Int32) (w0 : Addr) (w1 : Addr) (w2 : Addr) (w3 : Addr) (w4 : Addr) (w5 : Addr) (n6 : Addr) (m6 : Addr) (t_n6 : Addr) (k_n6 : ClassId) (cs_n6 : List Int32) (t_m6 : Addr) (k_m6 : ClassId) (cs_m6 : List Int32) (h0 : Heap) (n0 : Nat) (Z0 : n0 ≤ h0.size) (hall : own_All Z Z.heap w0 w1 w2 w3 w4 w5) (O0 : Old Z n0 h0) (Scz : Sta Z Z.heap sAB "COMPACT_STRINGS" "Z" (.int zc)) (hcz : ¬ zc = 0) (E6 : Exa Z h0 b6 sAA) (G6 : Fld Z h0 b6 sAA "kind" sAG (.ref w1)) (G61 : Fld Z h0 a6 sAF "account" sAH (.ref n6)) (G71 : Fld Z h0 b6 sAA "account" sAH (.ref m6)) (SE_n6 : Exa Z h0 n6 sAB) (SC_n6 : Fld Z h0 n6 sAB "coder" "B" (.int (0 : Int32))) (SV_n6 : Fld Z h0 n6 sAB "value" "[B" (.ref t_n6)) (SA_n6 : Arv Z h0 t_n6 k_n6 .byte (Int32.ofNat cs_n6.length) ((cs_n6.map StrChars.lo8).map Value.int) (.int 0)) (Sp_n6 : ∀ c ∈ cs_n6, ¬ c < 0 ∧ ¬ (255 : Int32) < c) (Sl_n6 : True ∧ cs_n6.length ≤ 4000) (SE_m6 : Exa Z h0 m6 sAB) (SC_m6 : Fld Z h0 m6 sAB "coder" "B" (.int (0 : Int32))) (SV_m6 : Fld Z h0 m6 sAB "value" "[B" (.ref t_m6)) (SA_m6 : Arv Z h0 t_m6 k_m6 .byte (Int32.ofNat cs_m6.length) ((cs_m6.map StrChars.lo8).map Value.int) (.int 0)) (Sp_m6 : ∀ c ∈ cs_m6, ¬ c < 0 ∧ ¬ (255 : Int32) < c) (Sl_m6 : 0 < cs_m6.length ∧ cs_m6.length ≤ 4000) :
    MetFree l (⟨sAF, "matches", sAO⟩ : MethodName) (head1 (Jvm.Cond.code (⟨sAF, "matches", sAO⟩ : MethodName) prog_30_method_2_code 2 (some .boolean) :: ws) ({ frames := 2, cells := 0, slots := 0, locals := 28 } : Room)) (fun a U => a = #[(.ref a6), (.ref b6)] ∧ Z.Warmed39 U.vm ∧ U.heap = h0) (fun _ _ _ _ _ => True) (fun _ U o U' => ∃ v L, o = .returned v ∧ QM1 Z a6 b6 zc w0 w1 w2 w3 w4 w5 n6 m6 t_n6 k_n6 cs_n6 t_m6 k_m6 cs_m6 h0 n0 v U'.heap L ∧ FrameEnd U o U' L ({ frames := 2, cells := 0, slots := 0, locals := 28 } : Room).cells ({ frames := 2, cells := 0, slots := 0, locals := 28 } : Room).slots) := by
  refine MetFree.of_bodySF (plainFor_of_name own_pn5) hisR ?_
  intro p e s m args below meth c s₁ Bd hml0 hP hK
  obtain ⟨rfl, hZ, hh⟩ := hP
  have hx := Bd.exec
  have hby := Bd.bytes
  have hlk : meth.locks = false := Bd.notSynchronized
  have hml : c.maxLocals = 2 := hml0
  have hown : s.vm.findClass sAF = some m.cls := findClass_of_methodNamed Bd.named
  have hnm := (name_of_methodNamed Bd.named Bd.method).1
  have X0 : Stand p l e ({ frames := 2, cells := 0, slots := 0, locals := 28 } : Room) s m #[(.ref a6), (.ref b6)] below meth c s₁ [] 0 0 := Stand.of_body Bd
  have e0 : s₁.heap = h0 := by rw [← hh, Bd.state]; rfl
  have N0 := Fr.nil n0
  refine own_body (A := s₁.setTop (mkF m 0 #[rv a6, rv b6] [])) (Q := QM1 Z a6 b6 zc w0 w1 w2 w3 w4 w5 n6 m6 t_n6 k_n6 cs_n6 t_m6 k_m6 cs_m6 h0 n0) (fun t k => castTop (own_efM1 m a6 b6) k) ?_
  have hall' := hall
  obtain ⟨AA0, AA1, AA2, AA3, AA4, AA5⟩ := hall'
  have hwq : ∀ d ∈ StrChars.Road.wordsEq, d.before a0 Z = true := fun d hd => hw d ((by decide +kernel : ∀ d ∈ StrChars.Road.wordsEq, d ∈ tables_1) d hd)
  refine oALN (n := 1) X0 hx (hb hby own_d14_0) rfl rfl rfl ?_
  obtain ⟨cq1, kq1, q1a, q1b, q1c⟩ := isOf hZ e0 E6
  obtain ⟨_, _, ⟨T1, L1, k1, n1⟩, -, X1, ⟨Lc1, hQ1, l1, y1, z1⟩, st1⟩ := X0.virtualBack hx (y := (⟨sAA, "kind", sAQ⟩ : MethodName)) (z := (⟨sAA, "kind", sAQ⟩ : MethodName)) hown (mvT hZ (oW hw 107 rfl)) (mvT hZ (oW hw 108 rfl)) (notFace_of_selects (args := #[]) (mvT hZ (oW hw 110 rfl))) (mvT hZ (oW hw 110 rfl)) (mvT hZ (oW hw 109 rfl)) (by decide) (backOf (W := 0) (rmgkind l Z a0 hw [] b6 w1 h0 n0 Z0 G6) hZ (oW hw 111 rfl) (oW hw 39 rfl) (by decide) (by decide)) q1a q1c (g := (mkF m 1 #[rv a6, rv b6] [(.ref b6)])) rfl (by rw [hml]; rfl) (Steps.refl _) (argsL := []) (rest := []) (lenOf own_pd9 rfl) rfl (by show 2 * 0 + _ ≤ _; exact Nat.le_of_eq rfl) (hb hby own_d14_1) (fun _ _ => ⟨rfl, e0, (by decide : 0 + 0 ≤ _), (by decide : 0 + 0 ≤ _)⟩)
  dsimp only [Pt.U, Pt.locs, Pt.cells, Pt.slots] at X1 l1 y1 z1 st1 hQ1
  subst l1 y1 z1
  obtain ⟨rfl, Nq1, eq1⟩ := hQ1
  have N1 := Fr.app N0 Nq1
  refine ov (B := T1.setTop (mkF m 4 #[rv a6, rv b6] [(.ref w1)])) (fun t k => st1.trans k) ?_
  obtain ⟨T2, X2, e2, st2⟩ := getS2 X1 hx hZ hown (host := "") (Or.inl (oW hw 112 rfl)) Via.refl eq1 (AA1.1.ext O0.2) (g := (mkF m 4 #[rv a6, rv b6] [(.ref w1)])) rfl (hb hby own_d14_4)
  refine ov (B := T2.setTop (mkF m 7 #[rv a6, rv b6] [(.ref w1), (.ref w1)])) (fun t k => st2 t k) ?_
  have hc7 : w1 = w1 := rfl
  refine ov (B := T2.setTop (mkF m 10 #[rv a6, rv b6] [])) (fun t k => Jvm.RoadKit.acmp (g := (mkF m 7 #[rv a6, rv b6] [(.ref w1), (.ref w1)])) X2 hx rfl rfl rfl (pc0 := 7) (pc' := 10) (same := true) rfl (hb hby own_d14_7) rfl (decide_eq_true (congrArg Value.ref hc7)) (by decide) (by decide) k) ?_
  refine oALN (n := 11) X2 hx (hb hby own_d14_10) rfl rfl rfl ?_
  obtain ⟨T3, X3, e3, st3⟩ := getF X2 hx hZ hown (host := "") (Or.inl (oW hw 100 rfl)) Via.refl e2 G61 (g := (mkF m 11 #[rv a6, rv b6] [(.ref a6)])) rfl rfl (hb hby own_d14_11)
  refine ov (B := T3.setTop (mkF m 14 #[rv a6, rv b6] [(.ref n6)])) (fun t k => st3 t k) ?_
  refine oALN (n := 15) X3 hx (hb hby own_d14_14) rfl rfl rfl ?_
  obtain ⟨cq4, kq4, q4a, q4b, q4c⟩ := isOf hZ e3 E6
  obtain ⟨_, _, ⟨T4, L4, k4, n4⟩, -, X4, ⟨Lc4, hQ4, l4, y4, z4⟩, st4⟩ := X3.virtualBack hx (y := (⟨sAA, "account", "()Ljava/lang/String;"⟩ : MethodName)) (z := (⟨sAA, "account", "()Ljava/lang/String;"⟩ : MethodName)) hown (mvT hZ (oW hw 150 rfl)) (mvT hZ (oW hw 151 rfl)) (notFace_of_selects (args := #[]) (mvT hZ (oW hw 153 rfl))) (mvT hZ (oW hw 153 rfl)) (mvT hZ (oW hw 152 rfl)) (by decide) (backOf (W := 1) (rmgaccount l Z a0 hw [] b6 m6 h0 n0 Z0 G71) hZ (oW hw 154 rfl) (oW hw 39 rfl) (by decide) (by decide)) q4a q4c (g := (mkF m 15 #[rv a6, rv b6] [(.ref b6), (.ref n6)])) rfl (by rw [hml]; rfl) (Steps.refl _) (argsL := []) (rest := [(.ref n6)]) (lenOf own_pd10 rfl) rfl (by show 2 * 0 + _ ≤ _; exact Nat.le_of_eq rfl) (hb hby own_d14_15) (fun _ _ => ⟨rfl, e3, (by decide : (0 + 0) + 0 ≤ _), (by decide : (0 + 0) + 0 ≤ _)⟩)
  dsimp only [Pt.U, Pt.locs, Pt.cells, Pt.slots] at X4 l4 y4 z4 st4 hQ4
  subst l4 y4 z4
  obtain ⟨rfl, Nq4, eq4⟩ := hQ4
  have N4 := Fr.app N1 Nq4
  refine ov (B := T4.setTop (mkF m 18 #[rv a6, rv b6] [(.ref m6), (.ref n6)])) (fun t k => st4.trans k) ?_
  obtain ⟨cq5, kq5, q5a, q5b, q5c⟩ := isOf hZ eq4 SE_n6
  obtain ⟨_, _, ⟨T5, L5, k5, n5⟩, -, X5, ⟨Lc5, hQ5, l5, y5, z5⟩, st5⟩ := X4.virtualBack hx (y := (⟨sAB, "equals", "(Ljava/lang/Object;)Z"⟩ : MethodName)) (z := (⟨sAB, "equals", "(Ljava/lang/Object;)Z"⟩ : MethodName)) hown (mvT hZ (oW hw 155 rfl)) (mvT hZ (oW hw 156 rfl)) (notFace_of_selects (args := #[]) (mvT hZ (oW hw 158 rfl))) (mvT hZ (oW hw 158 rfl)) (mvT hZ (oW hw 157 rfl)) (by decide) (StrChars.Road.eqW (W := 0) hZ hwq (kI := 4) (oW hw 10 rfl) SE_n6 SV_n6 SC_n6 SA_n6 (StrChars.Road.codOf rfl (fun c hc => (Sp_n6 c hc).2)) (own_up255 Sp_n6) (Sl_n6).2 SE_m6 SV_m6 SC_m6 SA_m6 (StrChars.Road.codOf rfl (fun c hc => (Sp_m6 c hc).2)) (own_up255 Sp_m6) (Sl_m6).2 (Scz.ext O0.2) hcz (by decide) (by decide)) q5a q5c (g := (mkF m 18 #[rv a6, rv b6] [(.ref m6), (.ref n6)])) rfl (by rw [hml]; rfl) (Steps.refl _) (argsL := [(.ref m6)]) (rest := []) (lenOf own_pd11 rfl) rfl (by show 2 * 0 + _ ≤ _; exact Nat.le_of_eq rfl) (hb hby own_d14_18) (fun _ _ => ⟨rfl, eq4, (by decide : ((0 + 0) + 0) + 0 ≤ _), (by decide : ((0 + 0) + 0) + 0 ≤ _)⟩)
  dsimp only [Pt.U, Pt.locs, Pt.cells, Pt.slots] at X5 l5 y5 z5 st5 hQ5
  subst l5 y5 z5
  obtain ⟨hv5, rfl, eq5⟩ := hQ5
  have hw5 := own_eqv hv5
  subst hw5
  have N5 := Fr.app N4 (Fr.nil n0)
  refine ov (B := T5.setTop (mkF m 21 #[rv a6, rv b6] [(.int (own_bit (cs_n6 = cs_m6)))])) (fun t k => st5.trans k) ?_
  refine own_bind (G := fun B => ∃ (T' : State) (L' : List Loc) (v21s0 : Int32), Fr n0 L' ∧ ((((own_bit (cs_n6 = cs_m6)) = (0 : Int32)) ∧ v21s0 = (0 : Int32)) ∨ ((¬ ((own_bit (cs_n6 = cs_m6)) = (0 : Int32))) ∧ v21s0 = (1 : Int32))) ∧ B = T'.setTop (mkF m 29 #[rv a6, rv b6] [(.int v21s0)]) ∧ Stand p l e ({ frames := 2, cells := 0, slots := 0, locals := 28 } : Room) s m #[(.ref a6), (.ref b6)] below meth c T' L' (((0 + 0) + 0) + 0) (((0 + 0) + 0) + 0) ∧ T'.heap = h0) ?_ ?_
  · by_cases hc21 : (own_bit (cs_n6 = cs_m6)) = (0 : Int32)
    · refine ov (B := T5.setTop (mkF m 28 #[rv a6, rv b6] [])) (fun t k => XS.ifYes X5.here hx rfl (pc0 := 21) (pc' := 28) rfl (hb hby own_d14_21) rfl ((if0 _ _).trans (teq hc21).1) (by decide) (by decide) k) ?_
      refine oIC (n := 29) X5 hx (0 : Int32) (hb hby own_d14_28) (by decide) rfl ?_
      exact own_done ⟨_, _, _, N5, (Or.inl ⟨hc21, rfl⟩), rfl, X5, eq5⟩
    · refine ov (B := T5.setTop (mkF m 24 #[rv a6, rv b6] [])) (fun t k => XS.ifNo X5.here hx rfl (hb hby own_d14_21) rfl ((if0 _ _).trans (feq hc21).1) k) ?_
      refine oIC (n := 25) X5 hx (1 : Int32) (hb hby own_d14_24) (by decide) rfl ?_
      refine oGO (n := 29) X5 hx (hb hby own_d14_25) (by decide) (by decide) ?_
      exact own_done ⟨_, _, _, N5, (Or.inr ⟨hc21, rfl⟩), rfl, X5, eq5⟩
  · rintro B ⟨T6, L6, v21s0, N6, hv21, rfl, X6, e6⟩
    refine own_leaf X6 hx hlk (t := .boolean) Bd.returns (own_b1 (by rcases hv21 with ⟨_, rfl⟩ | ⟨_, rfl⟩ <;> decide)) (Or.inl ⟨rfl, by simp, _, rfl⟩) (hb hby own_d14_29) (by decide) (by decide) ?_
    show QM1 Z a6 b6 zc w0 w1 w2 w3 w4 w5 n6 m6 t_n6 k_n6 cs_n6 t_m6 k_m6 cs_m6 h0 n0 _ T6.heap _
    rw [e6]
    refine ⟨?_, N6, rfl⟩
    rcases hv21 with ⟨h0, rfl⟩ | ⟨h0, rfl⟩
    · rw [own_bitF (own_bit0.mp h0)]
    · rw [own_bitT (Classical.byContradiction fun q => h0 (own_bitF q))]
theorem own_efM2 (m : MethodId) (x0 : Addr) (x1 : Addr) : entryFrame m #[(.ref x0), (.ref x1)] 2 = mkF m 0 #[rv x0, rv x1] [] := by first | (simp [entryFrame, mkF, argsToLocals, Value.category]; done) | rfl
def QM2 (Z : State) (a6 : Addr) (b6 : Addr) (zc : Int32) (w0 : Addr) (w1 : Addr) (w2 : Addr) (w3 : Addr) (w4 : Addr) (w5 : Addr) (h0 : Heap) (n0 : Nat) (v : Option Value) (h : Heap) (L : List Loc) : Prop := v = some (.int (0 : Int32)) ∧ Fr n0 L ∧ h = h0
set_option maxRecDepth 65536 in
set_option maxHeartbeats 40000000 in
theorem rmM2 (l : Launch) (Z : State) (a0 : Array Value) (hw : ∀ d ∈ tables_1, d.before a0 Z = true) (ws : List Jvm.Cond) (a6 : Addr) (b6 : Addr) (zc : Int32) (w0 : Addr) (w1 : Addr) (w2 : Addr) (w3 : Addr) (w4 : Addr) (w5 : Addr) (h0 : Heap) (n0 : Nat) (Z0 : n0 ≤ h0.size) (hall : own_All Z Z.heap w0 w1 w2 w3 w4 w5) (O0 : Old Z n0 h0) (Scz : Sta Z Z.heap sAB "COMPACT_STRINGS" "Z" (.int zc)) (hcz : ¬ zc = 0) (E6 : Exa Z h0 b6 sAA) (G6 : Fld Z h0 b6 sAA "kind" sAG (.ref w2)) :
    MetFree l (⟨sAF, "matches", sAO⟩ : MethodName) (head1 (Jvm.Cond.code (⟨sAF, "matches", sAO⟩ : MethodName) prog_30_method_2_code 2 (some .boolean) :: ws) ({ frames := 2, cells := 0, slots := 0, locals := 28 } : Room)) (fun a U => a = #[(.ref a6), (.ref b6)] ∧ Z.Warmed39 U.vm ∧ U.heap = h0) (fun _ _ _ _ _ => True) (fun _ U o U' => ∃ v L, o = .returned v ∧ QM2 Z a6 b6 zc w0 w1 w2 w3 w4 w5 h0 n0 v U'.heap L ∧ FrameEnd U o U' L ({ frames := 2, cells := 0, slots := 0, locals := 28 } : Room).cells ({ frames := 2, cells := 0, slots := 0, locals := 28 } : Room).slots) := by
  refine MetFree.of_bodySF (plainFor_of_name own_pn5) hisR ?_
  intro p e s m args below meth c s₁ Bd hml0 hP hK
  obtain ⟨rfl, hZ, hh⟩ := hP
  have hx := Bd.exec
  have hby := Bd.bytes
  have hlk : meth.locks = false := Bd.notSynchronized
  have hml : c.maxLocals = 2 := hml0
  have hown : s.vm.findClass sAF = some m.cls := findClass_of_methodNamed Bd.named
  have hnm := (name_of_methodNamed Bd.named Bd.method).1
  have X0 : Stand p l e ({ frames := 2, cells := 0, slots := 0, locals := 28 } : Room) s m #[(.ref a6), (.ref b6)] below meth c s₁ [] 0 0 := Stand.of_body Bd
  have e0 : s₁.heap = h0 := by rw [← hh, Bd.state]; rfl
  have N0 := Fr.nil n0
  refine own_body (A := s₁.setTop (mkF m 0 #[rv a6, rv b6] [])) (Q := QM2 Z a6 b6 zc w0 w1 w2 w3 w4 w5 h0 n0) (fun t k => castTop (own_efM2 m a6 b6) k) ?_
  have hall' := hall
  obtain ⟨AA0, AA1, AA2, AA3, AA4, AA5⟩ := hall'
  have hwq : ∀ d ∈ StrChars.Road.wordsEq, d.before a0 Z = true := fun d hd => hw d ((by decide +kernel : ∀ d ∈ StrChars.Road.wordsEq, d ∈ tables_1) d hd)
  refine oALN (n := 1) X0 hx (hb hby own_d14_0) rfl rfl rfl ?_
  obtain ⟨cq1, kq1, q1a, q1b, q1c⟩ := isOf hZ e0 E6
  obtain ⟨_, _, ⟨T1, L1, k1, n1⟩, -, X1, ⟨Lc1, hQ1, l1, y1, z1⟩, st1⟩ := X0.virtualBack hx (y := (⟨sAA, "kind", sAQ⟩ : MethodName)) (z := (⟨sAA, "kind", sAQ⟩ : MethodName)) hown (mvT hZ (oW hw 107 rfl)) (mvT hZ (oW hw 108 rfl)) (notFace_of_selects (args := #[]) (mvT hZ (oW hw 110 rfl))) (mvT hZ (oW hw 110 rfl)) (mvT hZ (oW hw 109 rfl)) (by decide) (backOf (W := 0) (rmgkind l Z a0 hw [] b6 w2 h0 n0 Z0 G6) hZ (oW hw 111 rfl) (oW hw 39 rfl) (by decide) (by decide)) q1a q1c (g := (mkF m 1 #[rv a6, rv b6] [(.ref b6)])) rfl (by rw [hml]; rfl) (Steps.refl _) (argsL := []) (rest := []) (lenOf own_pd9 rfl) rfl (by show 2 * 0 + _ ≤ _; exact Nat.le_of_eq rfl) (hb hby own_d14_1) (fun _ _ => ⟨rfl, e0, (by decide : 0 + 0 ≤ _), (by decide : 0 + 0 ≤ _)⟩)
  dsimp only [Pt.U, Pt.locs, Pt.cells, Pt.slots] at X1 l1 y1 z1 st1 hQ1
  subst l1 y1 z1
  obtain ⟨rfl, Nq1, eq1⟩ := hQ1
  have N1 := Fr.app N0 Nq1
  refine ov (B := T1.setTop (mkF m 4 #[rv a6, rv b6] [(.ref w2)])) (fun t k => st1.trans k) ?_
  obtain ⟨T2, X2, e2, st2⟩ := getS2 X1 hx hZ hown (host := "") (Or.inl (oW hw 112 rfl)) Via.refl eq1 (AA1.1.ext O0.2) (g := (mkF m 4 #[rv a6, rv b6] [(.ref w2)])) rfl (hb hby own_d14_4)
  refine ov (B := T2.setTop (mkF m 7 #[rv a6, rv b6] [(.ref w1), (.ref w2)])) (fun t k => st2 t k) ?_
  have hc7 : ¬ (w2 = w1) := own_ne AA2 AA1 (by decide)
  refine ov (B := T2.setTop (mkF m 28 #[rv a6, rv b6] [])) (fun t k => Jvm.RoadKit.acmp (g := (mkF m 7 #[rv a6, rv b6] [(.ref w1), (.ref w2)])) X2 hx rfl rfl rfl (pc0 := 7) (pc' := 28) (same := false) rfl (hb hby own_d14_7) rfl (decide_eq_false fun q => hc7 (Value.ref.inj q)) (by decide) (by decide) k) ?_
  refine oIC (n := 29) X2 hx (0 : Int32) (hb hby own_d14_28) (by decide) rfl ?_
  refine own_leaf X2 hx hlk (t := .boolean) Bd.returns (by decide) (Or.inl ⟨rfl, by simp, _, rfl⟩) (hb hby own_d14_29) (by decide) (by decide) ?_
  show QM2 Z a6 b6 zc w0 w1 w2 w3 w4 w5 h0 n0 _ T2.heap _
  rw [e2]
  refine ⟨?_, N1, rfl⟩
  rfl
theorem own_efM3 (m : MethodId) (x0 : Addr) (x1 : Addr) : entryFrame m #[(.ref x0), (.ref x1)] 2 = mkF m 0 #[rv x0, rv x1] [] := by first | (simp [entryFrame, mkF, argsToLocals, Value.category]; done) | rfl
def QM3 (Z : State) (a6 : Addr) (b6 : Addr) (zc : Int32) (w0 : Addr) (w1 : Addr) (w2 : Addr) (w3 : Addr) (w4 : Addr) (w5 : Addr) (h0 : Heap) (n0 : Nat) (v : Option Value) (h : Heap) (L : List Loc) : Prop := v = some (.int (0 : Int32)) ∧ Fr n0 L ∧ h = h0
set_option maxRecDepth 65536 in
set_option maxHeartbeats 40000000 in
theorem rmM3 (l : Launch) (Z : State) (a0 : Array Value) (hw : ∀ d ∈ tables_1, d.before a0 Z = true) (ws : List Jvm.Cond) (a6 : Addr) (b6 : Addr) (zc : Int32) (w0 : Addr) (w1 : Addr) (w2 : Addr) (w3 : Addr) (w4 : Addr) (w5 : Addr) (h0 : Heap) (n0 : Nat) (Z0 : n0 ≤ h0.size) (hall : own_All Z Z.heap w0 w1 w2 w3 w4 w5) (O0 : Old Z n0 h0) (Scz : Sta Z Z.heap sAB "COMPACT_STRINGS" "Z" (.int zc)) (hcz : ¬ zc = 0) (E6 : Exa Z h0 b6 sAA) (G6 : Fld Z h0 b6 sAA "kind" sAG (.ref w3)) :
    MetFree l (⟨sAF, "matches", sAO⟩ : MethodName) (head1 (Jvm.Cond.code (⟨sAF, "matches", sAO⟩ : MethodName) prog_30_method_2_code 2 (some .boolean) :: ws) ({ frames := 2, cells := 0, slots := 0, locals := 28 } : Room)) (fun a U => a = #[(.ref a6), (.ref b6)] ∧ Z.Warmed39 U.vm ∧ U.heap = h0) (fun _ _ _ _ _ => True) (fun _ U o U' => ∃ v L, o = .returned v ∧ QM3 Z a6 b6 zc w0 w1 w2 w3 w4 w5 h0 n0 v U'.heap L ∧ FrameEnd U o U' L ({ frames := 2, cells := 0, slots := 0, locals := 28 } : Room).cells ({ frames := 2, cells := 0, slots := 0, locals := 28 } : Room).slots) := by
  refine MetFree.of_bodySF (plainFor_of_name own_pn5) hisR ?_
  intro p e s m args below meth c s₁ Bd hml0 hP hK
  obtain ⟨rfl, hZ, hh⟩ := hP
  have hx := Bd.exec
  have hby := Bd.bytes
  have hlk : meth.locks = false := Bd.notSynchronized
  have hml : c.maxLocals = 2 := hml0
  have hown : s.vm.findClass sAF = some m.cls := findClass_of_methodNamed Bd.named
  have hnm := (name_of_methodNamed Bd.named Bd.method).1
  have X0 : Stand p l e ({ frames := 2, cells := 0, slots := 0, locals := 28 } : Room) s m #[(.ref a6), (.ref b6)] below meth c s₁ [] 0 0 := Stand.of_body Bd
  have e0 : s₁.heap = h0 := by rw [← hh, Bd.state]; rfl
  have N0 := Fr.nil n0
  refine own_body (A := s₁.setTop (mkF m 0 #[rv a6, rv b6] [])) (Q := QM3 Z a6 b6 zc w0 w1 w2 w3 w4 w5 h0 n0) (fun t k => castTop (own_efM3 m a6 b6) k) ?_
  have hall' := hall
  obtain ⟨AA0, AA1, AA2, AA3, AA4, AA5⟩ := hall'
  have hwq : ∀ d ∈ StrChars.Road.wordsEq, d.before a0 Z = true := fun d hd => hw d ((by decide +kernel : ∀ d ∈ StrChars.Road.wordsEq, d ∈ tables_1) d hd)
  refine oALN (n := 1) X0 hx (hb hby own_d14_0) rfl rfl rfl ?_
  obtain ⟨cq1, kq1, q1a, q1b, q1c⟩ := isOf hZ e0 E6
  obtain ⟨_, _, ⟨T1, L1, k1, n1⟩, -, X1, ⟨Lc1, hQ1, l1, y1, z1⟩, st1⟩ := X0.virtualBack hx (y := (⟨sAA, "kind", sAQ⟩ : MethodName)) (z := (⟨sAA, "kind", sAQ⟩ : MethodName)) hown (mvT hZ (oW hw 107 rfl)) (mvT hZ (oW hw 108 rfl)) (notFace_of_selects (args := #[]) (mvT hZ (oW hw 110 rfl))) (mvT hZ (oW hw 110 rfl)) (mvT hZ (oW hw 109 rfl)) (by decide) (backOf (W := 0) (rmgkind l Z a0 hw [] b6 w3 h0 n0 Z0 G6) hZ (oW hw 111 rfl) (oW hw 39 rfl) (by decide) (by decide)) q1a q1c (g := (mkF m 1 #[rv a6, rv b6] [(.ref b6)])) rfl (by rw [hml]; rfl) (Steps.refl _) (argsL := []) (rest := []) (lenOf own_pd9 rfl) rfl (by show 2 * 0 + _ ≤ _; exact Nat.le_of_eq rfl) (hb hby own_d14_1) (fun _ _ => ⟨rfl, e0, (by decide : 0 + 0 ≤ _), (by decide : 0 + 0 ≤ _)⟩)
  dsimp only [Pt.U, Pt.locs, Pt.cells, Pt.slots] at X1 l1 y1 z1 st1 hQ1
  subst l1 y1 z1
  obtain ⟨rfl, Nq1, eq1⟩ := hQ1
  have N1 := Fr.app N0 Nq1
  refine ov (B := T1.setTop (mkF m 4 #[rv a6, rv b6] [(.ref w3)])) (fun t k => st1.trans k) ?_
  obtain ⟨T2, X2, e2, st2⟩ := getS2 X1 hx hZ hown (host := "") (Or.inl (oW hw 112 rfl)) Via.refl eq1 (AA1.1.ext O0.2) (g := (mkF m 4 #[rv a6, rv b6] [(.ref w3)])) rfl (hb hby own_d14_4)
  refine ov (B := T2.setTop (mkF m 7 #[rv a6, rv b6] [(.ref w1), (.ref w3)])) (fun t k => st2 t k) ?_
  have hc7 : ¬ (w3 = w1) := own_ne AA3 AA1 (by decide)
  refine ov (B := T2.setTop (mkF m 28 #[rv a6, rv b6] [])) (fun t k => Jvm.RoadKit.acmp (g := (mkF m 7 #[rv a6, rv b6] [(.ref w1), (.ref w3)])) X2 hx rfl rfl rfl (pc0 := 7) (pc' := 28) (same := false) rfl (hb hby own_d14_7) rfl (decide_eq_false fun q => hc7 (Value.ref.inj q)) (by decide) (by decide) k) ?_
  refine oIC (n := 29) X2 hx (0 : Int32) (hb hby own_d14_28) (by decide) rfl ?_
  refine own_leaf X2 hx hlk (t := .boolean) Bd.returns (by decide) (Or.inl ⟨rfl, by simp, _, rfl⟩) (hb hby own_d14_29) (by decide) (by decide) ?_
  show QM3 Z a6 b6 zc w0 w1 w2 w3 w4 w5 h0 n0 _ T2.heap _
  rw [e2]
  refine ⟨?_, N1, rfl⟩
  rfl
theorem own_efM5 (m : MethodId) (x0 : Addr) (x1 : Addr) : entryFrame m #[(.ref x0), (.ref x1)] 2 = mkF m 0 #[rv x0, rv x1] [] := by first | (simp [entryFrame, mkF, argsToLocals, Value.category]; done) | rfl
def QM5 (Z : State) (a6 : Addr) (b6 : Addr) (zc : Int32) (w0 : Addr) (w1 : Addr) (w2 : Addr) (w3 : Addr) (w4 : Addr) (w5 : Addr) (h0 : Heap) (n0 : Nat) (v : Option Value) (h : Heap) (L : List Loc) : Prop := v = some (.int (0 : Int32)) ∧ Fr n0 L ∧ h = h0
set_option maxRecDepth 65536 in
set_option maxHeartbeats 40000000 in
theorem rmM5 (l : Launch) (Z : State) (a0 : Array Value) (hw : ∀ d ∈ tables_1, d.before a0 Z = true) (ws : List Jvm.Cond) (a6 : Addr) (b6 : Addr) (zc : Int32) (w0 : Addr) (w1 : Addr) (w2 : Addr) (w3 : Addr) (w4 : Addr) (w5 : Addr) (h0 : Heap) (n0 : Nat) (Z0 : n0 ≤ h0.size) (hall : own_All Z Z.heap w0 w1 w2 w3 w4 w5) (O0 : Old Z n0 h0) (Scz : Sta Z Z.heap sAB "COMPACT_STRINGS" "Z" (.int zc)) (hcz : ¬ zc = 0) (E6 : Exa Z h0 b6 sAA) (G6 : Fld Z h0 b6 sAA "kind" sAG (.ref w5)) :
    MetFree l (⟨sAF, "matches", sAO⟩ : MethodName) (head1 (Jvm.Cond.code (⟨sAF, "matches", sAO⟩ : MethodName) prog_30_method_2_code 2 (some .boolean) :: ws) ({ frames := 2, cells := 0, slots := 0, locals := 28 } : Room)) (fun a U => a = #[(.ref a6), (.ref b6)] ∧ Z.Warmed39 U.vm ∧ U.heap = h0) (fun _ _ _ _ _ => True) (fun _ U o U' => ∃ v L, o = .returned v ∧ QM5 Z a6 b6 zc w0 w1 w2 w3 w4 w5 h0 n0 v U'.heap L ∧ FrameEnd U o U' L ({ frames := 2, cells := 0, slots := 0, locals := 28 } : Room).cells ({ frames := 2, cells := 0, slots := 0, locals := 28 } : Room).slots) := by
  refine MetFree.of_bodySF (plainFor_of_name own_pn5) hisR ?_
  intro p e s m args below meth c s₁ Bd hml0 hP hK
  obtain ⟨rfl, hZ, hh⟩ := hP
  have hx := Bd.exec
  have hby := Bd.bytes
  have hlk : meth.locks = false := Bd.notSynchronized
  have hml : c.maxLocals = 2 := hml0
  have hown : s.vm.findClass sAF = some m.cls := findClass_of_methodNamed Bd.named
  have hnm := (name_of_methodNamed Bd.named Bd.method).1
  have X0 : Stand p l e ({ frames := 2, cells := 0, slots := 0, locals := 28 } : Room) s m #[(.ref a6), (.ref b6)] below meth c s₁ [] 0 0 := Stand.of_body Bd
  have e0 : s₁.heap = h0 := by rw [← hh, Bd.state]; rfl
  have N0 := Fr.nil n0
  refine own_body (A := s₁.setTop (mkF m 0 #[rv a6, rv b6] [])) (Q := QM5 Z a6 b6 zc w0 w1 w2 w3 w4 w5 h0 n0) (fun t k => castTop (own_efM5 m a6 b6) k) ?_
  have hall' := hall
  obtain ⟨AA0, AA1, AA2, AA3, AA4, AA5⟩ := hall'
  have hwq : ∀ d ∈ StrChars.Road.wordsEq, d.before a0 Z = true := fun d hd => hw d ((by decide +kernel : ∀ d ∈ StrChars.Road.wordsEq, d ∈ tables_1) d hd)
  refine oALN (n := 1) X0 hx (hb hby own_d14_0) rfl rfl rfl ?_
  obtain ⟨cq1, kq1, q1a, q1b, q1c⟩ := isOf hZ e0 E6
  obtain ⟨_, _, ⟨T1, L1, k1, n1⟩, -, X1, ⟨Lc1, hQ1, l1, y1, z1⟩, st1⟩ := X0.virtualBack hx (y := (⟨sAA, "kind", sAQ⟩ : MethodName)) (z := (⟨sAA, "kind", sAQ⟩ : MethodName)) hown (mvT hZ (oW hw 107 rfl)) (mvT hZ (oW hw 108 rfl)) (notFace_of_selects (args := #[]) (mvT hZ (oW hw 110 rfl))) (mvT hZ (oW hw 110 rfl)) (mvT hZ (oW hw 109 rfl)) (by decide) (backOf (W := 0) (rmgkind l Z a0 hw [] b6 w5 h0 n0 Z0 G6) hZ (oW hw 111 rfl) (oW hw 39 rfl) (by decide) (by decide)) q1a q1c (g := (mkF m 1 #[rv a6, rv b6] [(.ref b6)])) rfl (by rw [hml]; rfl) (Steps.refl _) (argsL := []) (rest := []) (lenOf own_pd9 rfl) rfl (by show 2 * 0 + _ ≤ _; exact Nat.le_of_eq rfl) (hb hby own_d14_1) (fun _ _ => ⟨rfl, e0, (by decide : 0 + 0 ≤ _), (by decide : 0 + 0 ≤ _)⟩)
  dsimp only [Pt.U, Pt.locs, Pt.cells, Pt.slots] at X1 l1 y1 z1 st1 hQ1
  subst l1 y1 z1
  obtain ⟨rfl, Nq1, eq1⟩ := hQ1
  have N1 := Fr.app N0 Nq1
  refine ov (B := T1.setTop (mkF m 4 #[rv a6, rv b6] [(.ref w5)])) (fun t k => st1.trans k) ?_
  obtain ⟨T2, X2, e2, st2⟩ := getS2 X1 hx hZ hown (host := "") (Or.inl (oW hw 112 rfl)) Via.refl eq1 (AA1.1.ext O0.2) (g := (mkF m 4 #[rv a6, rv b6] [(.ref w5)])) rfl (hb hby own_d14_4)
  refine ov (B := T2.setTop (mkF m 7 #[rv a6, rv b6] [(.ref w1), (.ref w5)])) (fun t k => st2 t k) ?_
  have hc7 : ¬ (w5 = w1) := own_ne AA5 AA1 (by decide)
  refine ov (B := T2.setTop (mkF m 28 #[rv a6, rv b6] [])) (fun t k => Jvm.RoadKit.acmp (g := (mkF m 7 #[rv a6, rv b6] [(.ref w1), (.ref w5)])) X2 hx rfl rfl rfl (pc0 := 7) (pc' := 28) (same := false) rfl (hb hby own_d14_7) rfl (decide_eq_false fun q => hc7 (Value.ref.inj q)) (by decide) (by decide) k) ?_
  refine oIC (n := 29) X2 hx (0 : Int32) (hb hby own_d14_28) (by decide) rfl ?_
  refine own_leaf X2 hx hlk (t := .boolean) Bd.returns (by decide) (Or.inl ⟨rfl, by simp, _, rfl⟩) (hb hby own_d14_29) (by decide) (by decide) ?_
  show QM5 Z a6 b6 zc w0 w1 w2 w3 w4 w5 h0 n0 _ T2.heap _
  rw [e2]
  refine ⟨?_, N1, rfl⟩
  rfl
theorem own_pd12 : parseMethodDescriptor "(II)I" = some ⟨[.int, .int], some .int⟩ := by decide +kernel
theorem own_pd13 : parseMethodDescriptor "(ICC)Ljava/lang/String;" = some ⟨[.int, .char, .char], some (.object sAB)⟩ := by decide +kernel
theorem own_pd14 : parseMethodDescriptor "()Lcom/example/wardstone/wardstone/request/Requester;" = some ⟨[], some (.object sAA)⟩ := by decide +kernel
theorem own_pd15 : parseMethodDescriptor sAT = some ⟨[(.object sAB)], none⟩ := by decide +kernel
theorem own_pd16 : parseMethodDescriptor sAO = some ⟨[(.object sAA)], some .boolean⟩ := by decide +kernel
theorem own_pd17 : parseMethodDescriptor "(Ljava/lang/String;)Lcom/example/wardstone/wardstone/request/Requester;" = some ⟨[(.object sAB)], some (.object sAA)⟩ := by decide +kernel
theorem own_pd18 : parseMethodDescriptor sAP = some ⟨[(.object sAB), (.object sAB), (.object sAB)], some (.object sAA)⟩ := by decide +kernel
theorem own_pd19 : parseMethodDescriptor "(Ljava/lang/String;Ljava/lang/String;)Lcom/example/wardstone/wardstone/request/Requester;" = some ⟨[(.object sAB), (.object sAB)], some (.object sAA)⟩ := by decide +kernel
theorem own_ef0 (m : MethodId) (x0 : Int32) (x1 : Int32) (x2 : Int32) (x3 : Int32) : entryFrame m #[(.int x0), (.int x1), (.int x2), (.int x3)] maxLocals = mkF m 0 #[iv x0, iv x1, iv x2, iv x3, uu, uu, uu, uu, uu, uu, uu, uu, uu, uu, uu, uu, uu, uu, uu, uu, uu, uu] [] := by first | (simp [entryFrame, mkF, argsToLocals, Value.category, maxLocals]; done) | rfl
def Q0 (Z : State) (i0 : Int32) (i1 : Int32) (i2 : Int32) (i3 : Int32) (zc : Int32) (w0 : Addr) (w1 : Addr) (w2 : Addr) (w3 : Addr) (w4 : Addr) (w5 : Addr) (wN : Addr) (h0 : Heap) (n0 : Nat) (v : Option Value) (h : Heap) (L : List Loc) : Prop := v = some (.int 1) ∧ Fr n0 L
set_option maxRecDepth 65536 in
set_option maxHeartbeats 40000000 in
theorem rm0 (l : Launch) (Z : State) (a0 : Array Value) (hw : ∀ d ∈ tables_1, d.before a0 Z = true) (ws : List Jvm.Cond) (i0 : Int32) (i1 : Int32) (i2 : Int32) (i3 : Int32) (zc : Int32) (w0 : Addr) (w1 : Addr) (w2 : Addr) (w3 : Addr) (w4 : Addr) (w5 : Addr) (wN : Addr) (h0 : Heap) (n0 : Nat) (Z0 : n0 ≤ h0.size) (hall : own_All Z Z.heap w0 w1 w2 w3 w4 w5) (O0 : Old Z n0 h0) (Scz : Sta Z Z.heap sAB "COMPACT_STRINGS" "Z" (.int zc)) (hcz : ¬ zc = 0) (hch : Jvm.Lit.constHeld Z sAR 7) (hcw : Jvm.Lit.compactW.before a0 Z = true) (SN : Sta Z Z.heap sAA "ANONYMOUS" "Lcom/example/wardstone/wardstone/request/Requester;" (.ref wN)) (EN : Exa Z Z.heap wN sAA) (KN : Fld Z Z.heap wN sAA "kind" sAG (.ref w0)) :
    MetFree l x (head1 (Jvm.Cond.code x code maxLocals ret :: ws) room_1) (fun a U => a = #[(.int i0), (.int i1), (.int i2), (.int i3)] ∧ Z.Warmed39 U.vm ∧ U.heap = h0 ∧ IB Z U.vm []) (fun _ _ _ _ _ => True) (fun _ U o U' => ∃ v L, o = .returned v ∧ Q0 Z i0 i1 i2 i3 zc w0 w1 w2 w3 w4 w5 wN h0 n0 v U'.heap L ∧ ReturnedEndW U o U' L room_1.cells room_1.slots) := by
  refine MetFree.of_bodySF (plainFor_of_name own_pn3) hisR ?_
  intro p e s m args below meth c s₁ Bd hml0 hP hK
  obtain ⟨rfl, hZ, hh, hI⟩ := hP
  have hx := Bd.exec
  have hby := Bd.bytes
  have hlk : meth.locks = false := Bd.notSynchronized
  have hml : c.maxLocals = 22 := hml0
  have hown : s.vm.findClass sAR = some m.cls := findClass_of_methodNamed Bd.named
  have hnm := (name_of_methodNamed Bd.named Bd.method).1
  have X0 : Stand p l e room_1 (s.setVm s.vm) m #[(.int i0), (.int i1), (.int i2), (.int i3)] below meth c s₁ [] 0 0 := Stand.of_body Bd
  have e0 : s₁.heap = h0 := by rw [← hh, Bd.state]; rfl
  have N0 := Fr.nil n0
  have hS0 : s.Since s.vm h0.size := (State.WarmedH.refl s).since _
  have hk0 : h0.size ≤ h0.size := Nat.le_refl _
  have wS : ∀ a ∈ Bundle.stringAtoms, a.before a0 Z = true := by
    intro a ha
    simp only [Bundle.stringAtoms, List.mem_cons, List.not_mem_nil, or_false] at ha
    rcases ha with rfl | rfl | rfl | rfl | rfl | rfl | rfl
    · exact (oW hw 9 rfl)
    · exact (oW hw 10 rfl)
    · exact (oW hw 11 rfl)
    · exact (oW hw 12 rfl)
    · exact (oW hw 13 rfl)
    · exact (oW hw 14 rfl)
    · exact (oW hw 15 rfl)
  refine own_bodyW (A := s₁.setTop (mkF m 0 #[iv i0, iv i1, iv i2, iv i3, uu, uu, uu, uu, uu, uu, uu, uu, uu, uu, uu, uu, uu, uu, uu, uu, uu, uu] [])) (Q := Q0 Z i0 i1 i2 i3 zc w0 w1 w2 w3 w4 w5 wN h0 n0) (fun t k => castTop (own_ef0 m i0 i1 i2 i3) k) ?_
  have hall' := hall
  obtain ⟨AA0, AA1, AA2, AA3, AA4, AA5⟩ := hall'
  refine oILN (n := 1) X0 hx (hb hby at_0) rfl rfl ?_
  refine oSP (n := 4) X0 hx (255 : Int32) (hb hby at_1) (by decide) rfl ?_
  refine ov (B := s₁.setTop (mkF m 5 #[iv i0, iv i1, iv i2, iv i3, uu, uu, uu, uu, uu, uu, uu, uu, uu, uu, uu, uu, uu, uu, uu, uu, uu, uu] [(.int (i0 &&& (255 : Int32)))])) (fun t k => XS.iand X0.here hx rfl (hb hby at_4) rfl k) ?_
  refine ov (B := s₁.setTop (mkF m 6 #[iv i0, iv i1, iv i2, iv i3, uu, uu, uu, uu, uu, uu, uu, uu, uu, uu, uu, uu, uu, uu, uu, uu, uu, uu] [(.int (i0 &&& (255 : Int32)))])) (fun t k => XS.i2c X0.here hx rfl (hb hby at_5) rfl (by rw [own_i2c (own_b255 i0)]; exact k)) ?_
  refine ov (B := s₁.setTop (mkF m 8 #[iv i0, iv i1, iv i2, iv i3, iv (i0 &&& (255 : Int32)), uu, uu, uu, uu, uu, uu, uu, uu, uu, uu, uu, uu, uu, uu, uu, uu, uu] [])) (fun t k => XS.istore X0.here hx rfl (hb hby at_6) rfl (l' := #[iv i0, iv i1, iv i2, iv i3, iv (i0 &&& (255 : Int32)), uu, uu, uu, uu, uu, uu, uu, uu, uu, uu, uu, uu, uu, uu, uu, uu, uu]) rfl k) ?_
  generalize hs6 : (i0 &&& (255 : Int32)) = s6
  refine oILN (n := 9) X0 hx (hb hby at_8) rfl rfl ?_
  refine oBP (n := 11) X0 hx (8 : Int32) (hb hby at_9) (by decide) rfl ?_
  refine ov (B := s₁.setTop (mkF m 12 #[iv i0, iv i1, iv i2, iv i3, iv s6, uu, uu, uu, uu, uu, uu, uu, uu, uu, uu, uu, uu, uu, uu, uu, uu, uu] [(.int ((i0.toUInt32 >>> ((8 : Int32) &&& 31).toUInt32).toInt32))])) (fun t k => XS.iushr X0.here hx rfl (hb hby at_11) rfl k) ?_
  refine oSP (n := 15) X0 hx (255 : Int32) (hb hby at_12) (by decide) rfl ?_
  refine ov (B := s₁.setTop (mkF m 16 #[iv i0, iv i1, iv i2, iv i3, iv s6, uu, uu, uu, uu, uu, uu, uu, uu, uu, uu, uu, uu, uu, uu, uu, uu, uu] [(.int (((i0.toUInt32 >>> ((8 : Int32) &&& 31).toUInt32).toInt32) &&& (255 : Int32)))])) (fun t k => XS.iand X0.here hx rfl (hb hby at_15) rfl k) ?_
  refine ov (B := s₁.setTop (mkF m 17 #[iv i0, iv i1, iv i2, iv i3, iv s6, uu, uu, uu, uu, uu, uu, uu, uu, uu, uu, uu, uu, uu, uu, uu, uu, uu] [(.int (((i0.toUInt32 >>> ((8 : Int32) &&& 31).toUInt32).toInt32) &&& (255 : Int32)))])) (fun t k => XS.i2c X0.here hx rfl (hb hby at_16) rfl (by rw [own_i2c (own_b255 ((i0.toUInt32 >>> ((8 : Int32) &&& 31).toUInt32).toInt32))]; exact k)) ?_
  refine ov (B := s₁.setTop (mkF m 19 #[iv i0, iv i1, iv i2, iv i3, iv s6, iv (((i0.toUInt32 >>> ((8 : Int32) &&& 31).toUInt32).toInt32) &&& (255 : Int32)), uu, uu, uu, uu, uu, uu, uu, uu, uu, uu, uu, uu, uu, uu, uu, uu] [])) (fun t k => XS.istore X0.here hx rfl (hb hby at_17) rfl (l' := #[iv i0, iv i1, iv i2, iv i3, iv s6, iv (((i0.toUInt32 >>> ((8 : Int32) &&& 31).toUInt32).toInt32) &&& (255 : Int32)), uu, uu, uu, uu, uu, uu, uu, uu, uu, uu, uu, uu, uu, uu, uu, uu]) rfl k) ?_
  generalize hs17 : (((i0.toUInt32 >>> ((8 : Int32) &&& 31).toUInt32).toInt32) &&& (255 : Int32)) = s17
  refine oILN (n := 20) X0 hx (hb hby at_19) rfl rfl ?_
  refine oIC (n := 21) X0 hx (3 : Int32) (hb hby at_20) (by decide) rfl ?_
  refine ov (B := s₁.setTop (mkF m 22 #[iv i0, iv i1, iv i2, iv i3, iv s6, iv s17, uu, uu, uu, uu, uu, uu, uu, uu, uu, uu, uu, uu, uu, uu, uu, uu] [(.int ((i2.toUInt32 >>> ((3 : Int32) &&& 31).toUInt32).toInt32))])) (fun t k => XS.iushr X0.here hx rfl (hb hby at_21) rfl k) ?_
  refine oIC (n := 23) X0 hx (3 : Int32) (hb hby at_22) (by decide) rfl ?_
  refine ov (B := s₁.setTop (mkF m 24 #[iv i0, iv i1, iv i2, iv i3, iv s6, iv s17, uu, uu, uu, uu, uu, uu, uu, uu, uu, uu, uu, uu, uu, uu, uu, uu] [(.int (((i2.toUInt32 >>> ((3 : Int32) &&& 31).toUInt32).toInt32) &&& (3 : Int32)))])) (fun t k => XS.iand X0.here hx rfl (hb hby at_23) rfl k) ?_
  refine oIC (n := 25) X0 hx (2 : Int32) (hb hby at_24) (by decide) rfl ?_
  obtain ⟨_, _, ⟨T1, L1, k1, n1⟩, -, X1, ⟨Lc1, hQ1, l1, y1, z1⟩, st1⟩ := Jvm.LawKit.callS X0 hx (y := (⟨"java/lang/Math", "min", "(II)I"⟩ : MethodName)) hown (mvT hZ (oW hw 0 rfl)) (mvT hZ (oW hw 1 rfl)) (mvT hZ (oW hw 2 rfl)) (mvT hZ (oW hw 3 rfl)) (by decide) (backOf (W := 0) (rmmi l Z a0 hw [] (((i2.toUInt32 >>> ((3 : Int32) &&& 31).toUInt32).toInt32) &&& (3 : Int32)) (2 : Int32) h0 n0 Z0 ) hZ (oW hw 3 rfl) (oW hw 2 rfl) (by decide) (by decide)) (g := (mkF m 25 #[iv i0, iv i1, iv i2, iv i3, iv s6, iv s17, uu, uu, uu, uu, uu, uu, uu, uu, uu, uu, uu, uu, uu, uu, uu, uu] [(.int (2 : Int32)), (.int (((i2.toUInt32 >>> ((3 : Int32) &&& 31).toUInt32).toInt32) &&& (3 : Int32)))])) rfl (by rw [hml]; rfl) (argsL := [(.int (((i2.toUInt32 >>> ((3 : Int32) &&& 31).toUInt32).toInt32) &&& (3 : Int32))), (.int (2 : Int32))]) (rest := []) (lenOf own_pd12 rfl) rfl (by show 2 * 0 + _ ≤ _; exact Nat.le_of_eq rfl) (hb hby at_25) (fun _ _ => ⟨rfl, e0, (by decide : 0 + 0 ≤ _), (by decide : 0 + 0 ≤ _)⟩)
  dsimp only [Pt.U, Pt.locs, Pt.cells, Pt.slots] at X1 l1 y1 z1 st1 hQ1
  subst l1 y1 z1
  obtain ⟨rfl, Nq1, eq1⟩ := hQ1
  have N1 := Fr.app N0 Nq1
  refine ov (B := T1.setTop (mkF m 28 #[iv i0, iv i1, iv i2, iv i3, iv s6, iv s17, uu, uu, uu, uu, uu, uu, uu, uu, uu, uu, uu, uu, uu, uu, uu, uu] [(.int (own_mi (((i2.toUInt32 >>> ((3 : Int32) &&& 31).toUInt32).toInt32) &&& (3 : Int32)) (2 : Int32)))])) (fun t k => st1 t k) ?_
  refine ov (B := T1.setTop (mkF m 30 #[iv i0, iv i1, iv i2, iv i3, iv s6, iv s17, iv (own_mi (((i2.toUInt32 >>> ((3 : Int32) &&& 31).toUInt32).toInt32) &&& (3 : Int32)) (2 : Int32)), uu, uu, uu, uu, uu, uu, uu, uu, uu, uu, uu, uu, uu, uu, uu] [])) (fun t k => XS.istore X1.here hx rfl (hb hby at_28) rfl (l' := #[iv i0, iv i1, iv i2, iv i3, iv s6, iv s17, iv (own_mi (((i2.toUInt32 >>> ((3 : Int32) &&& 31).toUInt32).toInt32) &&& (3 : Int32)) (2 : Int32)), uu, uu, uu, uu, uu, uu, uu, uu, uu, uu, uu, uu, uu, uu, uu]) rfl k) ?_
  generalize hs28 : (own_mi (((i2.toUInt32 >>> ((3 : Int32) &&& 31).toUInt32).toInt32) &&& (3 : Int32)) (2 : Int32)) = s28
  refine oILN (n := 31) X1 hx (hb hby at_30) rfl rfl ?_
  refine oBP (n := 33) X1 hx (32 : Int32) (hb hby at_31) (by decide) rfl ?_
  refine ov (B := T1.setTop (mkF m 34 #[iv i0, iv i1, iv i2, iv i3, iv s6, iv s17, iv s28, uu, uu, uu, uu, uu, uu, uu, uu, uu, uu, uu, uu, uu, uu, uu] [(.int (i2 &&& (32 : Int32)))])) (fun t k => XS.iand X1.here hx rfl (hb hby at_33) rfl k) ?_
  refine own_bind (G := fun B => ∃ (T' : State) (L' : List Loc) (v34s0 : Int32), Fr n0 L' ∧ ((((i2 &&& (32 : Int32)) = (0 : Int32)) ∧ v34s0 = (0 : Int32)) ∨ ((¬ ((i2 &&& (32 : Int32)) = (0 : Int32))) ∧ v34s0 = (1 : Int32))) ∧ B = T'.setTop (mkF m 42 #[iv i0, iv i1, iv i2, iv i3, iv s6, iv s17, iv s28, uu, uu, uu, uu, uu, uu, uu, uu, uu, uu, uu, uu, uu, uu, uu] [(.int v34s0)]) ∧ Stand p l e room_1 (s.setVm s.vm) m #[(.int i0), (.int i1), (.int i2), (.int i3)] below meth c T' L' (0 + 0) (0 + 0) ∧ T'.heap = h0) ?_ ?_
  · by_cases hc34 : (i2 &&& (32 : Int32)) = (0 : Int32)
    · refine ov (B := T1.setTop (mkF m 41 #[iv i0, iv i1, iv i2, iv i3, iv s6, iv s17, iv s28, uu, uu, uu, uu, uu, uu, uu, uu, uu, uu, uu, uu, uu, uu, uu] [])) (fun t k => XS.ifYes X1.here hx rfl (pc0 := 34) (pc' := 41) rfl (hb hby at_34) rfl ((if0 _ _).trans (teq hc34).1) (by decide) (by decide) k) ?_
      refine oIC (n := 42) X1 hx (0 : Int32) (hb hby at_41) (by decide) rfl ?_
      exact own_done ⟨_, _, _, N1, (Or.inl ⟨hc34, rfl⟩), rfl, X1, eq1⟩
    · refine ov (B := T1.setTop (mkF m 37 #[iv i0, iv i1, iv i2, iv i3, iv s6, iv s17, iv s28, uu, uu, uu, uu, uu, uu, uu, uu, uu, uu, uu, uu, uu, uu, uu] [])) (fun t k => XS.ifNo X1.here hx rfl (hb hby at_34) rfl ((if0 _ _).trans (feq hc34).1) k) ?_
      refine oIC (n := 38) X1 hx (1 : Int32) (hb hby at_37) (by decide) rfl ?_
      refine oGO (n := 42) X1 hx (hb hby at_38) (by decide) (by decide) ?_
      exact own_done ⟨_, _, _, N1, (Or.inr ⟨hc34, rfl⟩), rfl, X1, eq1⟩
  · rintro B ⟨T2, L2, v34s0, N2, hv34, rfl, X2, e2⟩
    refine ov (B := T2.setTop (mkF m 44 #[iv i0, iv i1, iv i2, iv i3, iv s6, iv s17, iv s28, iv v34s0, uu, uu, uu, uu, uu, uu, uu, uu, uu, uu, uu, uu, uu, uu] [])) (fun t k => XS.istore X2.here hx rfl (hb hby at_42) rfl (l' := #[iv i0, iv i1, iv i2, iv i3, iv s6, iv s17, iv s28, iv v34s0, uu, uu, uu, uu, uu, uu, uu, uu, uu, uu, uu, uu, uu, uu]) rfl k) ?_
    refine oIL (n := 46) X2 hx (hb hby at_44) rfl rfl ?_
    refine own_bind (G := fun B => ∃ (T' : State) (L' : List Loc) (v46s0 : Int32), Fr n0 L' ∧ (((v34s0 = (0 : Int32)) ∧ v46s0 = (i1 &&& (255 : Int32))) ∨ ((¬ (v34s0 = (0 : Int32))) ∧ v46s0 = s6)) ∧ B = T'.setTop (mkF m 60 #[iv i0, iv i1, iv i2, iv i3, iv s6, iv s17, iv s28, iv v34s0, uu, uu, uu, uu, uu, uu, uu, uu, uu, uu, uu, uu, uu, uu] [(.int v46s0)]) ∧ Stand p l e room_1 (s.setVm s.vm) m #[(.int i0), (.int i1), (.int i2), (.int i3)] below meth c T' L' (0 + 0) (0 + 0) ∧ T'.heap = h0) ?_ ?_
    · by_cases hc46 : v34s0 = (0 : Int32)
      · refine ov (B := T2.setTop (mkF m 54 #[iv i0, iv i1, iv i2, iv i3, iv s6, iv s17, iv s28, iv v34s0, uu, uu, uu, uu, uu, uu, uu, uu, uu, uu, uu, uu, uu, uu] [])) (fun t k => XS.ifYes X2.here hx rfl (pc0 := 46) (pc' := 54) rfl (hb hby at_46) rfl ((if0 _ _).trans (teq hc46).1) (by decide) (by decide) k) ?_
        refine oILN (n := 55) X2 hx (hb hby at_54) rfl rfl ?_
        refine oSP (n := 58) X2 hx (255 : Int32) (hb hby at_55) (by decide) rfl ?_
        refine ov (B := T2.setTop (mkF m 59 #[iv i0, iv i1, iv i2, iv i3, iv s6, iv s17, iv s28, iv v34s0, uu, uu, uu, uu, uu, uu, uu, uu, uu, uu, uu, uu, uu, uu] [(.int (i1 &&& (255 : Int32)))])) (fun t k => XS.iand X2.here hx rfl (hb hby at_58) rfl k) ?_
        refine ov (B := T2.setTop (mkF m 60 #[iv i0, iv i1, iv i2, iv i3, iv s6, iv s17, iv s28, iv v34s0, uu, uu, uu, uu, uu, uu, uu, uu, uu, uu, uu, uu, uu, uu] [(.int (i1 &&& (255 : Int32)))])) (fun t k => XS.i2c X2.here hx rfl (hb hby at_59) rfl (by rw [own_i2c (own_b255 i1)]; exact k)) ?_
        exact own_done ⟨_, _, _, N2, (Or.inl ⟨hc46, rfl⟩), rfl, X2, e2⟩
      · refine ov (B := T2.setTop (mkF m 49 #[iv i0, iv i1, iv i2, iv i3, iv s6, iv s17, iv s28, iv v34s0, uu, uu, uu, uu, uu, uu, uu, uu, uu, uu, uu, uu, uu, uu] [])) (fun t k => XS.ifNo X2.here hx rfl (hb hby at_46) rfl ((if0 _ _).trans (feq hc46).1) k) ?_
        refine oIL (n := 51) X2 hx (hb hby at_49) rfl rfl ?_
        refine oGO (n := 60) X2 hx (hb hby at_51) (by decide) (by decide) ?_
        exact own_done ⟨_, _, _, N2, (Or.inr ⟨hc46, rfl⟩), rfl, X2, e2⟩
    · rintro B ⟨T3, L3, v46s0, N3, hv46, rfl, X3, e3⟩
      have hch_v46s0 : own_C v46s0 := by rcases hv46 with ⟨_, q_v46s0⟩ | ⟨_, q_v46s0⟩; (rw [q_v46s0]; exact (own_b255 i1)); (rw [q_v46s0]; exact (own_cg hs6 (own_b255 i0)))
      refine ov (B := T3.setTop (mkF m 62 #[iv i0, iv i1, iv i2, iv i3, iv s6, iv s17, iv s28, iv v34s0, iv v46s0, uu, uu, uu, uu, uu, uu, uu, uu, uu, uu, uu, uu, uu] [])) (fun t k => XS.istore X3.here hx rfl (hb hby at_60) rfl (l' := #[iv i0, iv i1, iv i2, iv i3, iv s6, iv s17, iv s28, iv v34s0, iv v46s0, uu, uu, uu, uu, uu, uu, uu, uu, uu, uu, uu, uu, uu]) rfl k) ?_
      refine oIL (n := 64) X3 hx (hb hby at_62) rfl rfl ?_
      refine own_bind (G := fun B => ∃ (T' : State) (L' : List Loc) (v64s0 : Int32), Fr n0 L' ∧ (((v34s0 = (0 : Int32)) ∧ v64s0 = (((i1.toUInt32 >>> ((8 : Int32) &&& 31).toUInt32).toInt32) &&& (255 : Int32))) ∨ ((¬ (v34s0 = (0 : Int32))) ∧ v64s0 = s17)) ∧ B = T'.setTop (mkF m 81 #[iv i0, iv i1, iv i2, iv i3, iv s6, iv s17, iv s28, iv v34s0, iv v46s0, uu, uu, uu, uu, uu, uu, uu, uu, uu, uu, uu, uu, uu] [(.int v64s0)]) ∧ Stand p l e room_1 (s.setVm s.vm) m #[(.int i0), (.int i1), (.int i2), (.int i3)] below meth c T' L' (0 + 0) (0 + 0) ∧ T'.heap = h0) ?_ ?_
      · by_cases hc64 : v34s0 = (0 : Int32)
        · refine ov (B := T3.setTop (mkF m 72 #[iv i0, iv i1, iv i2, iv i3, iv s6, iv s17, iv s28, iv v34s0, iv v46s0, uu, uu, uu, uu, uu, uu, uu, uu, uu, uu, uu, uu, uu] [])) (fun t k => XS.ifYes X3.here hx rfl (pc0 := 64) (pc' := 72) rfl (hb hby at_64) rfl ((if0 _ _).trans (teq hc64).1) (by decide) (by decide) k) ?_
          refine oILN (n := 73) X3 hx (hb hby at_72) rfl rfl ?_
          refine oBP (n := 75) X3 hx (8 : Int32) (hb hby at_73) (by decide) rfl ?_
          refine ov (B := T3.setTop (mkF m 76 #[iv i0, iv i1, iv i2, iv i3, iv s6, iv s17, iv s28, iv v34s0, iv v46s0, uu, uu, uu, uu, uu, uu, uu, uu, uu, uu, uu, uu, uu] [(.int ((i1.toUInt32 >>> ((8 : Int32) &&& 31).toUInt32).toInt32))])) (fun t k => XS.iushr X3.here hx rfl (hb hby at_75) rfl k) ?_
          refine oSP (n := 79) X3 hx (255 : Int32) (hb hby at_76) (by decide) rfl ?_
          refine ov (B := T3.setTop (mkF m 80 #[iv i0, iv i1, iv i2, iv i3, iv s6, iv s17, iv s28, iv v34s0, iv v46s0, uu, uu, uu, uu, uu, uu, uu, uu, uu, uu, uu, uu, uu] [(.int (((i1.toUInt32 >>> ((8 : Int32) &&& 31).toUInt32).toInt32) &&& (255 : Int32)))])) (fun t k => XS.iand X3.here hx rfl (hb hby at_79) rfl k) ?_
          refine ov (B := T3.setTop (mkF m 81 #[iv i0, iv i1, iv i2, iv i3, iv s6, iv s17, iv s28, iv v34s0, iv v46s0, uu, uu, uu, uu, uu, uu, uu, uu, uu, uu, uu, uu, uu] [(.int (((i1.toUInt32 >>> ((8 : Int32) &&& 31).toUInt32).toInt32) &&& (255 : Int32)))])) (fun t k => XS.i2c X3.here hx rfl (hb hby at_80) rfl (by rw [own_i2c (own_b255 ((i1.toUInt32 >>> ((8 : Int32) &&& 31).toUInt32).toInt32))]; exact k)) ?_
          exact own_done ⟨_, _, _, N3, (Or.inl ⟨hc64, rfl⟩), rfl, X3, e3⟩
        · refine ov (B := T3.setTop (mkF m 67 #[iv i0, iv i1, iv i2, iv i3, iv s6, iv s17, iv s28, iv v34s0, iv v46s0, uu, uu, uu, uu, uu, uu, uu, uu, uu, uu, uu, uu, uu] [])) (fun t k => XS.ifNo X3.here hx rfl (hb hby at_64) rfl ((if0 _ _).trans (feq hc64).1) k) ?_
          refine oIL (n := 69) X3 hx (hb hby at_67) rfl rfl ?_
          refine oGO (n := 81) X3 hx (hb hby at_69) (by decide) (by decide) ?_
          exact own_done ⟨_, _, _, N3, (Or.inr ⟨hc64, rfl⟩), rfl, X3, e3⟩
      · rintro B ⟨T4, L4, v64s0, N4, hv64, rfl, X4, e4⟩
        have hch_v64s0 : own_C v64s0 := by rcases hv64 with ⟨_, q_v64s0⟩ | ⟨_, q_v64s0⟩; (rw [q_v64s0]; exact (own_b255 ((i1.toUInt32 >>> ((8 : Int32) &&& 31).toUInt32).toInt32))); (rw [q_v64s0]; exact (own_cg hs17 (own_b255 ((i0.toUInt32 >>> ((8 : Int32) &&& 31).toUInt32).toInt32))))
        refine ov (B := T4.setTop (mkF m 83 #[iv i0, iv i1, iv i2, iv i3, iv s6, iv s17, iv s28, iv v34s0, iv v46s0, iv v64s0, uu, uu, uu, uu, uu, uu, uu, uu, uu, uu, uu, uu] [])) (fun t k => XS.istore X4.here hx rfl (hb hby at_81) rfl (l' := #[iv i0, iv i1, iv i2, iv i3, iv s6, iv s17, iv s28, iv v34s0, iv v46s0, iv v64s0, uu, uu, uu, uu, uu, uu, uu, uu, uu, uu, uu, uu]) rfl k) ?_
        refine oIL (n := 85) X4 hx (hb hby at_83) rfl rfl ?_
        refine own_bind (G := fun B => ∃ (T' : State) (L' : List Loc) (v85s0 : Int32), Fr n0 L' ∧ (((v34s0 = (0 : Int32)) ∧ v85s0 = ((1 : Int32) + (((i2.toUInt32 >>> ((6 : Int32) &&& 31).toUInt32).toInt32) &&& (1 : Int32)))) ∨ ((¬ (v34s0 = (0 : Int32))) ∧ v85s0 = (own_mx s28 (1 : Int32)))) ∧ B = T'.setTop (mkF m 105 #[iv i0, iv i1, iv i2, iv i3, iv s6, iv s17, iv s28, iv v34s0, iv v46s0, iv v64s0, uu, uu, uu, uu, uu, uu, uu, uu, uu, uu, uu, uu] [(.int v85s0)]) ∧ Stand p l e room_1 (s.setVm s.vm) m #[(.int i0), (.int i1), (.int i2), (.int i3)] below meth c T' L' 0 0 ∧ T'.heap = h0) ?_ ?_
        · by_cases hc85 : v34s0 = (0 : Int32)
          · refine ov (B := T4.setTop (mkF m 97 #[iv i0, iv i1, iv i2, iv i3, iv s6, iv s17, iv s28, iv v34s0, iv v46s0, iv v64s0, uu, uu, uu, uu, uu, uu, uu, uu, uu, uu, uu, uu] [])) (fun t k => XS.ifYes X4.here hx rfl (pc0 := 85) (pc' := 97) rfl (hb hby at_85) rfl ((if0 _ _).trans (teq hc85).1) (by decide) (by decide) k) ?_
            refine oIC (n := 98) X4 hx (1 : Int32) (hb hby at_97) (by decide) rfl ?_
            refine oILN (n := 99) X4 hx (hb hby at_98) rfl rfl ?_
            refine oBP (n := 101) X4 hx (6 : Int32) (hb hby at_99) (by decide) rfl ?_
            refine ov (B := T4.setTop (mkF m 102 #[iv i0, iv i1, iv i2, iv i3, iv s6, iv s17, iv s28, iv v34s0, iv v46s0, iv v64s0, uu, uu, uu, uu, uu, uu, uu, uu, uu, uu, uu, uu] [(.int ((i2.toUInt32 >>> ((6 : Int32) &&& 31).toUInt32).toInt32)), (.int (1 : Int32))])) (fun t k => XS.iushr X4.here hx rfl (hb hby at_101) rfl k) ?_
            refine oIC (n := 103) X4 hx (1 : Int32) (hb hby at_102) (by decide) rfl ?_
            refine ov (B := T4.setTop (mkF m 104 #[iv i0, iv i1, iv i2, iv i3, iv s6, iv s17, iv s28, iv v34s0, iv v46s0, iv v64s0, uu, uu, uu, uu, uu, uu, uu, uu, uu, uu, uu, uu] [(.int (((i2.toUInt32 >>> ((6 : Int32) &&& 31).toUInt32).toInt32) &&& (1 : Int32))), (.int (1 : Int32))])) (fun t k => XS.iand X4.here hx rfl (hb hby at_103) rfl k) ?_
            refine ov (B := T4.setTop (mkF m 105 #[iv i0, iv i1, iv i2, iv i3, iv s6, iv s17, iv s28, iv v34s0, iv v46s0, iv v64s0, uu, uu, uu, uu, uu, uu, uu, uu, uu, uu, uu, uu] [(.int ((1 : Int32) + (((i2.toUInt32 >>> ((6 : Int32) &&& 31).toUInt32).toInt32) &&& (1 : Int32))))])) (fun t k => XS.iadd X4.here hx rfl (hb hby at_104) rfl k) ?_
            exact own_done ⟨_, _, _, N4, (Or.inl ⟨hc85, rfl⟩), rfl, (X4.more (by decide) (by decide)), e4⟩
          · refine ov (B := T4.setTop (mkF m 88 #[iv i0, iv i1, iv i2, iv i3, iv s6, iv s17, iv s28, iv v34s0, iv v46s0, iv v64s0, uu, uu, uu, uu, uu, uu, uu, uu, uu, uu, uu, uu] [])) (fun t k => XS.ifNo X4.here hx rfl (hb hby at_85) rfl ((if0 _ _).trans (feq hc85).1) k) ?_
            refine oIL (n := 90) X4 hx (hb hby at_88) rfl rfl ?_
            refine oIC (n := 91) X4 hx (1 : Int32) (hb hby at_90) (by decide) rfl ?_
            obtain ⟨_, _, ⟨T6, L6, k6, n6⟩, -, X6, ⟨Lc6, hQ6, l6, y6, z6⟩, st6⟩ := Jvm.LawKit.callS X4 hx (y := (⟨"java/lang/Math", "max", "(II)I"⟩ : MethodName)) hown (mvT hZ (oW hw 143 rfl)) (mvT hZ (oW hw 144 rfl)) (mvT hZ (oW hw 2 rfl)) (mvT hZ (oW hw 145 rfl)) (by decide) (backOf (W := 0) (rmmx l Z a0 hw [] s28 (1 : Int32) h0 n0 Z0 ) hZ (oW hw 145 rfl) (oW hw 2 rfl) (by decide) (by decide)) (g := (mkF m 91 #[iv i0, iv i1, iv i2, iv i3, iv s6, iv s17, iv s28, iv v34s0, iv v46s0, iv v64s0, uu, uu, uu, uu, uu, uu, uu, uu, uu, uu, uu, uu] [(.int (1 : Int32)), (.int s28)])) rfl (by rw [hml]; rfl) (argsL := [(.int s28), (.int (1 : Int32))]) (rest := []) (lenOf own_pd12 rfl) rfl (by show 2 * 0 + _ ≤ _; exact Nat.le_of_eq rfl) (hb hby at_91) (fun _ _ => ⟨rfl, e4, (by decide : (0 + 0) + 0 ≤ _), (by decide : (0 + 0) + 0 ≤ _)⟩)
            dsimp only [Pt.U, Pt.locs, Pt.cells, Pt.slots] at X6 l6 y6 z6 st6 hQ6
            subst l6 y6 z6
            obtain ⟨rfl, Nq6, eq6⟩ := hQ6
            have N6 := Fr.app N4 Nq6
            refine ov (B := T6.setTop (mkF m 94 #[iv i0, iv i1, iv i2, iv i3, iv s6, iv s17, iv s28, iv v34s0, iv v46s0, iv v64s0, uu, uu, uu, uu, uu, uu, uu, uu, uu, uu, uu, uu] [(.int (own_mx s28 (1 : Int32)))])) (fun t k => st6 t k) ?_
            refine oGO (n := 105) X6 hx (hb hby at_94) (by decide) (by decide) ?_
            exact own_done ⟨_, _, _, N6, (Or.inr ⟨hc85, rfl⟩), rfl, (X6.more (by decide) (by decide)), eq6⟩
        · rintro B ⟨T5, L5, v85s0, N5, hv85, rfl, X5, e5⟩
          refine ov (B := T5.setTop (mkF m 107 #[iv i0, iv i1, iv i2, iv i3, iv s6, iv s17, iv s28, iv v34s0, iv v46s0, iv v64s0, iv v85s0, uu, uu, uu, uu, uu, uu, uu, uu, uu, uu, uu] [])) (fun t k => XS.istore X5.here hx rfl (hb hby at_105) rfl (l' := #[iv i0, iv i1, iv i2, iv i3, iv s6, iv s17, iv s28, iv v34s0, iv v46s0, iv v64s0, iv v85s0, uu, uu, uu, uu, uu, uu, uu, uu, uu, uu, uu]) rfl k) ?_
          refine oILN (n := 108) X5 hx (hb hby at_107) rfl rfl ?_
          refine oSP (n := 111) X5 hx (128 : Int32) (hb hby at_108) (by decide) rfl ?_
          refine ov (B := T5.setTop (mkF m 112 #[iv i0, iv i1, iv i2, iv i3, iv s6, iv s17, iv s28, iv v34s0, iv v46s0, iv v64s0, iv v85s0, uu, uu, uu, uu, uu, uu, uu, uu, uu, uu, uu] [(.int (i2 &&& (128 : Int32)))])) (fun t k => XS.iand X5.here hx rfl (hb hby at_111) rfl k) ?_
          refine own_bind (G := fun B => ∃ (T' : State) (L' : List Loc) (v112s0 : Int32), Fr n0 L' ∧ ((((i2 &&& (128 : Int32)) = (0 : Int32)) ∧ v112s0 = (0 : Int32)) ∨ ((¬ ((i2 &&& (128 : Int32)) = (0 : Int32))) ∧ v112s0 = (1 : Int32))) ∧ B = T'.setTop (mkF m 120 #[iv i0, iv i1, iv i2, iv i3, iv s6, iv s17, iv s28, iv v34s0, iv v46s0, iv v64s0, iv v85s0, uu, uu, uu, uu, uu, uu, uu, uu, uu, uu, uu] [(.int v112s0)]) ∧ Stand p l e room_1 (s.setVm s.vm) m #[(.int i0), (.int i1), (.int i2), (.int i3)] below meth c T' L' 0 0 ∧ T'.heap = h0) ?_ ?_
          · by_cases hc112 : (i2 &&& (128 : Int32)) = (0 : Int32)
            · refine ov (B := T5.setTop (mkF m 119 #[iv i0, iv i1, iv i2, iv i3, iv s6, iv s17, iv s28, iv v34s0, iv v46s0, iv v64s0, iv v85s0, uu, uu, uu, uu, uu, uu, uu, uu, uu, uu, uu] [])) (fun t k => XS.ifYes X5.here hx rfl (pc0 := 112) (pc' := 119) rfl (hb hby at_112) rfl ((if0 _ _).trans (teq hc112).1) (by decide) (by decide) k) ?_
              refine oIC (n := 120) X5 hx (0 : Int32) (hb hby at_119) (by decide) rfl ?_
              exact own_done ⟨_, _, _, N5, (Or.inl ⟨hc112, rfl⟩), rfl, X5, e5⟩
            · refine ov (B := T5.setTop (mkF m 115 #[iv i0, iv i1, iv i2, iv i3, iv s6, iv s17, iv s28, iv v34s0, iv v46s0, iv v64s0, iv v85s0, uu, uu, uu, uu, uu, uu, uu, uu, uu, uu, uu] [])) (fun t k => XS.ifNo X5.here hx rfl (hb hby at_112) rfl ((if0 _ _).trans (feq hc112).1) k) ?_
              refine oIC (n := 116) X5 hx (1 : Int32) (hb hby at_115) (by decide) rfl ?_
              refine oGO (n := 120) X5 hx (hb hby at_116) (by decide) (by decide) ?_
              exact own_done ⟨_, _, _, N5, (Or.inr ⟨hc112, rfl⟩), rfl, X5, e5⟩
          · rintro B ⟨T7, L7, v112s0, N7, hv112, rfl, X7, e7⟩
            refine ov (B := T7.setTop (mkF m 122 #[iv i0, iv i1, iv i2, iv i3, iv s6, iv s17, iv s28, iv v34s0, iv v46s0, iv v64s0, iv v85s0, iv v112s0, uu, uu, uu, uu, uu, uu, uu, uu, uu, uu] [])) (fun t k => XS.istore X7.here hx rfl (hb hby at_120) rfl (l' := #[iv i0, iv i1, iv i2, iv i3, iv s6, iv s17, iv s28, iv v34s0, iv v46s0, iv v64s0, iv v85s0, iv v112s0, uu, uu, uu, uu, uu, uu, uu, uu, uu, uu]) rfl k) ?_
            refine oIL (n := 124) X7 hx (hb hby at_122) rfl rfl ?_
            refine own_bind (G := fun B => ∃ (T' : State) (L' : List Loc) (v124s0 : Int32), Fr n0 L' ∧ (((v112s0 = (0 : Int32)) ∧ v124s0 = (i3 &&& (255 : Int32))) ∨ ((¬ (v112s0 = (0 : Int32))) ∧ v124s0 = v46s0)) ∧ B = T'.setTop (mkF m 138 #[iv i0, iv i1, iv i2, iv i3, iv s6, iv s17, iv s28, iv v34s0, iv v46s0, iv v64s0, iv v85s0, iv v112s0, uu, uu, uu, uu, uu, uu, uu, uu, uu, uu] [(.int v124s0)]) ∧ Stand p l e room_1 (s.setVm s.vm) m #[(.int i0), (.int i1), (.int i2), (.int i3)] below meth c T' L' 0 0 ∧ T'.heap = h0) ?_ ?_
            · by_cases hc124 : v112s0 = (0 : Int32)
              · refine ov (B := T7.setTop (mkF m 132 #[iv i0, iv i1, iv i2, iv i3, iv s6, iv s17, iv s28, iv v34s0, iv v46s0, iv v64s0, iv v85s0, iv v112s0, uu, uu, uu, uu, uu, uu, uu, uu, uu, uu] [])) (fun t k => XS.ifYes X7.here hx rfl (pc0 := 124) (pc' := 132) rfl (hb hby at_124) rfl ((if0 _ _).trans (teq hc124).1) (by decide) (by decide) k) ?_
                refine oILN (n := 133) X7 hx (hb hby at_132) rfl rfl ?_
                refine oSP (n := 136) X7 hx (255 : Int32) (hb hby at_133) (by decide) rfl ?_
                refine ov (B := T7.setTop (mkF m 137 #[iv i0, iv i1, iv i2, iv i3, iv s6, iv s17, iv s28, iv v34s0, iv v46s0, iv v64s0, iv v85s0, iv v112s0, uu, uu, uu, uu, uu, uu, uu, uu, uu, uu] [(.int (i3 &&& (255 : Int32)))])) (fun t k => XS.iand X7.here hx rfl (hb hby at_136) rfl k) ?_
                refine ov (B := T7.setTop (mkF m 138 #[iv i0, iv i1, iv i2, iv i3, iv s6, iv s17, iv s28, iv v34s0, iv v46s0, iv v64s0, iv v85s0, iv v112s0, uu, uu, uu, uu, uu, uu, uu, uu, uu, uu] [(.int (i3 &&& (255 : Int32)))])) (fun t k => XS.i2c X7.here hx rfl (hb hby at_137) rfl (by rw [own_i2c (own_b255 i3)]; exact k)) ?_
                exact own_done ⟨_, _, _, N7, (Or.inl ⟨hc124, rfl⟩), rfl, X7, e7⟩
              · refine ov (B := T7.setTop (mkF m 127 #[iv i0, iv i1, iv i2, iv i3, iv s6, iv s17, iv s28, iv v34s0, iv v46s0, iv v64s0, iv v85s0, iv v112s0, uu, uu, uu, uu, uu, uu, uu, uu, uu, uu] [])) (fun t k => XS.ifNo X7.here hx rfl (hb hby at_124) rfl ((if0 _ _).trans (feq hc124).1) k) ?_
                refine oIL (n := 129) X7 hx (hb hby at_127) rfl rfl ?_
                refine oGO (n := 138) X7 hx (hb hby at_129) (by decide) (by decide) ?_
                exact own_done ⟨_, _, _, N7, (Or.inr ⟨hc124, rfl⟩), rfl, X7, e7⟩
            · rintro B ⟨T8, L8, v124s0, N8, hv124, rfl, X8, e8⟩
              have hch_v124s0 : own_C v124s0 := by rcases hv124 with ⟨_, q_v124s0⟩ | ⟨_, q_v124s0⟩; (rw [q_v124s0]; exact (own_b255 i3)); (rw [q_v124s0]; exact hch_v46s0)
              refine ov (B := T8.setTop (mkF m 140 #[iv i0, iv i1, iv i2, iv i3, iv s6, iv s17, iv s28, iv v34s0, iv v46s0, iv v64s0, iv v85s0, iv v112s0, iv v124s0, uu, uu, uu, uu, uu, uu, uu, uu, uu] [])) (fun t k => XS.istore X8.here hx rfl (hb hby at_138) rfl (l' := #[iv i0, iv i1, iv i2, iv i3, iv s6, iv s17, iv s28, iv v34s0, iv v46s0, iv v64s0, iv v85s0, iv v112s0, iv v124s0, uu, uu, uu, uu, uu, uu, uu, uu, uu]) rfl k) ?_
              refine oIL (n := 142) X8 hx (hb hby at_140) rfl rfl ?_
              refine own_bind (G := fun B => ∃ (T' : State) (L' : List Loc) (v142s0 : Int32), Fr n0 L' ∧ (((v112s0 = (0 : Int32)) ∧ v142s0 = (((i3.toUInt32 >>> ((8 : Int32) &&& 31).toUInt32).toInt32) &&& (255 : Int32))) ∨ ((¬ (v112s0 = (0 : Int32))) ∧ v142s0 = v64s0)) ∧ B = T'.setTop (mkF m 159 #[iv i0, iv i1, iv i2, iv i3, iv s6, iv s17, iv s28, iv v34s0, iv v46s0, iv v64s0, iv v85s0, iv v112s0, iv v124s0, uu, uu, uu, uu, uu, uu, uu, uu, uu] [(.int v142s0)]) ∧ Stand p l e room_1 (s.setVm s.vm) m #[(.int i0), (.int i1), (.int i2), (.int i3)] below meth c T' L' 0 0 ∧ T'.heap = h0) ?_ ?_
              · by_cases hc142 : v112s0 = (0 : Int32)
                · refine ov (B := T8.setTop (mkF m 150 #[iv i0, iv i1, iv i2, iv i3, iv s6, iv s17, iv s28, iv v34s0, iv v46s0, iv v64s0, iv v85s0, iv v112s0, iv v124s0, uu, uu, uu, uu, uu, uu, uu, uu, uu] [])) (fun t k => XS.ifYes X8.here hx rfl (pc0 := 142) (pc' := 150) rfl (hb hby at_142) rfl ((if0 _ _).trans (teq hc142).1) (by decide) (by decide) k) ?_
                  refine oILN (n := 151) X8 hx (hb hby at_150) rfl rfl ?_
                  refine oBP (n := 153) X8 hx (8 : Int32) (hb hby at_151) (by decide) rfl ?_
                  refine ov (B := T8.setTop (mkF m 154 #[iv i0, iv i1, iv i2, iv i3, iv s6, iv s17, iv s28, iv v34s0, iv v46s0, iv v64s0, iv v85s0, iv v112s0, iv v124s0, uu, uu, uu, uu, uu, uu, uu, uu, uu] [(.int ((i3.toUInt32 >>> ((8 : Int32) &&& 31).toUInt32).toInt32))])) (fun t k => XS.iushr X8.here hx rfl (hb hby at_153) rfl k) ?_
                  refine oSP (n := 157) X8 hx (255 : Int32) (hb hby at_154) (by decide) rfl ?_
                  refine ov (B := T8.setTop (mkF m 158 #[iv i0, iv i1, iv i2, iv i3, iv s6, iv s17, iv s28, iv v34s0, iv v46s0, iv v64s0, iv v85s0, iv v112s0, iv v124s0, uu, uu, uu, uu, uu, uu, uu, uu, uu] [(.int (((i3.toUInt32 >>> ((8 : Int32) &&& 31).toUInt32).toInt32) &&& (255 : Int32)))])) (fun t k => XS.iand X8.here hx rfl (hb hby at_157) rfl k) ?_
                  refine ov (B := T8.setTop (mkF m 159 #[iv i0, iv i1, iv i2, iv i3, iv s6, iv s17, iv s28, iv v34s0, iv v46s0, iv v64s0, iv v85s0, iv v112s0, iv v124s0, uu, uu, uu, uu, uu, uu, uu, uu, uu] [(.int (((i3.toUInt32 >>> ((8 : Int32) &&& 31).toUInt32).toInt32) &&& (255 : Int32)))])) (fun t k => XS.i2c X8.here hx rfl (hb hby at_158) rfl (by rw [own_i2c (own_b255 ((i3.toUInt32 >>> ((8 : Int32) &&& 31).toUInt32).toInt32))]; exact k)) ?_
                  exact own_done ⟨_, _, _, N8, (Or.inl ⟨hc142, rfl⟩), rfl, X8, e8⟩
                · refine ov (B := T8.setTop (mkF m 145 #[iv i0, iv i1, iv i2, iv i3, iv s6, iv s17, iv s28, iv v34s0, iv v46s0, iv v64s0, iv v85s0, iv v112s0, iv v124s0, uu, uu, uu, uu, uu, uu, uu, uu, uu] [])) (fun t k => XS.ifNo X8.here hx rfl (hb hby at_142) rfl ((if0 _ _).trans (feq hc142).1) k) ?_
                  refine oIL (n := 147) X8 hx (hb hby at_145) rfl rfl ?_
                  refine oGO (n := 159) X8 hx (hb hby at_147) (by decide) (by decide) ?_
                  exact own_done ⟨_, _, _, N8, (Or.inr ⟨hc142, rfl⟩), rfl, X8, e8⟩
              · rintro B ⟨T9, L9, v142s0, N9, hv142, rfl, X9, e9⟩
                have hch_v142s0 : own_C v142s0 := by rcases hv142 with ⟨_, q_v142s0⟩ | ⟨_, q_v142s0⟩; (rw [q_v142s0]; exact (own_b255 ((i3.toUInt32 >>> ((8 : Int32) &&& 31).toUInt32).toInt32))); (rw [q_v142s0]; exact hch_v64s0)
                refine ov (B := T9.setTop (mkF m 161 #[iv i0, iv i1, iv i2, iv i3, iv s6, iv s17, iv s28, iv v34s0, iv v46s0, iv v64s0, iv v85s0, iv v112s0, iv v124s0, iv v142s0, uu, uu, uu, uu, uu, uu, uu, uu] [])) (fun t k => XS.istore X9.here hx rfl (hb hby at_159) rfl (l' := #[iv i0, iv i1, iv i2, iv i3, iv s6, iv s17, iv s28, iv v34s0, iv v46s0, iv v64s0, iv v85s0, iv v112s0, iv v124s0, iv v142s0, uu, uu, uu, uu, uu, uu, uu, uu]) rfl k) ?_
                refine oIL (n := 163) X9 hx (hb hby at_161) rfl rfl ?_
                refine own_bind (G := fun B => ∃ (T' : State) (L' : List Loc) (v163s0 : Int32), Fr n0 L' ∧ (((v112s0 = (0 : Int32)) ∧ v163s0 = ((1 : Int32) + (((i3.toUInt32 >>> ((16 : Int32) &&& 31).toUInt32).toInt32) &&& (1 : Int32)))) ∨ ((¬ (v112s0 = (0 : Int32))) ∧ v163s0 = v85s0)) ∧ B = T'.setTop (mkF m 179 #[iv i0, iv i1, iv i2, iv i3, iv s6, iv s17, iv s28, iv v34s0, iv v46s0, iv v64s0, iv v85s0, iv v112s0, iv v124s0, iv v142s0, uu, uu, uu, uu, uu, uu, uu, uu] [(.int v163s0)]) ∧ Stand p l e room_1 (s.setVm s.vm) m #[(.int i0), (.int i1), (.int i2), (.int i3)] below meth c T' L' 0 0 ∧ T'.heap = h0) ?_ ?_
                · by_cases hc163 : v112s0 = (0 : Int32)
                  · refine ov (B := T9.setTop (mkF m 171 #[iv i0, iv i1, iv i2, iv i3, iv s6, iv s17, iv s28, iv v34s0, iv v46s0, iv v64s0, iv v85s0, iv v112s0, iv v124s0, iv v142s0, uu, uu, uu, uu, uu, uu, uu, uu] [])) (fun t k => XS.ifYes X9.here hx rfl (pc0 := 163) (pc' := 171) rfl (hb hby at_163) rfl ((if0 _ _).trans (teq hc163).1) (by decide) (by decide) k) ?_
                    refine oIC (n := 172) X9 hx (1 : Int32) (hb hby at_171) (by decide) rfl ?_
                    refine oILN (n := 173) X9 hx (hb hby at_172) rfl rfl ?_
                    refine oBP (n := 175) X9 hx (16 : Int32) (hb hby at_173) (by decide) rfl ?_
                    refine ov (B := T9.setTop (mkF m 176 #[iv i0, iv i1, iv i2, iv i3, iv s6, iv s17, iv s28, iv v34s0, iv v46s0, iv v64s0, iv v85s0, iv v112s0, iv v124s0, iv v142s0, uu, uu, uu, uu, uu, uu, uu, uu] [(.int ((i3.toUInt32 >>> ((16 : Int32) &&& 31).toUInt32).toInt32)), (.int (1 : Int32))])) (fun t k => XS.iushr X9.here hx rfl (hb hby at_175) rfl k) ?_
                    refine oIC (n := 177) X9 hx (1 : Int32) (hb hby at_176) (by decide) rfl ?_
                    refine ov (B := T9.setTop (mkF m 178 #[iv i0, iv i1, iv i2, iv i3, iv s6, iv s17, iv s28, iv v34s0, iv v46s0, iv v64s0, iv v85s0, iv v112s0, iv v124s0, iv v142s0, uu, uu, uu, uu, uu, uu, uu, uu] [(.int (((i3.toUInt32 >>> ((16 : Int32) &&& 31).toUInt32).toInt32) &&& (1 : Int32))), (.int (1 : Int32))])) (fun t k => XS.iand X9.here hx rfl (hb hby at_177) rfl k) ?_
                    refine ov (B := T9.setTop (mkF m 179 #[iv i0, iv i1, iv i2, iv i3, iv s6, iv s17, iv s28, iv v34s0, iv v46s0, iv v64s0, iv v85s0, iv v112s0, iv v124s0, iv v142s0, uu, uu, uu, uu, uu, uu, uu, uu] [(.int ((1 : Int32) + (((i3.toUInt32 >>> ((16 : Int32) &&& 31).toUInt32).toInt32) &&& (1 : Int32))))])) (fun t k => XS.iadd X9.here hx rfl (hb hby at_178) rfl k) ?_
                    exact own_done ⟨_, _, _, N9, (Or.inl ⟨hc163, rfl⟩), rfl, X9, e9⟩
                  · refine ov (B := T9.setTop (mkF m 166 #[iv i0, iv i1, iv i2, iv i3, iv s6, iv s17, iv s28, iv v34s0, iv v46s0, iv v64s0, iv v85s0, iv v112s0, iv v124s0, iv v142s0, uu, uu, uu, uu, uu, uu, uu, uu] [])) (fun t k => XS.ifNo X9.here hx rfl (hb hby at_163) rfl ((if0 _ _).trans (feq hc163).1) k) ?_
                    refine oIL (n := 168) X9 hx (hb hby at_166) rfl rfl ?_
                    refine oGO (n := 179) X9 hx (hb hby at_168) (by decide) (by decide) ?_
                    exact own_done ⟨_, _, _, N9, (Or.inr ⟨hc163, rfl⟩), rfl, X9, e9⟩
                · rintro B ⟨T10, L10, v163s0, N10, hv163, rfl, X10, e10⟩
                  refine ov (B := T10.setTop (mkF m 181 #[iv i0, iv i1, iv i2, iv i3, iv s6, iv s17, iv s28, iv v34s0, iv v46s0, iv v64s0, iv v85s0, iv v112s0, iv v124s0, iv v142s0, iv v163s0, uu, uu, uu, uu, uu, uu, uu] [])) (fun t k => XS.istore X10.here hx rfl (hb hby at_179) rfl (l' := #[iv i0, iv i1, iv i2, iv i3, iv s6, iv s17, iv s28, iv v34s0, iv v46s0, iv v64s0, iv v85s0, iv v112s0, iv v124s0, iv v142s0, iv v163s0, uu, uu, uu, uu, uu, uu, uu]) rfl k) ?_
                  refine oIL (n := 183) X10 hx (hb hby at_181) rfl rfl ?_
                  refine oIL (n := 185) X10 hx (hb hby at_183) rfl rfl ?_
                  refine oIL (n := 187) X10 hx (hb hby at_185) rfl rfl ?_
                  obtain ⟨_, _, ⟨T11, L11, k11, n11⟩, -, X11, hT11, gT11, ⟨Lc11, hQ11, l11, y11, z11⟩, st11⟩ := callSS X10 hx (y := (⟨sAR, "str", "(ICC)Ljava/lang/String;"⟩ : MethodName)) hown (mvT hZ (oW hw 4 rfl)) (mvT hZ (oW hw 5 rfl)) (mvT hZ (oW hw 6 rfl)) (mvT hZ (oW hw 7 rfl)) (by decide) (own_backI (W := 0) (rmSA l Z a0 hw [] s28 s6 s17 zc h0 n0 Z0 O0 (by assumption) (by assumption) (by assumption) (by assumption) (own_cg hs6 (own_b255 i0)) (own_cg hs17 (own_b255 ((i0.toUInt32 >>> ((8 : Int32) &&& 31).toUInt32).toInt32)))) (show IB Z (s.setVm s.vm).vm [] from hI) hZ (oW hw 7 rfl) (oW hw 6 rfl) (by decide) (by decide)) (g := (mkF m 187 #[iv i0, iv i1, iv i2, iv i3, iv s6, iv s17, iv s28, iv v34s0, iv v46s0, iv v64s0, iv v85s0, iv v112s0, iv v124s0, iv v142s0, iv v163s0, uu, uu, uu, uu, uu, uu, uu] [(.int s17), (.int s6), (.int s28)])) rfl (by rw [hml]; rfl) (argsL := [(.int s28), (.int s6), (.int s17)]) (rest := []) (lenOf own_pd13 rfl) rfl (by show 2 * 0 + _ ≤ _; exact Nat.le_of_eq rfl) (hb hby at_187) (fun _ _ => ⟨rfl, e10, (by decide : 0 + 5 ≤ _), (by decide : 0 + 12 ≤ _)⟩)
                  dsimp only [Pt.U, Pt.locs, Pt.cells, Pt.slots] at X11 l11 y11 z11 st11 hQ11 hT11 gT11
                  subst l11 y11 z11
                  obtain ⟨X11, hS11, hZ, hown⟩ := rebS hS0 (by rw [e10]; exact hk0) X11 hT11 gT11 hZ hown
                  obtain ⟨r_11, tr_11, kr_11, rfl, Nq11, Kq11, f11_0, f11_1, f11_2, f11_3⟩ := hQ11
                  have N11 := Fr.app N10 Nq11
                  refine ov (B := T11.setTop (mkF m 190 #[iv i0, iv i1, iv i2, iv i3, iv s6, iv s17, iv s28, iv v34s0, iv v46s0, iv v64s0, iv v85s0, iv v112s0, iv v124s0, iv v142s0, iv v163s0, uu, uu, uu, uu, uu, uu, uu] [(.ref r_11)])) (fun t k => st11.trans k) ?_
                  refine ov (B := T11.setTop (mkF m 192 #[iv i0, iv i1, iv i2, iv i3, iv s6, iv s17, iv s28, iv v34s0, iv v46s0, iv v64s0, iv v85s0, iv v112s0, iv v124s0, iv v142s0, iv v163s0, rv r_11, uu, uu, uu, uu, uu, uu] [])) (fun t k => XS.astore X11.here hx rfl (hb hby at_190) rfl rfl (l' := #[iv i0, iv i1, iv i2, iv i3, iv s6, iv s17, iv s28, iv v34s0, iv v46s0, iv v64s0, iv v85s0, iv v112s0, iv v124s0, iv v142s0, iv v163s0, rv r_11, uu, uu, uu, uu, uu, uu]) rfl k) ?_
                  refine oIL (n := 194) X11 hx (hb hby at_192) rfl rfl ?_
                  refine oIL (n := 196) X11 hx (hb hby at_194) rfl rfl ?_
                  refine oIL (n := 198) X11 hx (hb hby at_196) rfl rfl ?_
                  have hl_v85 : (0 : Int32) < v85s0 := own_p12 (by rcases hv85 with ⟨_, h⟩ | ⟨_, h⟩; (rw [h]; exact own_12 _); (rw [h]; exact own_mx12 (by rw [← hs28]; exact own_03 _)) : v85s0 = 1 ∨ v85s0 = 2)
                  obtain ⟨_, _, ⟨T12, L12, k12, n12⟩, -, X12, ⟨Lc12, hQ12, l12, y12, z12⟩, st12⟩ := Jvm.LawKit.callS X11 hx (y := (⟨sAR, "str", "(ICC)Ljava/lang/String;"⟩ : MethodName)) hown (mvT hZ (oW hw 4 rfl)) (mvT hZ (oW hw 5 rfl)) (mvT hZ (oW hw 6 rfl)) (mvT hZ (oW hw 7 rfl)) (by decide) (backOf (W := 0) (rmSB l Z a0 hw [] v85s0 v46s0 v64s0 zc T11.heap n0 (Nat.le_trans Z0 Kq11.1) (O0.keep Kq11 all0) (by assumption) (by assumption) hl_v85 hch_v46s0 hch_v64s0) hZ (oW hw 7 rfl) (oW hw 6 rfl) (by decide) (by decide)) (g := (mkF m 198 #[iv i0, iv i1, iv i2, iv i3, iv s6, iv s17, iv s28, iv v34s0, iv v46s0, iv v64s0, iv v85s0, iv v112s0, iv v124s0, iv v142s0, iv v163s0, rv r_11, uu, uu, uu, uu, uu, uu] [(.int v64s0), (.int v46s0), (.int v85s0)])) rfl (by rw [hml]; rfl) (argsL := [(.int v85s0), (.int v46s0), (.int v64s0)]) (rest := []) (lenOf own_pd13 rfl) rfl (by show 2 * 0 + _ ≤ _; exact Nat.le_of_eq rfl) (hb hby at_198) (fun _ _ => ⟨rfl, rfl, (by decide : (0 + 5) + 3 ≤ _), (by decide : (0 + 12) + 8 ≤ _)⟩)
                  dsimp only [Pt.U, Pt.locs, Pt.cells, Pt.slots] at X12 l12 y12 z12 st12 hQ12
                  subst l12 y12 z12
                  obtain ⟨r_12, tr_12, kr_12, rfl, Nq12, Kq12, hr_12, htr_12, f12_0, f12_1, f12_2, f12_3⟩ := hQ12
                  have N12 := Fr.app N11 Nq12
                  have g_r_12 : n0 ≤ r_12 := Nat.le_trans (Nat.le_trans Z0 Kq11.1) hr_12
                  have g_tr_12 : n0 ≤ tr_12 := Nat.le_trans (Nat.le_trans Z0 Kq11.1) htr_12
                  refine ov (B := T12.setTop (mkF m 201 #[iv i0, iv i1, iv i2, iv i3, iv s6, iv s17, iv s28, iv v34s0, iv v46s0, iv v64s0, iv v85s0, iv v112s0, iv v124s0, iv v142s0, iv v163s0, rv r_11, uu, uu, uu, uu, uu, uu] [(.ref r_12)])) (fun t k => st12 t k) ?_
                  refine ov (B := T12.setTop (mkF m 203 #[iv i0, iv i1, iv i2, iv i3, iv s6, iv s17, iv s28, iv v34s0, iv v46s0, iv v64s0, iv v85s0, iv v112s0, iv v124s0, iv v142s0, iv v163s0, rv r_11, rv r_12, uu, uu, uu, uu, uu] [])) (fun t k => XS.astore X12.here hx rfl (hb hby at_201) rfl rfl (l' := #[iv i0, iv i1, iv i2, iv i3, iv s6, iv s17, iv s28, iv v34s0, iv v46s0, iv v64s0, iv v85s0, iv v112s0, iv v124s0, iv v142s0, iv v163s0, rv r_11, rv r_12, uu, uu, uu, uu, uu]) rfl k) ?_
                  refine oIL (n := 205) X12 hx (hb hby at_203) rfl rfl ?_
                  refine oIL (n := 207) X12 hx (hb hby at_205) rfl rfl ?_
                  refine oIL (n := 209) X12 hx (hb hby at_207) rfl rfl ?_
                  have hl_v163 : (0 : Int32) < v163s0 := own_p12 (by rcases hv163 with ⟨_, h⟩ | ⟨_, h⟩; (rw [h]; exact own_12 _); (rw [h]; exact (by rcases hv85 with ⟨_, h⟩ | ⟨_, h⟩; (rw [h]; exact own_12 _); (rw [h]; exact own_mx12 (by rw [← hs28]; exact own_03 _)) : v85s0 = 1 ∨ v85s0 = 2)) : v163s0 = 1 ∨ v163s0 = 2)
                  obtain ⟨_, _, ⟨T13, L13, k13, n13⟩, -, X13, ⟨Lc13, hQ13, l13, y13, z13⟩, st13⟩ := Jvm.LawKit.callS X12 hx (y := (⟨sAR, "str", "(ICC)Ljava/lang/String;"⟩ : MethodName)) hown (mvT hZ (oW hw 4 rfl)) (mvT hZ (oW hw 5 rfl)) (mvT hZ (oW hw 6 rfl)) (mvT hZ (oW hw 7 rfl)) (by decide) (backOf (W := 0) (rmSB l Z a0 hw [] v163s0 v124s0 v142s0 zc T12.heap n0 (Nat.le_trans (Nat.le_trans Z0 Kq11.1) Kq12.1) ((O0.keep Kq11 all0).keep Kq12 all0) (by assumption) (by assumption) hl_v163 hch_v124s0 hch_v142s0) hZ (oW hw 7 rfl) (oW hw 6 rfl) (by decide) (by decide)) (g := (mkF m 209 #[iv i0, iv i1, iv i2, iv i3, iv s6, iv s17, iv s28, iv v34s0, iv v46s0, iv v64s0, iv v85s0, iv v112s0, iv v124s0, iv v142s0, iv v163s0, rv r_11, rv r_12, uu, uu, uu, uu, uu] [(.int v142s0), (.int v124s0), (.int v163s0)])) rfl (by rw [hml]; rfl) (argsL := [(.int v163s0), (.int v124s0), (.int v142s0)]) (rest := []) (lenOf own_pd13 rfl) rfl (by show 2 * 0 + _ ≤ _; exact Nat.le_of_eq rfl) (hb hby at_209) (fun _ _ => ⟨rfl, rfl, (by decide : ((0 + 5) + 3) + 3 ≤ _), (by decide : ((0 + 12) + 8) + 8 ≤ _)⟩)
                  dsimp only [Pt.U, Pt.locs, Pt.cells, Pt.slots] at X13 l13 y13 z13 st13 hQ13
                  subst l13 y13 z13
                  obtain ⟨r_13, tr_13, kr_13, rfl, Nq13, Kq13, hr_13, htr_13, f13_0, f13_1, f13_2, f13_3⟩ := hQ13
                  have N13 := Fr.app N12 Nq13
                  have g_r_13 : n0 ≤ r_13 := Nat.le_trans (Nat.le_trans (Nat.le_trans Z0 Kq11.1) Kq12.1) hr_13
                  have g_tr_13 : n0 ≤ tr_13 := Nat.le_trans (Nat.le_trans (Nat.le_trans Z0 Kq11.1) Kq12.1) htr_13
                  refine ov (B := T13.setTop (mkF m 212 #[iv i0, iv i1, iv i2, iv i3, iv s6, iv s17, iv s28, iv v34s0, iv v46s0, iv v64s0, iv v85s0, iv v112s0, iv v124s0, iv v142s0, iv v163s0, rv r_11, rv r_12, uu, uu, uu, uu, uu] [(.ref r_13)])) (fun t k => st13 t k) ?_
                  refine ov (B := T13.setTop (mkF m 214 #[iv i0, iv i1, iv i2, iv i3, iv s6, iv s17, iv s28, iv v34s0, iv v46s0, iv v64s0, iv v85s0, iv v112s0, iv v124s0, iv v142s0, iv v163s0, rv r_11, rv r_12, rv r_13, uu, uu, uu, uu] [])) (fun t k => XS.astore X13.here hx rfl (hb hby at_212) rfl rfl (l' := #[iv i0, iv i1, iv i2, iv i3, iv s6, iv s17, iv s28, iv v34s0, iv v46s0, iv v64s0, iv v85s0, iv v112s0, iv v124s0, iv v142s0, iv v163s0, rv r_11, rv r_12, rv r_13, uu, uu, uu, uu]) rfl k) ?_
                  refine oILN (n := 215) X13 hx (hb hby at_214) rfl rfl ?_
                  refine oBP (n := 217) X13 hx (7 : Int32) (hb hby at_215) (by decide) rfl ?_
                  refine ov (B := T13.setTop (mkF m 218 #[iv i0, iv i1, iv i2, iv i3, iv s6, iv s17, iv s28, iv v34s0, iv v46s0, iv v64s0, iv v85s0, iv v112s0, iv v124s0, iv v142s0, iv v163s0, rv r_11, rv r_12, rv r_13, uu, uu, uu, uu] [(.int (i2 &&& (7 : Int32)))])) (fun t k => XS.iand X13.here hx rfl (hb hby at_217) rfl k) ?_
                  refine oIC (n := 219) X13 hx (5 : Int32) (hb hby at_218) (by decide) rfl ?_
                  refine ov (B := T13.setTop (mkF m 220 #[iv i0, iv i1, iv i2, iv i3, iv s6, iv s17, iv s28, iv v34s0, iv v46s0, iv v64s0, iv v85s0, iv v112s0, iv v124s0, iv v142s0, iv v163s0, rv r_11, rv r_12, rv r_13, uu, uu, uu, uu] [(.int ((i2 &&& (7 : Int32)) % (5 : Int32)))])) (fun t k => iremM X13 hx rfl (hb hby at_219) rfl (by decide) k) ?_
                  refine ov (B := T13.setTop (mkF m 222 #[iv i0, iv i1, iv i2, iv i3, iv s6, iv s17, iv s28, iv v34s0, iv v46s0, iv v64s0, iv v85s0, iv v112s0, iv v124s0, iv v142s0, iv v163s0, rv r_11, rv r_12, rv r_13, iv ((i2 &&& (7 : Int32)) % (5 : Int32)), uu, uu, uu] [])) (fun t k => XS.istore X13.here hx rfl (hb hby at_220) rfl (l' := #[iv i0, iv i1, iv i2, iv i3, iv s6, iv s17, iv s28, iv v34s0, iv v46s0, iv v64s0, iv v85s0, iv v112s0, iv v124s0, iv v142s0, iv v163s0, rv r_11, rv r_12, rv r_13, iv ((i2 &&& (7 : Int32)) % (5 : Int32)), uu, uu, uu]) rfl k) ?_
                  generalize hs220 : ((i2 &&& (7 : Int32)) % (5 : Int32)) = s220
                  refine oILN (n := 223) X13 hx (hb hby at_222) rfl rfl ?_
                  refine oBP (n := 225) X13 hx (8 : Int32) (hb hby at_223) (by decide) rfl ?_
                  refine ov (B := T13.setTop (mkF m 226 #[iv i0, iv i1, iv i2, iv i3, iv s6, iv s17, iv s28, iv v34s0, iv v46s0, iv v64s0, iv v85s0, iv v112s0, iv v124s0, iv v142s0, iv v163s0, rv r_11, rv r_12, rv r_13, iv s220, uu, uu, uu] [(.int ((i2.toUInt32 >>> ((8 : Int32) &&& 31).toUInt32).toInt32))])) (fun t k => XS.iushr X13.here hx rfl (hb hby at_225) rfl k) ?_
                  refine oIC (n := 227) X13 hx (3 : Int32) (hb hby at_226) (by decide) rfl ?_
                  refine ov (B := T13.setTop (mkF m 228 #[iv i0, iv i1, iv i2, iv i3, iv s6, iv s17, iv s28, iv v34s0, iv v46s0, iv v64s0, iv v85s0, iv v112s0, iv v124s0, iv v142s0, iv v163s0, rv r_11, rv r_12, rv r_13, iv s220, uu, uu, uu] [(.int (((i2.toUInt32 >>> ((8 : Int32) &&& 31).toUInt32).toInt32) &&& (3 : Int32)))])) (fun t k => XS.iand X13.here hx rfl (hb hby at_227) rfl k) ?_
                  refine ov (B := T13.setTop (mkF m 230 #[iv i0, iv i1, iv i2, iv i3, iv s6, iv s17, iv s28, iv v34s0, iv v46s0, iv v64s0, iv v85s0, iv v112s0, iv v124s0, iv v142s0, iv v163s0, rv r_11, rv r_12, rv r_13, iv s220, iv (((i2.toUInt32 >>> ((8 : Int32) &&& 31).toUInt32).toInt32) &&& (3 : Int32)), uu, uu] [])) (fun t k => XS.istore X13.here hx rfl (hb hby at_228) rfl (l' := #[iv i0, iv i1, iv i2, iv i3, iv s6, iv s17, iv s28, iv v34s0, iv v46s0, iv v64s0, iv v85s0, iv v112s0, iv v124s0, iv v142s0, iv v163s0, rv r_11, rv r_12, rv r_13, iv s220, iv (((i2.toUInt32 >>> ((8 : Int32) &&& 31).toUInt32).toInt32) &&& (3 : Int32)), uu, uu]) rfl k) ?_
                  generalize hs228 : (((i2.toUInt32 >>> ((8 : Int32) &&& 31).toUInt32).toInt32) &&& (3 : Int32)) = s228
                  refine oIL (n := 232) X13 hx (hb hby at_230) rfl rfl ?_
                  by_cases hc232 : s220 = (0 : Int32)
                  · refine ov (B := T13.setTop (mkF m 235 #[iv i0, iv i1, iv i2, iv i3, iv s6, iv s17, iv s28, iv v34s0, iv v46s0, iv v64s0, iv v85s0, iv v112s0, iv v124s0, iv v142s0, iv v163s0, rv r_11, rv r_12, rv r_13, iv s220, iv s228, uu, uu] [])) (fun t k => XS.ifNo X13.here hx rfl (hb hby at_232) rfl ((if0 _ _).trans (teq hc232).2) k) ?_
                    obtain ⟨_, _, ⟨T14, L14, k14, n14⟩, -, X14, ⟨Lc14, hQ14, l14, y14, z14⟩, st14⟩ := Jvm.LawKit.callS X13 hx (y := (⟨sAA, "anonymous", "()Lcom/example/wardstone/wardstone/request/Requester;"⟩ : MethodName)) hown (mvT hZ (oW hw 135 rfl)) (mvT hZ (oW hw 136 rfl)) (mvT hZ (oW hw 39 rfl)) (mvT hZ (oW hw 137 rfl)) (by decide) (backOf (W := 0) (rmAn l Z a0 hw [] wN T13.heap n0 (Nat.le_trans (Nat.le_trans (Nat.le_trans Z0 Kq11.1) Kq12.1) Kq13.1) (((O0.keep Kq11 all0).keep Kq12 all0).keep Kq13 all0) (by assumption)) hZ (oW hw 137 rfl) (oW hw 39 rfl) (by decide) (by decide)) (g := (mkF m 235 #[iv i0, iv i1, iv i2, iv i3, iv s6, iv s17, iv s28, iv v34s0, iv v46s0, iv v64s0, iv v85s0, iv v112s0, iv v124s0, iv v142s0, iv v163s0, rv r_11, rv r_12, rv r_13, iv s220, iv s228, uu, uu] [])) rfl (by rw [hml]; rfl) (argsL := []) (rest := []) (lenOf own_pd14 rfl) rfl (by show 2 * 0 + _ ≤ _; exact Nat.le_of_eq rfl) (hb hby at_235) (fun _ _ => ⟨rfl, rfl, (by decide : (((0 + 5) + 3) + 3) + 0 ≤ _), (by decide : (((0 + 12) + 8) + 8) + 0 ≤ _)⟩)
                    dsimp only [Pt.U, Pt.locs, Pt.cells, Pt.slots] at X14 l14 y14 z14 st14 hQ14
                    subst l14 y14 z14
                    obtain ⟨rfl, Nq14, eq14⟩ := hQ14
                    have N14 := Fr.app N13 Nq14
                    refine ov (B := T14.setTop (mkF m 238 #[iv i0, iv i1, iv i2, iv i3, iv s6, iv s17, iv s28, iv v34s0, iv v46s0, iv v64s0, iv v85s0, iv v112s0, iv v124s0, iv v142s0, iv v163s0, rv r_11, rv r_12, rv r_13, iv s220, iv s228, uu, uu] [(.ref wN)])) (fun t k => st14 t k) ?_
                    refine ov (B := T14.setTop (mkF m 240 #[iv i0, iv i1, iv i2, iv i3, iv s6, iv s17, iv s28, iv v34s0, iv v46s0, iv v64s0, iv v85s0, iv v112s0, iv v124s0, iv v142s0, iv v163s0, rv r_11, rv r_12, rv r_13, iv s220, iv s228, rv wN, uu] [])) (fun t k => XS.astore X14.here hx rfl (hb hby at_238) rfl rfl (l' := #[iv i0, iv i1, iv i2, iv i3, iv s6, iv s17, iv s28, iv v34s0, iv v46s0, iv v64s0, iv v85s0, iv v112s0, iv v124s0, iv v142s0, iv v163s0, rv r_11, rv r_12, rv r_13, iv s220, iv s228, rv wN, uu]) rfl k) ?_
                    refine oGO (n := 341) X14 hx (hb hby at_240) (by decide) (by decide) ?_
                    refine oIL (n := 343) X14 hx (hb hby at_341) rfl rfl ?_
                    refine oIC (n := 344) X14 hx (1 : Int32) (hb hby at_343) (by decide) rfl ?_
                    have hc344 : ¬ (s220 = (1 : Int32)) := by rw [hc232]; decide
                    refine ov (B := T14.setTop (mkF m 378 #[iv i0, iv i1, iv i2, iv i3, iv s6, iv s17, iv s28, iv v34s0, iv v46s0, iv v64s0, iv v85s0, iv v112s0, iv v124s0, iv v142s0, iv v163s0, rv r_11, rv r_12, rv r_13, iv s220, iv s228, rv wN, uu] [])) (fun t k => XS.icmpYes X14.here hx rfl (pc0 := 344) (pc' := 378) rfl (hb hby at_344) rfl (feq hc344).2 (by decide) (by decide) k) ?_
                    refine oIC (n := 379) X14 hx (0 : Int32) (hb hby at_378) (by decide) rfl ?_
                    refine ov (B := T14.setTop (mkF m 381 #[iv i0, iv i1, iv i2, iv i3, iv s6, iv s17, iv s28, iv v34s0, iv v46s0, iv v64s0, iv v85s0, iv v112s0, iv v124s0, iv v142s0, iv v163s0, rv r_11, rv r_12, rv r_13, iv s220, iv s228, rv wN, iv (0 : Int32)] [])) (fun t k => XS.istore X14.here hx rfl (hb hby at_379) rfl (l' := #[iv i0, iv i1, iv i2, iv i3, iv s6, iv s17, iv s28, iv v34s0, iv v46s0, iv v64s0, iv v85s0, iv v112s0, iv v124s0, iv v142s0, iv v163s0, rv r_11, rv r_12, rv r_13, iv s220, iv s228, rv wN, iv (0 : Int32)]) rfl k) ?_
                    obtain ⟨T15, h15, X15, e15, E15, A15, D15, -, st15⟩ := newO X14 hx hZ hown (oW hw 93 rfl) (oW hw 94 rfl) (oW hw 95 rfl) eq14 (g := (mkF m 381 #[iv i0, iv i1, iv i2, iv i3, iv s6, iv s17, iv s28, iv v34s0, iv v46s0, iv v64s0, iv v85s0, iv v112s0, iv v124s0, iv v142s0, iv v163s0, rv r_11, rv r_12, rv r_13, iv s220, iv s228, rv wN, iv (0 : Int32)] [])) rfl (hb hby at_381) (by decide) (by decide)
                    obtain ⟨bpp, g15⟩ : ∃ z, z = T13.heap.size := ⟨_, rfl⟩
                    rw [← g15] at A15 D15 st15
                    have g_bpp : n0 ≤ bpp := Nat.le_trans (Nat.le_trans (Nat.le_trans (Nat.le_trans Z0 Kq11.1) Kq12.1) Kq13.1) (Nat.le_of_eq g15.symm)
                    have F15_account : Fld Z h15 bpp sAF "account" sAH .null := D15 (Or.inr (oW hw 101 rfl)) (ty := (.object sAB)) (by decide)
                    refine ov (B := T15.setTop (mkF m 384 #[iv i0, iv i1, iv i2, iv i3, iv s6, iv s17, iv s28, iv v34s0, iv v46s0, iv v64s0, iv v85s0, iv v112s0, iv v124s0, iv v142s0, iv v163s0, rv r_11, rv r_12, rv r_13, iv s220, iv s228, rv wN, iv (0 : Int32)] [(.ref bpp)])) (fun t k => st15 t k) ?_
                    refine oDU (n := 385) X15 hx (hb hby at_384) rfl rfl ?_
                    refine oAL (n := 387) X15 hx (hb hby at_385) rfl rfl rfl ?_
                    obtain ⟨_, _, ⟨T16, L16, k16, n16⟩, -, X16, ⟨Lc16, hQ16, l16, y16, z16⟩, st16⟩ := X15.specialBack hx (y := (⟨sAF, "<init>", sAT⟩ : MethodName)) rfl hown (mvT hZ (oW hw 96 rfl)) (mvT hZ (oW hw 97 rfl)) (mvT hZ (oW hw 98 rfl)) (by decide) (backOf (W := 1) (rmPi l Z a0 hw [] bpp r_11 .null h15 n0 (Nat.le_trans (Nat.le_trans (Nat.le_trans (Nat.le_trans Z0 Kq11.1) Kq12.1) Kq13.1) E15.1) A15 F15_account g_bpp) hZ (oW hw 98 rfl) (oW hw 95 rfl) (by decide) (by decide)) (g := (mkF m 387 #[iv i0, iv i1, iv i2, iv i3, iv s6, iv s17, iv s28, iv v34s0, iv v46s0, iv v64s0, iv v85s0, iv v112s0, iv v124s0, iv v142s0, iv v163s0, rv r_11, rv r_12, rv r_13, iv s220, iv s228, rv wN, iv (0 : Int32)] [(.ref r_11), (.ref bpp), (.ref bpp)])) rfl (by rw [hml]; rfl) (Steps.refl _) (a := bpp) (argsL := [(.ref r_11)]) (rest := [(.ref bpp)]) (lenOf own_pd15 rfl) rfl (by show 2 * 0 + _ ≤ _; exact Nat.le_of_eq rfl) (hb hby at_387) (fun _ _ => ⟨rfl, e15, (by decide : (((((0 + 5) + 3) + 3) + 0) + 1) + 0 ≤ _), (by decide : (((((0 + 12) + 8) + 8) + 0) + 1) + 0 ≤ _)⟩)
                    dsimp only [Pt.U, Pt.locs, Pt.cells, Pt.slots] at X16 l16 y16 z16 st16 hQ16
                    subst l16 y16 z16
                    obtain ⟨rfl, Nq16, Kq16, f16_0⟩ := hQ16
                    have N16 := Fr.app N14 Nq16
                    refine ov (B := T16.setTop (mkF m 390 #[iv i0, iv i1, iv i2, iv i3, iv s6, iv s17, iv s28, iv v34s0, iv v46s0, iv v64s0, iv v85s0, iv v112s0, iv v124s0, iv v142s0, iv v163s0, rv r_11, rv r_12, rv r_13, iv s220, iv s228, rv wN, iv (0 : Int32)] [(.ref bpp)])) (fun t k => st16.trans k) ?_
                    refine oAL (n := 392) X16 hx (hb hby at_390) rfl rfl rfl ?_
                    obtain ⟨cq17, kq17, q17a, q17b, q17c⟩ := isOf hZ rfl (A15.keep Kq16)
                    obtain ⟨_, _, ⟨T17, L17, k17, n17⟩, -, X17, ⟨Lc17, hQ17, l17, y17, z17⟩, st17⟩ := X16.virtualBack hx (y := (⟨sAF, "matches", sAO⟩ : MethodName)) (z := (⟨sAF, "matches", sAO⟩ : MethodName)) hown (mvT hZ (oW hw 102 rfl)) (mvT hZ (oW hw 103 rfl)) (notFace_of_selects (args := #[]) (mvT hZ (oW hw 105 rfl))) (mvT hZ (oW hw 105 rfl)) (mvT hZ (oW hw 104 rfl)) (by decide) (backOf (W := 0) (rmM0 l Z a0 hw [] bpp wN zc w0 w1 w2 w3 w4 w5 T16.heap n0 (Nat.le_trans (Nat.le_trans (Nat.le_trans (Nat.le_trans (Nat.le_trans Z0 Kq11.1) Kq12.1) Kq13.1) E15.1) Kq16.1) (by assumption) (((((O0.keep Kq11 all0).keep Kq12 all0).keep Kq13 all0).ext E15).keep Kq16 (allS g_bpp all0)) (by assumption) (by assumption) (EN.ext (((((O0.keep Kq11 all0).keep Kq12 all0).keep Kq13 all0).ext E15).keep Kq16 (allS g_bpp all0)).2) (KN.ext (((((O0.keep Kq11 all0).keep Kq12 all0).keep Kq13 all0).ext E15).keep Kq16 (allS g_bpp all0)).2)) hZ (oW hw 106 rfl) (oW hw 95 rfl) (by decide) (by decide)) q17a q17c (g := (mkF m 392 #[iv i0, iv i1, iv i2, iv i3, iv s6, iv s17, iv s28, iv v34s0, iv v46s0, iv v64s0, iv v85s0, iv v112s0, iv v124s0, iv v142s0, iv v163s0, rv r_11, rv r_12, rv r_13, iv s220, iv s228, rv wN, iv (0 : Int32)] [(.ref wN), (.ref bpp)])) rfl (by rw [hml]; rfl) (Steps.refl _) (argsL := [(.ref wN)]) (rest := []) (lenOf own_pd16 rfl) rfl (by show 2 * 0 + _ ≤ _; exact Nat.le_of_eq rfl) (hb hby at_392) (fun _ _ => ⟨rfl, rfl, (by decide : ((((((0 + 5) + 3) + 3) + 0) + 1) + 0) + 0 ≤ _), (by decide : ((((((0 + 12) + 8) + 8) + 0) + 1) + 0) + 0 ≤ _)⟩)
                    dsimp only [Pt.U, Pt.locs, Pt.cells, Pt.slots] at X17 l17 y17 z17 st17 hQ17
                    subst l17 y17 z17
                    obtain ⟨rfl, Nq17, eq17⟩ := hQ17
                    have N17 := Fr.app N16 Nq17
                    refine ov (B := T17.setTop (mkF m 395 #[iv i0, iv i1, iv i2, iv i3, iv s6, iv s17, iv s28, iv v34s0, iv v46s0, iv v64s0, iv v85s0, iv v112s0, iv v124s0, iv v142s0, iv v163s0, rv r_11, rv r_12, rv r_13, iv s220, iv s228, rv wN, iv (0 : Int32)] [(.int (0 : Int32))])) (fun t k => st17.trans k) ?_
                    refine oIL (n := 397) X17 hx (hb hby at_395) rfl rfl ?_
                    have hc397 : (0 : Int32) = (0 : Int32) := by decide
                    refine ov (B := T17.setTop (mkF m 400 #[iv i0, iv i1, iv i2, iv i3, iv s6, iv s17, iv s28, iv v34s0, iv v46s0, iv v64s0, iv v85s0, iv v112s0, iv v124s0, iv v142s0, iv v163s0, rv r_11, rv r_12, rv r_13, iv s220, iv s228, rv wN, iv (0 : Int32)] [])) (fun t k => XS.icmpNo X17.here hx rfl (hb hby at_397) rfl (teq hc397).2 k) ?_
                    refine oIC (n := 401) X17 hx (1 : Int32) (hb hby at_400) (by decide) rfl ?_
                    refine oGO (n := 405) X17 hx (hb hby at_401) (by decide) (by decide) ?_
                    refine own_leafW X17 hx hlk hS11 (by rw [eq17]; exact (Nat.le_trans (Nat.le_trans (Nat.le_trans (Nat.le_trans (Nat.le_refl _) Kq12.1) Kq13.1) E15.1) Kq16.1)) (t := .boolean) Bd.returns (by decide) (Or.inl ⟨rfl, by simp, _, rfl⟩) (hb hby at_405) (by decide) (by decide) ?_
                    show Q0 Z i0 i1 i2 i3 zc w0 w1 w2 w3 w4 w5 wN h0 n0 _ T17.heap _
                    rw [eq17]
                    refine ⟨?_, N17⟩
                    rfl
                  · refine ov (B := T13.setTop (mkF m 243 #[iv i0, iv i1, iv i2, iv i3, iv s6, iv s17, iv s28, iv v34s0, iv v46s0, iv v64s0, iv v85s0, iv v112s0, iv v124s0, iv v142s0, iv v163s0, rv r_11, rv r_12, rv r_13, iv s220, iv s228, uu, uu] [])) (fun t k => XS.ifYes X13.here hx rfl (pc0 := 232) (pc' := 243) rfl (hb hby at_232) rfl ((if0 _ _).trans (feq hc232).2) (by decide) (by decide) k) ?_
                    refine oIL (n := 245) X13 hx (hb hby at_243) rfl rfl ?_
                    refine oIC (n := 246) X13 hx (1 : Int32) (hb hby at_245) (by decide) rfl ?_
                    by_cases hc246 : s220 = (1 : Int32)
                    · refine ov (B := T13.setTop (mkF m 249 #[iv i0, iv i1, iv i2, iv i3, iv s6, iv s17, iv s28, iv v34s0, iv v46s0, iv v64s0, iv v85s0, iv v112s0, iv v124s0, iv v142s0, iv v163s0, rv r_11, rv r_12, rv r_13, iv s220, iv s228, uu, uu] [])) (fun t k => XS.icmpNo X13.here hx rfl (hb hby at_246) rfl (teq hc246).2 k) ?_
                      refine oAL (n := 251) X13 hx (hb hby at_249) rfl rfl rfl ?_
                      obtain ⟨_, _, ⟨T18, L18, k18, n18⟩, -, X18, hT18, gT18, ⟨Lc18, hQ18, l18, y18, z18⟩, st18⟩ := callSS X13 hx (y := (⟨sAA, "account", "(Ljava/lang/String;)Lcom/example/wardstone/wardstone/request/Requester;"⟩ : MethodName)) hown (mvT hZ (oW hw 146 rfl)) (mvT hZ (oW hw 147 rfl)) (mvT hZ (oW hw 39 rfl)) (mvT hZ (oW hw 148 rfl)) (by decide) (backOfS (W := 0) (rmF1 l Z a0 hw [] r_12 w0 w1 w2 w3 w4 w5 tr_12 kr_12 (own_s3 v85s0 v46s0 v64s0) T13.heap n0 (Nat.le_trans (Nat.le_trans (Nat.le_trans Z0 Kq11.1) Kq12.1) Kq13.1) (by assumption) (((O0.keep Kq11 all0).keep Kq12 all0).keep Kq13 all0) (f12_0.keep Kq13) (f12_1.keep Kq13 nin0) (f12_2.keep Kq13 nin0) (f12_3.keep Kq13 nin0) (own_s3p hch_v46s0 hch_v64s0) (own_s3l' hl_v85 v46s0 v64s0)) hZ (oW hw 148 rfl) (oW hw 39 rfl) (by decide) (by decide)) (g := (mkF m 251 #[iv i0, iv i1, iv i2, iv i3, iv s6, iv s17, iv s28, iv v34s0, iv v46s0, iv v64s0, iv v85s0, iv v112s0, iv v124s0, iv v142s0, iv v163s0, rv r_11, rv r_12, rv r_13, iv s220, iv s228, uu, uu] [(.ref r_12)])) rfl (by rw [hml]; rfl) (argsL := [(.ref r_12)]) (rest := []) (lenOf own_pd17 rfl) rfl (by show 2 * 0 + _ ≤ _; exact Nat.le_of_eq rfl) (hb hby at_251) (fun _ _ => ⟨rfl, rfl, (by decide : (((0 + 5) + 3) + 3) + 13 ≤ _), (by decide : (((0 + 12) + 8) + 8) + 224 ≤ _)⟩)
                      dsimp only [Pt.U, Pt.locs, Pt.cells, Pt.slots] at X18 l18 y18 z18 st18 hQ18 hT18 gT18
                      subst l18 y18 z18
                      obtain ⟨X18, hS18, hZ, hown⟩ := rebS hS11 (Nat.le_trans (Nat.le_trans (Nat.le_refl _) Kq12.1) Kq13.1) X18 hT18 gT18 hZ hown
                      obtain ⟨r_18, rfl, Nq18, Kq18, hr_18, f18_0, f18_1, f18_2⟩ := hQ18
                      have N18 := Fr.app N13 Nq18
                      have g_r_18 : n0 ≤ r_18 := Nat.le_trans (Nat.le_trans (Nat.le_trans (Nat.le_trans Z0 Kq11.1) Kq12.1) Kq13.1) hr_18
                      refine ov (B := T18.setTop (mkF m 254 #[iv i0, iv i1, iv i2, iv i3, iv s6, iv s17, iv s28, iv v34s0, iv v46s0, iv v64s0, iv v85s0, iv v112s0, iv v124s0, iv v142s0, iv v163s0, rv r_11, rv r_12, rv r_13, iv s220, iv s228, uu, uu] [(.ref r_18)])) (fun t k => st18.trans k) ?_
                      refine ov (B := T18.setTop (mkF m 256 #[iv i0, iv i1, iv i2, iv i3, iv s6, iv s17, iv s28, iv v34s0, iv v46s0, iv v64s0, iv v85s0, iv v112s0, iv v124s0, iv v142s0, iv v163s0, rv r_11, rv r_12, rv r_13, iv s220, iv s228, rv r_18, uu] [])) (fun t k => XS.astore X18.here hx rfl (hb hby at_254) rfl rfl (l' := #[iv i0, iv i1, iv i2, iv i3, iv s6, iv s17, iv s28, iv v34s0, iv v46s0, iv v64s0, iv v85s0, iv v112s0, iv v124s0, iv v142s0, iv v163s0, rv r_11, rv r_12, rv r_13, iv s220, iv s228, rv r_18, uu]) rfl k) ?_
                      refine oGO (n := 341) X18 hx (hb hby at_256) (by decide) (by decide) ?_
                      refine oIL (n := 343) X18 hx (hb hby at_341) rfl rfl ?_
                      refine oIC (n := 344) X18 hx (1 : Int32) (hb hby at_343) (by decide) rfl ?_
                      have hc344 : s220 = (1 : Int32) := hc246
                      refine ov (B := T18.setTop (mkF m 347 #[iv i0, iv i1, iv i2, iv i3, iv s6, iv s17, iv s28, iv v34s0, iv v46s0, iv v64s0, iv v85s0, iv v112s0, iv v124s0, iv v142s0, iv v163s0, rv r_11, rv r_12, rv r_13, iv s220, iv s228, rv r_18, uu] [])) (fun t k => XS.icmpNo X18.here hx rfl (hb hby at_344) rfl (teq hc344).2 k) ?_
                      refine oIL (n := 349) X18 hx (hb hby at_347) rfl rfl ?_
                      refine oIL (n := 351) X18 hx (hb hby at_349) rfl rfl ?_
                      refine own_bind (G := fun B => ∃ (T' : State) (L' : List Loc) (v351s0 : Int32), Fr n0 L' ∧ (((s28 = v85s0) ∧ (s6 = v46s0) ∧ (s28 < (2 : Int32)) ∧ v351s0 = (1 : Int32)) ∨ ((s28 = v85s0) ∧ (s6 = v46s0) ∧ (¬ (s28 < (2 : Int32))) ∧ (s17 = v64s0) ∧ v351s0 = (1 : Int32)) ∨ ((s28 = v85s0) ∧ (s6 = v46s0) ∧ (¬ (s28 < (2 : Int32))) ∧ (¬ (s17 = v64s0)) ∧ v351s0 = (0 : Int32)) ∨ ((s28 = v85s0) ∧ (¬ (s6 = v46s0)) ∧ v351s0 = (0 : Int32)) ∨ ((¬ (s28 = v85s0)) ∧ v351s0 = (0 : Int32))) ∧ B = T'.setTop (mkF m 379 #[iv i0, iv i1, iv i2, iv i3, iv s6, iv s17, iv s28, iv v34s0, iv v46s0, iv v64s0, iv v85s0, iv v112s0, iv v124s0, iv v142s0, iv v163s0, rv r_11, rv r_12, rv r_13, iv s220, iv s228, rv r_18, uu] [(.int v351s0)]) ∧ Stand p l e room_1 (s.setVm T18.vm) m #[(.int i0), (.int i1), (.int i2), (.int i3)] below meth c T' L' ((((0 + 5) + 3) + 3) + 13) ((((0 + 12) + 8) + 8) + 224) ∧ T'.heap = T18.heap) ?_ ?_
                      · by_cases hc351 : s28 = v85s0
                        · refine ov (B := T18.setTop (mkF m 354 #[iv i0, iv i1, iv i2, iv i3, iv s6, iv s17, iv s28, iv v34s0, iv v46s0, iv v64s0, iv v85s0, iv v112s0, iv v124s0, iv v142s0, iv v163s0, rv r_11, rv r_12, rv r_13, iv s220, iv s228, rv r_18, uu] [])) (fun t k => XS.icmpNo X18.here hx rfl (hb hby at_351) rfl (teq hc351).2 k) ?_
                          refine oIL (n := 356) X18 hx (hb hby at_354) rfl rfl ?_
                          refine oIL (n := 358) X18 hx (hb hby at_356) rfl rfl ?_
                          by_cases hc358 : s6 = v46s0
                          · refine ov (B := T18.setTop (mkF m 361 #[iv i0, iv i1, iv i2, iv i3, iv s6, iv s17, iv s28, iv v34s0, iv v46s0, iv v64s0, iv v85s0, iv v112s0, iv v124s0, iv v142s0, iv v163s0, rv r_11, rv r_12, rv r_13, iv s220, iv s228, rv r_18, uu] [])) (fun t k => XS.icmpNo X18.here hx rfl (hb hby at_358) rfl (teq hc358).2 k) ?_
                            refine oIL (n := 363) X18 hx (hb hby at_361) rfl rfl ?_
                            refine oIC (n := 364) X18 hx (2 : Int32) (hb hby at_363) (by decide) rfl ?_
                            by_cases hc364 : s28 < (2 : Int32)
                            · refine ov (B := T18.setTop (mkF m 374 #[iv i0, iv i1, iv i2, iv i3, iv s6, iv s17, iv s28, iv v34s0, iv v46s0, iv v64s0, iv v85s0, iv v112s0, iv v124s0, iv v142s0, iv v163s0, rv r_11, rv r_12, rv r_13, iv s220, iv s228, rv r_18, uu] [])) (fun t k => XS.icmpYes X18.here hx rfl (pc0 := 364) (pc' := 374) rfl (hb hby at_364) rfl (tlt hc364).1 (by decide) (by decide) k) ?_
                              refine oIC (n := 375) X18 hx (1 : Int32) (hb hby at_374) (by decide) rfl ?_
                              refine oGO (n := 379) X18 hx (hb hby at_375) (by decide) (by decide) ?_
                              exact own_done ⟨_, _, _, N18, (Or.inl ⟨hc351, hc358, hc364, rfl⟩), rfl, X18, rfl⟩
                            · refine ov (B := T18.setTop (mkF m 367 #[iv i0, iv i1, iv i2, iv i3, iv s6, iv s17, iv s28, iv v34s0, iv v46s0, iv v64s0, iv v85s0, iv v112s0, iv v124s0, iv v142s0, iv v163s0, rv r_11, rv r_12, rv r_13, iv s220, iv s228, rv r_18, uu] [])) (fun t k => XS.icmpNo X18.here hx rfl (hb hby at_364) rfl (flt hc364).1 k) ?_
                              refine oIL (n := 369) X18 hx (hb hby at_367) rfl rfl ?_
                              refine oIL (n := 371) X18 hx (hb hby at_369) rfl rfl ?_
                              by_cases hc371 : s17 = v64s0
                              · refine ov (B := T18.setTop (mkF m 374 #[iv i0, iv i1, iv i2, iv i3, iv s6, iv s17, iv s28, iv v34s0, iv v46s0, iv v64s0, iv v85s0, iv v112s0, iv v124s0, iv v142s0, iv v163s0, rv r_11, rv r_12, rv r_13, iv s220, iv s228, rv r_18, uu] [])) (fun t k => XS.icmpNo X18.here hx rfl (hb hby at_371) rfl (teq hc371).2 k) ?_
                                refine oIC (n := 375) X18 hx (1 : Int32) (hb hby at_374) (by decide) rfl ?_
                                refine oGO (n := 379) X18 hx (hb hby at_375) (by decide) (by decide) ?_
                                exact own_done ⟨_, _, _, N18, (Or.inr (Or.inl ⟨hc351, hc358, hc364, hc371, rfl⟩)), rfl, X18, rfl⟩
                              · refine ov (B := T18.setTop (mkF m 378 #[iv i0, iv i1, iv i2, iv i3, iv s6, iv s17, iv s28, iv v34s0, iv v46s0, iv v64s0, iv v85s0, iv v112s0, iv v124s0, iv v142s0, iv v163s0, rv r_11, rv r_12, rv r_13, iv s220, iv s228, rv r_18, uu] [])) (fun t k => XS.icmpYes X18.here hx rfl (pc0 := 371) (pc' := 378) rfl (hb hby at_371) rfl (feq hc371).2 (by decide) (by decide) k) ?_
                                refine oIC (n := 379) X18 hx (0 : Int32) (hb hby at_378) (by decide) rfl ?_
                                exact own_done ⟨_, _, _, N18, (Or.inr (Or.inr (Or.inl ⟨hc351, hc358, hc364, hc371, rfl⟩))), rfl, X18, rfl⟩
                          · refine ov (B := T18.setTop (mkF m 378 #[iv i0, iv i1, iv i2, iv i3, iv s6, iv s17, iv s28, iv v34s0, iv v46s0, iv v64s0, iv v85s0, iv v112s0, iv v124s0, iv v142s0, iv v163s0, rv r_11, rv r_12, rv r_13, iv s220, iv s228, rv r_18, uu] [])) (fun t k => XS.icmpYes X18.here hx rfl (pc0 := 358) (pc' := 378) rfl (hb hby at_358) rfl (feq hc358).2 (by decide) (by decide) k) ?_
                            refine oIC (n := 379) X18 hx (0 : Int32) (hb hby at_378) (by decide) rfl ?_
                            exact own_done ⟨_, _, _, N18, (Or.inr (Or.inr (Or.inr (Or.inl ⟨hc351, hc358, rfl⟩)))), rfl, X18, rfl⟩
                        · refine ov (B := T18.setTop (mkF m 378 #[iv i0, iv i1, iv i2, iv i3, iv s6, iv s17, iv s28, iv v34s0, iv v46s0, iv v64s0, iv v85s0, iv v112s0, iv v124s0, iv v142s0, iv v163s0, rv r_11, rv r_12, rv r_13, iv s220, iv s228, rv r_18, uu] [])) (fun t k => XS.icmpYes X18.here hx rfl (pc0 := 351) (pc' := 378) rfl (hb hby at_351) rfl (feq hc351).2 (by decide) (by decide) k) ?_
                          refine oIC (n := 379) X18 hx (0 : Int32) (hb hby at_378) (by decide) rfl ?_
                          exact own_done ⟨_, _, _, N18, (Or.inr (Or.inr (Or.inr (Or.inr ⟨hc351, rfl⟩)))), rfl, X18, rfl⟩
                      · rintro B ⟨T19, L19, v351s0, N19, hv351, rfl, X19, e19⟩
                        refine ov (B := T19.setTop (mkF m 381 #[iv i0, iv i1, iv i2, iv i3, iv s6, iv s17, iv s28, iv v34s0, iv v46s0, iv v64s0, iv v85s0, iv v112s0, iv v124s0, iv v142s0, iv v163s0, rv r_11, rv r_12, rv r_13, iv s220, iv s228, rv r_18, iv v351s0] [])) (fun t k => XS.istore X19.here hx rfl (hb hby at_379) rfl (l' := #[iv i0, iv i1, iv i2, iv i3, iv s6, iv s17, iv s28, iv v34s0, iv v46s0, iv v64s0, iv v85s0, iv v112s0, iv v124s0, iv v142s0, iv v163s0, rv r_11, rv r_12, rv r_13, iv s220, iv s228, rv r_18, iv v351s0]) rfl k) ?_
                        obtain ⟨T20, h20, X20, e20, E20, A20, D20, -, st20⟩ := newO X19 hx hZ hown (oW hw 93 rfl) (oW hw 94 rfl) (oW hw 95 rfl) e19 (g := (mkF m 381 #[iv i0, iv i1, iv i2, iv i3, iv s6, iv s17, iv s28, iv v34s0, iv v46s0, iv v64s0, iv v85s0, iv v112s0, iv v124s0, iv v142s0, iv v163s0, rv r_11, rv r_12, rv r_13, iv s220, iv s228, rv r_18, iv v351s0] [])) rfl (hb hby at_381) (by decide) (by decide)
                        obtain ⟨bpp, g20⟩ : ∃ z, z = T18.heap.size := ⟨_, rfl⟩
                        rw [← g20] at A20 D20 st20
                        have g_bpp : n0 ≤ bpp := Nat.le_trans (Nat.le_trans (Nat.le_trans (Nat.le_trans (Nat.le_trans Z0 Kq11.1) Kq12.1) Kq13.1) Kq18.1) (Nat.le_of_eq g20.symm)
                        have F20_account : Fld Z h20 bpp sAF "account" sAH .null := D20 (Or.inr (oW hw 101 rfl)) (ty := (.object sAB)) (by decide)
                        refine ov (B := T20.setTop (mkF m 384 #[iv i0, iv i1, iv i2, iv i3, iv s6, iv s17, iv s28, iv v34s0, iv v46s0, iv v64s0, iv v85s0, iv v112s0, iv v124s0, iv v142s0, iv v163s0, rv r_11, rv r_12, rv r_13, iv s220, iv s228, rv r_18, iv v351s0] [(.ref bpp)])) (fun t k => st20 t k) ?_
                        refine oDU (n := 385) X20 hx (hb hby at_384) rfl rfl ?_
                        refine oAL (n := 387) X20 hx (hb hby at_385) rfl rfl rfl ?_
                        obtain ⟨_, _, ⟨T21, L21, k21, n21⟩, -, X21, ⟨Lc21, hQ21, l21, y21, z21⟩, st21⟩ := X20.specialBack hx (y := (⟨sAF, "<init>", sAT⟩ : MethodName)) rfl hown (mvT hZ (oW hw 96 rfl)) (mvT hZ (oW hw 97 rfl)) (mvT hZ (oW hw 98 rfl)) (by decide) (backOf (W := 1) (rmPi l Z a0 hw [] bpp r_11 .null h20 n0 (Nat.le_trans (Nat.le_trans (Nat.le_trans (Nat.le_trans (Nat.le_trans Z0 Kq11.1) Kq12.1) Kq13.1) Kq18.1) E20.1) A20 F20_account g_bpp) hZ (oW hw 98 rfl) (oW hw 95 rfl) (by decide) (by decide)) (g := (mkF m 387 #[iv i0, iv i1, iv i2, iv i3, iv s6, iv s17, iv s28, iv v34s0, iv v46s0, iv v64s0, iv v85s0, iv v112s0, iv v124s0, iv v142s0, iv v163s0, rv r_11, rv r_12, rv r_13, iv s220, iv s228, rv r_18, iv v351s0] [(.ref r_11), (.ref bpp), (.ref bpp)])) rfl (by rw [hml]; rfl) (Steps.refl _) (a := bpp) (argsL := [(.ref r_11)]) (rest := [(.ref bpp)]) (lenOf own_pd15 rfl) rfl (by show 2 * 0 + _ ≤ _; exact Nat.le_of_eq rfl) (hb hby at_387) (fun _ _ => ⟨rfl, e20, (by decide : (((((0 + 5) + 3) + 3) + 13) + 1) + 0 ≤ _), (by decide : (((((0 + 12) + 8) + 8) + 224) + 1) + 0 ≤ _)⟩)
                        dsimp only [Pt.U, Pt.locs, Pt.cells, Pt.slots] at X21 l21 y21 z21 st21 hQ21
                        subst l21 y21 z21
                        obtain ⟨rfl, Nq21, Kq21, f21_0⟩ := hQ21
                        have N21 := Fr.app N19 Nq21
                        refine ov (B := T21.setTop (mkF m 390 #[iv i0, iv i1, iv i2, iv i3, iv s6, iv s17, iv s28, iv v34s0, iv v46s0, iv v64s0, iv v85s0, iv v112s0, iv v124s0, iv v142s0, iv v163s0, rv r_11, rv r_12, rv r_13, iv s220, iv s228, rv r_18, iv v351s0] [(.ref bpp)])) (fun t k => st21.trans k) ?_
                        refine oAL (n := 392) X21 hx (hb hby at_390) rfl rfl rfl ?_
                        obtain ⟨cq22, kq22, q22a, q22b, q22c⟩ := isOf hZ rfl (A20.keep Kq21)
                        obtain ⟨_, _, ⟨T22, L22, k22, n22⟩, -, X22, ⟨Lc22, hQ22, l22, y22, z22⟩, st22⟩ := X21.virtualBack hx (y := (⟨sAF, "matches", sAO⟩ : MethodName)) (z := (⟨sAF, "matches", sAO⟩ : MethodName)) hown (mvT hZ (oW hw 102 rfl)) (mvT hZ (oW hw 103 rfl)) (notFace_of_selects (args := #[]) (mvT hZ (oW hw 105 rfl))) (mvT hZ (oW hw 105 rfl)) (mvT hZ (oW hw 104 rfl)) (by decide) (backOf (W := 0) (rmM1 l Z a0 hw [] bpp r_18 zc w0 w1 w2 w3 w4 w5 r_11 r_12 tr_11 kr_11 (own_s3 s28 s6 s17) tr_12 kr_12 (own_s3 v85s0 v46s0 v64s0) T21.heap n0 (Nat.le_trans (Nat.le_trans (Nat.le_trans (Nat.le_trans (Nat.le_trans (Nat.le_trans Z0 Kq11.1) Kq12.1) Kq13.1) Kq18.1) E20.1) Kq21.1) (by assumption) ((((((O0.keep Kq11 all0).keep Kq12 all0).keep Kq13 all0).keep Kq18 all0).ext E20).keep Kq21 (allS g_bpp all0)) (by assumption) (by assumption) ((f18_0.ext E20).keep Kq21) ((f18_1.ext E20).keep Kq21 (ninS (Nat.ne_of_lt (Nat.lt_of_lt_of_le f18_0.lt (Nat.le_of_eq g20.symm))) nin0)) f21_0 ((f18_2.ext E20).keep Kq21 (ninS (Nat.ne_of_lt (Nat.lt_of_lt_of_le f18_0.lt (Nat.le_of_eq g20.symm))) nin0)) (((((f11_0.keep Kq12).keep Kq13).keep Kq18).ext E20).keep Kq21) (((((f11_1.keep Kq12 nin0).keep Kq13 nin0).keep Kq18 nin0).ext E20).keep Kq21 (ninS (Nat.ne_of_lt (Nat.lt_of_lt_of_le (((f11_0.keep Kq12).keep Kq13).keep Kq18).lt (Nat.le_of_eq g20.symm))) nin0)) (((((f11_2.keep Kq12 nin0).keep Kq13 nin0).keep Kq18 nin0).ext E20).keep Kq21 (ninS (Nat.ne_of_lt (Nat.lt_of_lt_of_le (((f11_0.keep Kq12).keep Kq13).keep Kq18).lt (Nat.le_of_eq g20.symm))) nin0)) (((((f11_3.keep Kq12 nin0).keep Kq13 nin0).keep Kq18 nin0).ext E20).keep Kq21 (ninS (Nat.ne_of_lt (Nat.lt_of_lt_of_le (((f11_3.keep Kq12 nin0).keep Kq13 nin0).keep Kq18 nin0).lt (Nat.le_of_eq g20.symm))) nin0)) (own_s3p (own_cg hs6 (own_b255 i0)) (own_cg hs17 (own_b255 ((i0.toUInt32 >>> ((8 : Int32) &&& 31).toUInt32).toInt32)))) (own_s3l s28 s6 s17) ((((f12_0.keep Kq13).keep Kq18).ext E20).keep Kq21) ((((f12_1.keep Kq13 nin0).keep Kq18 nin0).ext E20).keep Kq21 (ninS (Nat.ne_of_lt (Nat.lt_of_lt_of_le ((f12_0.keep Kq13).keep Kq18).lt (Nat.le_of_eq g20.symm))) nin0)) ((((f12_2.keep Kq13 nin0).keep Kq18 nin0).ext E20).keep Kq21 (ninS (Nat.ne_of_lt (Nat.lt_of_lt_of_le ((f12_0.keep Kq13).keep Kq18).lt (Nat.le_of_eq g20.symm))) nin0)) ((((f12_3.keep Kq13 nin0).keep Kq18 nin0).ext E20).keep Kq21 (ninS (Nat.ne_of_lt (Nat.lt_of_lt_of_le ((f12_3.keep Kq13 nin0).keep Kq18 nin0).lt (Nat.le_of_eq g20.symm))) nin0)) (own_s3p hch_v46s0 hch_v64s0) (own_s3l' hl_v85 v46s0 v64s0)) hZ (oW hw 106 rfl) (oW hw 95 rfl) (by decide) (by decide)) q22a q22c (g := (mkF m 392 #[iv i0, iv i1, iv i2, iv i3, iv s6, iv s17, iv s28, iv v34s0, iv v46s0, iv v64s0, iv v85s0, iv v112s0, iv v124s0, iv v142s0, iv v163s0, rv r_11, rv r_12, rv r_13, iv s220, iv s228, rv r_18, iv v351s0] [(.ref r_18), (.ref bpp)])) rfl (by rw [hml]; rfl) (Steps.refl _) (argsL := [(.ref r_18)]) (rest := []) (lenOf own_pd16 rfl) rfl (by show 2 * 0 + _ ≤ _; exact Nat.le_of_eq rfl) (hb hby at_392) (fun _ _ => ⟨rfl, rfl, (by decide : ((((((0 + 5) + 3) + 3) + 13) + 1) + 0) + 0 ≤ _), (by decide : ((((((0 + 12) + 8) + 8) + 224) + 1) + 0) + 0 ≤ _)⟩)
                        dsimp only [Pt.U, Pt.locs, Pt.cells, Pt.slots] at X22 l22 y22 z22 st22 hQ22
                        subst l22 y22 z22
                        obtain ⟨rfl, Nq22, eq22⟩ := hQ22
                        have N22 := Fr.app N21 Nq22
                        refine ov (B := T22.setTop (mkF m 395 #[iv i0, iv i1, iv i2, iv i3, iv s6, iv s17, iv s28, iv v34s0, iv v46s0, iv v64s0, iv v85s0, iv v112s0, iv v124s0, iv v142s0, iv v163s0, rv r_11, rv r_12, rv r_13, iv s220, iv s228, rv r_18, iv v351s0] [(.int (own_bit ((own_s3 s28 s6 s17) = (own_s3 v85s0 v46s0 v64s0))))])) (fun t k => st22.trans k) ?_
                        refine oIL (n := 397) X22 hx (hb hby at_395) rfl rfl ?_
                        refine own_bind (G := fun B => ∃ (T' : State) (L' : List Loc) (v397s0 : Int32), Fr n0 L' ∧ ((((own_bit ((own_s3 s28 s6 s17) = (own_s3 v85s0 v46s0 v64s0))) = v351s0) ∧ v397s0 = (1 : Int32)) ∨ ((¬ ((own_bit ((own_s3 s28 s6 s17) = (own_s3 v85s0 v46s0 v64s0))) = v351s0)) ∧ v397s0 = (0 : Int32))) ∧ B = T'.setTop (mkF m 405 #[iv i0, iv i1, iv i2, iv i3, iv s6, iv s17, iv s28, iv v34s0, iv v46s0, iv v64s0, iv v85s0, iv v112s0, iv v124s0, iv v142s0, iv v163s0, rv r_11, rv r_12, rv r_13, iv s220, iv s228, rv r_18, iv v351s0] [(.int v397s0)]) ∧ Stand p l e room_1 (s.setVm T18.vm) m #[(.int i0), (.int i1), (.int i2), (.int i3)] below meth c T' L' (((((((0 + 5) + 3) + 3) + 13) + 1) + 0) + 0) (((((((0 + 12) + 8) + 8) + 224) + 1) + 0) + 0) ∧ T'.heap = T21.heap) ?_ ?_
                        · by_cases hc397 : (own_bit ((own_s3 s28 s6 s17) = (own_s3 v85s0 v46s0 v64s0))) = v351s0
                          · refine ov (B := T22.setTop (mkF m 400 #[iv i0, iv i1, iv i2, iv i3, iv s6, iv s17, iv s28, iv v34s0, iv v46s0, iv v64s0, iv v85s0, iv v112s0, iv v124s0, iv v142s0, iv v163s0, rv r_11, rv r_12, rv r_13, iv s220, iv s228, rv r_18, iv v351s0] [])) (fun t k => XS.icmpNo X22.here hx rfl (hb hby at_397) rfl (teq hc397).2 k) ?_
                            refine oIC (n := 401) X22 hx (1 : Int32) (hb hby at_400) (by decide) rfl ?_
                            refine oGO (n := 405) X22 hx (hb hby at_401) (by decide) (by decide) ?_
                            exact own_done ⟨_, _, _, N22, (Or.inl ⟨hc397, rfl⟩), rfl, X22, eq22⟩
                          · refine ov (B := T22.setTop (mkF m 404 #[iv i0, iv i1, iv i2, iv i3, iv s6, iv s17, iv s28, iv v34s0, iv v46s0, iv v64s0, iv v85s0, iv v112s0, iv v124s0, iv v142s0, iv v163s0, rv r_11, rv r_12, rv r_13, iv s220, iv s228, rv r_18, iv v351s0] [])) (fun t k => XS.icmpYes X22.here hx rfl (pc0 := 397) (pc' := 404) rfl (hb hby at_397) rfl (feq hc397).2 (by decide) (by decide) k) ?_
                            refine oIC (n := 405) X22 hx (0 : Int32) (hb hby at_404) (by decide) rfl ?_
                            exact own_done ⟨_, _, _, N22, (Or.inr ⟨hc397, rfl⟩), rfl, X22, eq22⟩
                        · rintro B ⟨T23, L23, v397s0, N23, hv397, rfl, X23, e23⟩
                          refine own_leafW X23 hx hlk hS18 (by rw [e23]; exact (Nat.le_trans (Nat.le_trans (Nat.le_refl _) E20.1) Kq21.1)) (t := .boolean) Bd.returns (own_b1 (by rcases hv397 with ⟨_, rfl⟩ | ⟨_, rfl⟩ <;> decide)) (Or.inl ⟨rfl, by simp, _, rfl⟩) (hb hby at_405) (by decide) (by decide) ?_
                          show Q0 Z i0 i1 i2 i3 zc w0 w1 w2 w3 w4 w5 wN h0 n0 _ T23.heap _
                          rw [e23]
                          refine ⟨?_, N23⟩
                          have hL1 : s28 = 0 ∨ s28 = 1 ∨ s28 = 2 := by rw [← hs28]; exact own_03 _
                          have hL2 := (by rcases hv85 with ⟨_, h⟩ | ⟨_, h⟩; (rw [h]; exact own_12 _); (rw [h]; exact own_mx12 (by rw [← hs28]; exact own_03 _)) : v85s0 = 1 ∨ v85s0 = 2)
                          have hN := own_same (a := s6) (a' := v46s0) (b := s17) (b' := v64s0) hL1 hL2
                          have hE : own_bit (own_s3 s28 s6 s17 = own_s3 v85s0 v46s0 v64s0) = v351s0 := by
                            rcases hv351 with ⟨h0, h1, h2, rfl⟩ | ⟨h0, h1, h2, h3, rfl⟩ | ⟨h0, h1, h2, h3, rfl⟩ | ⟨h0, h1, rfl⟩ | ⟨h0, rfl⟩
                            · exact own_bitT (hN.mpr ⟨h0, h1, Or.inl h2⟩)
                            · exact own_bitT (hN.mpr ⟨h0, h1, Or.inr h3⟩)
                            · exact own_bitF (fun q => (hN.mp q).2.2.elim h2 h3)
                            · exact own_bitF (fun q => h1 (hN.mp q).2.1)
                            · exact own_bitF (fun q => h0 (hN.mp q).1)
                          rcases hv397 with ⟨h0, rfl⟩ | ⟨h0, rfl⟩
                          · rfl
                          · exact absurd hE h0
                    · refine ov (B := T13.setTop (mkF m 259 #[iv i0, iv i1, iv i2, iv i3, iv s6, iv s17, iv s28, iv v34s0, iv v46s0, iv v64s0, iv v85s0, iv v112s0, iv v124s0, iv v142s0, iv v163s0, rv r_11, rv r_12, rv r_13, iv s220, iv s228, uu, uu] [])) (fun t k => XS.icmpYes X13.here hx rfl (pc0 := 246) (pc' := 259) rfl (hb hby at_246) rfl (feq hc246).2 (by decide) (by decide) k) ?_
                      refine oIL (n := 261) X13 hx (hb hby at_259) rfl rfl ?_
                      refine oIC (n := 262) X13 hx (2 : Int32) (hb hby at_261) (by decide) rfl ?_
                      by_cases hc262 : s220 = (2 : Int32)
                      · refine ov (B := T13.setTop (mkF m 265 #[iv i0, iv i1, iv i2, iv i3, iv s6, iv s17, iv s28, iv v34s0, iv v46s0, iv v64s0, iv v85s0, iv v112s0, iv v124s0, iv v142s0, iv v163s0, rv r_11, rv r_12, rv r_13, iv s220, iv s228, uu, uu] [])) (fun t k => XS.icmpNo X13.here hx rfl (hb hby at_262) rfl (teq hc262).2 k) ?_
                        refine oIL (n := 267) X13 hx (hb hby at_265) rfl rfl ?_
                        by_cases hc267 : s228 = (0 : Int32)
                        · refine ov (B := T13.setTop (mkF m 270 #[iv i0, iv i1, iv i2, iv i3, iv s6, iv s17, iv s28, iv v34s0, iv v46s0, iv v64s0, iv v85s0, iv v112s0, iv v124s0, iv v142s0, iv v163s0, rv r_11, rv r_12, rv r_13, iv s220, iv s228, uu, uu] [])) (fun t k => XS.ifNo X13.here hx rfl (hb hby at_267) rfl ((if0 _ _).trans (teq hc267).2) k) ?_
                          refine oAL (n := 272) X13 hx (hb hby at_270) rfl rfl rfl ?_
                          refine oAL (n := 274) X13 hx (hb hby at_272) rfl rfl rfl ?_
                          refine oNU (n := 275) X13 hx (hb hby at_274) rfl ?_
                          obtain ⟨_, _, ⟨T24, L24, k24, n24⟩, -, X24, hT24, gT24, ⟨Lc24, hQ24, l24, y24, z24⟩, st24⟩ := callSS X13 hx (y := (⟨sAA, "user", sAP⟩ : MethodName)) hown (mvT hZ (oW hw 37 rfl)) (mvT hZ (oW hw 38 rfl)) (mvT hZ (oW hw 39 rfl)) (mvT hZ (oW hw 40 rfl)) (by decide) (backOfS (W := 0) (rmF22 l Z a0 hw [] r_12 r_13 w0 w1 w2 w3 w4 w5 tr_12 kr_12 (own_s3 v85s0 v46s0 v64s0) tr_13 kr_13 (own_s3 v163s0 v124s0 v142s0) T13.heap n0 (Nat.le_trans (Nat.le_trans (Nat.le_trans Z0 Kq11.1) Kq12.1) Kq13.1) (by assumption) (((O0.keep Kq11 all0).keep Kq12 all0).keep Kq13 all0) (f12_0.keep Kq13) (f12_1.keep Kq13 nin0) (f12_2.keep Kq13 nin0) (f12_3.keep Kq13 nin0) (own_s3p hch_v46s0 hch_v64s0) (own_s3l' hl_v85 v46s0 v64s0) f13_0 f13_1 f13_2 f13_3 (own_s3p hch_v124s0 hch_v142s0) (own_s3l' hl_v163 v124s0 v142s0)) hZ (oW hw 40 rfl) (oW hw 39 rfl) (by decide) (by decide)) (g := (mkF m 275 #[iv i0, iv i1, iv i2, iv i3, iv s6, iv s17, iv s28, iv v34s0, iv v46s0, iv v64s0, iv v85s0, iv v112s0, iv v124s0, iv v142s0, iv v163s0, rv r_11, rv r_12, rv r_13, iv s220, iv s228, uu, uu] [.null, (.ref r_13), (.ref r_12)])) rfl (by rw [hml]; rfl) (argsL := [(.ref r_12), (.ref r_13), .null]) (rest := []) (lenOf own_pd18 rfl) rfl (by show 2 * 0 + _ ≤ _; exact Nat.le_of_eq rfl) (hb hby at_275) (fun _ _ => ⟨rfl, rfl, (by decide : (((0 + 5) + 3) + 3) + 13 ≤ _), (by decide : (((0 + 12) + 8) + 8) + 224 ≤ _)⟩)
                          dsimp only [Pt.U, Pt.locs, Pt.cells, Pt.slots] at X24 l24 y24 z24 st24 hQ24 hT24 gT24
                          subst l24 y24 z24
                          obtain ⟨X24, hS24, hZ, hown⟩ := rebS hS11 (Nat.le_trans (Nat.le_trans (Nat.le_refl _) Kq12.1) Kq13.1) X24 hT24 gT24 hZ hown
                          obtain ⟨r_24, rfl, Nq24, Kq24, hr_24, f24_0, f24_1, f24_2⟩ := hQ24
                          have N24 := Fr.app N13 Nq24
                          have g_r_24 : n0 ≤ r_24 := Nat.le_trans (Nat.le_trans (Nat.le_trans (Nat.le_trans Z0 Kq11.1) Kq12.1) Kq13.1) hr_24
                          refine ov (B := T24.setTop (mkF m 278 #[iv i0, iv i1, iv i2, iv i3, iv s6, iv s17, iv s28, iv v34s0, iv v46s0, iv v64s0, iv v85s0, iv v112s0, iv v124s0, iv v142s0, iv v163s0, rv r_11, rv r_12, rv r_13, iv s220, iv s228, uu, uu] [(.ref r_24)])) (fun t k => st24.trans k) ?_
                          refine ov (B := T24.setTop (mkF m 280 #[iv i0, iv i1, iv i2, iv i3, iv s6, iv s17, iv s28, iv v34s0, iv v46s0, iv v64s0, iv v85s0, iv v112s0, iv v124s0, iv v142s0, iv v163s0, rv r_11, rv r_12, rv r_13, iv s220, iv s228, rv r_24, uu] [])) (fun t k => XS.astore X24.here hx rfl (hb hby at_278) rfl rfl (l' := #[iv i0, iv i1, iv i2, iv i3, iv s6, iv s17, iv s28, iv v34s0, iv v46s0, iv v64s0, iv v85s0, iv v112s0, iv v124s0, iv v142s0, iv v163s0, rv r_11, rv r_12, rv r_13, iv s220, iv s228, rv r_24, uu]) rfl k) ?_
                          refine oGO (n := 341) X24 hx (hb hby at_280) (by decide) (by decide) ?_
                          refine oIL (n := 343) X24 hx (hb hby at_341) rfl rfl ?_
                          refine oIC (n := 344) X24 hx (1 : Int32) (hb hby at_343) (by decide) rfl ?_
                          have hc344 : ¬ (s220 = (1 : Int32)) := by rw [hc262]; decide
                          refine ov (B := T24.setTop (mkF m 378 #[iv i0, iv i1, iv i2, iv i3, iv s6, iv s17, iv s28, iv v34s0, iv v46s0, iv v64s0, iv v85s0, iv v112s0, iv v124s0, iv v142s0, iv v163s0, rv r_11, rv r_12, rv r_13, iv s220, iv s228, rv r_24, uu] [])) (fun t k => XS.icmpYes X24.here hx rfl (pc0 := 344) (pc' := 378) rfl (hb hby at_344) rfl (feq hc344).2 (by decide) (by decide) k) ?_
                          refine oIC (n := 379) X24 hx (0 : Int32) (hb hby at_378) (by decide) rfl ?_
                          refine ov (B := T24.setTop (mkF m 381 #[iv i0, iv i1, iv i2, iv i3, iv s6, iv s17, iv s28, iv v34s0, iv v46s0, iv v64s0, iv v85s0, iv v112s0, iv v124s0, iv v142s0, iv v163s0, rv r_11, rv r_12, rv r_13, iv s220, iv s228, rv r_24, iv (0 : Int32)] [])) (fun t k => XS.istore X24.here hx rfl (hb hby at_379) rfl (l' := #[iv i0, iv i1, iv i2, iv i3, iv s6, iv s17, iv s28, iv v34s0, iv v46s0, iv v64s0, iv v85s0, iv v112s0, iv v124s0, iv v142s0, iv v163s0, rv r_11, rv r_12, rv r_13, iv s220, iv s228, rv r_24, iv (0 : Int32)]) rfl k) ?_
                          obtain ⟨T25, h25, X25, e25, E25, A25, D25, -, st25⟩ := newO X24 hx hZ hown (oW hw 93 rfl) (oW hw 94 rfl) (oW hw 95 rfl) rfl (g := (mkF m 381 #[iv i0, iv i1, iv i2, iv i3, iv s6, iv s17, iv s28, iv v34s0, iv v46s0, iv v64s0, iv v85s0, iv v112s0, iv v124s0, iv v142s0, iv v163s0, rv r_11, rv r_12, rv r_13, iv s220, iv s228, rv r_24, iv (0 : Int32)] [])) rfl (hb hby at_381) (by decide) (by decide)
                          obtain ⟨bpp, g25⟩ : ∃ z, z = T24.heap.size := ⟨_, rfl⟩
                          rw [← g25] at A25 D25 st25
                          have g_bpp : n0 ≤ bpp := Nat.le_trans (Nat.le_trans (Nat.le_trans (Nat.le_trans (Nat.le_trans Z0 Kq11.1) Kq12.1) Kq13.1) Kq24.1) (Nat.le_of_eq g25.symm)
                          have F25_account : Fld Z h25 bpp sAF "account" sAH .null := D25 (Or.inr (oW hw 101 rfl)) (ty := (.object sAB)) (by decide)
                          refine ov (B := T25.setTop (mkF m 384 #[iv i0, iv i1, iv i2, iv i3, iv s6, iv s17, iv s28, iv v34s0, iv v46s0, iv v64s0, iv v85s0, iv v112s0, iv v124s0, iv v142s0, iv v163s0, rv r_11, rv r_12, rv r_13, iv s220, iv s228, rv r_24, iv (0 : Int32)] [(.ref bpp)])) (fun t k => st25 t k) ?_
                          refine oDU (n := 385) X25 hx (hb hby at_384) rfl rfl ?_
                          refine oAL (n := 387) X25 hx (hb hby at_385) rfl rfl rfl ?_
                          obtain ⟨_, _, ⟨T26, L26, k26, n26⟩, -, X26, ⟨Lc26, hQ26, l26, y26, z26⟩, st26⟩ := X25.specialBack hx (y := (⟨sAF, "<init>", sAT⟩ : MethodName)) rfl hown (mvT hZ (oW hw 96 rfl)) (mvT hZ (oW hw 97 rfl)) (mvT hZ (oW hw 98 rfl)) (by decide) (backOf (W := 1) (rmPi l Z a0 hw [] bpp r_11 .null h25 n0 (Nat.le_trans (Nat.le_trans (Nat.le_trans (Nat.le_trans (Nat.le_trans Z0 Kq11.1) Kq12.1) Kq13.1) Kq24.1) E25.1) A25 F25_account g_bpp) hZ (oW hw 98 rfl) (oW hw 95 rfl) (by decide) (by decide)) (g := (mkF m 387 #[iv i0, iv i1, iv i2, iv i3, iv s6, iv s17, iv s28, iv v34s0, iv v46s0, iv v64s0, iv v85s0, iv v112s0, iv v124s0, iv v142s0, iv v163s0, rv r_11, rv r_12, rv r_13, iv s220, iv s228, rv r_24, iv (0 : Int32)] [(.ref r_11), (.ref bpp), (.ref bpp)])) rfl (by rw [hml]; rfl) (Steps.refl _) (a := bpp) (argsL := [(.ref r_11)]) (rest := [(.ref bpp)]) (lenOf own_pd15 rfl) rfl (by show 2 * 0 + _ ≤ _; exact Nat.le_of_eq rfl) (hb hby at_387) (fun _ _ => ⟨rfl, e25, (by decide : (((((0 + 5) + 3) + 3) + 13) + 1) + 0 ≤ _), (by decide : (((((0 + 12) + 8) + 8) + 224) + 1) + 0 ≤ _)⟩)
                          dsimp only [Pt.U, Pt.locs, Pt.cells, Pt.slots] at X26 l26 y26 z26 st26 hQ26
                          subst l26 y26 z26
                          obtain ⟨rfl, Nq26, Kq26, f26_0⟩ := hQ26
                          have N26 := Fr.app N24 Nq26
                          refine ov (B := T26.setTop (mkF m 390 #[iv i0, iv i1, iv i2, iv i3, iv s6, iv s17, iv s28, iv v34s0, iv v46s0, iv v64s0, iv v85s0, iv v112s0, iv v124s0, iv v142s0, iv v163s0, rv r_11, rv r_12, rv r_13, iv s220, iv s228, rv r_24, iv (0 : Int32)] [(.ref bpp)])) (fun t k => st26.trans k) ?_
                          refine oAL (n := 392) X26 hx (hb hby at_390) rfl rfl rfl ?_
                          obtain ⟨cq27, kq27, q27a, q27b, q27c⟩ := isOf hZ rfl (A25.keep Kq26)
                          obtain ⟨_, _, ⟨T27, L27, k27, n27⟩, -, X27, ⟨Lc27, hQ27, l27, y27, z27⟩, st27⟩ := X26.virtualBack hx (y := (⟨sAF, "matches", sAO⟩ : MethodName)) (z := (⟨sAF, "matches", sAO⟩ : MethodName)) hown (mvT hZ (oW hw 102 rfl)) (mvT hZ (oW hw 103 rfl)) (notFace_of_selects (args := #[]) (mvT hZ (oW hw 105 rfl))) (mvT hZ (oW hw 105 rfl)) (mvT hZ (oW hw 104 rfl)) (by decide) (backOf (W := 0) (rmM2 l Z a0 hw [] bpp r_24 zc w0 w1 w2 w3 w4 w5 T26.heap n0 (Nat.le_trans (Nat.le_trans (Nat.le_trans (Nat.le_trans (Nat.le_trans (Nat.le_trans Z0 Kq11.1) Kq12.1) Kq13.1) Kq24.1) E25.1) Kq26.1) (by assumption) ((((((O0.keep Kq11 all0).keep Kq12 all0).keep Kq13 all0).keep Kq24 all0).ext E25).keep Kq26 (allS g_bpp all0)) (by assumption) (by assumption) ((f24_0.ext E25).keep Kq26) ((f24_1.ext E25).keep Kq26 (ninS (Nat.ne_of_lt (Nat.lt_of_lt_of_le f24_0.lt (Nat.le_of_eq g25.symm))) nin0))) hZ (oW hw 106 rfl) (oW hw 95 rfl) (by decide) (by decide)) q27a q27c (g := (mkF m 392 #[iv i0, iv i1, iv i2, iv i3, iv s6, iv s17, iv s28, iv v34s0, iv v46s0, iv v64s0, iv v85s0, iv v112s0, iv v124s0, iv v142s0, iv v163s0, rv r_11, rv r_12, rv r_13, iv s220, iv s228, rv r_24, iv (0 : Int32)] [(.ref r_24), (.ref bpp)])) rfl (by rw [hml]; rfl) (Steps.refl _) (argsL := [(.ref r_24)]) (rest := []) (lenOf own_pd16 rfl) rfl (by show 2 * 0 + _ ≤ _; exact Nat.le_of_eq rfl) (hb hby at_392) (fun _ _ => ⟨rfl, rfl, (by decide : ((((((0 + 5) + 3) + 3) + 13) + 1) + 0) + 0 ≤ _), (by decide : ((((((0 + 12) + 8) + 8) + 224) + 1) + 0) + 0 ≤ _)⟩)
                          dsimp only [Pt.U, Pt.locs, Pt.cells, Pt.slots] at X27 l27 y27 z27 st27 hQ27
                          subst l27 y27 z27
                          obtain ⟨rfl, Nq27, eq27⟩ := hQ27
                          have N27 := Fr.app N26 Nq27
                          refine ov (B := T27.setTop (mkF m 395 #[iv i0, iv i1, iv i2, iv i3, iv s6, iv s17, iv s28, iv v34s0, iv v46s0, iv v64s0, iv v85s0, iv v112s0, iv v124s0, iv v142s0, iv v163s0, rv r_11, rv r_12, rv r_13, iv s220, iv s228, rv r_24, iv (0 : Int32)] [(.int (0 : Int32))])) (fun t k => st27.trans k) ?_
                          refine oIL (n := 397) X27 hx (hb hby at_395) rfl rfl ?_
                          have hc397 : (0 : Int32) = (0 : Int32) := by decide
                          refine ov (B := T27.setTop (mkF m 400 #[iv i0, iv i1, iv i2, iv i3, iv s6, iv s17, iv s28, iv v34s0, iv v46s0, iv v64s0, iv v85s0, iv v112s0, iv v124s0, iv v142s0, iv v163s0, rv r_11, rv r_12, rv r_13, iv s220, iv s228, rv r_24, iv (0 : Int32)] [])) (fun t k => XS.icmpNo X27.here hx rfl (hb hby at_397) rfl (teq hc397).2 k) ?_
                          refine oIC (n := 401) X27 hx (1 : Int32) (hb hby at_400) (by decide) rfl ?_
                          refine oGO (n := 405) X27 hx (hb hby at_401) (by decide) (by decide) ?_
                          refine own_leafW X27 hx hlk hS24 (by rw [eq27]; exact (Nat.le_trans (Nat.le_trans (Nat.le_refl _) E25.1) Kq26.1)) (t := .boolean) Bd.returns (by decide) (Or.inl ⟨rfl, by simp, _, rfl⟩) (hb hby at_405) (by decide) (by decide) ?_
                          show Q0 Z i0 i1 i2 i3 zc w0 w1 w2 w3 w4 w5 wN h0 n0 _ T27.heap _
                          rw [eq27]
                          refine ⟨?_, N27⟩
                          rfl
                        · refine ov (B := T13.setTop (mkF m 283 #[iv i0, iv i1, iv i2, iv i3, iv s6, iv s17, iv s28, iv v34s0, iv v46s0, iv v64s0, iv v85s0, iv v112s0, iv v124s0, iv v142s0, iv v163s0, rv r_11, rv r_12, rv r_13, iv s220, iv s228, uu, uu] [])) (fun t k => XS.ifYes X13.here hx rfl (pc0 := 267) (pc' := 283) rfl (hb hby at_267) rfl ((if0 _ _).trans (feq hc267).2) (by decide) (by decide) k) ?_
                          refine oIL (n := 285) X13 hx (hb hby at_283) rfl rfl ?_
                          refine oIC (n := 286) X13 hx (1 : Int32) (hb hby at_285) (by decide) rfl ?_
                          by_cases hc286 : s228 = (1 : Int32)
                          · refine ov (B := T13.setTop (mkF m 289 #[iv i0, iv i1, iv i2, iv i3, iv s6, iv s17, iv s28, iv v34s0, iv v46s0, iv v64s0, iv v85s0, iv v112s0, iv v124s0, iv v142s0, iv v163s0, rv r_11, rv r_12, rv r_13, iv s220, iv s228, uu, uu] [])) (fun t k => XS.icmpNo X13.here hx rfl (hb hby at_286) rfl (teq hc286).2 k) ?_
                            refine oAL (n := 291) X13 hx (hb hby at_289) rfl rfl rfl ?_
                            refine oNU (n := 292) X13 hx (hb hby at_291) rfl ?_
                            refine oAL (n := 294) X13 hx (hb hby at_292) rfl rfl rfl ?_
                            obtain ⟨_, _, ⟨T28, L28, k28, n28⟩, -, X28, hT28, gT28, ⟨Lc28, hQ28, l28, y28, z28⟩, st28⟩ := callSS X13 hx (y := (⟨sAA, "user", sAP⟩ : MethodName)) hown (mvT hZ (oW hw 37 rfl)) (mvT hZ (oW hw 38 rfl)) (mvT hZ (oW hw 39 rfl)) (mvT hZ (oW hw 40 rfl)) (by decide) (backOfS (W := 0) (rmF21 l Z a0 hw [] r_12 r_13 w0 w1 w2 w3 w4 w5 tr_12 kr_12 (own_s3 v85s0 v46s0 v64s0) tr_13 kr_13 (own_s3 v163s0 v124s0 v142s0) T13.heap n0 (Nat.le_trans (Nat.le_trans (Nat.le_trans Z0 Kq11.1) Kq12.1) Kq13.1) (by assumption) (((O0.keep Kq11 all0).keep Kq12 all0).keep Kq13 all0) (f12_0.keep Kq13) (f12_1.keep Kq13 nin0) (f12_2.keep Kq13 nin0) (f12_3.keep Kq13 nin0) (own_s3p hch_v46s0 hch_v64s0) (own_s3l' hl_v85 v46s0 v64s0) f13_0 f13_1 f13_2 f13_3 (own_s3p hch_v124s0 hch_v142s0) (own_s3l' hl_v163 v124s0 v142s0)) hZ (oW hw 40 rfl) (oW hw 39 rfl) (by decide) (by decide)) (g := (mkF m 294 #[iv i0, iv i1, iv i2, iv i3, iv s6, iv s17, iv s28, iv v34s0, iv v46s0, iv v64s0, iv v85s0, iv v112s0, iv v124s0, iv v142s0, iv v163s0, rv r_11, rv r_12, rv r_13, iv s220, iv s228, uu, uu] [(.ref r_13), .null, (.ref r_12)])) rfl (by rw [hml]; rfl) (argsL := [(.ref r_12), .null, (.ref r_13)]) (rest := []) (lenOf own_pd18 rfl) rfl (by show 2 * 0 + _ ≤ _; exact Nat.le_of_eq rfl) (hb hby at_294) (fun _ _ => ⟨rfl, rfl, (by decide : (((0 + 5) + 3) + 3) + 13 ≤ _), (by decide : (((0 + 12) + 8) + 8) + 224 ≤ _)⟩)
                            dsimp only [Pt.U, Pt.locs, Pt.cells, Pt.slots] at X28 l28 y28 z28 st28 hQ28 hT28 gT28
                            subst l28 y28 z28
                            obtain ⟨X28, hS28, hZ, hown⟩ := rebS hS11 (Nat.le_trans (Nat.le_trans (Nat.le_refl _) Kq12.1) Kq13.1) X28 hT28 gT28 hZ hown
                            obtain ⟨r_28, rfl, Nq28, Kq28, hr_28, f28_0, f28_1, f28_2⟩ := hQ28
                            have N28 := Fr.app N13 Nq28
                            have g_r_28 : n0 ≤ r_28 := Nat.le_trans (Nat.le_trans (Nat.le_trans (Nat.le_trans Z0 Kq11.1) Kq12.1) Kq13.1) hr_28
                            refine ov (B := T28.setTop (mkF m 297 #[iv i0, iv i1, iv i2, iv i3, iv s6, iv s17, iv s28, iv v34s0, iv v46s0, iv v64s0, iv v85s0, iv v112s0, iv v124s0, iv v142s0, iv v163s0, rv r_11, rv r_12, rv r_13, iv s220, iv s228, uu, uu] [(.ref r_28)])) (fun t k => st28.trans k) ?_
                            refine ov (B := T28.setTop (mkF m 299 #[iv i0, iv i1, iv i2, iv i3, iv s6, iv s17, iv s28, iv v34s0, iv v46s0, iv v64s0, iv v85s0, iv v112s0, iv v124s0, iv v142s0, iv v163s0, rv r_11, rv r_12, rv r_13, iv s220, iv s228, rv r_28, uu] [])) (fun t k => XS.astore X28.here hx rfl (hb hby at_297) rfl rfl (l' := #[iv i0, iv i1, iv i2, iv i3, iv s6, iv s17, iv s28, iv v34s0, iv v46s0, iv v64s0, iv v85s0, iv v112s0, iv v124s0, iv v142s0, iv v163s0, rv r_11, rv r_12, rv r_13, iv s220, iv s228, rv r_28, uu]) rfl k) ?_
                            refine oGO (n := 341) X28 hx (hb hby at_299) (by decide) (by decide) ?_
                            refine oIL (n := 343) X28 hx (hb hby at_341) rfl rfl ?_
                            refine oIC (n := 344) X28 hx (1 : Int32) (hb hby at_343) (by decide) rfl ?_
                            have hc344 : ¬ (s220 = (1 : Int32)) := by rw [hc262]; decide
                            refine ov (B := T28.setTop (mkF m 378 #[iv i0, iv i1, iv i2, iv i3, iv s6, iv s17, iv s28, iv v34s0, iv v46s0, iv v64s0, iv v85s0, iv v112s0, iv v124s0, iv v142s0, iv v163s0, rv r_11, rv r_12, rv r_13, iv s220, iv s228, rv r_28, uu] [])) (fun t k => XS.icmpYes X28.here hx rfl (pc0 := 344) (pc' := 378) rfl (hb hby at_344) rfl (feq hc344).2 (by decide) (by decide) k) ?_
                            refine oIC (n := 379) X28 hx (0 : Int32) (hb hby at_378) (by decide) rfl ?_
                            refine ov (B := T28.setTop (mkF m 381 #[iv i0, iv i1, iv i2, iv i3, iv s6, iv s17, iv s28, iv v34s0, iv v46s0, iv v64s0, iv v85s0, iv v112s0, iv v124s0, iv v142s0, iv v163s0, rv r_11, rv r_12, rv r_13, iv s220, iv s228, rv r_28, iv (0 : Int32)] [])) (fun t k => XS.istore X28.here hx rfl (hb hby at_379) rfl (l' := #[iv i0, iv i1, iv i2, iv i3, iv s6, iv s17, iv s28, iv v34s0, iv v46s0, iv v64s0, iv v85s0, iv v112s0, iv v124s0, iv v142s0, iv v163s0, rv r_11, rv r_12, rv r_13, iv s220, iv s228, rv r_28, iv (0 : Int32)]) rfl k) ?_
                            obtain ⟨T29, h29, X29, e29, E29, A29, D29, -, st29⟩ := newO X28 hx hZ hown (oW hw 93 rfl) (oW hw 94 rfl) (oW hw 95 rfl) rfl (g := (mkF m 381 #[iv i0, iv i1, iv i2, iv i3, iv s6, iv s17, iv s28, iv v34s0, iv v46s0, iv v64s0, iv v85s0, iv v112s0, iv v124s0, iv v142s0, iv v163s0, rv r_11, rv r_12, rv r_13, iv s220, iv s228, rv r_28, iv (0 : Int32)] [])) rfl (hb hby at_381) (by decide) (by decide)
                            obtain ⟨bpp, g29⟩ : ∃ z, z = T28.heap.size := ⟨_, rfl⟩
                            rw [← g29] at A29 D29 st29
                            have g_bpp : n0 ≤ bpp := Nat.le_trans (Nat.le_trans (Nat.le_trans (Nat.le_trans (Nat.le_trans Z0 Kq11.1) Kq12.1) Kq13.1) Kq28.1) (Nat.le_of_eq g29.symm)
                            have F29_account : Fld Z h29 bpp sAF "account" sAH .null := D29 (Or.inr (oW hw 101 rfl)) (ty := (.object sAB)) (by decide)
                            refine ov (B := T29.setTop (mkF m 384 #[iv i0, iv i1, iv i2, iv i3, iv s6, iv s17, iv s28, iv v34s0, iv v46s0, iv v64s0, iv v85s0, iv v112s0, iv v124s0, iv v142s0, iv v163s0, rv r_11, rv r_12, rv r_13, iv s220, iv s228, rv r_28, iv (0 : Int32)] [(.ref bpp)])) (fun t k => st29 t k) ?_
                            refine oDU (n := 385) X29 hx (hb hby at_384) rfl rfl ?_
                            refine oAL (n := 387) X29 hx (hb hby at_385) rfl rfl rfl ?_
                            obtain ⟨_, _, ⟨T30, L30, k30, n30⟩, -, X30, ⟨Lc30, hQ30, l30, y30, z30⟩, st30⟩ := X29.specialBack hx (y := (⟨sAF, "<init>", sAT⟩ : MethodName)) rfl hown (mvT hZ (oW hw 96 rfl)) (mvT hZ (oW hw 97 rfl)) (mvT hZ (oW hw 98 rfl)) (by decide) (backOf (W := 1) (rmPi l Z a0 hw [] bpp r_11 .null h29 n0 (Nat.le_trans (Nat.le_trans (Nat.le_trans (Nat.le_trans (Nat.le_trans Z0 Kq11.1) Kq12.1) Kq13.1) Kq28.1) E29.1) A29 F29_account g_bpp) hZ (oW hw 98 rfl) (oW hw 95 rfl) (by decide) (by decide)) (g := (mkF m 387 #[iv i0, iv i1, iv i2, iv i3, iv s6, iv s17, iv s28, iv v34s0, iv v46s0, iv v64s0, iv v85s0, iv v112s0, iv v124s0, iv v142s0, iv v163s0, rv r_11, rv r_12, rv r_13, iv s220, iv s228, rv r_28, iv (0 : Int32)] [(.ref r_11), (.ref bpp), (.ref bpp)])) rfl (by rw [hml]; rfl) (Steps.refl _) (a := bpp) (argsL := [(.ref r_11)]) (rest := [(.ref bpp)]) (lenOf own_pd15 rfl) rfl (by show 2 * 0 + _ ≤ _; exact Nat.le_of_eq rfl) (hb hby at_387) (fun _ _ => ⟨rfl, e29, (by decide : (((((0 + 5) + 3) + 3) + 13) + 1) + 0 ≤ _), (by decide : (((((0 + 12) + 8) + 8) + 224) + 1) + 0 ≤ _)⟩)
                            dsimp only [Pt.U, Pt.locs, Pt.cells, Pt.slots] at X30 l30 y30 z30 st30 hQ30
                            subst l30 y30 z30
                            obtain ⟨rfl, Nq30, Kq30, f30_0⟩ := hQ30
                            have N30 := Fr.app N28 Nq30
                            refine ov (B := T30.setTop (mkF m 390 #[iv i0, iv i1, iv i2, iv i3, iv s6, iv s17, iv s28, iv v34s0, iv v46s0, iv v64s0, iv v85s0, iv v112s0, iv v124s0, iv v142s0, iv v163s0, rv r_11, rv r_12, rv r_13, iv s220, iv s228, rv r_28, iv (0 : Int32)] [(.ref bpp)])) (fun t k => st30.trans k) ?_
                            refine oAL (n := 392) X30 hx (hb hby at_390) rfl rfl rfl ?_
                            obtain ⟨cq31, kq31, q31a, q31b, q31c⟩ := isOf hZ rfl (A29.keep Kq30)
                            obtain ⟨_, _, ⟨T31, L31, k31, n31⟩, -, X31, ⟨Lc31, hQ31, l31, y31, z31⟩, st31⟩ := X30.virtualBack hx (y := (⟨sAF, "matches", sAO⟩ : MethodName)) (z := (⟨sAF, "matches", sAO⟩ : MethodName)) hown (mvT hZ (oW hw 102 rfl)) (mvT hZ (oW hw 103 rfl)) (notFace_of_selects (args := #[]) (mvT hZ (oW hw 105 rfl))) (mvT hZ (oW hw 105 rfl)) (mvT hZ (oW hw 104 rfl)) (by decide) (backOf (W := 0) (rmM2 l Z a0 hw [] bpp r_28 zc w0 w1 w2 w3 w4 w5 T30.heap n0 (Nat.le_trans (Nat.le_trans (Nat.le_trans (Nat.le_trans (Nat.le_trans (Nat.le_trans Z0 Kq11.1) Kq12.1) Kq13.1) Kq28.1) E29.1) Kq30.1) (by assumption) ((((((O0.keep Kq11 all0).keep Kq12 all0).keep Kq13 all0).keep Kq28 all0).ext E29).keep Kq30 (allS g_bpp all0)) (by assumption) (by assumption) ((f28_0.ext E29).keep Kq30) ((f28_1.ext E29).keep Kq30 (ninS (Nat.ne_of_lt (Nat.lt_of_lt_of_le f28_0.lt (Nat.le_of_eq g29.symm))) nin0))) hZ (oW hw 106 rfl) (oW hw 95 rfl) (by decide) (by decide)) q31a q31c (g := (mkF m 392 #[iv i0, iv i1, iv i2, iv i3, iv s6, iv s17, iv s28, iv v34s0, iv v46s0, iv v64s0, iv v85s0, iv v112s0, iv v124s0, iv v142s0, iv v163s0, rv r_11, rv r_12, rv r_13, iv s220, iv s228, rv r_28, iv (0 : Int32)] [(.ref r_28), (.ref bpp)])) rfl (by rw [hml]; rfl) (Steps.refl _) (argsL := [(.ref r_28)]) (rest := []) (lenOf own_pd16 rfl) rfl (by show 2 * 0 + _ ≤ _; exact Nat.le_of_eq rfl) (hb hby at_392) (fun _ _ => ⟨rfl, rfl, (by decide : ((((((0 + 5) + 3) + 3) + 13) + 1) + 0) + 0 ≤ _), (by decide : ((((((0 + 12) + 8) + 8) + 224) + 1) + 0) + 0 ≤ _)⟩)
                            dsimp only [Pt.U, Pt.locs, Pt.cells, Pt.slots] at X31 l31 y31 z31 st31 hQ31
                            subst l31 y31 z31
                            obtain ⟨rfl, Nq31, eq31⟩ := hQ31
                            have N31 := Fr.app N30 Nq31
                            refine ov (B := T31.setTop (mkF m 395 #[iv i0, iv i1, iv i2, iv i3, iv s6, iv s17, iv s28, iv v34s0, iv v46s0, iv v64s0, iv v85s0, iv v112s0, iv v124s0, iv v142s0, iv v163s0, rv r_11, rv r_12, rv r_13, iv s220, iv s228, rv r_28, iv (0 : Int32)] [(.int (0 : Int32))])) (fun t k => st31.trans k) ?_
                            refine oIL (n := 397) X31 hx (hb hby at_395) rfl rfl ?_
                            have hc397 : (0 : Int32) = (0 : Int32) := by decide
                            refine ov (B := T31.setTop (mkF m 400 #[iv i0, iv i1, iv i2, iv i3, iv s6, iv s17, iv s28, iv v34s0, iv v46s0, iv v64s0, iv v85s0, iv v112s0, iv v124s0, iv v142s0, iv v163s0, rv r_11, rv r_12, rv r_13, iv s220, iv s228, rv r_28, iv (0 : Int32)] [])) (fun t k => XS.icmpNo X31.here hx rfl (hb hby at_397) rfl (teq hc397).2 k) ?_
                            refine oIC (n := 401) X31 hx (1 : Int32) (hb hby at_400) (by decide) rfl ?_
                            refine oGO (n := 405) X31 hx (hb hby at_401) (by decide) (by decide) ?_
                            refine own_leafW X31 hx hlk hS28 (by rw [eq31]; exact (Nat.le_trans (Nat.le_trans (Nat.le_refl _) E29.1) Kq30.1)) (t := .boolean) Bd.returns (by decide) (Or.inl ⟨rfl, by simp, _, rfl⟩) (hb hby at_405) (by decide) (by decide) ?_
                            show Q0 Z i0 i1 i2 i3 zc w0 w1 w2 w3 w4 w5 wN h0 n0 _ T31.heap _
                            rw [eq31]
                            refine ⟨?_, N31⟩
                            rfl
                          · refine ov (B := T13.setTop (mkF m 302 #[iv i0, iv i1, iv i2, iv i3, iv s6, iv s17, iv s28, iv v34s0, iv v46s0, iv v64s0, iv v85s0, iv v112s0, iv v124s0, iv v142s0, iv v163s0, rv r_11, rv r_12, rv r_13, iv s220, iv s228, uu, uu] [])) (fun t k => XS.icmpYes X13.here hx rfl (pc0 := 286) (pc' := 302) rfl (hb hby at_286) rfl (feq hc286).2 (by decide) (by decide) k) ?_
                            refine oAL (n := 304) X13 hx (hb hby at_302) rfl rfl rfl ?_
                            refine oAL (n := 306) X13 hx (hb hby at_304) rfl rfl rfl ?_
                            refine oAL (n := 308) X13 hx (hb hby at_306) rfl rfl rfl ?_
                            obtain ⟨_, _, ⟨T32, L32, k32, n32⟩, -, X32, hT32, gT32, ⟨Lc32, hQ32, l32, y32, z32⟩, st32⟩ := callSS X13 hx (y := (⟨sAA, "user", sAP⟩ : MethodName)) hown (mvT hZ (oW hw 37 rfl)) (mvT hZ (oW hw 38 rfl)) (mvT hZ (oW hw 39 rfl)) (mvT hZ (oW hw 40 rfl)) (by decide) (backOfS (W := 0) (rmF2 l Z a0 hw [] r_12 r_13 r_13 w0 w1 w2 w3 w4 w5 tr_12 kr_12 (own_s3 v85s0 v46s0 v64s0) tr_13 kr_13 (own_s3 v163s0 v124s0 v142s0) tr_13 kr_13 (own_s3 v163s0 v124s0 v142s0) T13.heap n0 (Nat.le_trans (Nat.le_trans (Nat.le_trans Z0 Kq11.1) Kq12.1) Kq13.1) (by assumption) (((O0.keep Kq11 all0).keep Kq12 all0).keep Kq13 all0) (f12_0.keep Kq13) (f12_1.keep Kq13 nin0) (f12_2.keep Kq13 nin0) (f12_3.keep Kq13 nin0) (own_s3p hch_v46s0 hch_v64s0) (own_s3l' hl_v85 v46s0 v64s0) f13_0 f13_1 f13_2 f13_3 (own_s3p hch_v124s0 hch_v142s0) (own_s3l' hl_v163 v124s0 v142s0) f13_0 f13_1 f13_2 f13_3 (own_s3p hch_v124s0 hch_v142s0) (own_s3l' hl_v163 v124s0 v142s0)) hZ (oW hw 40 rfl) (oW hw 39 rfl) (by decide) (by decide)) (g := (mkF m 308 #[iv i0, iv i1, iv i2, iv i3, iv s6, iv s17, iv s28, iv v34s0, iv v46s0, iv v64s0, iv v85s0, iv v112s0, iv v124s0, iv v142s0, iv v163s0, rv r_11, rv r_12, rv r_13, iv s220, iv s228, uu, uu] [(.ref r_13), (.ref r_13), (.ref r_12)])) rfl (by rw [hml]; rfl) (argsL := [(.ref r_12), (.ref r_13), (.ref r_13)]) (rest := []) (lenOf own_pd18 rfl) rfl (by show 2 * 0 + _ ≤ _; exact Nat.le_of_eq rfl) (hb hby at_308) (fun _ _ => ⟨rfl, rfl, (by decide : (((0 + 5) + 3) + 3) + 13 ≤ _), (by decide : (((0 + 12) + 8) + 8) + 224 ≤ _)⟩)
                            dsimp only [Pt.U, Pt.locs, Pt.cells, Pt.slots] at X32 l32 y32 z32 st32 hQ32 hT32 gT32
                            subst l32 y32 z32
                            obtain ⟨X32, hS32, hZ, hown⟩ := rebS hS11 (Nat.le_trans (Nat.le_trans (Nat.le_refl _) Kq12.1) Kq13.1) X32 hT32 gT32 hZ hown
                            obtain ⟨r_32, rfl, Nq32, Kq32, hr_32, f32_0, f32_1, f32_2⟩ := hQ32
                            have N32 := Fr.app N13 Nq32
                            have g_r_32 : n0 ≤ r_32 := Nat.le_trans (Nat.le_trans (Nat.le_trans (Nat.le_trans Z0 Kq11.1) Kq12.1) Kq13.1) hr_32
                            refine ov (B := T32.setTop (mkF m 311 #[iv i0, iv i1, iv i2, iv i3, iv s6, iv s17, iv s28, iv v34s0, iv v46s0, iv v64s0, iv v85s0, iv v112s0, iv v124s0, iv v142s0, iv v163s0, rv r_11, rv r_12, rv r_13, iv s220, iv s228, uu, uu] [(.ref r_32)])) (fun t k => st32.trans k) ?_
                            refine ov (B := T32.setTop (mkF m 313 #[iv i0, iv i1, iv i2, iv i3, iv s6, iv s17, iv s28, iv v34s0, iv v46s0, iv v64s0, iv v85s0, iv v112s0, iv v124s0, iv v142s0, iv v163s0, rv r_11, rv r_12, rv r_13, iv s220, iv s228, rv r_32, uu] [])) (fun t k => XS.astore X32.here hx rfl (hb hby at_311) rfl rfl (l' := #[iv i0, iv i1, iv i2, iv i3, iv s6, iv s17, iv s28, iv v34s0, iv v46s0, iv v64s0, iv v85s0, iv v112s0, iv v124s0, iv v142s0, iv v163s0, rv r_11, rv r_12, rv r_13, iv s220, iv s228, rv r_32, uu]) rfl k) ?_
                            refine oGO (n := 341) X32 hx (hb hby at_313) (by decide) (by decide) ?_
                            refine oIL (n := 343) X32 hx (hb hby at_341) rfl rfl ?_
                            refine oIC (n := 344) X32 hx (1 : Int32) (hb hby at_343) (by decide) rfl ?_
                            have hc344 : ¬ (s220 = (1 : Int32)) := by rw [hc262]; decide
                            refine ov (B := T32.setTop (mkF m 378 #[iv i0, iv i1, iv i2, iv i3, iv s6, iv s17, iv s28, iv v34s0, iv v46s0, iv v64s0, iv v85s0, iv v112s0, iv v124s0, iv v142s0, iv v163s0, rv r_11, rv r_12, rv r_13, iv s220, iv s228, rv r_32, uu] [])) (fun t k => XS.icmpYes X32.here hx rfl (pc0 := 344) (pc' := 378) rfl (hb hby at_344) rfl (feq hc344).2 (by decide) (by decide) k) ?_
                            refine oIC (n := 379) X32 hx (0 : Int32) (hb hby at_378) (by decide) rfl ?_
                            refine ov (B := T32.setTop (mkF m 381 #[iv i0, iv i1, iv i2, iv i3, iv s6, iv s17, iv s28, iv v34s0, iv v46s0, iv v64s0, iv v85s0, iv v112s0, iv v124s0, iv v142s0, iv v163s0, rv r_11, rv r_12, rv r_13, iv s220, iv s228, rv r_32, iv (0 : Int32)] [])) (fun t k => XS.istore X32.here hx rfl (hb hby at_379) rfl (l' := #[iv i0, iv i1, iv i2, iv i3, iv s6, iv s17, iv s28, iv v34s0, iv v46s0, iv v64s0, iv v85s0, iv v112s0, iv v124s0, iv v142s0, iv v163s0, rv r_11, rv r_12, rv r_13, iv s220, iv s228, rv r_32, iv (0 : Int32)]) rfl k) ?_
                            obtain ⟨T33, h33, X33, e33, E33, A33, D33, -, st33⟩ := newO X32 hx hZ hown (oW hw 93 rfl) (oW hw 94 rfl) (oW hw 95 rfl) rfl (g := (mkF m 381 #[iv i0, iv i1, iv i2, iv i3, iv s6, iv s17, iv s28, iv v34s0, iv v46s0, iv v64s0, iv v85s0, iv v112s0, iv v124s0, iv v142s0, iv v163s0, rv r_11, rv r_12, rv r_13, iv s220, iv s228, rv r_32, iv (0 : Int32)] [])) rfl (hb hby at_381) (by decide) (by decide)
                            obtain ⟨bpp, g33⟩ : ∃ z, z = T32.heap.size := ⟨_, rfl⟩
                            rw [← g33] at A33 D33 st33
                            have g_bpp : n0 ≤ bpp := Nat.le_trans (Nat.le_trans (Nat.le_trans (Nat.le_trans (Nat.le_trans Z0 Kq11.1) Kq12.1) Kq13.1) Kq32.1) (Nat.le_of_eq g33.symm)
                            have F33_account : Fld Z h33 bpp sAF "account" sAH .null := D33 (Or.inr (oW hw 101 rfl)) (ty := (.object sAB)) (by decide)
                            refine ov (B := T33.setTop (mkF m 384 #[iv i0, iv i1, iv i2, iv i3, iv s6, iv s17, iv s28, iv v34s0, iv v46s0, iv v64s0, iv v85s0, iv v112s0, iv v124s0, iv v142s0, iv v163s0, rv r_11, rv r_12, rv r_13, iv s220, iv s228, rv r_32, iv (0 : Int32)] [(.ref bpp)])) (fun t k => st33 t k) ?_
                            refine oDU (n := 385) X33 hx (hb hby at_384) rfl rfl ?_
                            refine oAL (n := 387) X33 hx (hb hby at_385) rfl rfl rfl ?_
                            obtain ⟨_, _, ⟨T34, L34, k34, n34⟩, -, X34, ⟨Lc34, hQ34, l34, y34, z34⟩, st34⟩ := X33.specialBack hx (y := (⟨sAF, "<init>", sAT⟩ : MethodName)) rfl hown (mvT hZ (oW hw 96 rfl)) (mvT hZ (oW hw 97 rfl)) (mvT hZ (oW hw 98 rfl)) (by decide) (backOf (W := 1) (rmPi l Z a0 hw [] bpp r_11 .null h33 n0 (Nat.le_trans (Nat.le_trans (Nat.le_trans (Nat.le_trans (Nat.le_trans Z0 Kq11.1) Kq12.1) Kq13.1) Kq32.1) E33.1) A33 F33_account g_bpp) hZ (oW hw 98 rfl) (oW hw 95 rfl) (by decide) (by decide)) (g := (mkF m 387 #[iv i0, iv i1, iv i2, iv i3, iv s6, iv s17, iv s28, iv v34s0, iv v46s0, iv v64s0, iv v85s0, iv v112s0, iv v124s0, iv v142s0, iv v163s0, rv r_11, rv r_12, rv r_13, iv s220, iv s228, rv r_32, iv (0 : Int32)] [(.ref r_11), (.ref bpp), (.ref bpp)])) rfl (by rw [hml]; rfl) (Steps.refl _) (a := bpp) (argsL := [(.ref r_11)]) (rest := [(.ref bpp)]) (lenOf own_pd15 rfl) rfl (by show 2 * 0 + _ ≤ _; exact Nat.le_of_eq rfl) (hb hby at_387) (fun _ _ => ⟨rfl, e33, (by decide : (((((0 + 5) + 3) + 3) + 13) + 1) + 0 ≤ _), (by decide : (((((0 + 12) + 8) + 8) + 224) + 1) + 0 ≤ _)⟩)
                            dsimp only [Pt.U, Pt.locs, Pt.cells, Pt.slots] at X34 l34 y34 z34 st34 hQ34
                            subst l34 y34 z34
                            obtain ⟨rfl, Nq34, Kq34, f34_0⟩ := hQ34
                            have N34 := Fr.app N32 Nq34
                            refine ov (B := T34.setTop (mkF m 390 #[iv i0, iv i1, iv i2, iv i3, iv s6, iv s17, iv s28, iv v34s0, iv v46s0, iv v64s0, iv v85s0, iv v112s0, iv v124s0, iv v142s0, iv v163s0, rv r_11, rv r_12, rv r_13, iv s220, iv s228, rv r_32, iv (0 : Int32)] [(.ref bpp)])) (fun t k => st34.trans k) ?_
                            refine oAL (n := 392) X34 hx (hb hby at_390) rfl rfl rfl ?_
                            obtain ⟨cq35, kq35, q35a, q35b, q35c⟩ := isOf hZ rfl (A33.keep Kq34)
                            obtain ⟨_, _, ⟨T35, L35, k35, n35⟩, -, X35, ⟨Lc35, hQ35, l35, y35, z35⟩, st35⟩ := X34.virtualBack hx (y := (⟨sAF, "matches", sAO⟩ : MethodName)) (z := (⟨sAF, "matches", sAO⟩ : MethodName)) hown (mvT hZ (oW hw 102 rfl)) (mvT hZ (oW hw 103 rfl)) (notFace_of_selects (args := #[]) (mvT hZ (oW hw 105 rfl))) (mvT hZ (oW hw 105 rfl)) (mvT hZ (oW hw 104 rfl)) (by decide) (backOf (W := 0) (rmM2 l Z a0 hw [] bpp r_32 zc w0 w1 w2 w3 w4 w5 T34.heap n0 (Nat.le_trans (Nat.le_trans (Nat.le_trans (Nat.le_trans (Nat.le_trans (Nat.le_trans Z0 Kq11.1) Kq12.1) Kq13.1) Kq32.1) E33.1) Kq34.1) (by assumption) ((((((O0.keep Kq11 all0).keep Kq12 all0).keep Kq13 all0).keep Kq32 all0).ext E33).keep Kq34 (allS g_bpp all0)) (by assumption) (by assumption) ((f32_0.ext E33).keep Kq34) ((f32_1.ext E33).keep Kq34 (ninS (Nat.ne_of_lt (Nat.lt_of_lt_of_le f32_0.lt (Nat.le_of_eq g33.symm))) nin0))) hZ (oW hw 106 rfl) (oW hw 95 rfl) (by decide) (by decide)) q35a q35c (g := (mkF m 392 #[iv i0, iv i1, iv i2, iv i3, iv s6, iv s17, iv s28, iv v34s0, iv v46s0, iv v64s0, iv v85s0, iv v112s0, iv v124s0, iv v142s0, iv v163s0, rv r_11, rv r_12, rv r_13, iv s220, iv s228, rv r_32, iv (0 : Int32)] [(.ref r_32), (.ref bpp)])) rfl (by rw [hml]; rfl) (Steps.refl _) (argsL := [(.ref r_32)]) (rest := []) (lenOf own_pd16 rfl) rfl (by show 2 * 0 + _ ≤ _; exact Nat.le_of_eq rfl) (hb hby at_392) (fun _ _ => ⟨rfl, rfl, (by decide : ((((((0 + 5) + 3) + 3) + 13) + 1) + 0) + 0 ≤ _), (by decide : ((((((0 + 12) + 8) + 8) + 224) + 1) + 0) + 0 ≤ _)⟩)
                            dsimp only [Pt.U, Pt.locs, Pt.cells, Pt.slots] at X35 l35 y35 z35 st35 hQ35
                            subst l35 y35 z35
                            obtain ⟨rfl, Nq35, eq35⟩ := hQ35
                            have N35 := Fr.app N34 Nq35
                            refine ov (B := T35.setTop (mkF m 395 #[iv i0, iv i1, iv i2, iv i3, iv s6, iv s17, iv s28, iv v34s0, iv v46s0, iv v64s0, iv v85s0, iv v112s0, iv v124s0, iv v142s0, iv v163s0, rv r_11, rv r_12, rv r_13, iv s220, iv s228, rv r_32, iv (0 : Int32)] [(.int (0 : Int32))])) (fun t k => st35.trans k) ?_
                            refine oIL (n := 397) X35 hx (hb hby at_395) rfl rfl ?_
                            have hc397 : (0 : Int32) = (0 : Int32) := by decide
                            refine ov (B := T35.setTop (mkF m 400 #[iv i0, iv i1, iv i2, iv i3, iv s6, iv s17, iv s28, iv v34s0, iv v46s0, iv v64s0, iv v85s0, iv v112s0, iv v124s0, iv v142s0, iv v163s0, rv r_11, rv r_12, rv r_13, iv s220, iv s228, rv r_32, iv (0 : Int32)] [])) (fun t k => XS.icmpNo X35.here hx rfl (hb hby at_397) rfl (teq hc397).2 k) ?_
                            refine oIC (n := 401) X35 hx (1 : Int32) (hb hby at_400) (by decide) rfl ?_
                            refine oGO (n := 405) X35 hx (hb hby at_401) (by decide) (by decide) ?_
                            refine own_leafW X35 hx hlk hS32 (by rw [eq35]; exact (Nat.le_trans (Nat.le_trans (Nat.le_refl _) E33.1) Kq34.1)) (t := .boolean) Bd.returns (by decide) (Or.inl ⟨rfl, by simp, _, rfl⟩) (hb hby at_405) (by decide) (by decide) ?_
                            show Q0 Z i0 i1 i2 i3 zc w0 w1 w2 w3 w4 w5 wN h0 n0 _ T35.heap _
                            rw [eq35]
                            refine ⟨?_, N35⟩
                            rfl
                      · refine ov (B := T13.setTop (mkF m 316 #[iv i0, iv i1, iv i2, iv i3, iv s6, iv s17, iv s28, iv v34s0, iv v46s0, iv v64s0, iv v85s0, iv v112s0, iv v124s0, iv v142s0, iv v163s0, rv r_11, rv r_12, rv r_13, iv s220, iv s228, uu, uu] [])) (fun t k => XS.icmpYes X13.here hx rfl (pc0 := 262) (pc' := 316) rfl (hb hby at_262) rfl (feq hc262).2 (by decide) (by decide) k) ?_
                        refine oIL (n := 318) X13 hx (hb hby at_316) rfl rfl ?_
                        refine oIC (n := 319) X13 hx (3 : Int32) (hb hby at_318) (by decide) rfl ?_
                        by_cases hc319 : s220 = (3 : Int32)
                        · refine ov (B := T13.setTop (mkF m 322 #[iv i0, iv i1, iv i2, iv i3, iv s6, iv s17, iv s28, iv v34s0, iv v46s0, iv v64s0, iv v85s0, iv v112s0, iv v124s0, iv v142s0, iv v163s0, rv r_11, rv r_12, rv r_13, iv s220, iv s228, uu, uu] [])) (fun t k => XS.icmpNo X13.here hx rfl (hb hby at_319) rfl (teq hc319).2 k) ?_
                          refine oAL (n := 324) X13 hx (hb hby at_322) rfl rfl rfl ?_
                          refine oAL (n := 326) X13 hx (hb hby at_324) rfl rfl rfl ?_
                          obtain ⟨_, _, ⟨T36, L36, k36, n36⟩, -, X36, hT36, gT36, ⟨Lc36, hQ36, l36, y36, z36⟩, st36⟩ := callSS X13 hx (y := (⟨sAA, "agency", "(Ljava/lang/String;Ljava/lang/String;)Lcom/example/wardstone/wardstone/request/Requester;"⟩ : MethodName)) hown (mvT hZ (oW hw 140 rfl)) (mvT hZ (oW hw 141 rfl)) (mvT hZ (oW hw 39 rfl)) (mvT hZ (oW hw 142 rfl)) (by decide) (backOfS (W := 0) (rmF3 l Z a0 hw [] r_12 r_13 w0 w1 w2 w3 w4 w5 tr_12 kr_12 (own_s3 v85s0 v46s0 v64s0) tr_13 kr_13 (own_s3 v163s0 v124s0 v142s0) T13.heap n0 (Nat.le_trans (Nat.le_trans (Nat.le_trans Z0 Kq11.1) Kq12.1) Kq13.1) (by assumption) (((O0.keep Kq11 all0).keep Kq12 all0).keep Kq13 all0) (f12_0.keep Kq13) (f12_1.keep Kq13 nin0) (f12_2.keep Kq13 nin0) (f12_3.keep Kq13 nin0) (own_s3p hch_v46s0 hch_v64s0) (own_s3l' hl_v85 v46s0 v64s0) f13_0 f13_1 f13_2 f13_3 (own_s3p hch_v124s0 hch_v142s0) (own_s3l' hl_v163 v124s0 v142s0)) hZ (oW hw 142 rfl) (oW hw 39 rfl) (by decide) (by decide)) (g := (mkF m 326 #[iv i0, iv i1, iv i2, iv i3, iv s6, iv s17, iv s28, iv v34s0, iv v46s0, iv v64s0, iv v85s0, iv v112s0, iv v124s0, iv v142s0, iv v163s0, rv r_11, rv r_12, rv r_13, iv s220, iv s228, uu, uu] [(.ref r_13), (.ref r_12)])) rfl (by rw [hml]; rfl) (argsL := [(.ref r_12), (.ref r_13)]) (rest := []) (lenOf own_pd19 rfl) rfl (by show 2 * 0 + _ ≤ _; exact Nat.le_of_eq rfl) (hb hby at_326) (fun _ _ => ⟨rfl, rfl, (by decide : (((0 + 5) + 3) + 3) + 13 ≤ _), (by decide : (((0 + 12) + 8) + 8) + 224 ≤ _)⟩)
                          dsimp only [Pt.U, Pt.locs, Pt.cells, Pt.slots] at X36 l36 y36 z36 st36 hQ36 hT36 gT36
                          subst l36 y36 z36
                          obtain ⟨X36, hS36, hZ, hown⟩ := rebS hS11 (Nat.le_trans (Nat.le_trans (Nat.le_refl _) Kq12.1) Kq13.1) X36 hT36 gT36 hZ hown
                          obtain ⟨r_36, rfl, Nq36, Kq36, hr_36, f36_0, f36_1, f36_2⟩ := hQ36
                          have N36 := Fr.app N13 Nq36
                          have g_r_36 : n0 ≤ r_36 := Nat.le_trans (Nat.le_trans (Nat.le_trans (Nat.le_trans Z0 Kq11.1) Kq12.1) Kq13.1) hr_36
                          refine ov (B := T36.setTop (mkF m 329 #[iv i0, iv i1, iv i2, iv i3, iv s6, iv s17, iv s28, iv v34s0, iv v46s0, iv v64s0, iv v85s0, iv v112s0, iv v124s0, iv v142s0, iv v163s0, rv r_11, rv r_12, rv r_13, iv s220, iv s228, uu, uu] [(.ref r_36)])) (fun t k => st36.trans k) ?_
                          refine ov (B := T36.setTop (mkF m 331 #[iv i0, iv i1, iv i2, iv i3, iv s6, iv s17, iv s28, iv v34s0, iv v46s0, iv v64s0, iv v85s0, iv v112s0, iv v124s0, iv v142s0, iv v163s0, rv r_11, rv r_12, rv r_13, iv s220, iv s228, rv r_36, uu] [])) (fun t k => XS.astore X36.here hx rfl (hb hby at_329) rfl rfl (l' := #[iv i0, iv i1, iv i2, iv i3, iv s6, iv s17, iv s28, iv v34s0, iv v46s0, iv v64s0, iv v85s0, iv v112s0, iv v124s0, iv v142s0, iv v163s0, rv r_11, rv r_12, rv r_13, iv s220, iv s228, rv r_36, uu]) rfl k) ?_
                          refine oGO (n := 341) X36 hx (hb hby at_331) (by decide) (by decide) ?_
                          refine oIL (n := 343) X36 hx (hb hby at_341) rfl rfl ?_
                          refine oIC (n := 344) X36 hx (1 : Int32) (hb hby at_343) (by decide) rfl ?_
                          have hc344 : ¬ (s220 = (1 : Int32)) := by rw [hc319]; decide
                          refine ov (B := T36.setTop (mkF m 378 #[iv i0, iv i1, iv i2, iv i3, iv s6, iv s17, iv s28, iv v34s0, iv v46s0, iv v64s0, iv v85s0, iv v112s0, iv v124s0, iv v142s0, iv v163s0, rv r_11, rv r_12, rv r_13, iv s220, iv s228, rv r_36, uu] [])) (fun t k => XS.icmpYes X36.here hx rfl (pc0 := 344) (pc' := 378) rfl (hb hby at_344) rfl (feq hc344).2 (by decide) (by decide) k) ?_
                          refine oIC (n := 379) X36 hx (0 : Int32) (hb hby at_378) (by decide) rfl ?_
                          refine ov (B := T36.setTop (mkF m 381 #[iv i0, iv i1, iv i2, iv i3, iv s6, iv s17, iv s28, iv v34s0, iv v46s0, iv v64s0, iv v85s0, iv v112s0, iv v124s0, iv v142s0, iv v163s0, rv r_11, rv r_12, rv r_13, iv s220, iv s228, rv r_36, iv (0 : Int32)] [])) (fun t k => XS.istore X36.here hx rfl (hb hby at_379) rfl (l' := #[iv i0, iv i1, iv i2, iv i3, iv s6, iv s17, iv s28, iv v34s0, iv v46s0, iv v64s0, iv v85s0, iv v112s0, iv v124s0, iv v142s0, iv v163s0, rv r_11, rv r_12, rv r_13, iv s220, iv s228, rv r_36, iv (0 : Int32)]) rfl k) ?_
                          obtain ⟨T37, h37, X37, e37, E37, A37, D37, -, st37⟩ := newO X36 hx hZ hown (oW hw 93 rfl) (oW hw 94 rfl) (oW hw 95 rfl) rfl (g := (mkF m 381 #[iv i0, iv i1, iv i2, iv i3, iv s6, iv s17, iv s28, iv v34s0, iv v46s0, iv v64s0, iv v85s0, iv v112s0, iv v124s0, iv v142s0, iv v163s0, rv r_11, rv r_12, rv r_13, iv s220, iv s228, rv r_36, iv (0 : Int32)] [])) rfl (hb hby at_381) (by decide) (by decide)
                          obtain ⟨bpp, g37⟩ : ∃ z, z = T36.heap.size := ⟨_, rfl⟩
                          rw [← g37] at A37 D37 st37
                          have g_bpp : n0 ≤ bpp := Nat.le_trans (Nat.le_trans (Nat.le_trans (Nat.le_trans (Nat.le_trans Z0 Kq11.1) Kq12.1) Kq13.1) Kq36.1) (Nat.le_of_eq g37.symm)
                          have F37_account : Fld Z h37 bpp sAF "account" sAH .null := D37 (Or.inr (oW hw 101 rfl)) (ty := (.object sAB)) (by decide)
                          refine ov (B := T37.setTop (mkF m 384 #[iv i0, iv i1, iv i2, iv i3, iv s6, iv s17, iv s28, iv v34s0, iv v46s0, iv v64s0, iv v85s0, iv v112s0, iv v124s0, iv v142s0, iv v163s0, rv r_11, rv r_12, rv r_13, iv s220, iv s228, rv r_36, iv (0 : Int32)] [(.ref bpp)])) (fun t k => st37 t k) ?_
                          refine oDU (n := 385) X37 hx (hb hby at_384) rfl rfl ?_
                          refine oAL (n := 387) X37 hx (hb hby at_385) rfl rfl rfl ?_
                          obtain ⟨_, _, ⟨T38, L38, k38, n38⟩, -, X38, ⟨Lc38, hQ38, l38, y38, z38⟩, st38⟩ := X37.specialBack hx (y := (⟨sAF, "<init>", sAT⟩ : MethodName)) rfl hown (mvT hZ (oW hw 96 rfl)) (mvT hZ (oW hw 97 rfl)) (mvT hZ (oW hw 98 rfl)) (by decide) (backOf (W := 1) (rmPi l Z a0 hw [] bpp r_11 .null h37 n0 (Nat.le_trans (Nat.le_trans (Nat.le_trans (Nat.le_trans (Nat.le_trans Z0 Kq11.1) Kq12.1) Kq13.1) Kq36.1) E37.1) A37 F37_account g_bpp) hZ (oW hw 98 rfl) (oW hw 95 rfl) (by decide) (by decide)) (g := (mkF m 387 #[iv i0, iv i1, iv i2, iv i3, iv s6, iv s17, iv s28, iv v34s0, iv v46s0, iv v64s0, iv v85s0, iv v112s0, iv v124s0, iv v142s0, iv v163s0, rv r_11, rv r_12, rv r_13, iv s220, iv s228, rv r_36, iv (0 : Int32)] [(.ref r_11), (.ref bpp), (.ref bpp)])) rfl (by rw [hml]; rfl) (Steps.refl _) (a := bpp) (argsL := [(.ref r_11)]) (rest := [(.ref bpp)]) (lenOf own_pd15 rfl) rfl (by show 2 * 0 + _ ≤ _; exact Nat.le_of_eq rfl) (hb hby at_387) (fun _ _ => ⟨rfl, e37, (by decide : (((((0 + 5) + 3) + 3) + 13) + 1) + 0 ≤ _), (by decide : (((((0 + 12) + 8) + 8) + 224) + 1) + 0 ≤ _)⟩)
                          dsimp only [Pt.U, Pt.locs, Pt.cells, Pt.slots] at X38 l38 y38 z38 st38 hQ38
                          subst l38 y38 z38
                          obtain ⟨rfl, Nq38, Kq38, f38_0⟩ := hQ38
                          have N38 := Fr.app N36 Nq38
                          refine ov (B := T38.setTop (mkF m 390 #[iv i0, iv i1, iv i2, iv i3, iv s6, iv s17, iv s28, iv v34s0, iv v46s0, iv v64s0, iv v85s0, iv v112s0, iv v124s0, iv v142s0, iv v163s0, rv r_11, rv r_12, rv r_13, iv s220, iv s228, rv r_36, iv (0 : Int32)] [(.ref bpp)])) (fun t k => st38.trans k) ?_
                          refine oAL (n := 392) X38 hx (hb hby at_390) rfl rfl rfl ?_
                          obtain ⟨cq39, kq39, q39a, q39b, q39c⟩ := isOf hZ rfl (A37.keep Kq38)
                          obtain ⟨_, _, ⟨T39, L39, k39, n39⟩, -, X39, ⟨Lc39, hQ39, l39, y39, z39⟩, st39⟩ := X38.virtualBack hx (y := (⟨sAF, "matches", sAO⟩ : MethodName)) (z := (⟨sAF, "matches", sAO⟩ : MethodName)) hown (mvT hZ (oW hw 102 rfl)) (mvT hZ (oW hw 103 rfl)) (notFace_of_selects (args := #[]) (mvT hZ (oW hw 105 rfl))) (mvT hZ (oW hw 105 rfl)) (mvT hZ (oW hw 104 rfl)) (by decide) (backOf (W := 0) (rmM3 l Z a0 hw [] bpp r_36 zc w0 w1 w2 w3 w4 w5 T38.heap n0 (Nat.le_trans (Nat.le_trans (Nat.le_trans (Nat.le_trans (Nat.le_trans (Nat.le_trans Z0 Kq11.1) Kq12.1) Kq13.1) Kq36.1) E37.1) Kq38.1) (by assumption) ((((((O0.keep Kq11 all0).keep Kq12 all0).keep Kq13 all0).keep Kq36 all0).ext E37).keep Kq38 (allS g_bpp all0)) (by assumption) (by assumption) ((f36_0.ext E37).keep Kq38) ((f36_1.ext E37).keep Kq38 (ninS (Nat.ne_of_lt (Nat.lt_of_lt_of_le f36_0.lt (Nat.le_of_eq g37.symm))) nin0))) hZ (oW hw 106 rfl) (oW hw 95 rfl) (by decide) (by decide)) q39a q39c (g := (mkF m 392 #[iv i0, iv i1, iv i2, iv i3, iv s6, iv s17, iv s28, iv v34s0, iv v46s0, iv v64s0, iv v85s0, iv v112s0, iv v124s0, iv v142s0, iv v163s0, rv r_11, rv r_12, rv r_13, iv s220, iv s228, rv r_36, iv (0 : Int32)] [(.ref r_36), (.ref bpp)])) rfl (by rw [hml]; rfl) (Steps.refl _) (argsL := [(.ref r_36)]) (rest := []) (lenOf own_pd16 rfl) rfl (by show 2 * 0 + _ ≤ _; exact Nat.le_of_eq rfl) (hb hby at_392) (fun _ _ => ⟨rfl, rfl, (by decide : ((((((0 + 5) + 3) + 3) + 13) + 1) + 0) + 0 ≤ _), (by decide : ((((((0 + 12) + 8) + 8) + 224) + 1) + 0) + 0 ≤ _)⟩)
                          dsimp only [Pt.U, Pt.locs, Pt.cells, Pt.slots] at X39 l39 y39 z39 st39 hQ39
                          subst l39 y39 z39
                          obtain ⟨rfl, Nq39, eq39⟩ := hQ39
                          have N39 := Fr.app N38 Nq39
                          refine ov (B := T39.setTop (mkF m 395 #[iv i0, iv i1, iv i2, iv i3, iv s6, iv s17, iv s28, iv v34s0, iv v46s0, iv v64s0, iv v85s0, iv v112s0, iv v124s0, iv v142s0, iv v163s0, rv r_11, rv r_12, rv r_13, iv s220, iv s228, rv r_36, iv (0 : Int32)] [(.int (0 : Int32))])) (fun t k => st39.trans k) ?_
                          refine oIL (n := 397) X39 hx (hb hby at_395) rfl rfl ?_
                          have hc397 : (0 : Int32) = (0 : Int32) := by decide
                          refine ov (B := T39.setTop (mkF m 400 #[iv i0, iv i1, iv i2, iv i3, iv s6, iv s17, iv s28, iv v34s0, iv v46s0, iv v64s0, iv v85s0, iv v112s0, iv v124s0, iv v142s0, iv v163s0, rv r_11, rv r_12, rv r_13, iv s220, iv s228, rv r_36, iv (0 : Int32)] [])) (fun t k => XS.icmpNo X39.here hx rfl (hb hby at_397) rfl (teq hc397).2 k) ?_
                          refine oIC (n := 401) X39 hx (1 : Int32) (hb hby at_400) (by decide) rfl ?_
                          refine oGO (n := 405) X39 hx (hb hby at_401) (by decide) (by decide) ?_
                          refine own_leafW X39 hx hlk hS36 (by rw [eq39]; exact (Nat.le_trans (Nat.le_trans (Nat.le_refl _) E37.1) Kq38.1)) (t := .boolean) Bd.returns (by decide) (Or.inl ⟨rfl, by simp, _, rfl⟩) (hb hby at_405) (by decide) (by decide) ?_
                          show Q0 Z i0 i1 i2 i3 zc w0 w1 w2 w3 w4 w5 wN h0 n0 _ T39.heap _
                          rw [eq39]
                          refine ⟨?_, N39⟩
                          rfl
                        · refine ov (B := T13.setTop (mkF m 334 #[iv i0, iv i1, iv i2, iv i3, iv s6, iv s17, iv s28, iv v34s0, iv v46s0, iv v64s0, iv v85s0, iv v112s0, iv v124s0, iv v142s0, iv v163s0, rv r_11, rv r_12, rv r_13, iv s220, iv s228, uu, uu] [])) (fun t k => XS.icmpYes X13.here hx rfl (pc0 := 319) (pc' := 334) rfl (hb hby at_319) rfl (feq hc319).2 (by decide) (by decide) k) ?_
                          refine oAL (n := 336) X13 hx (hb hby at_334) rfl rfl rfl ?_
                          obtain ⟨_, _, ⟨T40, L40, k40, n40⟩, -, X40, hT40, gT40, ⟨Lc40, hQ40, l40, y40, z40⟩, st40⟩ := callSS X13 hx (y := (⟨sAA, "service", "(Ljava/lang/String;)Lcom/example/wardstone/wardstone/request/Requester;"⟩ : MethodName)) hown (mvT hZ (oW hw 114 rfl)) (mvT hZ (oW hw 115 rfl)) (mvT hZ (oW hw 39 rfl)) (mvT hZ (oW hw 116 rfl)) (by decide) (backOfS (W := 0) (rmF5 l Z a0 hw [] r_13 w0 w1 w2 w3 w4 w5 tr_13 kr_13 (own_s3 v163s0 v124s0 v142s0) T13.heap n0 (Nat.le_trans (Nat.le_trans (Nat.le_trans Z0 Kq11.1) Kq12.1) Kq13.1) (by assumption) (((O0.keep Kq11 all0).keep Kq12 all0).keep Kq13 all0) f13_0 f13_1 f13_2 f13_3 (own_s3p hch_v124s0 hch_v142s0) (own_s3l' hl_v163 v124s0 v142s0)) hZ (oW hw 116 rfl) (oW hw 39 rfl) (by decide) (by decide)) (g := (mkF m 336 #[iv i0, iv i1, iv i2, iv i3, iv s6, iv s17, iv s28, iv v34s0, iv v46s0, iv v64s0, iv v85s0, iv v112s0, iv v124s0, iv v142s0, iv v163s0, rv r_11, rv r_12, rv r_13, iv s220, iv s228, uu, uu] [(.ref r_13)])) rfl (by rw [hml]; rfl) (argsL := [(.ref r_13)]) (rest := []) (lenOf own_pd17 rfl) rfl (by show 2 * 0 + _ ≤ _; exact Nat.le_of_eq rfl) (hb hby at_336) (fun _ _ => ⟨rfl, rfl, (by decide : (((0 + 5) + 3) + 3) + 13 ≤ _), (by decide : (((0 + 12) + 8) + 8) + 224 ≤ _)⟩)
                          dsimp only [Pt.U, Pt.locs, Pt.cells, Pt.slots] at X40 l40 y40 z40 st40 hQ40 hT40 gT40
                          subst l40 y40 z40
                          obtain ⟨X40, hS40, hZ, hown⟩ := rebS hS11 (Nat.le_trans (Nat.le_trans (Nat.le_refl _) Kq12.1) Kq13.1) X40 hT40 gT40 hZ hown
                          obtain ⟨r_40, rfl, Nq40, Kq40, hr_40, f40_0, f40_1⟩ := hQ40
                          have N40 := Fr.app N13 Nq40
                          have g_r_40 : n0 ≤ r_40 := Nat.le_trans (Nat.le_trans (Nat.le_trans (Nat.le_trans Z0 Kq11.1) Kq12.1) Kq13.1) hr_40
                          refine ov (B := T40.setTop (mkF m 339 #[iv i0, iv i1, iv i2, iv i3, iv s6, iv s17, iv s28, iv v34s0, iv v46s0, iv v64s0, iv v85s0, iv v112s0, iv v124s0, iv v142s0, iv v163s0, rv r_11, rv r_12, rv r_13, iv s220, iv s228, uu, uu] [(.ref r_40)])) (fun t k => st40.trans k) ?_
                          refine ov (B := T40.setTop (mkF m 341 #[iv i0, iv i1, iv i2, iv i3, iv s6, iv s17, iv s28, iv v34s0, iv v46s0, iv v64s0, iv v85s0, iv v112s0, iv v124s0, iv v142s0, iv v163s0, rv r_11, rv r_12, rv r_13, iv s220, iv s228, rv r_40, uu] [])) (fun t k => XS.astore X40.here hx rfl (hb hby at_339) rfl rfl (l' := #[iv i0, iv i1, iv i2, iv i3, iv s6, iv s17, iv s28, iv v34s0, iv v46s0, iv v64s0, iv v85s0, iv v112s0, iv v124s0, iv v142s0, iv v163s0, rv r_11, rv r_12, rv r_13, iv s220, iv s228, rv r_40, uu]) rfl k) ?_
                          refine oIL (n := 343) X40 hx (hb hby at_341) rfl rfl ?_
                          refine oIC (n := 344) X40 hx (1 : Int32) (hb hby at_343) (by decide) rfl ?_
                          have hc344 : ¬ (s220 = (1 : Int32)) := hc246
                          refine ov (B := T40.setTop (mkF m 378 #[iv i0, iv i1, iv i2, iv i3, iv s6, iv s17, iv s28, iv v34s0, iv v46s0, iv v64s0, iv v85s0, iv v112s0, iv v124s0, iv v142s0, iv v163s0, rv r_11, rv r_12, rv r_13, iv s220, iv s228, rv r_40, uu] [])) (fun t k => XS.icmpYes X40.here hx rfl (pc0 := 344) (pc' := 378) rfl (hb hby at_344) rfl (feq hc344).2 (by decide) (by decide) k) ?_
                          refine oIC (n := 379) X40 hx (0 : Int32) (hb hby at_378) (by decide) rfl ?_
                          refine ov (B := T40.setTop (mkF m 381 #[iv i0, iv i1, iv i2, iv i3, iv s6, iv s17, iv s28, iv v34s0, iv v46s0, iv v64s0, iv v85s0, iv v112s0, iv v124s0, iv v142s0, iv v163s0, rv r_11, rv r_12, rv r_13, iv s220, iv s228, rv r_40, iv (0 : Int32)] [])) (fun t k => XS.istore X40.here hx rfl (hb hby at_379) rfl (l' := #[iv i0, iv i1, iv i2, iv i3, iv s6, iv s17, iv s28, iv v34s0, iv v46s0, iv v64s0, iv v85s0, iv v112s0, iv v124s0, iv v142s0, iv v163s0, rv r_11, rv r_12, rv r_13, iv s220, iv s228, rv r_40, iv (0 : Int32)]) rfl k) ?_
                          obtain ⟨T41, h41, X41, e41, E41, A41, D41, -, st41⟩ := newO X40 hx hZ hown (oW hw 93 rfl) (oW hw 94 rfl) (oW hw 95 rfl) rfl (g := (mkF m 381 #[iv i0, iv i1, iv i2, iv i3, iv s6, iv s17, iv s28, iv v34s0, iv v46s0, iv v64s0, iv v85s0, iv v112s0, iv v124s0, iv v142s0, iv v163s0, rv r_11, rv r_12, rv r_13, iv s220, iv s228, rv r_40, iv (0 : Int32)] [])) rfl (hb hby at_381) (by decide) (by decide)
                          obtain ⟨bpp, g41⟩ : ∃ z, z = T40.heap.size := ⟨_, rfl⟩
                          rw [← g41] at A41 D41 st41
                          have g_bpp : n0 ≤ bpp := Nat.le_trans (Nat.le_trans (Nat.le_trans (Nat.le_trans (Nat.le_trans Z0 Kq11.1) Kq12.1) Kq13.1) Kq40.1) (Nat.le_of_eq g41.symm)
                          have F41_account : Fld Z h41 bpp sAF "account" sAH .null := D41 (Or.inr (oW hw 101 rfl)) (ty := (.object sAB)) (by decide)
                          refine ov (B := T41.setTop (mkF m 384 #[iv i0, iv i1, iv i2, iv i3, iv s6, iv s17, iv s28, iv v34s0, iv v46s0, iv v64s0, iv v85s0, iv v112s0, iv v124s0, iv v142s0, iv v163s0, rv r_11, rv r_12, rv r_13, iv s220, iv s228, rv r_40, iv (0 : Int32)] [(.ref bpp)])) (fun t k => st41 t k) ?_
                          refine oDU (n := 385) X41 hx (hb hby at_384) rfl rfl ?_
                          refine oAL (n := 387) X41 hx (hb hby at_385) rfl rfl rfl ?_
                          obtain ⟨_, _, ⟨T42, L42, k42, n42⟩, -, X42, ⟨Lc42, hQ42, l42, y42, z42⟩, st42⟩ := X41.specialBack hx (y := (⟨sAF, "<init>", sAT⟩ : MethodName)) rfl hown (mvT hZ (oW hw 96 rfl)) (mvT hZ (oW hw 97 rfl)) (mvT hZ (oW hw 98 rfl)) (by decide) (backOf (W := 1) (rmPi l Z a0 hw [] bpp r_11 .null h41 n0 (Nat.le_trans (Nat.le_trans (Nat.le_trans (Nat.le_trans (Nat.le_trans Z0 Kq11.1) Kq12.1) Kq13.1) Kq40.1) E41.1) A41 F41_account g_bpp) hZ (oW hw 98 rfl) (oW hw 95 rfl) (by decide) (by decide)) (g := (mkF m 387 #[iv i0, iv i1, iv i2, iv i3, iv s6, iv s17, iv s28, iv v34s0, iv v46s0, iv v64s0, iv v85s0, iv v112s0, iv v124s0, iv v142s0, iv v163s0, rv r_11, rv r_12, rv r_13, iv s220, iv s228, rv r_40, iv (0 : Int32)] [(.ref r_11), (.ref bpp), (.ref bpp)])) rfl (by rw [hml]; rfl) (Steps.refl _) (a := bpp) (argsL := [(.ref r_11)]) (rest := [(.ref bpp)]) (lenOf own_pd15 rfl) rfl (by show 2 * 0 + _ ≤ _; exact Nat.le_of_eq rfl) (hb hby at_387) (fun _ _ => ⟨rfl, e41, (by decide : (((((0 + 5) + 3) + 3) + 13) + 1) + 0 ≤ _), (by decide : (((((0 + 12) + 8) + 8) + 224) + 1) + 0 ≤ _)⟩)
                          dsimp only [Pt.U, Pt.locs, Pt.cells, Pt.slots] at X42 l42 y42 z42 st42 hQ42
                          subst l42 y42 z42
                          obtain ⟨rfl, Nq42, Kq42, f42_0⟩ := hQ42
                          have N42 := Fr.app N40 Nq42
                          refine ov (B := T42.setTop (mkF m 390 #[iv i0, iv i1, iv i2, iv i3, iv s6, iv s17, iv s28, iv v34s0, iv v46s0, iv v64s0, iv v85s0, iv v112s0, iv v124s0, iv v142s0, iv v163s0, rv r_11, rv r_12, rv r_13, iv s220, iv s228, rv r_40, iv (0 : Int32)] [(.ref bpp)])) (fun t k => st42.trans k) ?_
                          refine oAL (n := 392) X42 hx (hb hby at_390) rfl rfl rfl ?_
                          obtain ⟨cq43, kq43, q43a, q43b, q43c⟩ := isOf hZ rfl (A41.keep Kq42)
                          obtain ⟨_, _, ⟨T43, L43, k43, n43⟩, -, X43, ⟨Lc43, hQ43, l43, y43, z43⟩, st43⟩ := X42.virtualBack hx (y := (⟨sAF, "matches", sAO⟩ : MethodName)) (z := (⟨sAF, "matches", sAO⟩ : MethodName)) hown (mvT hZ (oW hw 102 rfl)) (mvT hZ (oW hw 103 rfl)) (notFace_of_selects (args := #[]) (mvT hZ (oW hw 105 rfl))) (mvT hZ (oW hw 105 rfl)) (mvT hZ (oW hw 104 rfl)) (by decide) (backOf (W := 0) (rmM5 l Z a0 hw [] bpp r_40 zc w0 w1 w2 w3 w4 w5 T42.heap n0 (Nat.le_trans (Nat.le_trans (Nat.le_trans (Nat.le_trans (Nat.le_trans (Nat.le_trans Z0 Kq11.1) Kq12.1) Kq13.1) Kq40.1) E41.1) Kq42.1) (by assumption) ((((((O0.keep Kq11 all0).keep Kq12 all0).keep Kq13 all0).keep Kq40 all0).ext E41).keep Kq42 (allS g_bpp all0)) (by assumption) (by assumption) ((f40_0.ext E41).keep Kq42) ((f40_1.ext E41).keep Kq42 (ninS (Nat.ne_of_lt (Nat.lt_of_lt_of_le f40_0.lt (Nat.le_of_eq g41.symm))) nin0))) hZ (oW hw 106 rfl) (oW hw 95 rfl) (by decide) (by decide)) q43a q43c (g := (mkF m 392 #[iv i0, iv i1, iv i2, iv i3, iv s6, iv s17, iv s28, iv v34s0, iv v46s0, iv v64s0, iv v85s0, iv v112s0, iv v124s0, iv v142s0, iv v163s0, rv r_11, rv r_12, rv r_13, iv s220, iv s228, rv r_40, iv (0 : Int32)] [(.ref r_40), (.ref bpp)])) rfl (by rw [hml]; rfl) (Steps.refl _) (argsL := [(.ref r_40)]) (rest := []) (lenOf own_pd16 rfl) rfl (by show 2 * 0 + _ ≤ _; exact Nat.le_of_eq rfl) (hb hby at_392) (fun _ _ => ⟨rfl, rfl, (by decide : ((((((0 + 5) + 3) + 3) + 13) + 1) + 0) + 0 ≤ _), (by decide : ((((((0 + 12) + 8) + 8) + 224) + 1) + 0) + 0 ≤ _)⟩)
                          dsimp only [Pt.U, Pt.locs, Pt.cells, Pt.slots] at X43 l43 y43 z43 st43 hQ43
                          subst l43 y43 z43
                          obtain ⟨rfl, Nq43, eq43⟩ := hQ43
                          have N43 := Fr.app N42 Nq43
                          refine ov (B := T43.setTop (mkF m 395 #[iv i0, iv i1, iv i2, iv i3, iv s6, iv s17, iv s28, iv v34s0, iv v46s0, iv v64s0, iv v85s0, iv v112s0, iv v124s0, iv v142s0, iv v163s0, rv r_11, rv r_12, rv r_13, iv s220, iv s228, rv r_40, iv (0 : Int32)] [(.int (0 : Int32))])) (fun t k => st43.trans k) ?_
                          refine oIL (n := 397) X43 hx (hb hby at_395) rfl rfl ?_
                          have hc397 : (0 : Int32) = (0 : Int32) := by decide
                          refine ov (B := T43.setTop (mkF m 400 #[iv i0, iv i1, iv i2, iv i3, iv s6, iv s17, iv s28, iv v34s0, iv v46s0, iv v64s0, iv v85s0, iv v112s0, iv v124s0, iv v142s0, iv v163s0, rv r_11, rv r_12, rv r_13, iv s220, iv s228, rv r_40, iv (0 : Int32)] [])) (fun t k => XS.icmpNo X43.here hx rfl (hb hby at_397) rfl (teq hc397).2 k) ?_
                          refine oIC (n := 401) X43 hx (1 : Int32) (hb hby at_400) (by decide) rfl ?_
                          refine oGO (n := 405) X43 hx (hb hby at_401) (by decide) (by decide) ?_
                          refine own_leafW X43 hx hlk hS40 (by rw [eq43]; exact (Nat.le_trans (Nat.le_trans (Nat.le_refl _) E41.1) Kq42.1)) (t := .boolean) Bd.returns (by decide) (Or.inl ⟨rfl, by simp, _, rfl⟩) (hb hby at_405) (by decide) (by decide) ?_
                          show Q0 Z i0 i1 i2 i3 zc w0 w1 w2 w3 w4 w5 wN h0 n0 _ T43.heap _
                          rw [eq43]
                          refine ⟨?_, N43⟩
                          rfl
set_option maxRecDepth 65536 in
set_option maxHeartbeats 40000000 in
theorem comes_1 {Post : Tables → Env → Array Value → State → Outcome → State → Prop} (hpost : ∀ tb e args s v u, (limb_1_1.after args s (.returned v) u = true ∧ limb_1_2.after args s (.returned v) u = true ∧ True) → ReturnedEndW s (.returned v) u (Jvm.fieldLocs frame_1_writes args s ++ Jvm.arrayLocs frame_1_arrays args s ++ Jvm.staticLocs frame_1_statics s) 48 7360 → Post tb e args s (.returned v) u) :
    ArmFor flags0 classFile x code maxLocals ret World_1 tables_1 room_1 Calls_1 rest_1 Pre_1 Post := by
  intro l hfl _ _ p e ha hc hk s m args below hf hA hF happ hP
  obtain ⟨hcalls, hrest, hpre⟩ := hP
  obtain ⟨-, -, -, hnamed, -, -, -, hat⟩ := (Spec.applies_iff hf).mp happ
  obtain ⟨hg, hn⟩ := and_e (Cond.before_iff.mp (show (Jvm.Cond.and given_1 narrow_1).before args s = true from hpre))
  obtain ⟨g1, g2⟩ := and_e hg
  obtain ⟨g3, g4⟩ := and_e g2
  obtain ⟨g5, g6⟩ := and_e g4
  obtain ⟨g7, g8⟩ := and_e g6
  obtain ⟨g9, g10⟩ := and_e hn
  obtain ⟨g11, g12⟩ := and_e g10
  obtain ⟨g13, g14⟩ := and_e g12
  obtain ⟨g15, g16⟩ := and_e g14
  obtain ⟨g17, g18⟩ := and_e g16
  obtain ⟨g19, g20⟩ := and_e g18
  obtain ⟨g21, g22⟩ := and_e g20
  obtain ⟨g23, g24⟩ := and_e g22
  obtain ⟨g25, g26⟩ := and_e g24
  obtain ⟨g27, g28⟩ := and_e g26
  obtain ⟨g29, g30⟩ := and_e g28
  obtain ⟨g31, g32⟩ := and_e g30
  obtain ⟨g33, g34⟩ := and_e g32
  obtain ⟨w0, w1, w2, w3, rfl⟩ : ∃ w0 w1 w2 w3 : Value, args = #[w0, w1, w2, w3] := by
    have hs : args.size = 4 := by simpa [Cond.value, given_1] using g1
    obtain ⟨L⟩ := args
    match L, hs with
    | [w0, w1, w2, w3], _ => exact ⟨w0, w1, w2, w3, rfl⟩
  have hw := fun d (hd : d ∈ tables_1) => atoms_spec (ws := Jvm.Cond.code x code maxLocals ret :: tables_1) hat d (List.mem_cons_of_mem _ hd)
  have hfit : Fit s := fun {y c} hc i hi => by
    obtain ⟨ha, rfl⟩ := Array.getElem?_eq_some_iff.mp hc
    have q := List.all_eq_true.mp ((Array.all_eq_true_iff_forall_mem.mp hF) _ (Array.getElem_mem ha)) i (List.mem_range.mpr hi)
    simpa [Array.getElem?_eq_getElem hi] using q
  obtain ⟨i0, ei0⟩ := is_v g3
  obtain rfl : w0 = (.int i0) := Option.some.inj ei0
  obtain ⟨i1, ei1⟩ := is_v g5
  obtain rfl : w1 = (.int i1) := Option.some.inj ei1
  obtain ⟨i2, ei2⟩ := is_v g7
  obtain rfl : w2 = (.int i2) := Option.some.inj ei2
  obtain ⟨i3, ei3⟩ := is_v g8
  obtain rfl : w3 = (.int i3) := Option.some.inj ei3
  obtain ⟨hsets, hown0⟩ := atoms_of _ (rest_1_c_eq ▸ (show rest_1_c.before _ s = true from hrest))
  have hr0 := Cond.before_iff.mp hown0
  obtain ⟨zc, evz⟩ := is_v (Cond.before_iff.mp (hsets _ (List.mem_of_getElem? (i := 1) rfl)))
  have Scz : Sta s s.heap sAB "COMPACT_STRINGS" "Z" (.int zc) := Sta.start evz (Or.inl (hsets _ (List.mem_of_getElem? (i := 0) rfl)))
  have hcz : ¬ zc = 0 := fun q => by have z := not_v (Cond.before_iff.mp (hsets _ (List.mem_of_getElem? (i := 2) rfl))); rw [eq_i evz rfl (by rw [q])] at z; cases z
  have hcw : Jvm.Lit.compactW.before _ s = true := (hsets _ (List.mem_of_getElem? (i := 2) rfl))
  obtain ⟨w_USER, _, _, _, ev_USER, -⟩ := Cond.exactly_spec (Cond.before_iff.mpr g9)
  have S_USER : Sta s s.heap sAC "USER" sAG (.ref w_USER) := Sta.start ev_USER (Or.inr ⟨(oW hw 44 rfl), (oW hw 45 rfl)⟩)
  have E_USER : Exa s s.heap w_USER sAC := Exa.start ev_USER g9
  obtain ⟨w_FEDERATED_USER, _, _, _, ev_FEDERATED_USER, -⟩ := Cond.exactly_spec (Cond.before_iff.mpr g11)
  have S_FEDERATED_USER : Sta s s.heap sAC "FEDERATED_USER" sAG (.ref w_FEDERATED_USER) := Sta.start ev_FEDERATED_USER (Or.inr ⟨(oW hw 44 rfl), (oW hw 56 rfl)⟩)
  have E_FEDERATED_USER : Exa s s.heap w_FEDERATED_USER sAC := Exa.start ev_FEDERATED_USER g11
  obtain ⟨w_ANONYMOUS, _, _, _, ev_ANONYMOUS, -⟩ := Cond.exactly_spec (Cond.before_iff.mpr g17)
  have S_ANONYMOUS : Sta s s.heap sAC "ANONYMOUS" sAG (.ref w_ANONYMOUS) := Sta.start ev_ANONYMOUS (Or.inr ⟨(oW hw 44 rfl), (oW hw 58 rfl)⟩)
  have E_ANONYMOUS : Exa s s.heap w_ANONYMOUS sAC := Exa.start ev_ANONYMOUS g17
  obtain ⟨w_SERVICE, _, _, _, ev_SERVICE, -⟩ := Cond.exactly_spec (Cond.before_iff.mpr g21)
  have S_SERVICE : Sta s s.heap sAC "SERVICE" sAG (.ref w_SERVICE) := Sta.start ev_SERVICE (Or.inr ⟨(oW hw 44 rfl), (oW hw 60 rfl)⟩)
  have E_SERVICE : Exa s s.heap w_SERVICE sAC := Exa.start ev_SERVICE g21
  obtain ⟨w_AGENCY, _, _, _, ev_AGENCY, -⟩ := Cond.exactly_spec (Cond.before_iff.mpr g25)
  have S_AGENCY : Sta s s.heap sAC "AGENCY" sAG (.ref w_AGENCY) := Sta.start ev_AGENCY (Or.inr ⟨(oW hw 44 rfl), (oW hw 62 rfl)⟩)
  have E_AGENCY : Exa s s.heap w_AGENCY sAC := Exa.start ev_AGENCY g25
  obtain ⟨w_ACCOUNT, _, _, _, ev_ACCOUNT, -⟩ := Cond.exactly_spec (Cond.before_iff.mpr g29)
  have S_ACCOUNT : Sta s s.heap sAC "ACCOUNT" sAG (.ref w_ACCOUNT) := Sta.start ev_ACCOUNT (Or.inr ⟨(oW hw 44 rfl), (oW hw 113 rfl)⟩)
  have E_ACCOUNT : Exa s s.heap w_ACCOUNT sAC := Exa.start ev_ACCOUNT g29
  obtain ⟨w_ANONYMOUS_Requester, _, _, _, ev_ANONYMOUS_Requester, -⟩ := Cond.exactly_spec (Cond.before_iff.mpr g33)
  have S_ANONYMOUS_Requester : Sta s s.heap sAA "ANONYMOUS" "Lcom/example/wardstone/wardstone/request/Requester;" (.ref w_ANONYMOUS_Requester) := Sta.start ev_ANONYMOUS_Requester (Or.inr ⟨(oW hw 39 rfl), (oW hw 139 rfl)⟩)
  have E_ANONYMOUS_Requester : Exa s s.heap w_ANONYMOUS_Requester sAA := Exa.start ev_ANONYMOUS_Requester g33
  have F_USER_ordinal : Fld s s.heap w_USER "java/lang/Enum" "ordinal" "I" (.int 2) := Fld.start ((fld_at ev_USER).symm.trans (own_eqI g13))
  have F_FEDERATED_USER_ordinal : Fld s s.heap w_FEDERATED_USER "java/lang/Enum" "ordinal" "I" (.int 4) := Fld.start ((fld_at ev_FEDERATED_USER).symm.trans (own_eqI g15))
  have F_ANONYMOUS_ordinal : Fld s s.heap w_ANONYMOUS "java/lang/Enum" "ordinal" "I" (.int 0) := Fld.start ((fld_at ev_ANONYMOUS).symm.trans (own_eqI g19))
  have F_SERVICE_ordinal : Fld s s.heap w_SERVICE "java/lang/Enum" "ordinal" "I" (.int 5) := Fld.start ((fld_at ev_SERVICE).symm.trans (own_eqI g23))
  have F_AGENCY_ordinal : Fld s s.heap w_AGENCY "java/lang/Enum" "ordinal" "I" (.int 3) := Fld.start ((fld_at ev_AGENCY).symm.trans (own_eqI g27))
  have F_ACCOUNT_ordinal : Fld s s.heap w_ACCOUNT "java/lang/Enum" "ordinal" "I" (.int 1) := Fld.start ((fld_at ev_ACCOUNT).symm.trans (own_eqI g31))
  have F_ANONYMOUS_Requester_kind : Fld s s.heap w_ANONYMOUS_Requester sAA "kind" sAG (.ref w_ANONYMOUS) := Fld.start ((fld_at ev_ANONYMOUS_Requester).symm.trans (own_eqR g34 ev_ANONYMOUS))
  have hch : Jvm.Lit.constHeld s sAR 7 := hcalls.1 _ (List.mem_of_getElem? (i := 0) rfl)
  obtain ⟨n, o, h1, h2, h3, _, L, rfl, ⟨rfl, N⟩, hq⟩ := rm0 l s _ hw tables_1 i0 i1 i2 i3 zc w_ANONYMOUS w_ACCOUNT w_USER w_AGENCY w_FEDERATED_USER w_SERVICE w_ANONYMOUS_Requester s.heap s.heap.size (Nat.le_refl _) ⟨⟨S_ANONYMOUS, F_ANONYMOUS_ordinal⟩, ⟨S_ACCOUNT, F_ACCOUNT_ordinal⟩, ⟨S_USER, F_USER_ordinal⟩, ⟨S_AGENCY, F_AGENCY_ordinal⟩, ⟨S_FEDERATED_USER, F_FEDERATED_USER_ordinal⟩, ⟨S_SERVICE, F_SERVICE_ordinal⟩⟩ (Old.start s) Scz hcz hch hcw S_ANONYMOUS_Requester E_ANONYMOUS_Requester F_ANONYMOUS_Requester_kind p e ha hc hk s m _ below hf ((Spec.applies_iff_loose hf).mp happ).1 ⟨rfl, State.Warmed39.refl s, rfl, IB.start⟩ trivial
  refine ⟨n, _, h1, h2, h3, hpost _ _ _ _ _ _ ⟨Cond.after_iff.mpr rfl, Cond.after_iff.mpr (eq_i res_at (Term.int_eval (1)) rfl), trivial⟩ ⟨hq.1, hq.2.1, hq.2.2.1, (hq.2.2.2.sift fun y hy => Or.inr (N y hy)).mono (by decide) (by decide)⟩⟩
theorem main_1_1 : Claimed_1_1 := comes_1 fun _ _ _ _ _ _ h hF => ⟨h.1, hF⟩
theorem main_1_2 : Claimed_1_2 := comes_1 fun _ _ _ _ _ _ h hF => ⟨h.2.1, hF⟩
end Jvm.Pilot.@@N@@
namespace Jvm.Pilot.@@N@@
open Jvm Jvm.ClassFile Sem Op Lib Jvm.Free Jvm.Stand Jvm.Pilot.@@N@@.Jvm.D
/-! MADE BY PROGRAM (witnessworld.py) out of the Statement's table words and the real class files: 26 classes; the members and pool entries that the words name. The judged class is class 1, her method 2. -/
namespace start1
open Jvm.ClassFile
def u (s : String) : CpInfo := .utf8 (stringToUtf16 s)
/-- a pool by its gaps: so many unusable entries, then the entry; so many at the end -/
def gap : Nat → List CpInfo → List CpInfo
  | 0, r => r
  | n + 1, r => .unusable :: gap n r
def poolList (es : List (Nat × CpInfo)) (last : Nat) : List CpInfo := es.foldr (fun e r => gap e.1 (e.2 :: r)) (gap last [])
def pool (es : List (Nat × CpInfo)) (last : Nat) : Array CpInfo := ⟨poolList es last⟩
def fileOf (pool : Array CpInfo) (this : Nat) (attrs : Array Attribute := #[]) (ms : Array MethodInfo := #[]) (fl : Nat := 33) (sup : Nat := 0) (ifs : Array Nat := #[]) (fds : Array FieldInfo := #[]) : ClassFile where
  minorVersion := 0
  majorVersion := 65
  constantPool := pool
  accessFlags := fl
  thisClass := this
  superClass := sup
  interfaces := ifs
  fields := fds
  methods := ms
  attributes := attrs
def plain (name : String) (sup : Option ClassId) : Class where
  name := name
  kind := .ordinary
  loader := none
  accessFlags := 33
  super := sup
  interfaces := #[]
  cf := none
  fields := #[]
  methods := #[]
  instanceTypes := #[]
  staticTypes := #[]
  resolved := #[]
  callSites := []
  init := .initialized
  statics := none
  mirror := none

def pool0 : Array CpInfo := pool [(5, u "<init>"), (0, u "()V"), (1, .class_ 10), (1, u "java/lang/Object")] 113

def k0c0 : Code := { maxStack := 0, maxLocals := 1, code := object_method_1_code, exceptionTable := #[], attributes := #[] }
def k0m0 : Method := { name := "<init>", desc := "()V", sig := { parameters := [], returnType := none }, accessFlags := 1, code := some k0c0 }
/-- java/lang/Object -/
def k0 : Class := { plain "java/lang/Object" none with
  accessFlags := 33
  interfaces := #[]
  cf := some (fileOf pool0 8 #[] #[{ accessFlags := 1, nameIndex := 5, descriptorIndex := 6, attributes := #[] }] 33 0 #[] #[])
  fields := #[]
  methods := #[k0m0]
  instanceTypes := #[]
  staticTypes := #[]
  resolved := Array.replicate 124 none
  statics := none }

def pool1 : Array CpInfo := pool [(2, .class_ 4), (1, u "java/lang/Object"), (0, u "<init>"), (0, u "()V"), (0, .string 8), (0, u ""), (0, .methodref 10 11), (0, .class_ 12), (0, .nameAndType 13 14), (0, u "java/lang/String"), (0, u "valueOf"), (0, u "(C)Ljava/lang/String;"), (0, .methodref 10 16), (0, .nameAndType 5 17), (0, u "([C)V"), (0, .methodref 19 20), (0, .class_ 21), (0, .nameAndType 22 23), (0, u "java/lang/Math"), (0, u "min"), (0, u "(II)I"), (0, .methodref 19 25), (0, .nameAndType 26 23), (0, u "max"), (0, .methodref 28 29), (0, .class_ 30), (0, .nameAndType 31 32), (0, u "com/example/wardstone/wardstone/policy/AccountMatchesPinLaw"), (0, u "str"), (0, u "(ICC)Ljava/lang/String;"), (0, .methodref 34 35), (0, .class_ 36), (0, .nameAndType 37 38), (0, u "com/example/wardstone/wardstone/request/Requester"), (0, u "anonymous"), (0, u "()Lcom/example/wardstone/wardstone/request/Requester;"), (0, .methodref 34 40), (0, .nameAndType 41 42), (0, u "account"), (0, u "(Ljava/lang/String;)Lcom/example/wardstone/wardstone/request/Requester;"), (0, .methodref 34 44), (0, .nameAndType 45 46), (0, u "user"), (0, u "(Ljava/lang/String;Ljava/lang/String;Ljava/lang/String;)Lcom/example/wardstone/wardstone/request/Requester;"), (0, .methodref 34 48), (0, .nameAndType 49 50), (0, u "agency"), (0, u "(Ljava/lang/String;Ljava/lang/String;)Lcom/example/wardstone/wardstone/request/Requester;"), (0, .methodref 34 52), (0, .nameAndType 53 42), (0, u "service"), (0, .class_ 55), (0, u "com/example/wardstone/wardstone/policy/PrincipalPattern$Account"), (0, .methodref 54 57), (0, .nameAndType 5 58), (0, u "(Ljava/lang/String;)V"), (0, .methodref 54 60), (0, .nameAndType 61 62), (0, u "matches"), (0, u "(Lcom/example/wardstone/wardstone/request/Requester;)Z"), (3, u "law"), (0, u "(IIII)Z")] 6

def k1m0 : Method := { name := "<init>", desc := "()V", sig := { parameters := [], returnType := none }, accessFlags := 2, code := none }
def k1c1 : Code := { maxStack := 6, maxLocals := 3, code := method_2_code, exceptionTable := #[], attributes := #[] }
def k1m1 : Method := { name := "str", desc := "(ICC)Ljava/lang/String;", sig := { parameters := [.int, .char, .char], returnType := some (.object "java/lang/String") }, accessFlags := 10, code := some k1c1 }
def k1c2 : Code := { maxStack := 3, maxLocals := 22, code := code, exceptionTable := #[], attributes := #[] }
def k1m2 : Method := { name := "law", desc := "(IIII)Z", sig := { parameters := [.int, .int, .int, .int], returnType := some .boolean }, accessFlags := 9, code := some k1c2 }
/-- com/example/wardstone/wardstone/policy/AccountMatchesPinLaw -/
def k1 : Class := { plain "com/example/wardstone/wardstone/policy/AccountMatchesPinLaw" (some 0) with
  accessFlags := 49
  interfaces := #[]
  cf := some (fileOf pool1 28 #[] #[{ accessFlags := 2, nameIndex := 5, descriptorIndex := 6, attributes := #[] }, { accessFlags := 10, nameIndex := 31, descriptorIndex := 32, attributes := #[] }, { accessFlags := 9, nameIndex := 66, descriptorIndex := 67, attributes := #[] }] 49 2 #[] #[])
  fields := #[]
  methods := #[k1m0, k1m1, k1m2]
  instanceTypes := #[]
  staticTypes := #[]
  resolved := Array.replicate 74 none
  statics := none }

def pool2 : Array CpInfo := pool [(1, .class_ 2), (0, u "java/lang/Math"), (1, .class_ 6), (1, u "java/lang/Object"), (0, u "<init>"), (0, u "()V"), (89, .class_ 100), (1, u "java/lang/Math$RandomNumberGeneratorHolder"), (71, u "negativeZeroFloatBits"), (0, u "J"), (2, u "negativeZeroDoubleBits"), (21, u "max"), (2, u "min"), (43, u "$assertionsDisabled"), (0, u "Z"), (88, u "(II)I"), (2, u "twoToTheDoubleScaleDown"), (0, u "D"), (4, u "twoToTheDoubleScaleUp"), (9, u "E"), (3, u "PI"), (2, u "TAU"), (2, u "DEGREES_TO_RADIANS"), (0, u "RADIANS_TO_DEGREES")] 94

def k2m0 : Method := { name := "<init>", desc := "()V", sig := { parameters := [], returnType := none }, accessFlags := 2, code := none }
def k2c1 : Code := { maxStack := 2, maxLocals := 2, code := jdk_29_method_65_code, exceptionTable := #[], attributes := #[] }
def k2m1 : Method := { name := "max", desc := "(II)I", sig := { parameters := [.int, .int], returnType := some .int }, accessFlags := 9, code := some k2c1 }
def k2c2 : Code := { maxStack := 2, maxLocals := 2, code := jdk_29_method_69_code, exceptionTable := #[], attributes := #[] }
def k2m2 : Method := { name := "min", desc := "(II)I", sig := { parameters := [.int, .int], returnType := some .int }, accessFlags := 9, code := some k2c2 }
/-- java/lang/Math -/
def k2 : Class := { plain "java/lang/Math" (some 0) with
  accessFlags := 49
  interfaces := #[]
  cf := some (fileOf pool2 1 #[.nestMembers #[98]] #[{ accessFlags := 2, nameIndex := 7, descriptorIndex := 8, attributes := #[] }, { accessFlags := 9, nameIndex := 198, descriptorIndex := 335, attributes := #[] }, { accessFlags := 9, nameIndex := 201, descriptorIndex := 335, attributes := #[] }] 49 4 #[] #[{ accessFlags := 25, nameIndex := 354, descriptorIndex := 339, attributes := #[] }, { accessFlags := 25, nameIndex := 358, descriptorIndex := 339, attributes := #[] }, { accessFlags := 25, nameIndex := 361, descriptorIndex := 339, attributes := #[] }, { accessFlags := 26, nameIndex := 364, descriptorIndex := 339, attributes := #[] }, { accessFlags := 26, nameIndex := 365, descriptorIndex := 339, attributes := #[] }, { accessFlags := 26, nameIndex := 172, descriptorIndex := 173, attributes := #[] }, { accessFlags := 26, nameIndex := 176, descriptorIndex := 173, attributes := #[] }, { accessFlags := 8, nameIndex := 344, descriptorIndex := 339, attributes := #[] }, { accessFlags := 8, nameIndex := 338, descriptorIndex := 339, attributes := #[] }, { accessFlags := 4120, nameIndex := 245, descriptorIndex := 246, attributes := #[] }])
  fields := #[{ name := "E", type := .double, accessFlags := 25, slot := 0, constantValue := 0 }, { name := "PI", type := .double, accessFlags := 25, slot := 1, constantValue := 0 }, { name := "TAU", type := .double, accessFlags := 25, slot := 2, constantValue := 0 }, { name := "DEGREES_TO_RADIANS", type := .double, accessFlags := 26, slot := 3, constantValue := 0 }, { name := "RADIANS_TO_DEGREES", type := .double, accessFlags := 26, slot := 4, constantValue := 0 }, { name := "negativeZeroFloatBits", type := .long, accessFlags := 26, slot := 5, constantValue := 0 }, { name := "negativeZeroDoubleBits", type := .long, accessFlags := 26, slot := 6, constantValue := 0 }, { name := "twoToTheDoubleScaleUp", type := .double, accessFlags := 8, slot := 7, constantValue := 0 }, { name := "twoToTheDoubleScaleDown", type := .double, accessFlags := 8, slot := 8, constantValue := 0 }, { name := "$assertionsDisabled", type := .boolean, accessFlags := 4120, slot := 9, constantValue := 0 }]
  methods := #[k2m0, k2m1, k2m2]
  instanceTypes := #[]
  staticTypes := #[.double, .double, .double, .double, .double, .long, .long, .double, .double, .boolean]
  resolved := Array.replicate 460 none
  statics := none }

def pool3 : Array CpInfo := pool [(1, .class_ 2), (0, u "java/io/Serializable"), (0, .class_ 4), (0, u "java/lang/Object")] 2

/-- java/io/Serializable -/
def k3 : Class := { plain "java/io/Serializable" (some 0) with
  accessFlags := 1537
  interfaces := #[]
  cf := some (fileOf pool3 1 #[] #[] 1537 3 #[] #[])
  fields := #[]
  methods := #[]
  instanceTypes := #[]
  staticTypes := #[]
  resolved := Array.replicate 7 none
  statics := none }

def pool4 : Array CpInfo := pool [(1, .class_ 2), (0, u "java/lang/Comparable"), (0, .class_ 4), (0, u "java/lang/Object")] 7

/-- java/lang/Comparable -/
def k4 : Class := { plain "java/lang/Comparable" (some 0) with
  accessFlags := 1537
  interfaces := #[]
  cf := some (fileOf pool4 1 #[] #[] 1537 3 #[] #[])
  fields := #[]
  methods := #[]
  instanceTypes := #[]
  staticTypes := #[]
  resolved := Array.replicate 12 none
  statics := none }

def pool5 : Array CpInfo := pool [(2, .class_ 4), (1, u "java/lang/CharSequence"), (42, .class_ 48), (0, u "java/lang/CharSequence$1CodePointIterator"), (10, .class_ 60), (0, u "java/lang/CharSequence$1CharIterator"), (5, .class_ 67), (0, u "java/lang/Object")] 63

/-- java/lang/CharSequence -/
def k5 : Class := { plain "java/lang/CharSequence" (some 0) with
  accessFlags := 1537
  interfaces := #[]
  cf := some (fileOf pool5 2 #[.nestMembers #[47, 59]] #[] 1537 66 #[] #[])
  fields := #[]
  methods := #[]
  instanceTypes := #[]
  staticTypes := #[]
  resolved := Array.replicate 131 none
  statics := none }

def pool6 : Array CpInfo := pool [(1, .class_ 2), (0, u "java/lang/constant/Constable"), (0, .class_ 4), (0, u "java/lang/Object")] 6

/-- java/lang/constant/Constable -/
def k6 : Class := { plain "java/lang/constant/Constable" (some 0) with
  accessFlags := 1537
  interfaces := #[]
  cf := some (fileOf pool6 1 #[] #[] 1537 3 #[] #[])
  fields := #[]
  methods := #[]
  instanceTypes := #[]
  staticTypes := #[]
  resolved := Array.replicate 11 none
  statics := none }

def pool7 : Array CpInfo := pool [(1, .class_ 2), (0, u "java/lang/constant/ConstantDesc"), (0, .class_ 4), (0, u "java/lang/Object")] 32

/-- java/lang/constant/ConstantDesc -/
def k7 : Class := { plain "java/lang/constant/ConstantDesc" (some 0) with
  accessFlags := 1537
  interfaces := #[]
  cf := some (fileOf pool7 1 #[] #[] 1537 3 #[] #[])
  fields := #[]
  methods := #[]
  instanceTypes := #[]
  staticTypes := #[]
  resolved := Array.replicate 37 none
  statics := none }

def pool8 : Array CpInfo := pool [(1, .methodref 2 3), (0, .class_ 4), (0, .nameAndType 5 6), (0, u "java/lang/Object"), (0, u "<init>"), (0, u "()V"), (2, .fieldref 10 11), (0, .class_ 12), (0, .nameAndType 13 14), (0, u "java/lang/String"), (0, u "value"), (0, u "[B"), (0, .fieldref 10 16), (0, .nameAndType 17 18), (0, u "coder"), (0, u "B"), (2, u "hash"), (0, u "I"), (2, u "hashIsZero"), (0, u "Z"), (0, .methodref 10 28), (0, .nameAndType 5 29), (0, u "([CIILjava/lang/Void;)V"), (8, .fieldref 10 39), (0, .nameAndType 40 26), (0, u "COMPACT_STRINGS"), (1, .class_ 44), (1, u "java/lang/StringUTF16"), (0, u "compress"), (1, .methodref 42 48), (0, .nameAndType 49 50), (0, u "coderFromArrayLen"), (0, u "([BI)B"), (2, u "toBytes"), (53, .class_ 109), (1, u "java/lang/StringLatin1"), (32, u "()Z"), (34, .methodref 42 178), (0, .nameAndType 45 179), (0, u "([CII)[B"), (29, .methodref 10 210), (0, .nameAndType 5 211), (0, u "([BB)V"), (157, u "(C)Z"), (171, .methodref 107 542), (0, .nameAndType 543 544), (0, u "equals"), (0, u "([B[B)Z"), (28, u "(Ljava/lang/Object;)Z"), (1, .class_ 576), (0, u "java/lang/CharSequence"), (22, u "CASE_INSENSITIVE_ORDER"), (0, u "Ljava/util/Comparator;"), (91, u "isEmpty"), (89, u "valueOf"), (0, u "(C)Ljava/lang/String;"), (226, u "([C)V"), (4, .methodref 107 1016), (0, .nameAndType 1017 369), (0, u "canEncode"), (0, .methodref 107 1019), (0, .nameAndType 53 1020), (0, u "(C)[B"), (80, u "serialPersistentFields"), (0, u "[Ljava/io/ObjectStreamField;"), (0, .class_ 1104), (0, u "java/lang/String$CaseInsensitiveComparator"), (1, .class_ 1107), (0, u "java/io/Serializable"), (0, .class_ 1109), (0, u "java/lang/Comparable"), (0, .class_ 1111), (0, u "java/lang/constant/Constable"), (0, .class_ 1113), (0, u "java/lang/constant/ConstantDesc"), (2, u "serialVersionUID"), (0, u "J"), (3, u "REPL"), (0, u "C"), (2, u "LATIN1"), (1, u "UTF16")] 323

def k8m0 : Method := { name := "<init>", desc := "()V", sig := { parameters := [], returnType := none }, accessFlags := 1, code := none }
def k8c1 : Code := { maxStack := 5, maxLocals := 2, code := jdk_42_method_3_code, exceptionTable := #[], attributes := #[] }
def k8m1 : Method := { name := "<init>", desc := "([C)V", sig := { parameters := [(.array .char)], returnType := none }, accessFlags := 1, code := some k8c1 }
def k8c2 : Code := { maxStack := 1, maxLocals := 1, code := jdk_42_method_55_code, exceptionTable := #[], attributes := #[] }
def k8m2 : Method := { name := "isEmpty", desc := "()Z", sig := { parameters := [], returnType := some .boolean }, accessFlags := 1, code := some k8c2 }
def k8c3 : Code := { maxStack := 2, maxLocals := 3, code := jdk_42_method_66_code, exceptionTable := #[], attributes := #[] }
def k8m3 : Method := { name := "equals", desc := "(Ljava/lang/Object;)Z", sig := { parameters := [(.object "java/lang/Object")], returnType := some .boolean }, accessFlags := 1, code := some k8c3 }
def k8c4 : Code := { maxStack := 4, maxLocals := 1, code := jdk_42_method_139_code, exceptionTable := #[], attributes := #[] }
def k8m4 : Method := { name := "valueOf", desc := "(C)Ljava/lang/String;", sig := { parameters := [.char], returnType := some (.object "java/lang/String") }, accessFlags := 9, code := some k8c4 }
def k8c5 : Code := { maxStack := 4, maxLocals := 6, code := jdk_42_method_149_code, exceptionTable := #[], attributes := #[] }
def k8m5 : Method := { name := "<init>", desc := "([CIILjava/lang/Void;)V", sig := { parameters := [(.array .char), .int, .int, (.object "java/lang/Void")], returnType := none }, accessFlags := 2, code := some k8c5 }
def k8c6 : Code := { maxStack := 2, maxLocals := 3, code := jdk_42_method_151_code, exceptionTable := #[], attributes := #[] }
def k8m6 : Method := { name := "<init>", desc := "([BB)V", sig := { parameters := [(.array .byte), .byte], returnType := none }, accessFlags := 0, code := some k8c6 }
/-- java/lang/String -/
def k8 : Class := { plain "java/lang/String" (some 0) with
  accessFlags := 49
  interfaces := #[3, 4, 5, 6, 7]
  cf := some (fileOf pool8 10 #[.nestMembers #[1103]] #[{ accessFlags := 1, nameIndex := 5, descriptorIndex := 6, attributes := #[] }, { accessFlags := 1, nameIndex := 5, descriptorIndex := 1010, attributes := #[] }, { accessFlags := 1, nameIndex := 692, descriptorIndex := 142, attributes := #[] }, { accessFlags := 1, nameIndex := 543, descriptorIndex := 573, attributes := #[] }, { accessFlags := 9, nameIndex := 782, descriptorIndex := 783, attributes := #[] }, { accessFlags := 2, nameIndex := 5, descriptorIndex := 29, attributes := #[] }, { accessFlags := 0, nameIndex := 5, descriptorIndex := 211, attributes := #[] }] 49 2 #[1106, 1108, 575, 1110, 1112] #[{ accessFlags := 18, nameIndex := 13, descriptorIndex := 14, attributes := #[] }, { accessFlags := 18, nameIndex := 17, descriptorIndex := 18, attributes := #[] }, { accessFlags := 2, nameIndex := 21, descriptorIndex := 22, attributes := #[] }, { accessFlags := 2, nameIndex := 25, descriptorIndex := 26, attributes := #[] }, { accessFlags := 26, nameIndex := 1116, descriptorIndex := 1117, attributes := #[] }, { accessFlags := 24, nameIndex := 40, descriptorIndex := 26, attributes := #[] }, { accessFlags := 26, nameIndex := 1101, descriptorIndex := 1102, attributes := #[] }, { accessFlags := 26, nameIndex := 1121, descriptorIndex := 1122, attributes := #[] }, { accessFlags := 25, nameIndex := 599, descriptorIndex := 600, attributes := #[] }, { accessFlags := 24, nameIndex := 1125, descriptorIndex := 18, attributes := #[] }, { accessFlags := 24, nameIndex := 1127, descriptorIndex := 18, attributes := #[] }])
  fields := #[{ name := "value", type := (.array .byte), accessFlags := 18, slot := 0, constantValue := 0 }, { name := "coder", type := .byte, accessFlags := 18, slot := 1, constantValue := 0 }, { name := "hash", type := .int, accessFlags := 2, slot := 2, constantValue := 0 }, { name := "hashIsZero", type := .boolean, accessFlags := 2, slot := 3, constantValue := 0 }, { name := "serialVersionUID", type := .long, accessFlags := 26, slot := 0, constantValue := 0 }, { name := "COMPACT_STRINGS", type := .boolean, accessFlags := 24, slot := 1, constantValue := 0 }, { name := "serialPersistentFields", type := (.array (.object "java/io/ObjectStreamField")), accessFlags := 26, slot := 2, constantValue := 0 }, { name := "REPL", type := .char, accessFlags := 26, slot := 3, constantValue := 0 }, { name := "CASE_INSENSITIVE_ORDER", type := (.object "java/util/Comparator"), accessFlags := 25, slot := 4, constantValue := 0 }, { name := "LATIN1", type := .byte, accessFlags := 24, slot := 5, constantValue := 0 }, { name := "UTF16", type := .byte, accessFlags := 24, slot := 6, constantValue := 0 }]
  methods := #[k8m0, k8m1, k8m2, k8m3, k8m4, k8m5, k8m6]
  instanceTypes := #[(.array .byte), .byte, .int, .boolean]
  staticTypes := #[.long, .boolean, (.array (.object "java/io/ObjectStreamField")), .char, (.object "java/util/Comparator"), .byte, .byte]
  resolved := Array.replicate 1451 none
  statics := some 0 }

def pool9 : Array CpInfo := pool [(4, .class_ 6), (1, u "java/lang/Object"), (0, u "<init>"), (0, u "()V"), (5, .class_ 16), (1, u "java/lang/StringLatin1"), (73, u "canEncode"), (14, u "(C)Z"), (15, u "$assertionsDisabled"), (0, u "Z"), (98, .class_ 223), (1, u "java/lang/StringLatin1$LinesSpliterator"), (57, u "equals"), (0, u "([B[B)Z"), (97, u "toBytes"), (1, u "(C)[B"), (7, .class_ 391), (0, u "java/lang/StringLatin1$CharsSpliterator")] 3

def k9m0 : Method := { name := "<init>", desc := "()V", sig := { parameters := [], returnType := none }, accessFlags := 0, code := none }
def k9c1 : Code := { maxStack := 2, maxLocals := 1, code := jdk_43_method_3_code, exceptionTable := #[], attributes := #[] }
def k9m1 : Method := { name := "canEncode", desc := "(C)Z", sig := { parameters := [.char], returnType := some .boolean }, accessFlags := 9, code := some k9c1 }
def k9c2 : Code := { maxStack := 3, maxLocals := 3, code := jdk_43_method_13_code, exceptionTable := #[], attributes := #[] }
def k9m2 : Method := { name := "equals", desc := "([B[B)Z", sig := { parameters := [(.array .byte), (.array .byte)], returnType := some .boolean }, accessFlags := 9, code := some k9c2 }
def k9c3 : Code := { maxStack := 4, maxLocals := 1, code := jdk_43_method_46_code, exceptionTable := #[], attributes := #[] }
def k9m3 : Method := { name := "toBytes", desc := "(C)[B", sig := { parameters := [.char], returnType := some (.array .byte) }, accessFlags := 9, code := some k9c3 }
/-- java/lang/StringLatin1 -/
def k9 : Class := { plain "java/lang/StringLatin1" (some 0) with
  accessFlags := 48
  interfaces := #[]
  cf := some (fileOf pool9 14 #[.nestMembers #[390, 221]] #[{ accessFlags := 0, nameIndex := 7, descriptorIndex := 8, attributes := #[] }, { accessFlags := 9, nameIndex := 90, descriptorIndex := 105, attributes := #[] }, { accessFlags := 9, nameIndex := 281, descriptorIndex := 282, attributes := #[] }, { accessFlags := 9, nameIndex := 380, descriptorIndex := 382, attributes := #[] }] 48 4 #[] #[{ accessFlags := 4120, nameIndex := 121, descriptorIndex := 122, attributes := #[] }])
  fields := #[{ name := "$assertionsDisabled", type := .boolean, accessFlags := 4120, slot := 0, constantValue := 0 }]
  methods := #[k9m0, k9m1, k9m2, k9m3]
  instanceTypes := #[]
  staticTypes := #[.boolean]
  resolved := Array.replicate 395 none
  statics := none }

def pool10 : Array CpInfo := pool [(1, .methodref 2 3), (0, .class_ 4), (0, .nameAndType 5 6), (0, u "java/lang/Object"), (0, u "<init>"), (0, u "()V"), (0, .class_ 8), (0, u "java/lang/Record")] 13

def k10c0 : Code := { maxStack := 1, maxLocals := 1, code := jdk_30_method_1_code, exceptionTable := #[], attributes := #[] }
def k10m0 : Method := { name := "<init>", desc := "()V", sig := { parameters := [], returnType := none }, accessFlags := 4, code := some k10c0 }
/-- java/lang/Record -/
def k10 : Class := { plain "java/lang/Record" (some 0) with
  accessFlags := 1057
  interfaces := #[]
  cf := some (fileOf pool10 7 #[] #[{ accessFlags := 4, nameIndex := 5, descriptorIndex := 6, attributes := #[] }] 1057 2 #[] #[])
  fields := #[]
  methods := #[k10m0]
  instanceTypes := #[]
  staticTypes := #[]
  resolved := Array.replicate 22 none
  statics := none }

def pool11 : Array CpInfo := pool [(1, .methodref 2 3), (0, .class_ 4), (0, .nameAndType 5 6), (0, u "java/lang/Record"), (0, u "<init>"), (0, u "()V"), (7, .fieldref 15 16), (0, .class_ 17), (0, .nameAndType 18 19), (0, u "com/example/wardstone/wardstone/request/Requester$Kind"), (0, u "FEDERATED_USER"), (0, u "Lcom/example/wardstone/wardstone/request/Requester$Kind;"), (0, .fieldref 15 21), (0, .nameAndType 22 19), (0, u "ANONYMOUS"), (0, .fieldref 15 24), (0, .nameAndType 25 19), (0, u "SERVICE"), (0, .fieldref 15 27), (0, .nameAndType 28 19), (0, u "USER"), (0, .fieldref 15 30), (0, .nameAndType 31 19), (0, u "AGENCY"), (1, .class_ 35), (1, u "com/example/wardstone/wardstone/request/Requester"), (2, .string 39), (0, u "account"), (0, .methodref 33 41), (0, .nameAndType 42 43), (0, u "requireNonEmpty"), (0, u "(Ljava/lang/String;Ljava/lang/String;)V"), (0, .string 45), (0, u "user"), (0, .string 47), (0, u "userName"), (0, .string 49), (0, u "agency"), (0, .string 51), (0, u "identityProvider"), (0, .string 53), (0, u "service"), (15, u "()Z"), (4, .class_ 75), (0, u "java/lang/String"), (2, .fieldref 33 79), (0, .nameAndType 80 19), (0, u "kind"), (0, .fieldref 33 82), (0, .nameAndType 39 83), (0, u "Ljava/lang/String;"), (0, .fieldref 33 85), (0, .nameAndType 86 83), (0, u "userId"), (0, .fieldref 33 88), (0, .nameAndType 47 83), (0, .fieldref 33 90), (0, .nameAndType 49 83), (0, .fieldref 33 92), (0, .nameAndType 51 83), (0, .fieldref 33 94), (0, .nameAndType 95 96), (0, u "groups"), (0, u "Ljava/util/Set;"), (0, .fieldref 33 98), (0, .nameAndType 53 83), (0, .fieldref 33 100), (0, .nameAndType 22 101), (0, u "Lcom/example/wardstone/wardstone/request/Requester;"), (0, .fieldref 15 103), (0, .nameAndType 104 19), (0, u "ACCOUNT"), (0, .methodref 33 106), (0, .nameAndType 5 107), (0, u "(Lcom/example/wardstone/wardstone/request/Requester$Kind;Ljava/lang/String;Ljava/lang/String;Ljava/lang/String;Ljava/lang/String;Ljava/lang/String;Ljava/util/Set;Ljava/lang/String;)V"), (21, .methodref 74 130), (0, .nameAndType 131 69), (0, u "isEmpty"), (23, u "anonymous"), (0, u "()Lcom/example/wardstone/wardstone/request/Requester;"), (0, u "(Ljava/lang/String;)Lcom/example/wardstone/wardstone/request/Requester;"), (0, u "(Ljava/lang/String;Ljava/lang/String;Ljava/lang/String;)Lcom/example/wardstone/wardstone/request/Requester;"), (0, u "(Ljava/lang/String;Ljava/lang/String;)Lcom/example/wardstone/wardstone/request/Requester;"), (3, u "()Ljava/lang/String;"), (1, u "()Lcom/example/wardstone/wardstone/request/Requester$Kind;")] 40

def k11c0 : Code := { maxStack := 4, maxLocals := 13, code := prog_50_method_1_code, exceptionTable := #[], attributes := #[] }
def k11m0 : Method := { name := "<init>", desc := "(Lcom/example/wardstone/wardstone/request/Requester$Kind;Ljava/lang/String;Ljava/lang/String;Ljava/lang/String;Ljava/lang/String;Ljava/lang/String;Ljava/util/Set;Ljava/lang/String;)V", sig := { parameters := [(.object "com/example/wardstone/wardstone/request/Requester$Kind"), (.object "java/lang/String"), (.object "java/lang/String"), (.object "java/lang/String"), (.object "java/lang/String"), (.object "java/lang/String"), (.object "java/util/Set"), (.object "java/lang/String")], returnType := none }, accessFlags := 1, code := some k11c0 }
def k11c1 : Code := { maxStack := 1, maxLocals := 0, code := prog_50_method_2_code, exceptionTable := #[], attributes := #[] }
def k11m1 : Method := { name := "anonymous", desc := "()Lcom/example/wardstone/wardstone/request/Requester;", sig := { parameters := [], returnType := some (.object "com/example/wardstone/wardstone/request/Requester") }, accessFlags := 9, code := some k11c1 }
def k11c2 : Code := { maxStack := 10, maxLocals := 1, code := prog_50_method_3_code, exceptionTable := #[], attributes := #[] }
def k11m2 : Method := { name := "account", desc := "(Ljava/lang/String;)Lcom/example/wardstone/wardstone/request/Requester;", sig := { parameters := [(.object "java/lang/String")], returnType := some (.object "com/example/wardstone/wardstone/request/Requester") }, accessFlags := 9, code := some k11c2 }
def k11c3 : Code := { maxStack := 10, maxLocals := 3, code := prog_50_method_4_code, exceptionTable := #[], attributes := #[] }
def k11m3 : Method := { name := "user", desc := "(Ljava/lang/String;Ljava/lang/String;Ljava/lang/String;)Lcom/example/wardstone/wardstone/request/Requester;", sig := { parameters := [(.object "java/lang/String"), (.object "java/lang/String"), (.object "java/lang/String")], returnType := some (.object "com/example/wardstone/wardstone/request/Requester") }, accessFlags := 9, code := some k11c3 }
def k11c4 : Code := { maxStack := 10, maxLocals := 2, code := prog_50_method_5_code, exceptionTable := #[], attributes := #[] }
def k11m4 : Method := { name := "agency", desc := "(Ljava/lang/String;Ljava/lang/String;)Lcom/example/wardstone/wardstone/request/Requester;", sig := { parameters := [(.object "java/lang/String"), (.object "java/lang/String")], returnType := some (.object "com/example/wardstone/wardstone/request/Requester") }, accessFlags := 9, code := some k11c4 }
def k11c5 : Code := { maxStack := 10, maxLocals := 1, code := prog_50_method_7_code, exceptionTable := #[], attributes := #[] }
def k11m5 : Method := { name := "service", desc := "(Ljava/lang/String;)Lcom/example/wardstone/wardstone/request/Requester;", sig := { parameters := [(.object "java/lang/String")], returnType := some (.object "com/example/wardstone/wardstone/request/Requester") }, accessFlags := 9, code := some k11c5 }
def k11c6 : Code := { maxStack := 3, maxLocals := 2, code := prog_50_method_9_code, exceptionTable := #[], attributes := #[] }
def k11m6 : Method := { name := "requireNonEmpty", desc := "(Ljava/lang/String;Ljava/lang/String;)V", sig := { parameters := [(.object "java/lang/String"), (.object "java/lang/String")], returnType := none }, accessFlags := 10, code := some k11c6 }
def k11c7 : Code := { maxStack := 1, maxLocals := 1, code := prog_50_method_13_code, exceptionTable := #[], attributes := #[] }
def k11m7 : Method := { name := "kind", desc := "()Lcom/example/wardstone/wardstone/request/Requester$Kind;", sig := { parameters := [], returnType := some (.object "com/example/wardstone/wardstone/request/Requester$Kind") }, accessFlags := 1, code := some k11c7 }
def k11c8 : Code := { maxStack := 1, maxLocals := 1, code := prog_50_method_14_code, exceptionTable := #[], attributes := #[] }
def k11m8 : Method := { name := "account", desc := "()Ljava/lang/String;", sig := { parameters := [], returnType := some (.object "java/lang/String") }, accessFlags := 1, code := some k11c8 }
/-- com/example/wardstone/wardstone/request/Requester -/
def k11 : Class := { plain "com/example/wardstone/wardstone/request/Requester" (some 10) with
  accessFlags := 49
  interfaces := #[]
  cf := some (fileOf pool11 33 #[.nestMembers #[15]] #[{ accessFlags := 1, nameIndex := 5, descriptorIndex := 107, attributes := #[] }, { accessFlags := 9, nameIndex := 155, descriptorIndex := 156, attributes := #[] }, { accessFlags := 9, nameIndex := 39, descriptorIndex := 157, attributes := #[] }, { accessFlags := 9, nameIndex := 45, descriptorIndex := 158, attributes := #[] }, { accessFlags := 9, nameIndex := 49, descriptorIndex := 159, attributes := #[] }, { accessFlags := 9, nameIndex := 53, descriptorIndex := 157, attributes := #[] }, { accessFlags := 10, nameIndex := 42, descriptorIndex := 43, attributes := #[] }, { accessFlags := 1, nameIndex := 80, descriptorIndex := 165, attributes := #[] }, { accessFlags := 1, nameIndex := 39, descriptorIndex := 163, attributes := #[] }] 49 2 #[] #[{ accessFlags := 18, nameIndex := 80, descriptorIndex := 19, attributes := #[] }, { accessFlags := 18, nameIndex := 39, descriptorIndex := 83, attributes := #[] }, { accessFlags := 18, nameIndex := 86, descriptorIndex := 83, attributes := #[] }, { accessFlags := 18, nameIndex := 47, descriptorIndex := 83, attributes := #[] }, { accessFlags := 18, nameIndex := 49, descriptorIndex := 83, attributes := #[] }, { accessFlags := 18, nameIndex := 51, descriptorIndex := 83, attributes := #[] }, { accessFlags := 18, nameIndex := 95, descriptorIndex := 96, attributes := #[] }, { accessFlags := 18, nameIndex := 53, descriptorIndex := 83, attributes := #[] }, { accessFlags := 26, nameIndex := 22, descriptorIndex := 101, attributes := #[] }])
  fields := #[{ name := "kind", type := (.object "com/example/wardstone/wardstone/request/Requester$Kind"), accessFlags := 18, slot := 0, constantValue := 0 }, { name := "account", type := (.object "java/lang/String"), accessFlags := 18, slot := 1, constantValue := 0 }, { name := "userId", type := (.object "java/lang/String"), accessFlags := 18, slot := 2, constantValue := 0 }, { name := "userName", type := (.object "java/lang/String"), accessFlags := 18, slot := 3, constantValue := 0 }, { name := "agency", type := (.object "java/lang/String"), accessFlags := 18, slot := 4, constantValue := 0 }, { name := "identityProvider", type := (.object "java/lang/String"), accessFlags := 18, slot := 5, constantValue := 0 }, { name := "groups", type := (.object "java/util/Set"), accessFlags := 18, slot := 6, constantValue := 0 }, { name := "service", type := (.object "java/lang/String"), accessFlags := 18, slot := 7, constantValue := 0 }, { name := "ANONYMOUS", type := (.object "com/example/wardstone/wardstone/request/Requester"), accessFlags := 26, slot := 0, constantValue := 0 }]
  methods := #[k11m0, k11m1, k11m2, k11m3, k11m4, k11m5, k11m6, k11m7, k11m8]
  instanceTypes := #[(.object "com/example/wardstone/wardstone/request/Requester$Kind"), (.object "java/lang/String"), (.object "java/lang/String"), (.object "java/lang/String"), (.object "java/lang/String"), (.object "java/lang/String"), (.object "java/util/Set"), (.object "java/lang/String")]
  staticTypes := #[(.object "com/example/wardstone/wardstone/request/Requester")]
  resolved := Array.replicate 206 none
  statics := some 1 }

def pool12 : Array CpInfo := pool [(2, .class_ 4), (1, u "java/lang/Enum"), (0, u "name"), (0, u "Ljava/lang/String;"), (2, u "ordinal"), (0, u "I"), (1, .class_ 14), (1, u "java/lang/Object"), (4, u "hash"), (86, .class_ 108), (1, u "java/lang/Enum$EnumDesc"), (2, .class_ 112), (0, u "java/lang/constant/Constable"), (0, .class_ 114), (0, u "java/lang/Comparable"), (0, .class_ 116), (0, u "java/io/Serializable")] 87

/-- java/lang/Enum -/
def k12 : Class := { plain "java/lang/Enum" (some 0) with
  accessFlags := 1057
  interfaces := #[6, 4, 3]
  cf := some (fileOf pool12 2 #[.nestMembers #[106]] #[] 1057 12 #[111, 113, 115] #[{ accessFlags := 18, nameIndex := 5, descriptorIndex := 6, attributes := #[] }, { accessFlags := 18, nameIndex := 9, descriptorIndex := 10, attributes := #[] }, { accessFlags := 2, nameIndex := 19, descriptorIndex := 10, attributes := #[] }])
  fields := #[{ name := "name", type := (.object "java/lang/String"), accessFlags := 18, slot := 0, constantValue := 0 }, { name := "ordinal", type := .int, accessFlags := 18, slot := 1, constantValue := 0 }, { name := "hash", type := .int, accessFlags := 2, slot := 2, constantValue := 0 }]
  methods := #[]
  instanceTypes := #[(.object "java/lang/String"), .int, .int]
  staticTypes := #[]
  resolved := Array.replicate 204 none
  statics := none }

def pool13 : Array CpInfo := pool [(1, .class_ 2), (0, u "com/example/wardstone/wardstone/request/Requester$Kind"), (2, u "ANONYMOUS"), (0, u "Lcom/example/wardstone/wardstone/request/Requester$Kind;"), (2, u "ACCOUNT"), (2, u "USER"), (2, u "AGENCY"), (2, u "FEDERATED_USER"), (2, u "SERVICE"), (2, u "$VALUES"), (0, u "[Lcom/example/wardstone/wardstone/request/Requester$Kind;"), (6, .class_ 34), (1, u "java/lang/Enum"), (29, .class_ 65), (0, u "com/example/wardstone/wardstone/request/Requester")] 2

/-- com/example/wardstone/wardstone/request/Requester$Kind -/
def k13 : Class := { plain "com/example/wardstone/wardstone/request/Requester$Kind" (some 12) with
  accessFlags := 16433
  interfaces := #[]
  cf := some (fileOf pool13 1 #[.nestHost 64] #[] 16433 32 #[] #[{ accessFlags := 16409, nameIndex := 5, descriptorIndex := 6, attributes := #[] }, { accessFlags := 16409, nameIndex := 9, descriptorIndex := 6, attributes := #[] }, { accessFlags := 16409, nameIndex := 12, descriptorIndex := 6, attributes := #[] }, { accessFlags := 16409, nameIndex := 15, descriptorIndex := 6, attributes := #[] }, { accessFlags := 16409, nameIndex := 18, descriptorIndex := 6, attributes := #[] }, { accessFlags := 16409, nameIndex := 21, descriptorIndex := 6, attributes := #[] }, { accessFlags := 4122, nameIndex := 24, descriptorIndex := 25, attributes := #[] }])
  fields := #[{ name := "ANONYMOUS", type := (.object "com/example/wardstone/wardstone/request/Requester$Kind"), accessFlags := 16409, slot := 0, constantValue := 0 }, { name := "ACCOUNT", type := (.object "com/example/wardstone/wardstone/request/Requester$Kind"), accessFlags := 16409, slot := 1, constantValue := 0 }, { name := "USER", type := (.object "com/example/wardstone/wardstone/request/Requester$Kind"), accessFlags := 16409, slot := 2, constantValue := 0 }, { name := "AGENCY", type := (.object "com/example/wardstone/wardstone/request/Requester$Kind"), accessFlags := 16409, slot := 3, constantValue := 0 }, { name := "FEDERATED_USER", type := (.object "com/example/wardstone/wardstone/request/Requester$Kind"), accessFlags := 16409, slot := 4, constantValue := 0 }, { name := "SERVICE", type := (.object "com/example/wardstone/wardstone/request/Requester$Kind"), accessFlags := 16409, slot := 5, constantValue := 0 }, { name := "$VALUES", type := (.array (.object "com/example/wardstone/wardstone/request/Requester$Kind")), accessFlags := 4122, slot := 6, constantValue := 0 }]
  methods := #[]
  instanceTypes := #[(.object "java/lang/String"), .int, .int]
  staticTypes := #[(.object "com/example/wardstone/wardstone/request/Requester$Kind"), (.object "com/example/wardstone/wardstone/request/Requester$Kind"), (.object "com/example/wardstone/wardstone/request/Requester$Kind"), (.object "com/example/wardstone/wardstone/request/Requester$Kind"), (.object "com/example/wardstone/wardstone/request/Requester$Kind"), (.object "com/example/wardstone/wardstone/request/Requester$Kind"), (.array (.object "com/example/wardstone/wardstone/request/Requester$Kind"))]
  resolved := Array.replicate 68 none
  statics := some 2 }

def pool14 : Array CpInfo := pool [(1, .class_ 2), (0, u "com/example/wardstone/wardstone/policy/PrincipalPattern"), (0, .class_ 4), (0, u "java/lang/Object"), (5, .class_ 11), (0, u "com/example/wardstone/wardstone/policy/PrincipalPattern$Service"), (0, .class_ 13), (0, u "com/example/wardstone/wardstone/policy/PrincipalPattern$Group"), (0, .class_ 15), (0, u "com/example/wardstone/wardstone/policy/PrincipalPattern$IdentityProvider"), (0, .class_ 17), (0, u "com/example/wardstone/wardstone/policy/PrincipalPattern$Agency"), (0, .class_ 19), (0, u "com/example/wardstone/wardstone/policy/PrincipalPattern$EveryAgency"), (0, .class_ 21), (0, u "com/example/wardstone/wardstone/policy/PrincipalPattern$User"), (0, .class_ 23), (0, u "com/example/wardstone/wardstone/policy/PrincipalPattern$AccountAndUsers"), (0, .class_ 25), (0, u "com/example/wardstone/wardstone/policy/PrincipalPattern$Account"), (0, .class_ 27), (0, u "com/example/wardstone/wardstone/policy/PrincipalPattern$Everyone")] 11

/-- com/example/wardstone/wardstone/policy/PrincipalPattern -/
def k14 : Class := { plain "com/example/wardstone/wardstone/policy/PrincipalPattern" (some 0) with
  accessFlags := 1537
  interfaces := #[]
  cf := some (fileOf pool14 1 #[.nestMembers #[10, 12, 14, 16, 18, 20, 22, 24, 26]] #[] 1537 3 #[] #[])
  fields := #[]
  methods := #[]
  instanceTypes := #[]
  staticTypes := #[]
  resolved := Array.replicate 39 none
  statics := none }

def pool15 : Array CpInfo := pool [(1, .methodref 2 3), (0, .class_ 4), (0, .nameAndType 5 6), (0, u "java/lang/Record"), (0, u "<init>"), (0, u "()V"), (0, .fieldref 8 9), (0, .class_ 10), (0, .nameAndType 11 12), (0, u "com/example/wardstone/wardstone/policy/PrincipalPattern$Account"), (0, u "account"), (0, u "Ljava/lang/String;"), (0, .methodref 14 15), (0, .class_ 16), (0, .nameAndType 17 18), (0, u "com/example/wardstone/wardstone/request/Requester"), (0, u "kind"), (0, u "()Lcom/example/wardstone/wardstone/request/Requester$Kind;"), (0, .fieldref 20 21), (0, .class_ 22), (0, .nameAndType 23 24), (0, u "com/example/wardstone/wardstone/request/Requester$Kind"), (0, u "ACCOUNT"), (0, u "Lcom/example/wardstone/wardstone/request/Requester$Kind;"), (0, .methodref 14 26), (0, .nameAndType 11 27), (0, u "()Ljava/lang/String;"), (0, .methodref 29 30), (0, .class_ 31), (0, .nameAndType 32 33), (0, u "java/lang/String"), (0, u "equals"), (0, u "(Ljava/lang/Object;)Z"), (11, .class_ 46), (0, u "com/example/wardstone/wardstone/policy/PrincipalPattern"), (0, u "(Ljava/lang/String;)V"), (3, u "matches"), (0, u "(Lcom/example/wardstone/wardstone/request/Requester;)Z")] 24

def k15c0 : Code := { maxStack := 2, maxLocals := 2, code := prog_30_method_1_code, exceptionTable := #[], attributes := #[] }
def k15m0 : Method := { name := "<init>", desc := "(Ljava/lang/String;)V", sig := { parameters := [(.object "java/lang/String")], returnType := none }, accessFlags := 1, code := some k15c0 }
def k15c1 : Code := { maxStack := 2, maxLocals := 2, code := prog_30_method_2_code, exceptionTable := #[], attributes := #[] }
def k15m1 : Method := { name := "matches", desc := "(Lcom/example/wardstone/wardstone/request/Requester;)Z", sig := { parameters := [(.object "com/example/wardstone/wardstone/request/Requester")], returnType := some .boolean }, accessFlags := 1, code := some k15c1 }
/-- com/example/wardstone/wardstone/policy/PrincipalPattern$Account -/
def k15 : Class := { plain "com/example/wardstone/wardstone/policy/PrincipalPattern$Account" (some 10) with
  accessFlags := 49
  interfaces := #[14]
  cf := some (fileOf pool15 8 #[.nestHost 45] #[{ accessFlags := 1, nameIndex := 5, descriptorIndex := 47, attributes := #[] }, { accessFlags := 1, nameIndex := 51, descriptorIndex := 52, attributes := #[] }] 49 2 #[45] #[{ accessFlags := 18, nameIndex := 11, descriptorIndex := 12, attributes := #[] }])
  fields := #[{ name := "account", type := (.object "java/lang/String"), accessFlags := 18, slot := 0, constantValue := 0 }]
  methods := #[k15m0, k15m1]
  instanceTypes := #[(.object "java/lang/String")]
  staticTypes := #[]
  resolved := Array.replicate 77 none
  statics := none }

def pool16 : Array CpInfo := pool [(6, .class_ 8), (1, u "java/lang/Object"), (0, u "<init>"), (0, u "()V"), (1, .class_ 14), (1, u "java/lang/StringUTF16"), (31, u "$assertionsDisabled"), (0, u "Z"), (13, u "HI_BYTE_SHIFT"), (0, u "I"), (2, u "LO_BYTE_SHIFT"), (49, .methodref 12 116), (0, .nameAndType 117 118), (0, u "compress"), (0, u "([CI[BII)I"), (3, u "([CII)[B"), (138, u "coderFromArrayLen"), (0, u "([BI)B"), (106, .class_ 371), (1, u "java/lang/StringUTF16$LinesSpliterator"), (58, u "MAX_LENGTH"), (196, .class_ 628), (0, u "java/lang/StringUTF16$CodePointsSpliterator"), (0, .class_ 630), (0, u "java/lang/StringUTF16$CharsSpliterator")] 4

def k16m0 : Method := { name := "<init>", desc := "()V", sig := { parameters := [], returnType := none }, accessFlags := 0, code := none }
def k16c1 : Code := { maxStack := 2, maxLocals := 2, code := jdk_52_method_15_code, exceptionTable := #[], attributes := #[] }
def k16m1 : Method := { name := "coderFromArrayLen", desc := "([BI)B", sig := { parameters := [(.array .byte), .int], returnType := some .byte }, accessFlags := 8, code := some k16c1 }
def k16c2 : Code := { maxStack := 5, maxLocals := 6, code := jdk_52_method_16_code, exceptionTable := #[], attributes := #[] }
def k16m2 : Method := { name := "compress", desc := "([CII)[B", sig := { parameters := [(.array .char), .int, .int], returnType := some (.array .byte) }, accessFlags := 9, code := some k16c2 }
def k16c3 : Code := { maxStack := 3, maxLocals := 7, code := jdk_52_method_21_code, exceptionTable := #[], attributes := #[] }
def k16m3 : Method := { name := "compress", desc := "([CI[BII)I", sig := { parameters := [(.array .char), .int, (.array .byte), .int, .int], returnType := some .int }, accessFlags := 9, code := some k16c3 }
/-- java/lang/StringUTF16 -/
def k16 : Class := { plain "java/lang/StringUTF16" (some 0) with
  accessFlags := 48
  interfaces := #[]
  cf := some (fileOf pool16 12 #[.nestMembers #[627, 629, 369]] #[{ accessFlags := 0, nameIndex := 9, descriptorIndex := 10, attributes := #[] }, { accessFlags := 8, nameIndex := 261, descriptorIndex := 262, attributes := #[] }, { accessFlags := 9, nameIndex := 117, descriptorIndex := 122, attributes := #[] }, { accessFlags := 9, nameIndex := 117, descriptorIndex := 118, attributes := #[] }] 48 6 #[] #[{ accessFlags := 26, nameIndex := 61, descriptorIndex := 62, attributes := #[] }, { accessFlags := 26, nameIndex := 65, descriptorIndex := 62, attributes := #[] }, { accessFlags := 24, nameIndex := 430, descriptorIndex := 62, attributes := #[] }, { accessFlags := 4120, nameIndex := 46, descriptorIndex := 47, attributes := #[] }])
  fields := #[{ name := "HI_BYTE_SHIFT", type := .int, accessFlags := 26, slot := 0, constantValue := 0 }, { name := "LO_BYTE_SHIFT", type := .int, accessFlags := 26, slot := 1, constantValue := 0 }, { name := "MAX_LENGTH", type := .int, accessFlags := 24, slot := 2, constantValue := 0 }, { name := "$assertionsDisabled", type := .boolean, accessFlags := 4120, slot := 3, constantValue := 0 }]
  methods := #[k16m0, k16m1, k16m2, k16m3]
  instanceTypes := #[]
  staticTypes := #[.int, .int, .int, .boolean]
  resolved := Array.replicate 635 none
  statics := none }

def pool17 : Array CpInfo := pool [(2, .class_ 4), (1, u "java/lang/Object"), (0, u "<init>"), (0, u "()V"), (17, .class_ 26), (1, u "jdk/internal/util/Preconditions"), (28, .class_ 56), (0, u "jdk/internal/util/Preconditions$4"), (57, .class_ 115), (0, u "jdk/internal/util/Preconditions$1"), (7, u "SIOOBE_FORMATTER"), (0, u "Ljava/util/function/BiFunction;"), (0, .class_ 126), (0, u "jdk/internal/util/Preconditions$2"), (3, u "AIOOBE_FORMATTER"), (0, .class_ 132), (0, u "jdk/internal/util/Preconditions$3"), (3, u "IOOBE_FORMATTER")] 57

def k17m0 : Method := { name := "<init>", desc := "()V", sig := { parameters := [], returnType := none }, accessFlags := 1, code := none }
/-- jdk/internal/util/Preconditions -/
def k17 : Class := { plain "jdk/internal/util/Preconditions" (some 0) with
  accessFlags := 33
  interfaces := #[]
  cf := some (fileOf pool17 24 #[.nestMembers #[55, 131, 125, 114]] #[{ accessFlags := 1, nameIndex := 5, descriptorIndex := 6, attributes := #[] }] 33 2 #[] #[{ accessFlags := 25, nameIndex := 123, descriptorIndex := 124, attributes := #[] }, { accessFlags := 25, nameIndex := 130, descriptorIndex := 124, attributes := #[] }, { accessFlags := 25, nameIndex := 136, descriptorIndex := 124, attributes := #[] }])
  fields := #[{ name := "SIOOBE_FORMATTER", type := (.object "java/util/function/BiFunction"), accessFlags := 25, slot := 0, constantValue := 0 }, { name := "AIOOBE_FORMATTER", type := (.object "java/util/function/BiFunction"), accessFlags := 25, slot := 1, constantValue := 0 }, { name := "IOOBE_FORMATTER", type := (.object "java/util/function/BiFunction"), accessFlags := 25, slot := 2, constantValue := 0 }]
  methods := #[k17m0]
  instanceTypes := #[]
  staticTypes := #[(.object "java/util/function/BiFunction"), (.object "java/util/function/BiFunction"), (.object "java/util/function/BiFunction")]
  resolved := Array.replicate 194 none
  statics := some 3 }

def pool18 : Array CpInfo := pool [(9, u "<init>"), (6, .class_ 18), (1, u "java/lang/Object"), (0, u "()V"), (1, .class_ 23), (1, u "jdk/internal/util/ArraysSupport"), (0, u "LOG2_ARRAY_LONG_INDEX_SCALE"), (0, u "I"), (2, u "U"), (0, u "Ljdk/internal/misc/Unsafe;"), (8, u "BIG_ENDIAN"), (0, u "Z"), (8, u "LOG2_BYTE_BIT_SIZE"), (4, u "LOG2_ARRAY_INT_INDEX_SCALE"), (54, u "JLA"), (0, u "Ljdk/internal/access/JavaLangAccess;"), (11, u "LOG2_ARRAY_BOOLEAN_INDEX_SCALE"), (9, u "LOG2_ARRAY_BYTE_INDEX_SCALE"), (5, u "LOG2_ARRAY_CHAR_INDEX_SCALE"), (5, u "LOG2_ARRAY_SHORT_INDEX_SCALE"), (18, u "LOG2_ARRAY_FLOAT_INDEX_SCALE"), (24, u "LOG2_ARRAY_DOUBLE_INDEX_SCALE"), (89, u "T_BOOLEAN"), (2, u "T_CHAR"), (1, u "T_FLOAT"), (1, u "T_DOUBLE"), (1, u "T_BYTE"), (1, u "T_SHORT"), (1, u "T_INT"), (1, u "T_LONG"), (1, u "SOFT_MAX_ARRAY_LENGTH")] 83

def k18m0 : Method := { name := "<init>", desc := "()V", sig := { parameters := [], returnType := none }, accessFlags := 2, code := none }
/-- jdk/internal/util/ArraysSupport -/
def k18 : Class := { plain "jdk/internal/util/ArraysSupport" (some 0) with
  accessFlags := 33
  interfaces := #[]
  cf := some (fileOf pool18 21 #[] #[{ accessFlags := 2, nameIndex := 9, descriptorIndex := 19, attributes := #[] }] 33 16 #[] #[{ accessFlags := 24, nameIndex := 28, descriptorIndex := 29, attributes := #[] }, { accessFlags := 26, nameIndex := 38, descriptorIndex := 39, attributes := #[] }, { accessFlags := 25, nameIndex := 121, descriptorIndex := 25, attributes := #[] }, { accessFlags := 25, nameIndex := 131, descriptorIndex := 25, attributes := #[] }, { accessFlags := 25, nameIndex := 137, descriptorIndex := 25, attributes := #[] }, { accessFlags := 25, nameIndex := 143, descriptorIndex := 25, attributes := #[] }, { accessFlags := 25, nameIndex := 53, descriptorIndex := 25, attributes := #[] }, { accessFlags := 25, nameIndex := 24, descriptorIndex := 25, attributes := #[] }, { accessFlags := 25, nameIndex := 162, descriptorIndex := 25, attributes := #[] }, { accessFlags := 25, nameIndex := 187, descriptorIndex := 25, attributes := #[] }, { accessFlags := 26, nameIndex := 48, descriptorIndex := 25, attributes := #[] }, { accessFlags := 25, nameIndex := 277, descriptorIndex := 25, attributes := #[] }, { accessFlags := 25, nameIndex := 280, descriptorIndex := 25, attributes := #[] }, { accessFlags := 25, nameIndex := 282, descriptorIndex := 25, attributes := #[] }, { accessFlags := 25, nameIndex := 284, descriptorIndex := 25, attributes := #[] }, { accessFlags := 25, nameIndex := 286, descriptorIndex := 25, attributes := #[] }, { accessFlags := 25, nameIndex := 288, descriptorIndex := 25, attributes := #[] }, { accessFlags := 25, nameIndex := 290, descriptorIndex := 25, attributes := #[] }, { accessFlags := 25, nameIndex := 292, descriptorIndex := 25, attributes := #[] }, { accessFlags := 26, nameIndex := 108, descriptorIndex := 109, attributes := #[] }, { accessFlags := 25, nameIndex := 294, descriptorIndex := 25, attributes := #[] }])
  fields := #[{ name := "U", type := (.object "jdk/internal/misc/Unsafe"), accessFlags := 24, slot := 0, constantValue := 0 }, { name := "BIG_ENDIAN", type := .boolean, accessFlags := 26, slot := 1, constantValue := 0 }, { name := "LOG2_ARRAY_BOOLEAN_INDEX_SCALE", type := .int, accessFlags := 25, slot := 2, constantValue := 0 }, { name := "LOG2_ARRAY_BYTE_INDEX_SCALE", type := .int, accessFlags := 25, slot := 3, constantValue := 0 }, { name := "LOG2_ARRAY_CHAR_INDEX_SCALE", type := .int, accessFlags := 25, slot := 4, constantValue := 0 }, { name := "LOG2_ARRAY_SHORT_INDEX_SCALE", type := .int, accessFlags := 25, slot := 5, constantValue := 0 }, { name := "LOG2_ARRAY_INT_INDEX_SCALE", type := .int, accessFlags := 25, slot := 6, constantValue := 0 }, { name := "LOG2_ARRAY_LONG_INDEX_SCALE", type := .int, accessFlags := 25, slot := 7, constantValue := 0 }, { name := "LOG2_ARRAY_FLOAT_INDEX_SCALE", type := .int, accessFlags := 25, slot := 8, constantValue := 0 }, { name := "LOG2_ARRAY_DOUBLE_INDEX_SCALE", type := .int, accessFlags := 25, slot := 9, constantValue := 0 }, { name := "LOG2_BYTE_BIT_SIZE", type := .int, accessFlags := 26, slot := 10, constantValue := 0 }, { name := "T_BOOLEAN", type := .int, accessFlags := 25, slot := 11, constantValue := 0 }, { name := "T_CHAR", type := .int, accessFlags := 25, slot := 12, constantValue := 0 }, { name := "T_FLOAT", type := .int, accessFlags := 25, slot := 13, constantValue := 0 }, { name := "T_DOUBLE", type := .int, accessFlags := 25, slot := 14, constantValue := 0 }, { name := "T_BYTE", type := .int, accessFlags := 25, slot := 15, constantValue := 0 }, { name := "T_SHORT", type := .int, accessFlags := 25, slot := 16, constantValue := 0 }, { name := "T_INT", type := .int, accessFlags := 25, slot := 17, constantValue := 0 }, { name := "T_LONG", type := .int, accessFlags := 25, slot := 18, constantValue := 0 }, { name := "JLA", type := (.object "jdk/internal/access/JavaLangAccess"), accessFlags := 26, slot := 19, constantValue := 0 }, { name := "SOFT_MAX_ARRAY_LENGTH", type := .int, accessFlags := 25, slot := 20, constantValue := 0 }]
  methods := #[k18m0]
  instanceTypes := #[]
  staticTypes := #[(.object "jdk/internal/misc/Unsafe"), .boolean, .int, .int, .int, .int, .int, .int, .int, .int, .int, .int, .int, .int, .int, .int, .int, .int, .int, (.object "jdk/internal/access/JavaLangAccess"), .int]
  resolved := Array.replicate 378 none
  statics := none }

def pool19 : Array CpInfo := pool [(1, u "java/lang/Cloneable"), (0, .class_ 1), (0, u "java/lang/Object"), (0, .class_ 3)] 3

/-- java/lang/Cloneable -/
def k19 : Class := { plain "java/lang/Cloneable" (some 0) with
  accessFlags := 1537
  interfaces := #[]
  cf := some (fileOf pool19 2 #[] #[] 1537 4 #[] #[])
  fields := #[]
  methods := #[]
  instanceTypes := #[]
  staticTypes := #[]
  resolved := Array.replicate 8 none
  statics := none }

/-- the primitive byte -/
def k20 : Class := { plain "byte" none with kind := .primitive 'B', accessFlags := 0x411 }
/-- [B -/
def k21 : Class := { plain "[B" (some 0) with kind := .array 20 .byte, interfaces := #[19, 3], accessFlags := 1041 }

/-- the primitive char -/
def k22 : Class := { plain "char" none with kind := .primitive 'C', accessFlags := 0x411 }
/-- [C -/
def k23 : Class := { plain "[C" (some 0) with kind := .array 22 .char, interfaces := #[19, 3], accessFlags := 1041 }

/-- the primitive int -/
def k24 : Class := { plain "int" none with kind := .primitive 'I', accessFlags := 0x411 }
/-- [I -/
def k25 : Class := { plain "[I" (some 0) with kind := .array 24 .int, interfaces := #[19, 3], accessFlags := 1041 }

def heap : Heap := #[{ cls := 8, slots := #[.long 0, .int 1, .null, .int 0, .null, .int 0, .int 0], vm := .statics 8 },
  { cls := 11, slots := #[.ref 10], vm := .statics 11 },
  { cls := 13, slots := #[.ref 4, .ref 5, .ref 6, .ref 7, .ref 8, .ref 9, .null], vm := .statics 13 },
  { cls := 17, slots := #[.null, .null, .null], vm := .statics 17 },
  { cls := 13, slots := #[.null, .int 0, .int 0], vm := .none },
  { cls := 13, slots := #[.null, .int 1, .int 0], vm := .none },
  { cls := 13, slots := #[.null, .int 2, .int 0], vm := .none },
  { cls := 13, slots := #[.null, .int 3, .int 0], vm := .none },
  { cls := 13, slots := #[.null, .int 4, .int 0], vm := .none },
  { cls := 13, slots := #[.null, .int 5, .int 0], vm := .none },
  { cls := 11, slots := #[.ref 4, .null, .null, .null, .null, .null, .null, .null], vm := .none }]
def classes : Array Class := #[k0, k1, k2, k3, k4, k5, k6, k7, k8, k9, k10, k11, k12, k13, k14, k15, k16, k17, k18, k19, k20, k21, k22, k23, k24, k25]
def interned : List (Array UInt16 × Addr) := []
def slotsUsed : Nat := 44
def theMethod : MethodId := ⟨1, 2⟩
def args0 : Array Value := #[.int 5, .int 6, .int 7, .int 8]
def aboutOver (below : List Frame) : State where
  vm := { classes := classes, interned := interned.toArray }
  heap := heap
  slotsUsed := slotsUsed
  threads := #[{ frames := .invoking theMethod args0 :: below }]
def below0 : List Frame := [.native { method := ⟨0, 0⟩, args := #[] }]
def about1 : State := aboutOver below0
def p0 : Program := .bare "" "" ""
def e0 : Env := launch0.env 0 0 0
theorem w_frames : about1.frames = Frame.invoking theMethod args0 :: below0 := rfl
set_option maxRecDepth 65536 in
theorem w_args : argsFit about1.vm theMethod args0 = true := by decide +kernel
set_option maxRecDepth 65536 in
theorem w_heap : heapFits about1 = true := by decide +kernel
set_option maxRecDepth 65536 in
theorem w_runnable : about1.curStatus? = some .runnable := by decide +kernel
set_option maxRecDepth 65536 in
theorem w_alone : about1.alone = true := by decide +kernel
set_option maxRecDepth 65536 in
theorem w_named : about1.methodNamed? x = some theMethod := by decide +kernel
set_option maxRecDepth 65536 in
theorem w_hears : about1.hears theMethod below0 = true := by decide +kernel
set_option maxRecDepth 65536 in
theorem w_ripe : about1.ripe theMethod args0 below0 = true := by decide +kernel
theorem w_running : about1.status = .running := rfl
set_option maxRecDepth 65536 in
theorem w_room : about1.hasRoom e0.platform room_1 = true :=
  launch0.hasRoom_least _ room_1 (by decide +kernel) (by decide +kernel) (by decide +kernel) (by decide +kernel) (by decide +kernel) (by decide +kernel)
theorem allAtoms_all (ts : List Jvm.Cond) (a : Array Jvm.Value) (st : Jvm.State) : (allAtoms ts).before a st = ts.all (fun c => c.before a st) := by
  induction ts with
  | nil => rfl
  | cons c t ih =>
    show (Jvm.Cond.and c (allAtoms t)).before a st = _
    rw [Jvm.Cond.before_and, ih, List.all_cons]
def words1 : List Jvm.Cond := Jvm.Cond.code x code maxLocals ret :: tables_1
/-- a 'code' word, met by the world's own term for the bytes: nothing is compared byte by byte -/
theorem code_word {y : MethodName} {bytes : ByteArray} {mx : Nat} {rt : Option FieldType} {a : Array Value} {s : State} {m : MethodId} {meth : Method} {c : Code} (h1 : s.methodNamed? y = some m) (h2 : s.vm.method? m = some meth) (h3 : meth.code = some c) (h4 : c.code = bytes)
    (h5 : (c.maxLocals == mx && c.exceptionTable.isEmpty && decide (c.maxStack ≤ mostOperands) && decide (meth.sig.returnType = rt) && !meth.locks && decide (parseMethodDescriptor y.desc = some meth.sig)) = true) : (Jvm.Cond.code y bytes mx rt).before a s = true := by
  simp only [Bool.and_eq_true, beq_iff_eq, Bool.not_eq_true', decide_eq_true_eq] at h5
  obtain ⟨⟨⟨⟨⟨g1, g2⟩, g3⟩, g4⟩, g5⟩, g6⟩ := h5
  simp [Cond.before, Cond.holds, Cond.value, h1, h2, h3, h4, g1, g2, g3, g4, g5, g6]
def isCode : Jvm.Cond → Bool
  | .code _ _ _ _ => true
  | _ => false
theorem all_split {L : List Jvm.Cond} {P : Jvm.Cond → Bool} (h1 : L.all (fun c => isCode c || P c) = true) (h2 : ∀ c ∈ L.filter isCode, P c = true) : L.all P = true := by
  refine List.all_eq_true.mpr fun c hc => ?_
  have h := List.all_eq_true.mp h1 c hc
  rcases Bool.eq_false_or_eq_true (isCode c) with hi | hi
  · exact h2 c (List.mem_filter.mpr ⟨hc, hi⟩)
  · simpa [hi] using h
set_option maxRecDepth 65536 in
theorem w_c0 : (Jvm.Cond.code x code maxLocals ret).before args0 about1 = true := code_word (m := ⟨1, 2⟩) (meth := k1m2) (c := k1c2) (by decide +kernel) rfl rfl rfl (by decide +kernel)
set_option maxRecDepth 65536 in
theorem w_c1 : (Jvm.Cond.code ({ cls := "java/lang/Math", name := "min", desc := "(II)I" } : Jvm.MethodName) jdk_29_method_69_code (2 : Nat) (Option.some Jvm.ClassFile.FieldType.int)).before args0 about1 = true := code_word (m := ⟨2, 2⟩) (meth := k2m2) (c := k2c2) (by decide +kernel) rfl rfl rfl (by decide +kernel)
set_option maxRecDepth 65536 in
theorem w_c2 : (Jvm.Cond.code ({ cls := "com/example/wardstone/wardstone/policy/AccountMatchesPinLaw", name := "str", desc := "(ICC)Ljava/lang/String;" } : Jvm.MethodName) method_2_code (3 : Nat) (Option.some (Jvm.ClassFile.FieldType.object "java/lang/String"))).before args0 about1 = true := code_word (m := ⟨1, 1⟩) (meth := k1m1) (c := k1c1) (by decide +kernel) rfl rfl rfl (by decide +kernel)
set_option maxRecDepth 65536 in
theorem w_c3 : (Jvm.Cond.code ({ cls := "java/lang/String", name := "valueOf", desc := "(C)Ljava/lang/String;" } : Jvm.MethodName) jdk_42_method_139_code (1 : Nat) (Option.some (Jvm.ClassFile.FieldType.object "java/lang/String"))).before args0 about1 = true := code_word (m := ⟨8, 4⟩) (meth := k8m4) (c := k8c4) (by decide +kernel) rfl rfl rfl (by decide +kernel)
set_option maxRecDepth 65536 in
theorem w_c4 : (Jvm.Cond.code ({ cls := "java/lang/StringLatin1", name := "canEncode", desc := "(C)Z" } : Jvm.MethodName) jdk_43_method_3_code (1 : Nat) (Option.some Jvm.ClassFile.FieldType.boolean)).before args0 about1 = true := code_word (m := ⟨9, 1⟩) (meth := k9m1) (c := k9c1) (by decide +kernel) rfl rfl rfl (by decide +kernel)
set_option maxRecDepth 65536 in
theorem w_c5 : (Jvm.Cond.code ({ cls := "java/lang/StringLatin1", name := "toBytes", desc := "(C)[B" } : Jvm.MethodName) jdk_43_method_46_code (1 : Nat) (Option.some (Jvm.ClassFile.FieldType.array Jvm.ClassFile.FieldType.byte))).before args0 about1 = true := code_word (m := ⟨9, 3⟩) (meth := k9m3) (c := k9c3) (by decide +kernel) rfl rfl rfl (by decide +kernel)
set_option maxRecDepth 65536 in
theorem w_c6 : (Jvm.Cond.code ({ cls := "java/lang/String", name := "<init>", desc := "([BB)V" } : Jvm.MethodName) jdk_42_method_151_code (3 : Nat) (Option.none : Option Jvm.ClassFile.FieldType)).before args0 about1 = true := code_word (m := ⟨8, 6⟩) (meth := k8m6) (c := k8c6) (by decide +kernel) rfl rfl rfl (by decide +kernel)
set_option maxRecDepth 65536 in
theorem w_c7 : (Jvm.Cond.code ({ cls := "java/lang/Object", name := "<init>", desc := "()V" } : Jvm.MethodName) object_method_1_code (1 : Nat) (Option.none : Option Jvm.ClassFile.FieldType)).before args0 about1 = true := code_word (m := ⟨0, 0⟩) (meth := k0m0) (c := k0c0) (by decide +kernel) rfl rfl rfl (by decide +kernel)
set_option maxRecDepth 65536 in
theorem w_c8 : (Jvm.Cond.code ({ cls := "com/example/wardstone/wardstone/request/Requester", name := "user", desc := "(Ljava/lang/String;Ljava/lang/String;Ljava/lang/String;)Lcom/example/wardstone/wardstone/request/Requester;" } : Jvm.MethodName) prog_50_method_4_code (3 : Nat) (Option.some (Jvm.ClassFile.FieldType.object "com/example/wardstone/wardstone/request/Requester"))).before args0 about1 = true := code_word (m := ⟨11, 3⟩) (meth := k11m3) (c := k11c3) (by decide +kernel) rfl rfl rfl (by decide +kernel)
set_option maxRecDepth 65536 in
theorem w_c9 : (Jvm.Cond.code ({ cls := "com/example/wardstone/wardstone/request/Requester", name := "<init>", desc := "(Lcom/example/wardstone/wardstone/request/Requester$Kind;Ljava/lang/String;Ljava/lang/String;Ljava/lang/String;Ljava/lang/String;Ljava/lang/String;Ljava/util/Set;Ljava/lang/String;)V" } : Jvm.MethodName) prog_50_method_1_code (13 : Nat) (Option.none : Option Jvm.ClassFile.FieldType)).before args0 about1 = true := code_word (m := ⟨11, 0⟩) (meth := k11m0) (c := k11c0) (by decide +kernel) rfl rfl rfl (by decide +kernel)
set_option maxRecDepth 65536 in
theorem w_c10 : (Jvm.Cond.code ({ cls := "java/lang/Record", name := "<init>", desc := "()V" } : Jvm.MethodName) jdk_30_method_1_code (1 : Nat) (Option.none : Option Jvm.ClassFile.FieldType)).before args0 about1 = true := code_word (m := ⟨10, 0⟩) (meth := k10m0) (c := k10c0) (by decide +kernel) rfl rfl rfl (by decide +kernel)
set_option maxRecDepth 65536 in
theorem w_c11 : (Jvm.Cond.code ({ cls := "com/example/wardstone/wardstone/request/Requester", name := "requireNonEmpty", desc := "(Ljava/lang/String;Ljava/lang/String;)V" } : Jvm.MethodName) prog_50_method_9_code (2 : Nat) (Option.none : Option Jvm.ClassFile.FieldType)).before args0 about1 = true := code_word (m := ⟨11, 6⟩) (meth := k11m6) (c := k11c6) (by decide +kernel) rfl rfl rfl (by decide +kernel)
set_option maxRecDepth 65536 in
theorem w_c12 : (Jvm.Cond.code ({ cls := "java/lang/String", name := "isEmpty", desc := "()Z" } : Jvm.MethodName) jdk_42_method_55_code (1 : Nat) (Option.some Jvm.ClassFile.FieldType.boolean)).before args0 about1 = true := code_word (m := ⟨8, 2⟩) (meth := k8m2) (c := k8c2) (by decide +kernel) rfl rfl rfl (by decide +kernel)
set_option maxRecDepth 65536 in
theorem w_c13 : (Jvm.Cond.code ({ cls := "com/example/wardstone/wardstone/policy/PrincipalPattern$Account", name := "<init>", desc := "(Ljava/lang/String;)V" } : Jvm.MethodName) prog_30_method_1_code (2 : Nat) (Option.none : Option Jvm.ClassFile.FieldType)).before args0 about1 = true := code_word (m := ⟨15, 0⟩) (meth := k15m0) (c := k15c0) (by decide +kernel) rfl rfl rfl (by decide +kernel)
set_option maxRecDepth 65536 in
theorem w_c14 : (Jvm.Cond.code ({ cls := "com/example/wardstone/wardstone/policy/PrincipalPattern$Account", name := "matches", desc := "(Lcom/example/wardstone/wardstone/request/Requester;)Z" } : Jvm.MethodName) prog_30_method_2_code (2 : Nat) (Option.some Jvm.ClassFile.FieldType.boolean)).before args0 about1 = true := code_word (m := ⟨15, 1⟩) (meth := k15m1) (c := k15c1) (by decide +kernel) rfl rfl rfl (by decide +kernel)
set_option maxRecDepth 65536 in
theorem w_c15 : (Jvm.Cond.code ({ cls := "com/example/wardstone/wardstone/request/Requester", name := "kind", desc := "()Lcom/example/wardstone/wardstone/request/Requester$Kind;" } : Jvm.MethodName) prog_50_method_13_code (1 : Nat) (Option.some (Jvm.ClassFile.FieldType.object "com/example/wardstone/wardstone/request/Requester$Kind"))).before args0 about1 = true := code_word (m := ⟨11, 7⟩) (meth := k11m7) (c := k11c7) (by decide +kernel) rfl rfl rfl (by decide +kernel)
set_option maxRecDepth 65536 in
theorem w_c16 : (Jvm.Cond.code ({ cls := "com/example/wardstone/wardstone/request/Requester", name := "service", desc := "(Ljava/lang/String;)Lcom/example/wardstone/wardstone/request/Requester;" } : Jvm.MethodName) prog_50_method_7_code (1 : Nat) (Option.some (Jvm.ClassFile.FieldType.object "com/example/wardstone/wardstone/request/Requester"))).before args0 about1 = true := code_word (m := ⟨11, 5⟩) (meth := k11m5) (c := k11c5) (by decide +kernel) rfl rfl rfl (by decide +kernel)
set_option maxRecDepth 65536 in
theorem w_c17 : (Jvm.Cond.code ({ cls := "java/lang/String", name := "<init>", desc := "([C)V" } : Jvm.MethodName) jdk_42_method_3_code (2 : Nat) (Option.none : Option Jvm.ClassFile.FieldType)).before args0 about1 = true := code_word (m := ⟨8, 1⟩) (meth := k8m1) (c := k8c1) (by decide +kernel) rfl rfl rfl (by decide +kernel)
set_option maxRecDepth 65536 in
theorem w_c18 : (Jvm.Cond.code ({ cls := "java/lang/String", name := "<init>", desc := "([CIILjava/lang/Void;)V" } : Jvm.MethodName) jdk_42_method_149_code (6 : Nat) (Option.none : Option Jvm.ClassFile.FieldType)).before args0 about1 = true := code_word (m := ⟨8, 5⟩) (meth := k8m5) (c := k8c5) (by decide +kernel) rfl rfl rfl (by decide +kernel)
set_option maxRecDepth 65536 in
theorem w_c19 : (Jvm.Cond.code ({ cls := "java/lang/StringUTF16", name := "compress", desc := "([CII)[B" } : Jvm.MethodName) jdk_52_method_16_code (6 : Nat) (Option.some (Jvm.ClassFile.FieldType.array Jvm.ClassFile.FieldType.byte))).before args0 about1 = true := code_word (m := ⟨16, 2⟩) (meth := k16m2) (c := k16c2) (by decide +kernel) rfl rfl rfl (by decide +kernel)
set_option maxRecDepth 65536 in
theorem w_c20 : (Jvm.Cond.code ({ cls := "java/lang/StringUTF16", name := "compress", desc := "([CI[BII)I" } : Jvm.MethodName) jdk_52_method_21_code (7 : Nat) (Option.some Jvm.ClassFile.FieldType.int)).before args0 about1 = true := code_word (m := ⟨16, 3⟩) (meth := k16m3) (c := k16c3) (by decide +kernel) rfl rfl rfl (by decide +kernel)
set_option maxRecDepth 65536 in
theorem w_c21 : (Jvm.Cond.code ({ cls := "java/lang/StringUTF16", name := "coderFromArrayLen", desc := "([BI)B" } : Jvm.MethodName) jdk_52_method_15_code (2 : Nat) (Option.some Jvm.ClassFile.FieldType.byte)).before args0 about1 = true := code_word (m := ⟨16, 1⟩) (meth := k16m1) (c := k16c1) (by decide +kernel) rfl rfl rfl (by decide +kernel)
set_option maxRecDepth 65536 in
theorem w_c22 : (Jvm.Cond.code ({ cls := "com/example/wardstone/wardstone/request/Requester", name := "anonymous", desc := "()Lcom/example/wardstone/wardstone/request/Requester;" } : Jvm.MethodName) prog_50_method_2_code (0 : Nat) (Option.some (Jvm.ClassFile.FieldType.object "com/example/wardstone/wardstone/request/Requester"))).before args0 about1 = true := code_word (m := ⟨11, 1⟩) (meth := k11m1) (c := k11c1) (by decide +kernel) rfl rfl rfl (by decide +kernel)
set_option maxRecDepth 65536 in
theorem w_c23 : (Jvm.Cond.code ({ cls := "com/example/wardstone/wardstone/request/Requester", name := "agency", desc := "(Ljava/lang/String;Ljava/lang/String;)Lcom/example/wardstone/wardstone/request/Requester;" } : Jvm.MethodName) prog_50_method_5_code (2 : Nat) (Option.some (Jvm.ClassFile.FieldType.object "com/example/wardstone/wardstone/request/Requester"))).before args0 about1 = true := code_word (m := ⟨11, 4⟩) (meth := k11m4) (c := k11c4) (by decide +kernel) rfl rfl rfl (by decide +kernel)
set_option maxRecDepth 65536 in
theorem w_c24 : (Jvm.Cond.code ({ cls := "java/lang/Math", name := "max", desc := "(II)I" } : Jvm.MethodName) jdk_29_method_65_code (2 : Nat) (Option.some Jvm.ClassFile.FieldType.int)).before args0 about1 = true := code_word (m := ⟨2, 1⟩) (meth := k2m1) (c := k2c1) (by decide +kernel) rfl rfl rfl (by decide +kernel)
set_option maxRecDepth 65536 in
theorem w_c25 : (Jvm.Cond.code ({ cls := "com/example/wardstone/wardstone/request/Requester", name := "account", desc := "(Ljava/lang/String;)Lcom/example/wardstone/wardstone/request/Requester;" } : Jvm.MethodName) prog_50_method_3_code (1 : Nat) (Option.some (Jvm.ClassFile.FieldType.object "com/example/wardstone/wardstone/request/Requester"))).before args0 about1 = true := code_word (m := ⟨11, 2⟩) (meth := k11m2) (c := k11c2) (by decide +kernel) rfl rfl rfl (by decide +kernel)
set_option maxRecDepth 65536 in
theorem w_c26 : (Jvm.Cond.code ({ cls := "com/example/wardstone/wardstone/request/Requester", name := "account", desc := "()Ljava/lang/String;" } : Jvm.MethodName) prog_50_method_14_code (1 : Nat) (Option.some (Jvm.ClassFile.FieldType.object "java/lang/String"))).before args0 about1 = true := code_word (m := ⟨11, 8⟩) (meth := k11m8) (c := k11c8) (by decide +kernel) rfl rfl rfl (by decide +kernel)
set_option maxRecDepth 65536 in
theorem w_c27 : (Jvm.Cond.code ({ cls := "java/lang/String", name := "equals", desc := "(Ljava/lang/Object;)Z" } : Jvm.MethodName) jdk_42_method_66_code (3 : Nat) (Option.some Jvm.ClassFile.FieldType.boolean)).before args0 about1 = true := code_word (m := ⟨8, 3⟩) (meth := k8m3) (c := k8c3) (by decide +kernel) rfl rfl rfl (by decide +kernel)
set_option maxRecDepth 65536 in
theorem w_c28 : (Jvm.Cond.code ({ cls := "java/lang/StringLatin1", name := "equals", desc := "([B[B)Z" } : Jvm.MethodName) jdk_43_method_13_code (3 : Nat) (Option.some Jvm.ClassFile.FieldType.boolean)).before args0 about1 = true := code_word (m := ⟨9, 2⟩) (meth := k9m2) (c := k9c2) (by decide +kernel) rfl rfl rfl (by decide +kernel)
def codes1 : List Jvm.Cond := [Jvm.Cond.code x code maxLocals ret, Jvm.Cond.code ({ cls := "java/lang/Math", name := "min", desc := "(II)I" } : Jvm.MethodName) jdk_29_method_69_code (2 : Nat) (Option.some Jvm.ClassFile.FieldType.int), Jvm.Cond.code ({ cls := "com/example/wardstone/wardstone/policy/AccountMatchesPinLaw", name := "str", desc := "(ICC)Ljava/lang/String;" } : Jvm.MethodName) method_2_code (3 : Nat) (Option.some (Jvm.ClassFile.FieldType.object "java/lang/String")), Jvm.Cond.code ({ cls := "java/lang/String", name := "valueOf", desc := "(C)Ljava/lang/String;" } : Jvm.MethodName) jdk_42_method_139_code (1 : Nat) (Option.some (Jvm.ClassFile.FieldType.object "java/lang/String")), Jvm.Cond.code ({ cls := "java/lang/StringLatin1", name := "canEncode", desc := "(C)Z" } : Jvm.MethodName) jdk_43_method_3_code (1 : Nat) (Option.some Jvm.ClassFile.FieldType.boolean), Jvm.Cond.code ({ cls := "java/lang/StringLatin1", name := "toBytes", desc := "(C)[B" } : Jvm.MethodName) jdk_43_method_46_code (1 : Nat) (Option.some (Jvm.ClassFile.FieldType.array Jvm.ClassFile.FieldType.byte)), Jvm.Cond.code ({ cls := "java/lang/String", name := "<init>", desc := "([BB)V" } : Jvm.MethodName) jdk_42_method_151_code (3 : Nat) (Option.none : Option Jvm.ClassFile.FieldType), Jvm.Cond.code ({ cls := "java/lang/Object", name := "<init>", desc := "()V" } : Jvm.MethodName) object_method_1_code (1 : Nat) (Option.none : Option Jvm.ClassFile.FieldType), Jvm.Cond.code ({ cls := "com/example/wardstone/wardstone/request/Requester", name := "user", desc := "(Ljava/lang/String;Ljava/lang/String;Ljava/lang/String;)Lcom/example/wardstone/wardstone/request/Requester;" } : Jvm.MethodName) prog_50_method_4_code (3 : Nat) (Option.some (Jvm.ClassFile.FieldType.object "com/example/wardstone/wardstone/request/Requester")), Jvm.Cond.code ({ cls := "com/example/wardstone/wardstone/request/Requester", name := "<init>", desc := "(Lcom/example/wardstone/wardstone/request/Requester$Kind;Ljava/lang/String;Ljava/lang/String;Ljava/lang/String;Ljava/lang/String;Ljava/lang/String;Ljava/util/Set;Ljava/lang/String;)V" } : Jvm.MethodName) prog_50_method_1_code (13 : Nat) (Option.none : Option Jvm.ClassFile.FieldType), Jvm.Cond.code ({ cls := "java/lang/Record", name := "<init>", desc := "()V" } : Jvm.MethodName) jdk_30_method_1_code (1 : Nat) (Option.none : Option Jvm.ClassFile.FieldType), Jvm.Cond.code ({ cls := "com/example/wardstone/wardstone/request/Requester", name := "requireNonEmpty", desc := "(Ljava/lang/String;Ljava/lang/String;)V" } : Jvm.MethodName) prog_50_method_9_code (2 : Nat) (Option.none : Option Jvm.ClassFile.FieldType), Jvm.Cond.code ({ cls := "java/lang/String", name := "isEmpty", desc := "()Z" } : Jvm.MethodName) jdk_42_method_55_code (1 : Nat) (Option.some Jvm.ClassFile.FieldType.boolean), Jvm.Cond.code ({ cls := "com/example/wardstone/wardstone/policy/PrincipalPattern$Account", name := "<init>", desc := "(Ljava/lang/String;)V" } : Jvm.MethodName) prog_30_method_1_code (2 : Nat) (Option.none : Option Jvm.ClassFile.FieldType), Jvm.Cond.code ({ cls := "com/example/wardstone/wardstone/policy/PrincipalPattern$Account", name := "matches", desc := "(Lcom/example/wardstone/wardstone/request/Requester;)Z" } : Jvm.MethodName) prog_30_method_2_code (2 : Nat) (Option.some Jvm.ClassFile.FieldType.boolean), Jvm.Cond.code ({ cls := "com/example/wardstone/wardstone/request/Requester", name := "kind", desc := "()Lcom/example/wardstone/wardstone/request/Requester$Kind;" } : Jvm.MethodName) prog_50_method_13_code (1 : Nat) (Option.some (Jvm.ClassFile.FieldType.object "com/example/wardstone/wardstone/request/Requester$Kind")), Jvm.Cond.code ({ cls := "com/example/wardstone/wardstone/request/Requester", name := "service", desc := "(Ljava/lang/String;)Lcom/example/wardstone/wardstone/request/Requester;" } : Jvm.MethodName) prog_50_method_7_code (1 : Nat) (Option.some (Jvm.ClassFile.FieldType.object "com/example/wardstone/wardstone/request/Requester")), Jvm.Cond.code ({ cls := "java/lang/String", name := "<init>", desc := "([C)V" } : Jvm.MethodName) jdk_42_method_3_code (2 : Nat) (Option.none : Option Jvm.ClassFile.FieldType), Jvm.Cond.code ({ cls := "java/lang/String", name := "<init>", desc := "([CIILjava/lang/Void;)V" } : Jvm.MethodName) jdk_42_method_149_code (6 : Nat) (Option.none : Option Jvm.ClassFile.FieldType), Jvm.Cond.code ({ cls := "java/lang/StringUTF16", name := "compress", desc := "([CII)[B" } : Jvm.MethodName) jdk_52_method_16_code (6 : Nat) (Option.some (Jvm.ClassFile.FieldType.array Jvm.ClassFile.FieldType.byte)), Jvm.Cond.code ({ cls := "java/lang/StringUTF16", name := "compress", desc := "([CI[BII)I" } : Jvm.MethodName) jdk_52_method_21_code (7 : Nat) (Option.some Jvm.ClassFile.FieldType.int), Jvm.Cond.code ({ cls := "java/lang/StringUTF16", name := "coderFromArrayLen", desc := "([BI)B" } : Jvm.MethodName) jdk_52_method_15_code (2 : Nat) (Option.some Jvm.ClassFile.FieldType.byte), Jvm.Cond.code ({ cls := "com/example/wardstone/wardstone/request/Requester", name := "anonymous", desc := "()Lcom/example/wardstone/wardstone/request/Requester;" } : Jvm.MethodName) prog_50_method_2_code (0 : Nat) (Option.some (Jvm.ClassFile.FieldType.object "com/example/wardstone/wardstone/request/Requester")), Jvm.Cond.code ({ cls := "com/example/wardstone/wardstone/request/Requester", name := "agency", desc := "(Ljava/lang/String;Ljava/lang/String;)Lcom/example/wardstone/wardstone/request/Requester;" } : Jvm.MethodName) prog_50_method_5_code (2 : Nat) (Option.some (Jvm.ClassFile.FieldType.object "com/example/wardstone/wardstone/request/Requester")), Jvm.Cond.code ({ cls := "java/lang/Math", name := "max", desc := "(II)I" } : Jvm.MethodName) jdk_29_method_65_code (2 : Nat) (Option.some Jvm.ClassFile.FieldType.int), Jvm.Cond.code ({ cls := "com/example/wardstone/wardstone/request/Requester", name := "account", desc := "(Ljava/lang/String;)Lcom/example/wardstone/wardstone/request/Requester;" } : Jvm.MethodName) prog_50_method_3_code (1 : Nat) (Option.some (Jvm.ClassFile.FieldType.object "com/example/wardstone/wardstone/request/Requester")), Jvm.Cond.code ({ cls := "com/example/wardstone/wardstone/request/Requester", name := "account", desc := "()Ljava/lang/String;" } : Jvm.MethodName) prog_50_method_14_code (1 : Nat) (Option.some (Jvm.ClassFile.FieldType.object "java/lang/String")), Jvm.Cond.code ({ cls := "java/lang/String", name := "equals", desc := "(Ljava/lang/Object;)Z" } : Jvm.MethodName) jdk_42_method_66_code (3 : Nat) (Option.some Jvm.ClassFile.FieldType.boolean), Jvm.Cond.code ({ cls := "java/lang/StringLatin1", name := "equals", desc := "([B[B)Z" } : Jvm.MethodName) jdk_43_method_13_code (3 : Nat) (Option.some Jvm.ClassFile.FieldType.boolean)]
set_option maxRecDepth 65536 in
theorem codes_eq : words1.filter isCode = codes1 := rfl
theorem w_codes : ∀ c ∈ words1.filter isCode, c.before args0 about1 = true := by
  rw [codes_eq]
  intro c hc
  simp only [codes1, List.mem_cons, List.not_mem_nil, or_false] at hc
  rcases hc with rfl | rfl | rfl | rfl | rfl | rfl | rfl | rfl | rfl | rfl | rfl | rfl | rfl | rfl | rfl | rfl | rfl | rfl | rfl | rfl | rfl | rfl | rfl | rfl | rfl | rfl | rfl | rfl | rfl
  · exact w_c0
  · exact w_c1
  · exact w_c2
  · exact w_c3
  · exact w_c4
  · exact w_c5
  · exact w_c6
  · exact w_c7
  · exact w_c8
  · exact w_c9
  · exact w_c10
  · exact w_c11
  · exact w_c12
  · exact w_c13
  · exact w_c14
  · exact w_c15
  · exact w_c16
  · exact w_c17
  · exact w_c18
  · exact w_c19
  · exact w_c20
  · exact w_c21
  · exact w_c22
  · exact w_c23
  · exact w_c24
  · exact w_c25
  · exact w_c26
  · exact w_c27
  · exact w_c28
set_option maxRecDepth 65536 in
theorem w_t1 : (words1.take 24).all (fun c => isCode c || c.before args0 about1) = true := by decide +kernel
set_option maxRecDepth 65536 in
theorem w_t2 : ((words1.drop 24).take 24).all (fun c => isCode c || c.before args0 about1) = true := by decide +kernel
set_option maxRecDepth 65536 in
theorem w_t3 : (((words1.drop 24).drop 24).take 24).all (fun c => isCode c || c.before args0 about1) = true := by decide +kernel
set_option maxRecDepth 65536 in
theorem w_t4 : ((((words1.drop 24).drop 24).drop 24).take 24).all (fun c => isCode c || c.before args0 about1) = true := by decide +kernel
set_option maxRecDepth 65536 in
theorem w_t5 : (((((words1.drop 24).drop 24).drop 24).drop 24).take 24).all (fun c => isCode c || c.before args0 about1) = true := by decide +kernel
set_option maxRecDepth 65536 in
theorem w_t6 : ((((((words1.drop 24).drop 24).drop 24).drop 24).drop 24).take 24).all (fun c => isCode c || c.before args0 about1) = true := by decide +kernel
set_option maxRecDepth 65536 in
theorem w_t7 : ((((((words1.drop 24).drop 24).drop 24).drop 24).drop 24).drop 24).all (fun c => isCode c || c.before args0 about1) = true := by decide +kernel
theorem w_tables : (allAtoms (Jvm.Cond.code x code maxLocals ret :: tables_1)).before args0 about1 = true := by
  rw [allAtoms_all]
  show words1.all (fun c => c.before args0 about1) = true
  refine all_split ?_ w_codes
  rw [← List.take_append_drop 24 words1, List.all_append, w_t1, ← List.take_append_drop 24 (words1.drop 24), List.all_append, w_t2, ← List.take_append_drop 24 ((words1.drop 24).drop 24), List.all_append, w_t3, ← List.take_append_drop 24 (((words1.drop 24).drop 24).drop 24), List.all_append, w_t4, ← List.take_append_drop 24 ((((words1.drop 24).drop 24).drop 24).drop 24), List.all_append, w_t5, ← List.take_append_drop 24 (((((words1.drop 24).drop 24).drop 24).drop 24).drop 24), List.all_append, w_t6, w_t7]
  rfl
set_option maxRecDepth 65536 in
theorem w_rest : rest_1_c.before args0 about1 = true := by decide +kernel
set_option maxRecDepth 65536 in
theorem w_case : (Jvm.Cond.and given_1 narrow_1).before args0 about1 = true := by decide +kernel
set_option maxRecDepth 65536 in
theorem w_consts : constsHeld consts_1 about1 := Jvm.Lit.constsHeldB_iff.mp (by decide +kernel)
theorem w_applies : (headSpec (Jvm.Cond.code x code maxLocals ret :: tables_1) room_1).applies x e0.platform about1 = true :=
  (Spec.applies_iff w_frames).mpr ⟨w_running, w_runnable, w_alone, w_named, w_hears, w_ripe, w_room, w_tables⟩
theorem atStart : AtStart classFile x code maxLocals ret World_1 tables_1 room_1 Calls_1 rest_1 Pre_1 launch0 p0 e0 about1 theMethod args0 below0 :=
  ⟨lists_1, trivial, launch0.admits_env _ _ _, launch0.least_env, fairChoices_fair.cas, fairChoices_fair.clock, w_frames, w_args, w_heap, w_applies, ⟨w_consts, trivial⟩, w_rest, w_case⟩
end start1
theorem witness_1 : WitnessClaimed_1 := ⟨start1.p0, start1.e0, start1.about1, start1.theMethod, start1.args0, start1.below0, start1.atStart⟩
end Jvm.Pilot.@@N@@
