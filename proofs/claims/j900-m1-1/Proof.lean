import JvmDerived
import JvmDerived.Pilot.@@N@@Statement
import JvmDerived.Pilot.@@N@@Code
set_option linter.unusedVariables false
set_option linter.unusedSimpArgs false
/- laws to paste: Road.backV, Road.codOf (cut by pick.py; bodies as the Statement names them) -/
namespace Jvm.Pilot.@@N@@
namespace StrChars
open Jvm Sem ClassFile Op Lib Jvm.Stand Jvm.Free.XT Jvm.Free.ALB Jvm.Free.JM Jvm.Free
open Jvm.Lib.Cold (StaticIs)
/-- a char array whose places are chars -/
def Ch (a : Addr) (A : Cell) (U : State) : Prop := Arr .char a A U ∧ Typed .char A
theorem Ch.mv {a : Addr} {A : Cell} {U U' : State} (h : Ch a A U) (hal : U.vm.Alike U'.vm) (hh : U'.heap = U.heap) : Ch a A U' := ⟨h.1.mv hal hh, h.2⟩
theorem Ch.keep {a : Addr} {A : Cell} {U U' : State} (h : Ch a A U) (hal : U.vm.Alike U'.vm) (hk : U'.heap[a]? = some A) : Ch a A U' := ⟨h.1.keep hal hk, h.2⟩
/-- what place i of a char[]'s cell holds -/
def cv (A : Cell) (i : Nat) : Int32 := match A.slots[i]? with | some (.int x) => x | _ => 0
theorem Ch.get {a : Addr} {A : Cell} {U : State} (h : Ch a A U) {i : Nat} (hi : i < A.slots.size) : A.slots[i]? = some (.int (cv A i)) := by
  have e := Array.getElem?_eq_getElem hi
  have f := h.2 i _ e
  unfold cv; rw [e]
  generalize A.slots[i] = v at f
  cases v <;> simp [fits] at f ⊢
/-- the byte that i2b leaves of a char -/
def lo8 (x : Int32) : Int32 := x.toInt8.toInt32
theorem fits_lo8 (y : Int32) : fits .byte (.int (lo8 y)) = true := by
  have h1 := y.toInt8.le_toInt
  have h2 := y.toInt8.toInt_lt
  simp only [lo8, fits, Bool.and_eq_true, decide_eq_true_eq, Int32.le_iff_toInt_le, Int8.toInt_toInt32, show (-128 : Int32).toInt = -128 from by decide, show (127 : Int32).toInt = 127 from by decide]
  omega
/-- A' is A but that each place j of lo .. hi - 1 holds f j -/
def Laid (A A' : Cell) (lo hi : Nat) (f : Nat → Value) : Prop := A'.cls = A.cls ∧ A'.vm = A.vm ∧ A'.slots.size = A.slots.size ∧ ∀ i, A'.slots[i]? = if lo ≤ i ∧ i < hi then some (f i) else A.slots[i]?
theorem Laid.zero (A : Cell) (lo : Nat) (f : Nat → Value) : Laid A A lo (lo + 0) f := ⟨rfl, rfl, rfl, fun i => by rw [if_neg (by omega)]⟩
theorem Laid.step {A Ak : Cell} {lo k : Nat} {f : Nat → Value} {v : Value} (h : Laid A Ak lo k f) (hlo : lo ≤ k) (hk : k < Ak.slots.size) (hv : v = f k) : Laid A (Ak.setSlot k v) lo (k + 1) f := by
  refine ⟨h.1, h.2.1, by simpa [Cell.setSlot] using h.2.2.1, fun i => ?_⟩
  by_cases e : k = i
  · subst e; rw [Cell.slots_setSlot_self v hk, if_pos (by omega), hv]
  · rw [Cell.slots_setSlot_ne v e, h.2.2.2 i]
    by_cases q : lo ≤ i ∧ i < k
    · rw [if_pos q, if_pos (by omega)]
    · rw [if_neg q, if_neg (by omega)]
def U16 : String := "java/lang/StringUTF16"
namespace Cmp5
def yN : MethodName := ⟨"java/lang/StringUTF16", "compress", "([CI[BII)I"⟩
abbrev yB : ByteArray := jdk_52_method_21_code
theorem d0 : decode yB 0 = .ok (.iconst 0, 1) := by decide +kernel
theorem d1 : decode yB 1 = .ok (.istore 5, 2) := by decide +kernel
theorem d3 : decode yB 3 = .ok (.iload 5, 2) := by decide +kernel
theorem d5 : decode yB 5 = .ok (.iload 4, 2) := by decide +kernel
theorem d7 : decode yB 7 = .ok (.if_icmp (.ge) 37, 3) := by decide +kernel
theorem d10 : decode yB 10 = .ok (.aload_n 0, 1) := by decide +kernel
theorem d11 : decode yB 11 = .ok (.iload_n 1, 1) := by decide +kernel
theorem d12 : decode yB 12 = .ok (.caload, 1) := by decide +kernel
theorem d13 : decode yB 13 = .ok (.istore 6, 2) := by decide +kernel
theorem d15 : decode yB 15 = .ok (.iload 6, 2) := by decide +kernel
theorem d17 : decode yB 17 = .ok (.sipush 255, 3) := by decide +kernel
theorem d20 : decode yB 20 = .ok (.if_icmp (.le) 6, 3) := by decide +kernel
theorem d26 : decode yB 26 = .ok (.aload_n 2, 1) := by decide +kernel
theorem d27 : decode yB 27 = .ok (.iload_n 3, 1) := by decide +kernel
theorem d28 : decode yB 28 = .ok (.iload 6, 2) := by decide +kernel
theorem d30 : decode yB 30 = .ok (.i2b, 1) := by decide +kernel
theorem d31 : decode yB 31 = .ok (.bastore, 1) := by decide +kernel
theorem d32 : decode yB 32 = .ok (.iinc 1 1, 3) := by decide +kernel
theorem d35 : decode yB 35 = .ok (.iinc 3 1, 3) := by decide +kernel
theorem d38 : decode yB 38 = .ok (.iinc 5 1, 3) := by decide +kernel
theorem d41 : decode yB 41 = .ok (.goto (-38), 3) := by decide +kernel
theorem d44 : decode yB 44 = .ok (.iload 4, 2) := by decide +kernel
theorem d46 : decode yB 46 = .ok (.ireturn, 1) := by decide +kernel
def site : List Cond := []
def tab : Cond := tabOf yN yB 7 (some .int) site
def P (b : Addr) (A : Cell) (d : Addr) (B : Cell) (o q len : Nat) (args : Array Value) (s : State) : Prop := args = #[.ref b, .int (Int32.ofNat o), .ref d, .int (Int32.ofNat q), .int (Int32.ofNat len)] ∧ Ch b A s ∧ Arr .byte d B s ∧ b ≠ d ∧ o + len ≤ A.slots.size ∧ q + len ≤ B.slots.size ∧ ∀ i, i < len → ¬ 255 < cv A (o + i)
def E (b : Addr) (A : Cell) (d : Addr) (B : Cell) (o q len : Nat) (r : Option Value) (s u : State) : Prop := r = some (.int (Int32.ofNat len)) ∧ ∃ B', Put d B' s u ∧ Laid B B' q (q + len) (fun j => Value.int (lo8 (cv A (o + (j - q)))))
/-- no char of the range above 255: len; the places written hold each char's low byte -/
theorem law (l : Launch) (b : Addr) (A : Cell) (d : Addr) (B : Cell) (o q len : Nat) : Law l yN 5 5 0 0 yB 7 (some .int) site (P b A d B o q len) (E b A d B o q len) (copyLocs d q len) 0 0 := by
  refine Law.of_walk (plainFor_of_name (by decide +kernel)) (by decide +kernel) (by decide +kernel) (by decide) (fun _ _ h => by rw [h.1]; rfl) (fun _ U U' hal hh h => ⟨h.1, h.2.1.mv hal hh, h.2.2.1.mv hal hh, h.2.2.2⟩) (fun r U U' V V' h1 hal h2 h => ⟨h.1, h.2.elim fun B' q => ⟨B', q.1.mv h1 h2, q.2⟩⟩) ?_
  intro p e s m args below meth c s₁ X0 hexec hbytes hml hret hlk hnm hown hh0 W hP
  obtain ⟨rfl, hA, hB, hne, l1, l2, hp⟩ := hP
  have c1 : Steps p.tables e below (s₁.setTop (entryFrame m #[.ref b, .int (Int32.ofNat o), .ref d, .int (Int32.ofNat q), .int (Int32.ofNat len)] 7)) (s₁.setTop (mkF m 0 #[.val (.ref b), .val (.int (Int32.ofNat o)), .val (.ref d), .val (.int (Int32.ofNat q)), .val (.int (Int32.ofNat len)), .unset, .unset] [])) := entry rfl
  have hA0 := hA.1.mv X0.warmed.alike hh0
  have hB0 := hB.mv X0.warmed.alike hh0
  have a31 := hA.1.2.2.2
  have c2 : Steps p.tables e below (s₁.setTop (entryFrame m #[.ref b, .int (Int32.ofNat o), .ref d, .int (Int32.ofNat q), .int (Int32.ofNat len)] 7)) (s₁.setTop (mkF m 3 #[.val (.ref b), .val (.int (Int32.ofNat o)), .val (.ref d), .val (.int (Int32.ofNat q)), .val (.int (Int32.ofNat len)), .val (.int 0), .unset] [])) := c1.trans (by
    refine iconstV X0.here hexec rfl 0 (hb hbytes d0) (by decide) ?_
    refine XS.istore X0.here hexec rfl (hb hbytes d1) rfl rfl ?_
    exact Steps.refl _)
  have loop : ∀ (r i : Nat), i + r = len → ∀ (z : Slot), (z = .unset ∨ ∃ w, z = .val w ∧ w.category = 1) → ∀ (Tl : State) (Bk : Cell), Stand p l e { frames := 0, locals := 0, cells := 0, slots := 0 } s m #[.ref b, .int (Int32.ofNat o), .ref d, .int (Int32.ofNat q), .int (Int32.ofNat len)] below meth c Tl ([] ++ copyLocs d q i) 0 0 → Put d Bk s₁ Tl → Laid B Bk q (q + i) (fun j => Value.int (lo8 (cv A (o + (j - q))))) →
      Steps p.tables e below (s₁.setTop (entryFrame m #[.ref b, .int (Int32.ofNat o), .ref d, .int (Int32.ofNat q), .int (Int32.ofNat len)] 7)) (Tl.setTop (mkF m 3 #[.val (.ref b), .val (.int (Int32.ofNat (o + i))), .val (.ref d), .val (.int (Int32.ofNat (q + i))), .val (.int (Int32.ofNat len)), .val (.int (Int32.ofNat i)), z] [])) → ∃ (T' : State) (B' : Cell) (z' : Slot), Stand p l e { frames := 0, locals := 0, cells := 0, slots := 0 } s m #[.ref b, .int (Int32.ofNat o), .ref d, .int (Int32.ofNat q), .int (Int32.ofNat len)] below meth c T' ([] ++ copyLocs d q len) 0 0 ∧ Put d B' s₁ T' ∧ Laid B B' q (q + len) (fun j => Value.int (lo8 (cv A (o + (j - q))))) ∧
      Steps p.tables e below (s₁.setTop (entryFrame m #[.ref b, .int (Int32.ofNat o), .ref d, .int (Int32.ofNat q), .int (Int32.ofNat len)] 7)) (T'.setTop (mkF m 3 #[.val (.ref b), .val (.int (Int32.ofNat (o + len))), .val (.ref d), .val (.int (Int32.ofNat (q + len))), .val (.int (Int32.ofNat len)), .val (.int (Int32.ofNat len)), z'] [])) := by
    intro r
    induction r with
    | zero =>
      intro i hi z hz Tl Bk Xl pl fl cl
      have hil : i = len := by omega
      rw [hil] at Xl fl cl
      exact ⟨Tl, Bk, z, Xl, pl, fl, cl⟩
    | succ r ih =>
      intro i hi z hz Tl Bk Xl pl fl cl
      have all := X0.warmed.alike.symm.trans Xl.warmed.alike
      have hAl := hA0.keep all (pl.other hne hA0.1)
      have hBk := hB0.like all pl.1 fl.1 fl.2.1 fl.2.2.1
      have hlt : q + i < Bk.slots.size := by rw [fl.2.2.1]; omega
      have c3 : Steps p.tables e below (s₁.setTop (entryFrame m #[.ref b, .int (Int32.ofNat o), .ref d, .int (Int32.ofNat q), .int (Int32.ofNat len)] 7)) (Tl.setTop (mkF m 12 #[.val (.ref b), .val (.int (Int32.ofNat (o + i))), .val (.ref d), .val (.int (Int32.ofNat (q + i))), .val (.int (Int32.ofNat len)), .val (.int (Int32.ofNat i)), z] [.int (Int32.ofNat (o + i)), .ref b])) := cl.trans (by
        refine XS.iload Xl.here hexec rfl (hb hbytes d3) rfl ?_
        refine XS.iload Xl.here hexec rfl (hb hbytes d5) rfl ?_
        refine XS.icmpNo Xl.here hexec rfl (hb hbytes d7) rfl (ii_ge_f (lt32 (by omega) (by omega))) ?_
        refine XS.aloadN Xl.here hexec rfl (hb hbytes d10) rfl rfl ?_
        refine XS.iloadN Xl.here hexec rfl (hb hbytes d11) rfl ?_
        exact Steps.refl _)
      have c4 : Steps p.tables e below (s₁.setTop (entryFrame m #[.ref b, .int (Int32.ofNat o), .ref d, .int (Int32.ofNat q), .int (Int32.ofNat len)] 7)) (Tl.setTop (mkF m 13 #[.val (.ref b), .val (.int (Int32.ofNat (o + i))), .val (.ref d), .val (.int (Int32.ofNat (q + i))), .val (.int (Int32.ofNat len)), .val (.int (Int32.ofNat i)), z] [.int (cv A (o + i))])) := c3.trans (by
        refine Xl.aget hexec hAl rfl (hA.get (i := o + i) (by omega)) rfl rfl (hb hbytes d12) ?_
        exact Steps.refl _)
      have c5 : Steps p.tables e below (s₁.setTop (entryFrame m #[.ref b, .int (Int32.ofNat o), .ref d, .int (Int32.ofNat q), .int (Int32.ofNat len)] 7)) (Tl.setTop (mkF m 15 #[.val (.ref b), .val (.int (Int32.ofNat (o + i))), .val (.ref d), .val (.int (Int32.ofNat (q + i))), .val (.int (Int32.ofNat len)), .val (.int (Int32.ofNat i)), .val (.int (cv A (o + i)))] [])) := c4.trans (by
        refine XS.istoreS Xl.here hexec rfl (hb hbytes d13) rfl rfl hz ?_
        exact Steps.refl _)
      have c6 : Steps p.tables e below (s₁.setTop (entryFrame m #[.ref b, .int (Int32.ofNat o), .ref d, .int (Int32.ofNat q), .int (Int32.ofNat len)] 7)) (Tl.setTop (mkF m 31 #[.val (.ref b), .val (.int (Int32.ofNat (o + i))), .val (.ref d), .val (.int (Int32.ofNat (q + i))), .val (.int (Int32.ofNat len)), .val (.int (Int32.ofNat i)), .val (.int (cv A (o + i)))] [.int (lo8 (cv A (o + i))), .int (Int32.ofNat (q + i)), .ref d])) := c5.trans (by
        refine XS.iload Xl.here hexec rfl (hb hbytes d15) rfl ?_
        refine sipushV Xl.here hexec rfl 255 (hb hbytes d17) (by decide) ?_
        refine XS.icmpYes Xl.here hexec rfl (pc0 := 20) rfl (hb hbytes d20) rfl (ii_le_t (hp i (by omega))) (by decide) rfl ?_
        refine XS.aloadN Xl.here hexec rfl (hb hbytes d26) rfl rfl ?_
        refine XS.iloadN Xl.here hexec rfl (hb hbytes d27) rfl ?_
        refine XS.iload Xl.here hexec rfl (hb hbytes d28) rfl ?_
        refine i2b Xl.here hexec rfl (hb hbytes d30) rfl ?_
        exact Steps.refl _)
      obtain ⟨T7, X7, p7, st7⟩ := Xl.aput hexec hBk rfl hlt rfl (fits_lo8 (cv A (o + i))) (g := (mkF m 31 #[.val (.ref b), .val (.int (Int32.ofNat (o + i))), .val (.ref d), .val (.int (Int32.ofNat (q + i))), .val (.int (Int32.ofNat len)), .val (.int (Int32.ofNat i)), .val (.int (cv A (o + i)))] [.int (lo8 (cv A (o + i))), .int (Int32.ofNat (q + i)), .ref d])) rfl (rest := []) rfl (hb hbytes d31)
      have c8 : Steps p.tables e below (s₁.setTop (entryFrame m #[.ref b, .int (Int32.ofNat o), .ref d, .int (Int32.ofNat q), .int (Int32.ofNat len)] 7)) (T7.setTop (mkF m 32 #[.val (.ref b), .val (.int (Int32.ofNat (o + i))), .val (.ref d), .val (.int (Int32.ofNat (q + i))), .val (.int (Int32.ofNat len)), .val (.int (Int32.ofNat i)), .val (.int (cv A (o + i)))] [])) := c6.trans (st7 _ (Steps.refl _))
      have c9 : Steps p.tables e below (s₁.setTop (entryFrame m #[.ref b, .int (Int32.ofNat o), .ref d, .int (Int32.ofNat q), .int (Int32.ofNat len)] 7)) (T7.setTop (mkF m 3 #[.val (.ref b), .val (.int (Int32.ofNat (o + i) + 1)), .val (.ref d), .val (.int (Int32.ofNat (q + i) + 1)), .val (.int (Int32.ofNat len)), .val (.int (Int32.ofNat i + 1)), .val (.int (cv A (o + i)))] [])) := c8.trans (by
        refine iincV X7.here hexec rfl 1 (hb hbytes d32) (by decide) rfl rfl ?_
        refine iincV X7.here hexec rfl 1 (hb hbytes d35) (by decide) rfl rfl ?_
        refine iincV X7.here hexec rfl 1 (hb hbytes d38) (by decide) rfl rfl ?_
        refine XS.goto X7.here hexec rfl (pc0 := 41) rfl (hb hbytes d41) (by decide) rfl ?_
        exact Steps.refl _)
      have c10 : Steps p.tables e below (s₁.setTop (entryFrame m #[.ref b, .int (Int32.ofNat o), .ref d, .int (Int32.ofNat q), .int (Int32.ofNat len)] 7)) (T7.setTop (mkF m 3 #[.val (.ref b), .val (.int (Int32.ofNat (o + (i + 1)))), .val (.ref d), .val (.int (Int32.ofNat (q + (i + 1)))), .val (.int (Int32.ofNat len)), .val (.int (Int32.ofNat (i + 1))), .val (.int (cv A (o + i)))] [])) := by
        have := c9
        rw [succ32, succ32, succ32] at this
        exact this
      exact ih (i + 1) (by omega) _ (Or.inr ⟨_, rfl, rfl⟩) T7 _ (by rw [copyLocs_step, ← List.append_assoc]; exact X7) (pl.trans p7) (fl.step (by omega) hlt (by simp)) c10
  obtain ⟨T9, B9, z9, X9, p9, f9, g9⟩ := loop len 0 (by omega) .unset (Or.inl rfl) s₁ B (by simpa [copyLocs] using X0) ⟨hB0.1, fun _ _ => rfl, rfl⟩ (Laid.zero _ _ _) c2
  have c11 : Steps p.tables e below (s₁.setTop (entryFrame m #[.ref b, .int (Int32.ofNat o), .ref d, .int (Int32.ofNat q), .int (Int32.ofNat len)] 7)) (T9.setTop (mkF m 46 #[.val (.ref b), .val (.int (Int32.ofNat (o + len))), .val (.ref d), .val (.int (Int32.ofNat (q + len))), .val (.int (Int32.ofNat len)), .val (.int (Int32.ofNat len)), z9] [.int (Int32.ofNat len)])) := g9.trans (by
    refine XS.iload X9.here hexec rfl (hb hbytes d3) rfl ?_
    refine XS.iload X9.here hexec rfl (hb hbytes d5) rfl ?_
    refine XS.icmpYes X9.here hexec rfl (pc0 := 7) rfl (hb hbytes d7) rfl (ii_ge_t (nlt32 (by omega) (Nat.le_refl _))) (by decide) rfl ?_
    refine XS.iload X9.here hexec rfl (hb hbytes d44) rfl ?_
    exact Steps.refl _)
  exact ⟨T9, some (.int (Int32.ofNat len)), _, _, _, X9, by simp, rfl, rfl, (fun h => by cases h), ⟨rfl, B9, p9.from hh0, f9⟩, fun fs hl => c11.trans (X9.ireturnOut hexec hret rfl (Or.inl rfl) (hb hbytes d46) hl)⟩
end Cmp5
namespace Cmp3
def yN : MethodName := ⟨"java/lang/StringUTF16", "compress", "([CII)[B"⟩
abbrev yB : ByteArray := jdk_52_method_16_code
theorem d0 : decode yB 0 = .ok (.iload_n 2, 1) := by decide +kernel
theorem d1 : decode yB 1 = .ok (.newarray .byte, 2) := by decide +kernel
theorem d3 : decode yB 3 = .ok (.astore_n 3, 1) := by decide +kernel
theorem d4 : decode yB 4 = .ok (.aload_n 0, 1) := by decide +kernel
theorem d5 : decode yB 5 = .ok (.iload_n 1, 1) := by decide +kernel
theorem d6 : decode yB 6 = .ok (.aload_n 3, 1) := by decide +kernel
theorem d7 : decode yB 7 = .ok (.iconst 0, 1) := by decide +kernel
theorem d8 : decode yB 8 = .ok (.iload_n 2, 1) := by decide +kernel
theorem d9 : decode yB 9 = .ok (.invokestatic 115, 3) := by decide +kernel
theorem d12 : decode yB 12 = .ok (.istore 4, 2) := by decide +kernel
theorem d14 : decode yB 14 = .ok (.iload 4, 2) := by decide +kernel
theorem d16 : decode yB 16 = .ok (.iload_n 2, 1) := by decide +kernel
theorem d17 : decode yB 17 = .ok (.if_icmp (.eq) 40, 3) := by decide +kernel
theorem d57 : decode yB 57 = .ok (.aload_n 3, 1) := by decide +kernel
theorem d58 : decode yB 58 = .ok (.areturn, 1) := by decide +kernel
def site : List Cond := [.arrayClass .byte, Cmp5.tab] ++ staticW U16 115 Cmp5.yN
def tab : Cond := tabOf yN yB 6 (some (.array .byte)) site
def P (b : Addr) (A : Cell) (o len : Nat) (args : Array Value) (s : State) : Prop := args = #[.ref b, .int (Int32.ofNat o), .int (Int32.ofNat len)] ∧ Ch b A s ∧ o + len ≤ A.slots.size ∧ len ≤ 536870912 ∧ ∀ i, i < len → ¬ 255 < cv A (o + i)
def E (b : Addr) (A : Cell) (o len : Nat) (r : Option Value) (s u : State) : Prop := NewArr .byte "[B" len (fun j => .int (lo8 (cv A (o + j)))) r s u ∧ u.heap.size = s.heap.size + 1
/-- no char of the range above 255: a new byte[] of their low bytes -/
theorem law (l : Launch) (b : Addr) (A : Cell) (o len : Nat) : Law l yN 3 3 1 18 yB 6 (some (.array .byte)) site (P b A o len) (E b A o len) [] 1 len := by
  refine Law.of_walk (plainFor_of_name (by decide +kernel)) (by decide +kernel) (by decide +kernel) (by decide) (fun _ _ h => by rw [h.1]; rfl) (fun _ U U' hal hh h => ⟨h.1, h.2.1.mv hal hh, h.2.2⟩) (fun r U U' V V' h1 hal h2 h => ⟨NewArr.mv r U U' V V' h1 hal h2 h.1, by rw [h1, h2]; exact h.2⟩) ?_
  intro p e s m args below meth c s₁ X0 hexec hbytes hml hret hlk hnm hown hh0 W hP
  obtain ⟨rfl, hA, l1, l2, hp⟩ := hP
  have a31 := hA.1.2.2.2
  have c1 : Steps p.tables e below (s₁.setTop (entryFrame m #[.ref b, .int (Int32.ofNat o), .int (Int32.ofNat len)] 6)) (s₁.setTop (mkF m 0 #[.val (.ref b), .val (.int (Int32.ofNat o)), .val (.int (Int32.ofNat len)), .unset, .unset, .unset] [])) := entry rfl
  have c2 : Steps p.tables e below (s₁.setTop (entryFrame m #[.ref b, .int (Int32.ofNat o), .int (Int32.ofNat len)] 6)) (s₁.setTop (mkF m 1 #[.val (.ref b), .val (.int (Int32.ofNat o)), .val (.int (Int32.ofNat len)), .unset, .unset, .unset] [.int (Int32.ofNat len)])) := c1.trans (by
    refine XS.iloadN X0.here hexec rfl (hb hbytes d0) rfl ?_
    exact Steps.refl _)
  obtain ⟨T3, B3, X3, ba3, bs3, bv3, bh3, bf3, st3⟩ := X0.anew hexec (atype := .byte) (wk W (.arrayClass .byte)) rfl (by show len * 1 ≤ _; omega) (by omega) (g := (mkF m 1 #[.val (.ref b), .val (.int (Int32.ofNat o)), .val (.int (Int32.ofNat len)), .unset, .unset, .unset] [.int (Int32.ofNat len)])) rfl (hb hbytes d1) (rest := []) rfl (Nat.le_refl _) (by show 0 + len ≤ len; omega)
  rw [hh0] at ba3 st3
  have kp3 : XT.Kept s T3 := (XT.Kept.of_eq hh0).push bh3
  have hA3 := hA.keep X3.warmed.alike (kp3 _ _ hA.1.1)
  have hne : b ≠ s.heap.size := hA.1.ne
  have c4 : Steps p.tables e below (s₁.setTop (entryFrame m #[.ref b, .int (Int32.ofNat o), .int (Int32.ofNat len)] 6)) (T3.setTop (mkF m 3 #[.val (.ref b), .val (.int (Int32.ofNat o)), .val (.int (Int32.ofNat len)), .unset, .unset, .unset] [.ref s.heap.size])) := c2.trans (st3 _ (Steps.refl _))
  have c5 : Steps p.tables e below (s₁.setTop (entryFrame m #[.ref b, .int (Int32.ofNat o), .int (Int32.ofNat len)] 6)) (T3.setTop (mkF m 9 #[.val (.ref b), .val (.int (Int32.ofNat o)), .val (.int (Int32.ofNat len)), .val (.ref s.heap.size), .unset, .unset] [.int (Int32.ofNat len), .int 0, .ref s.heap.size, .int (Int32.ofNat o), .ref b])) := c4.trans (by
    refine XS.astoreN X3.here hexec rfl (hb hbytes d3) rfl rfl rfl ?_
    refine XS.aloadN X3.here hexec rfl (hb hbytes d4) rfl rfl ?_
    refine XS.iloadN X3.here hexec rfl (hb hbytes d5) rfl ?_
    refine XS.aloadN X3.here hexec rfl (hb hbytes d6) rfl rfl ?_
    refine iconstV X3.here hexec rfl 0 (hb hbytes d7) (by decide) ?_
    refine XS.iloadN X3.here hexec rfl (hb hbytes d8) rfl ?_
    exact Steps.refl _)
  obtain ⟨v6, T6, X6, E6, g6⟩ := X3.callS hexec (Cmp5.law l b A s.heap.size B3 o 0 len) hown (wks W (staticW U16 115 Cmp5.yN)) (wk W Cmp5.tab) (W := 0) (Nat.le_of_ble_eq_true rfl) (Nat.le_of_ble_eq_true rfl) (Nat.le_refl _) (by show 0 + len + 0 ≤ len; omega) (g := (mkF m 9 #[.val (.ref b), .val (.int (Int32.ofNat o)), .val (.int (Int32.ofNat len)), .val (.ref s.heap.size), .unset, .unset] [.int (Int32.ofNat len), .int (Int32.ofNat 0), .ref s.heap.size, .int (Int32.ofNat o), .ref b])) rfl (by rw [hml]; rfl) c5 (argsL := [.ref b, .int (Int32.ofNat o), .ref s.heap.size, .int (Int32.ofNat 0), .int (Int32.ofNat len)]) (rest := []) rfl rfl (by show 2 * 0 + 0 ≤ _; decide) (hb hbytes d9) (⟨rfl, hA3, ba3, hne, l1, by rw [bs3]; simp, hp⟩)
  obtain ⟨rfl, B6, p6, f6⟩ := E6
  have c7 : Steps p.tables e below (s₁.setTop (entryFrame m #[.ref b, .int (Int32.ofNat o), .int (Int32.ofNat len)] 6)) (T6.setTop (mkF m 12 #[.val (.ref b), .val (.int (Int32.ofNat o)), .val (.int (Int32.ofNat len)), .val (.ref s.heap.size), .unset, .unset] [.int (Int32.ofNat len)])) := g6
  have c8 : Steps p.tables e below (s₁.setTop (entryFrame m #[.ref b, .int (Int32.ofNat o), .int (Int32.ofNat len)] 6)) (T6.setTop (mkF m 58 #[.val (.ref b), .val (.int (Int32.ofNat o)), .val (.int (Int32.ofNat len)), .val (.ref s.heap.size), .val (.int (Int32.ofNat len)), .unset] [.ref s.heap.size])) := c7.trans (by
    refine XS.istore X6.here hexec rfl (hb hbytes d12) rfl rfl ?_
    refine XS.iload X6.here hexec rfl (hb hbytes d14) rfl ?_
    refine XS.iloadN X6.here hexec rfl (hb hbytes d16) rfl ?_
    refine XS.icmpYes X6.here hexec rfl (pc0 := 17) rfl (hb hbytes d17) rfl (ii_eq_t rfl) (by decide) rfl ?_
    refine XS.aloadN X6.here hexec rfl (hb hbytes d57) rfl rfl ?_
    exact Steps.refl _)
  have X8 := X6.wide (L' := []) (cells' := 1) (slots' := len) (fun x hx hlt => by
    simp only [List.nil_append, copyLocs, List.mem_map, List.mem_range] at hx
    obtain ⟨i, -, rfl⟩ := hx
    exact absurd hlt (Nat.lt_irrefl _)) (Nat.le_refl _) (by omega)
  exact ⟨T6, some (.ref s.heap.size), _, _, _, X8, rfl, rfl, rfl, (fun h => by cases h), ⟨⟨rfl, B6, ba3.like (X3.warmed.alike.symm.trans X6.warmed.alike) p6.1 f6.1 f6.2.1 f6.2.2.1, f6.2.1.trans bv3, by rw [X6.warmed.alike.findClass, f6.1]; exact bf3, by rw [f6.2.2.1, bs3]; simp, fun j hj => by rw [f6.2.2.2 j, if_pos (by omega)]; rfl, kp3.put p6 (Nat.le_refl _)⟩, by rw [p6.2.2, bh3, hh0]; simp⟩, fun fs hl => c8.trans (X8.areturnOut hexec rfl hret rfl (hb hbytes d58) hl)⟩
end Cmp3
namespace CodL
def yN : MethodName := ⟨"java/lang/StringUTF16", "coderFromArrayLen", "([BI)B"⟩
abbrev yB : ByteArray := jdk_52_method_15_code
theorem d0 : decode yB 0 = .ok (.iload_n 1, 1) := by decide +kernel
theorem d1 : decode yB 1 = .ok (.aload_n 0, 1) := by decide +kernel
theorem d2 : decode yB 2 = .ok (.arraylength, 1) := by decide +kernel
theorem d3 : decode yB 3 = .ok (.isub, 1) := by decide +kernel
theorem d4 : decode yB 4 = .ok (.bipush 31, 2) := by decide +kernel
theorem d6 : decode yB 6 = .ok (.iushr, 1) := by decide +kernel
theorem d7 : decode yB 7 = .ok (.i2b, 1) := by decide +kernel
theorem d8 : decode yB 8 = .ok (.ireturn, 1) := by decide +kernel
def site : List Cond := []
def tab : Cond := tabOf yN yB 2 (some .byte) site
def P (d : Addr) (B : Cell) (args : Array Value) (s : State) : Prop := args = #[.ref d, .int (Int32.ofNat B.slots.size)] ∧ Arr .byte d B s
def E (r : Option Value) (s u : State) : Prop := XT.PureE (some (.int 0)) r s u
/-- an array as long as the number of chars: LATIN1 -/
theorem law (l : Launch) (d : Addr) (B : Cell) : Law l yN 2 2 0 0 yB 2 (some .byte) site (P d B) E [] 0 0 := by
  refine Law.of_walk (plainFor_of_name (by decide +kernel)) (by decide +kernel) (by decide +kernel) (by decide) (fun _ _ h => by rw [h.1]; rfl) (fun _ U U' hal hh h => ⟨h.1, h.2.mv hal hh⟩) (fun r U U' V V' h1 hal h2 h => XT.PureE.mv r U U' V V' h1 hal h2 h) ?_
  intro p e s m args below meth c s₁ X0 hexec hbytes hml hret hlk hnm hown hh0 W hP
  obtain ⟨rfl, hB⟩ := hP
  have hB0 := hB.mv X0.warmed.alike hh0
  have c1 : Steps p.tables e below (s₁.setTop (entryFrame m #[.ref d, .int (Int32.ofNat B.slots.size)] 2)) (s₁.setTop (mkF m 0 #[.val (.ref d), .val (.int (Int32.ofNat B.slots.size))] [])) := entry rfl
  have c2 : Steps p.tables e below (s₁.setTop (entryFrame m #[.ref d, .int (Int32.ofNat B.slots.size)] 2)) (s₁.setTop (mkF m 2 #[.val (.ref d), .val (.int (Int32.ofNat B.slots.size))] [.ref d, .int (Int32.ofNat B.slots.size)])) := c1.trans (by
    refine XS.iloadN X0.here hexec rfl (hb hbytes d0) rfl ?_
    refine XS.aloadN X0.here hexec rfl (hb hbytes d1) rfl rfl ?_
    exact Steps.refl _)
  have c3 : Steps p.tables e below (s₁.setTop (entryFrame m #[.ref d, .int (Int32.ofNat B.slots.size)] 2)) (s₁.setTop (mkF m 8 #[.val (.ref d), .val (.int (Int32.ofNat B.slots.size))] [.int (lo8 (ushr (Int32.ofNat B.slots.size - Int32.ofNat B.slots.size) 31))])) := c2.trans (by
    refine X0.alen hexec hB0 rfl rfl (hb hbytes d2) ?_
    refine XS.isub X0.here hexec rfl (hb hbytes d3) rfl ?_
    refine bipushV X0.here hexec rfl 31 (hb hbytes d4) (by decide) ?_
    refine iushr X0.here hexec rfl (hb hbytes d6) rfl ?_
    refine i2b X0.here hexec rfl (hb hbytes d7) rfl ?_
    exact Steps.refl _)
  have e0 : lo8 (ushr (Int32.ofNat B.slots.size - Int32.ofNat B.slots.size) 31) = 0 := by rw [Int32.sub_self]; decide
  rw [e0] at c3
  exact ⟨s₁, some (.int 0), _, _, _, X0, rfl, rfl, rfl, (fun h => by cases h), ⟨rfl, hh0⟩, fun fs hl => c3.trans (X0.ireturnOut hexec hret rfl (Or.inr (Or.inr (Or.inl rfl))) (hb hbytes d8) hl)⟩
end CodL
/-- the String at a is Latin-1 over a new byte[] (the heap's one new cell): the low bytes of the len chars of A from o on; every cell but a is kept -/
def Got (a : Addr) (D : Cell) (fV fC : Field) (A : Cell) (o len : Nat) (r : Option Value) (s u : State) : Prop := r = none ∧ ∃ D' V : Cell, Blank "java/lang/String" a D' u ∧ Same D D' [fV.slot, fC.slot] ∧ D'.slots[fV.slot]? = some (.ref s.heap.size) ∧ D'.slots[fC.slot]? = some (.int 0) ∧ Arr .byte s.heap.size V u ∧ V.vm = .none ∧ u.vm.findClass "[B" = some V.cls ∧ V.slots.size = len ∧ (∀ j, j < len → V.slots[j]? = some (.int (lo8 (cv A (o + j))))) ∧ (∀ (y : Addr) (c : Cell), y ≠ a → s.heap[y]? = some c → u.heap[y]? = some c) ∧ u.heap.size = s.heap.size + 1
theorem Got.mv {a : Addr} {D A : Cell} {fV fC : Field} {o len : Nat} : ∀ r (U U' V V' : State), U'.heap = U.heap → V.vm.Alike V'.vm → V'.heap = V.heap → Got a D fV fC A o len r U V → Got a D fV fC A o len r U' V' :=
  fun r U U' V V' h1 hal h2 ⟨e0, D', X, a1, a2, a3, a4, a5, a6, a7, a8, a9, a10, a11⟩ => ⟨e0, D', X, a1.mv hal h2, a2, by rw [h1]; exact a3, a4, by rw [h1]; exact a5.mv hal h2, a6, by rw [hal.findClass]; exact a7, a8, a9, by rw [h1, h2]; exact a10, by rw [h1, h2]; exact a11⟩
namespace New4
def yN : MethodName := ⟨"java/lang/String", "<init>", "([CIILjava/lang/Void;)V"⟩
abbrev yB : ByteArray := jdk_42_method_149_code
theorem d0 : decode yB 0 = .ok (.aload_n 0, 1) := by decide +kernel
theorem d1 : decode yB 1 = .ok (.invokespecial 1, 3) := by decide +kernel
theorem d4 : decode yB 4 = .ok (.iload_n 3, 1) := by decide +kernel
theorem d5 : decode yB 5 = .ok (.ifCond (.ne) 22, 3) := by decide +kernel
theorem d27 : decode yB 27 = .ok (.getstatic 38, 3) := by decide +kernel
theorem d30 : decode yB 30 = .ok (.ifCond (.eq) 28, 3) := by decide +kernel
theorem d33 : decode yB 33 = .ok (.aload_n 1, 1) := by decide +kernel
theorem d34 : decode yB 34 = .ok (.iload_n 2, 1) := by decide +kernel
theorem d35 : decode yB 35 = .ok (.iload_n 3, 1) := by decide +kernel
theorem d36 : decode yB 36 = .ok (.invokestatic 177, 3) := by decide +kernel
theorem d39 : decode yB 39 = .ok (.astore 5, 2) := by decide +kernel
theorem d41 : decode yB 41 = .ok (.aload_n 0, 1) := by decide +kernel
theorem d42 : decode yB 42 = .ok (.aload 5, 2) := by decide +kernel
theorem d44 : decode yB 44 = .ok (.iload_n 3, 1) := by decide +kernel
theorem d45 : decode yB 45 = .ok (.invokestatic 47, 3) := by decide +kernel
theorem d48 : decode yB 48 = .ok (.putfield 15, 3) := by decide +kernel
theorem d51 : decode yB 51 = .ok (.aload_n 0, 1) := by decide +kernel
theorem d52 : decode yB 52 = .ok (.aload 5, 2) := by decide +kernel
theorem d54 : decode yB 54 = .ok (.putfield 9, 3) := by decide +kernel
theorem d57 : decode yB 57 = .ok (.return_, 1) := by decide +kernel
def site : List Cond := [.fieldLink "java/lang/String" 38 "java/lang/String" "COMPACT_STRINGS" "Z", Cmp3.tab, CodL.tab, .laysFinal "java/lang/String" "java/lang/String" "value" "[B", .fieldLink "java/lang/String" 9 "java/lang/String" "value" "[B", .laysFinal "java/lang/String" "java/lang/String" "coder" "B", .fieldLink "java/lang/String" 15 "java/lang/String" "coder" "B"] ++ objW "java/lang/String" 1 ++ staticW "java/lang/String" 177 Cmp3.yN ++ staticW "java/lang/String" 47 CodL.yN
def tab : Cond := tabOf yN yB 6 none site
def P (a : Addr) (D : Cell) (fV fC : Field) (b : Addr) (A : Cell) (z : Int32) (o len : Nat) (args : Array Value) (s : State) : Prop := args = #[.ref a, .ref b, .int (Int32.ofNat o), .int (Int32.ofNat len), .null] ∧ Blank "java/lang/String" a D s ∧ Found "java/lang/String" "value" "[B" fV s ∧ Found "java/lang/String" "coder" "B" fC s ∧ Ch b A s ∧ StaticIs s "java/lang/String" "COMPACT_STRINGS" "Z" (.int z) ∧ ¬ z = 0 ∧ 0 < len ∧ o + len ≤ A.slots.size ∧ len ≤ 536870912 ∧ ∀ i, i < len → ¬ 255 < cv A (o + i)
def E (a : Addr) (D : Cell) (fV fC : Field) (A : Cell) (o len : Nat) (r : Option Value) (s u : State) : Prop := Got a D fV fC A o len r s u
/-- len > 0, no char of the range above 255: a Latin-1 String of their low bytes -/
theorem law (l : Launch) (a : Addr) (D : Cell) (fV fC : Field) (b : Addr) (A : Cell) (z : Int32) (o len : Nat) : Law l yN 5 4 2 35 yB 6 none site (P a D fV fC b A z o len) (E a D fV fC A o len) [⟨a, fC.slot⟩, ⟨a, fV.slot⟩] 1 len := by
  refine Law.of_walk (plainFor_of_name (by decide +kernel)) (by decide +kernel) (by decide +kernel) (by decide) (fun _ _ h => by rw [h.1]; rfl) (fun _ U U' hal hh h => ⟨h.1, h.2.1.mv hal hh, h.2.2.1.al hal, h.2.2.2.1.al hal, h.2.2.2.2.1.mv hal hh, h.2.2.2.2.2.1.there hal hh, h.2.2.2.2.2.2⟩) (fun r U U' V V' h1 hal h2 h => Got.mv r U U' V V' h1 hal h2 h) ?_
  intro p e s m args below meth c s₁ X0 hexec hbytes hml hret hlk hnm hown hh0 W hP
  obtain ⟨rfl, hB, f1, f2, hA, s1, hz, l0, l1, l2, hp⟩ := hP
  have a31 := hA.1.2.2.2
  have c1 : Steps p.tables e below (s₁.setTop (entryFrame m #[.ref a, .ref b, .int (Int32.ofNat o), .int (Int32.ofNat len), .null] 6)) (s₁.setTop (mkF m 0 #[.val (.ref a), .val (.ref b), .val (.int (Int32.ofNat o)), .val (.int (Int32.ofNat len)), .val .null, .unset] [])) := entry rfl
  have c2 : Steps p.tables e below (s₁.setTop (entryFrame m #[.ref a, .ref b, .int (Int32.ofNat o), .int (Int32.ofNat len), .null] 6)) (s₁.setTop (mkF m 1 #[.val (.ref a), .val (.ref b), .val (.int (Int32.ofNat o)), .val (.int (Int32.ofNat len)), .val .null, .unset] [.ref a])) := c1.trans (by
    refine XS.aloadN X0.here hexec rfl (hb hbytes d0) rfl rfl ?_
    exact Steps.refl _)
  obtain ⟨T3, X3, q3, st3⟩ := X0.oinit hexec hown (wks W (objW "java/lang/String" 1)) (g := (mkF m 1 #[.val (.ref a), .val (.ref b), .val (.int (Int32.ofNat o)), .val (.int (Int32.ofNat len)), .val .null, .unset] [.ref a])) rfl (by rw [hml]; rfl) (rest := []) rfl (hb hbytes d1) (W := 0) (by show 2 * 0 + 0 ≤ _; decide) (Nat.le_of_ble_eq_true rfl) (Nat.le_of_ble_eq_true rfl)
  have hh3 := q3.trans hh0
  have c4 : Steps p.tables e below (s₁.setTop (entryFrame m #[.ref a, .ref b, .int (Int32.ofNat o), .int (Int32.ofNat len), .null] 6)) (T3.setTop (mkF m 27 #[.val (.ref a), .val (.ref b), .val (.int (Int32.ofNat o)), .val (.int (Int32.ofNat len)), .val .null, .unset] [])) := (c2.trans (st3 _ (Steps.refl _))).trans (by
    refine XS.iloadN X3.here hexec rfl (hb hbytes d4) rfl ?_
    refine XS.ifYes X3.here hexec rfl (pc0 := 5) rfl (hb hbytes d5) rfl (i0_ne_t (nz32 (by omega) l0)) (by decide) rfl ?_
    exact Steps.refl _)
  obtain ⟨T5, X5, q5, st5⟩ := X3.sget hexec hown (wk W (.fieldLink "java/lang/String" 38 "java/lang/String" "COMPACT_STRINGS" "Z")) s1 (fun _ _ h => by rw [hh3]; exact h) (g := (mkF m 27 #[.val (.ref a), .val (.ref b), .val (.int (Int32.ofNat o)), .val (.int (Int32.ofNat len)), .val .null, .unset] [])) rfl (hb hbytes d27)
  have hh5 := q5.trans hh3
  have c6 : Steps p.tables e below (s₁.setTop (entryFrame m #[.ref a, .ref b, .int (Int32.ofNat o), .int (Int32.ofNat len), .null] 6)) (T5.setTop (mkF m 30 #[.val (.ref a), .val (.ref b), .val (.int (Int32.ofNat o)), .val (.int (Int32.ofNat len)), .val .null, .unset] [.int z])) := c4.trans (st5 _ (Steps.refl _))
  have c7 : Steps p.tables e below (s₁.setTop (entryFrame m #[.ref a, .ref b, .int (Int32.ofNat o), .int (Int32.ofNat len), .null] 6)) (T5.setTop (mkF m 36 #[.val (.ref a), .val (.ref b), .val (.int (Int32.ofNat o)), .val (.int (Int32.ofNat len)), .val .null, .unset] [.int (Int32.ofNat len), .int (Int32.ofNat o), .ref b])) := c6.trans (by
    refine XS.ifNo X5.here hexec rfl (hb hbytes d30) rfl (i0_eq_f hz) ?_
    refine XS.aloadN X5.here hexec rfl (hb hbytes d33) rfl rfl ?_
    refine XS.iloadN X5.here hexec rfl (hb hbytes d34) rfl ?_
    refine XS.iloadN X5.here hexec rfl (hb hbytes d35) rfl ?_
    exact Steps.refl _)
  obtain ⟨v8, T8, X8, E8, g8⟩ := X5.callS hexec (Cmp3.law l b A o len) hown (wks W (staticW "java/lang/String" 177 Cmp3.yN)) (wk W Cmp3.tab) (W := 0) (Nat.le_of_ble_eq_true rfl) (Nat.le_of_ble_eq_true rfl) (Nat.le_refl _) (by show 0 + len ≤ len; omega) (g := (mkF m 36 #[.val (.ref a), .val (.ref b), .val (.int (Int32.ofNat o)), .val (.int (Int32.ofNat len)), .val .null, .unset] [.int (Int32.ofNat len), .int (Int32.ofNat o), .ref b])) rfl (by rw [hml]; rfl) c7 (argsL := [.ref b, .int (Int32.ofNat o), .int (Int32.ofNat len)]) (rest := []) rfl rfl (by show 2 * 0 + 0 ≤ _; decide) (hb hbytes d36) (⟨rfl, hA.mv X5.warmed.alike hh5, l1, l2, hp⟩)
  obtain ⟨e8, z8⟩ := E8
  obtain ⟨rfl, N, n1, n2, n3, n4, n5, n6⟩ := NewArr.mv _ T5 s _ _ hh5.symm (Vm.Alike.refl _) rfl e8
  rw [hh5] at z8
  have hB1 := hB.keep X8.warmed.alike (n6 _ _ hB.1)
  have hne : s.heap.size ≠ a := (Nat.ne_of_lt (Array.getElem?_eq_some_iff.mp hB.1).1).symm
  have c9 : Steps p.tables e below (s₁.setTop (entryFrame m #[.ref a, .ref b, .int (Int32.ofNat o), .int (Int32.ofNat len), .null] 6)) (T8.setTop (mkF m 39 #[.val (.ref a), .val (.ref b), .val (.int (Int32.ofNat o)), .val (.int (Int32.ofNat len)), .val .null, .unset] [.ref s.heap.size])) := g8
  have c10 : Steps p.tables e below (s₁.setTop (entryFrame m #[.ref a, .ref b, .int (Int32.ofNat o), .int (Int32.ofNat len), .null] 6)) (T8.setTop (mkF m 45 #[.val (.ref a), .val (.ref b), .val (.int (Int32.ofNat o)), .val (.int (Int32.ofNat len)), .val .null, .val (.ref s.heap.size)] [.int (Int32.ofNat N.slots.size), .ref s.heap.size, .ref a])) := by
    have hc : Steps p.tables e below (s₁.setTop (entryFrame m #[.ref a, .ref b, .int (Int32.ofNat o), .int (Int32.ofNat len), .null] 6)) (T8.setTop (mkF m 45 #[.val (.ref a), .val (.ref b), .val (.int (Int32.ofNat o)), .val (.int (Int32.ofNat len)), .val .null, .val (.ref s.heap.size)] [.int (Int32.ofNat len), .ref s.heap.size, .ref a])) := c9.trans (by
      refine XS.astore X8.here hexec rfl (hb hbytes d39) rfl rfl rfl ?_
      refine XS.aloadN X8.here hexec rfl (hb hbytes d41) rfl rfl ?_
      refine XS.aload X8.here hexec rfl (hb hbytes d42) rfl rfl ?_
      refine XS.iloadN X8.here hexec rfl (hb hbytes d44) rfl ?_
      exact Steps.refl _)
    rw [n4]; exact hc
  obtain ⟨v11, T11, X11, E11, g11⟩ := X8.callS hexec (CodL.law l s.heap.size N) hown (wks W (staticW "java/lang/String" 47 CodL.yN)) (wk W CodL.tab) (W := 1) (Nat.le_of_ble_eq_true rfl) (Nat.le_of_ble_eq_true rfl) (Nat.le_refl _) (by show 0 + len + 0 ≤ len; omega) (g := (mkF m 45 #[.val (.ref a), .val (.ref b), .val (.int (Int32.ofNat o)), .val (.int (Int32.ofNat len)), .val .null, .val (.ref s.heap.size)] [.int (Int32.ofNat N.slots.size), .ref s.heap.size, .ref a])) rfl (by rw [hml]; rfl) c10 (argsL := [.ref s.heap.size, .int (Int32.ofNat N.slots.size)]) (rest := [.ref a]) rfl rfl (by show 2 * 0 + (1 + 0) ≤ _; decide) (hb hbytes d45) (⟨rfl, n1⟩)
  obtain ⟨rfl, q11⟩ := E11
  have hB11 := hB1.mv (X8.warmed.alike.symm.trans X11.warmed.alike) q11
  have c12 : Steps p.tables e below (s₁.setTop (entryFrame m #[.ref a, .ref b, .int (Int32.ofNat o), .int (Int32.ofNat len), .null] 6)) (T11.setTop (mkF m 48 #[.val (.ref a), .val (.ref b), .val (.int (Int32.ofNat o)), .val (.int (Int32.ofNat len)), .val .null, .val (.ref s.heap.size)] [.int 0, .ref a])) := g11
  obtain ⟨T13, X13, p13, bl13, sl13, st13⟩ := X11.finit hexec hown (wk W (.fieldLink "java/lang/String" 15 "java/lang/String" "coder" "B")) (Or.inr ⟨_, (wk W (.laysFinal "java/lang/String" "java/lang/String" "coder" "B"))⟩) (Or.inl ⟨rfl, hnm⟩) f2 (Or.inl rfl) hB11 (t := .byte) (by decide +kernel) rfl (g := (mkF m 48 #[.val (.ref a), .val (.ref b), .val (.int (Int32.ofNat o)), .val (.int (Int32.ofNat len)), .val .null, .val (.ref s.heap.size)] [.int 0, .ref a])) rfl (rest := []) rfl (hb hbytes d48)
  have c14 : Steps p.tables e below (s₁.setTop (entryFrame m #[.ref a, .ref b, .int (Int32.ofNat o), .int (Int32.ofNat len), .null] 6)) (T13.setTop (mkF m 54 #[.val (.ref a), .val (.ref b), .val (.int (Int32.ofNat o)), .val (.int (Int32.ofNat len)), .val .null, .val (.ref s.heap.size)] [.ref s.heap.size, .ref a])) := (c12.trans (st13 _ (Steps.refl _))).trans (by
    refine XS.aloadN X13.here hexec rfl (hb hbytes d51) rfl rfl ?_
    refine XS.aload X13.here hexec rfl (hb hbytes d52) rfl rfl ?_
    exact Steps.refl _)
  obtain ⟨T15, X15, p15, bl15, sl15, st15⟩ := X13.finit hexec hown (wk W (.fieldLink "java/lang/String" 9 "java/lang/String" "value" "[B")) (Or.inr ⟨_, (wk W (.laysFinal "java/lang/String" "java/lang/String" "value" "[B"))⟩) (Or.inl ⟨rfl, hnm⟩) f1 (Or.inl rfl) bl13 (t := (.array .byte)) (by decide +kernel) rfl (g := (mkF m 54 #[.val (.ref a), .val (.ref b), .val (.int (Int32.ofNat o)), .val (.int (Int32.ofNat len)), .val .null, .val (.ref s.heap.size)] [.ref s.heap.size, .ref a])) rfl (rest := []) rfl (hb hbytes d54)
  have c16 : Steps p.tables e below (s₁.setTop (entryFrame m #[.ref a, .ref b, .int (Int32.ofNat o), .int (Int32.ofNat len), .null] 6)) (T15.setTop (mkF m 57 #[.val (.ref a), .val (.ref b), .val (.int (Int32.ofNat o)), .val (.int (Int32.ofNat len)), .val .null, .val (.ref s.heap.size)] [])) := c14.trans (st15 _ (Steps.refl _))
  have ap := apart (Or.inr ⟨_, (wk W (.laysFinal "java/lang/String" "java/lang/String" "value" "[B"))⟩) (Or.inr ⟨_, (wk W (.laysFinal "java/lang/String" "java/lang/String" "coder" "B"))⟩) f1 f2 (t₁ := .array .byte) (t₂ := .byte) (by decide +kernel) (by decide +kernel) (by decide)
  have al := X8.warmed.alike.symm.trans X15.warmed.alike
  have n7 : T11.heap[s.heap.size]? = some N := by rw [q11]; exact n1.1
  exact ⟨T15, none, _, _, _, X15, by simp, rfl, by omega, (fun _ => rfl), ⟨rfl, _, N, bl15, ((Same.refl D _).set _ (by simp)).set _ (by simp), sl15, (Cell.slots_setSlot_ne _ ap).trans sl13, n1.keep al (p15.other hne (p13.other hne n7)), n2, by rw [al.findClass]; exact n3, n4, n5, fun y c h1 h2 => p15.other h1 (p13.other h1 (by rw [q11]; exact n6 y c h2)), by rw [p15.2.2, p13.2.2, q11]; exact z8⟩, fun fs hl => c16.trans (X15.returnOut hexec hret (hb hbytes d57) hl)⟩
end New4
namespace New1
def yN : MethodName := ⟨"java/lang/String", "<init>", "([C)V"⟩
abbrev yB : ByteArray := jdk_42_method_3_code
theorem d0 : decode yB 0 = .ok (.aload_n 0, 1) := by decide +kernel
theorem d1 : decode yB 1 = .ok (.aload_n 1, 1) := by decide +kernel
theorem d2 : decode yB 2 = .ok (.iconst 0, 1) := by decide +kernel
theorem d3 : decode yB 3 = .ok (.aload_n 1, 1) := by decide +kernel
theorem d4 : decode yB 4 = .ok (.arraylength, 1) := by decide +kernel
theorem d5 : decode yB 5 = .ok (.aconst_null, 1) := by decide +kernel
theorem d6 : decode yB 6 = .ok (.invokespecial 27, 3) := by decide +kernel
theorem d9 : decode yB 9 = .ok (.return_, 1) := by decide +kernel
def site : List Cond := [New4.tab] ++ initW "java/lang/String" 27 New4.yN
def tab : Cond := tabOf yN yB 2 none site
def P (a : Addr) (D : Cell) (fV fC : Field) (b : Addr) (A : Cell) (z : Int32) (args : Array Value) (s : State) : Prop := args = #[.ref a, .ref b] ∧ Blank "java/lang/String" a D s ∧ Found "java/lang/String" "value" "[B" fV s ∧ Found "java/lang/String" "coder" "B" fC s ∧ Ch b A s ∧ StaticIs s "java/lang/String" "COMPACT_STRINGS" "Z" (.int z) ∧ ¬ z = 0 ∧ 0 < A.slots.size ∧ A.slots.size ≤ 536870912 ∧ ∀ i, i < A.slots.size → ¬ 255 < cv A i
def E (a : Addr) (D : Cell) (fV fC : Field) (A : Cell) (r : Option Value) (s u : State) : Prop := Got a D fV fC A 0 A.slots.size r s u
/-- new String(chars), not empty, no char above 255: a Latin-1 String of their low bytes -/
theorem law (l : Launch) (a : Addr) (D : Cell) (fV fC : Field) (b : Addr) (A : Cell) (z : Int32) : Law l yN 2 1 3 52 yB 2 none site (P a D fV fC b A z) (E a D fV fC A) [⟨a, fC.slot⟩, ⟨a, fV.slot⟩] 1 A.slots.size := by
  refine Law.of_walk (plainFor_of_name (by decide +kernel)) (by decide +kernel) (by decide +kernel) (by decide) (fun _ _ h => by rw [h.1]; rfl) (fun _ U U' hal hh h => ⟨h.1, h.2.1.mv hal hh, h.2.2.1.al hal, h.2.2.2.1.al hal, h.2.2.2.2.1.mv hal hh, h.2.2.2.2.2.1.there hal hh, h.2.2.2.2.2.2⟩) (fun r U U' V V' h1 hal h2 h => Got.mv r U U' V V' h1 hal h2 h) ?_
  intro p e s m args below meth c s₁ X0 hexec hbytes hml hret hlk hnm hown hh0 W hP
  obtain ⟨rfl, hB, f1, f2, hA, s1, hz, l0, l2, hp⟩ := hP
  have c1 : Steps p.tables e below (s₁.setTop (entryFrame m #[.ref a, .ref b] 2)) (s₁.setTop (mkF m 0 #[.val (.ref a), .val (.ref b)] [])) := entry rfl
  have c2 : Steps p.tables e below (s₁.setTop (entryFrame m #[.ref a, .ref b] 2)) (s₁.setTop (mkF m 6 #[.val (.ref a), .val (.ref b)] [.null, .int (Int32.ofNat A.slots.size), .int 0, .ref b, .ref a])) := c1.trans (by
    refine XS.aloadN X0.here hexec rfl (hb hbytes d0) rfl rfl ?_
    refine XS.aloadN X0.here hexec rfl (hb hbytes d1) rfl rfl ?_
    refine iconstV X0.here hexec rfl 0 (hb hbytes d2) (by decide) ?_
    refine XS.aloadN X0.here hexec rfl (hb hbytes d3) rfl rfl ?_
    refine X0.alen hexec (hA.1.mv X0.warmed.alike hh0) rfl rfl (hb hbytes d4) ?_
    refine XS.aconstNull X0.here hexec rfl (hb hbytes d5) ?_
    exact Steps.refl _)
  obtain ⟨v3, T3, X3, E3, g3⟩ := X0.callN hexec (New4.law l a D fV fC b A z 0 A.slots.size) rfl hown (wks W (initW "java/lang/String" 27 New4.yN)) (W New4.tab (by simp only [site, List.mem_cons, List.mem_append, true_or, or_true])) (W := 0) (Nat.le_of_ble_eq_true rfl) (Nat.le_of_ble_eq_true rfl) (Nat.le_refl _) (by show 0 + A.slots.size ≤ A.slots.size; omega) (g := (mkF m 6 #[.val (.ref a), .val (.ref b)] [.null, .int (Int32.ofNat A.slots.size), .int (Int32.ofNat 0), .ref b, .ref a])) rfl (by rw [hml]; rfl) c2 (argsL := [.ref b, .int (Int32.ofNat 0), .int (Int32.ofNat A.slots.size), .null]) (rest := []) rfl rfl (by show 2 * 0 + 0 ≤ _; decide) (hb hbytes d6) (⟨rfl, hB.mv X0.warmed.alike hh0, f1.al X0.warmed.alike, f2.al X0.warmed.alike, hA.mv X0.warmed.alike hh0, s1.there X0.warmed.alike hh0, hz, l0, by omega, l2, fun i hi => by rw [Nat.zero_add]; exact hp i hi⟩)
  have e0 := Got.mv _ s₁ s _ _ hh0.symm (Vm.Alike.refl _) rfl E3
  obtain rfl := e0.1
  have c4 : Steps p.tables e below (s₁.setTop (entryFrame m #[.ref a, .ref b] 2)) (T3.setTop (mkF m 9 #[.val (.ref a), .val (.ref b)] [])) := g3
  exact ⟨T3, none, _, _, _, X3, by simp, rfl, by omega, (fun _ => rfl), e0, fun fs hl => c4.trans (X3.returnOut hexec hret (hb hbytes d9) hl)⟩
theorem pays {l : Launch} {R : Room} {p : Program} {e : Env} {below : List Frame} {s : State} {sargs : Array Value} {len W : Nat} (a : Addr) (D : Cell) (fV fC : Field) (b : Addr) (A : Cell) (z : Int32) (htab : tab.before sargs s = true) (hfr : 4 ≤ R.frames) (hlo : W + 65 ≤ R.locals) :
    Back l R p e below s sargs yN len W (fun A₁ a₁ => A₁.cells + 1 ≤ R.cells ∧ A₁.slots + A.slots.size ≤ R.slots ∧ P a D fV fC b A z a₁ A₁.U) (fun A₁ _ v₁ B₁ => E a D fV fC A v₁ A₁.U B₁.U ∧ B₁.locs = A₁.locs ++ [⟨a, fC.slot⟩, ⟨a, fV.slot⟩] ∧ B₁.cells = A₁.cells + 1 ∧ B₁.slots = A₁.slots + A.slots.size) :=
  (law l a D fV fC b A z).pays htab hfr (by omega)
end New1
end StrChars
namespace StrChars.Road
open Jvm Sem ClassFile Op Lib Jvm.Stand Jvm.Free Jvm.Free.XT
open Jvm.Lib.Cold (StaticIs)
abbrev ST : String := "java/lang/String"
/-- every table word that New1's law asks, flat -/
abbrev words : List Jvm.Cond := [.code New1.yN New1.yB 2 none, .initialized ST, .methodLink ST 27 New4.yN, .instanceMethod New4.yN,
  .code New4.yN New4.yB 6 none, .fieldLink ST 38 ST "COMPACT_STRINGS" "Z", .laysFinal ST ST "value" "[B", .fieldLink ST 9 ST "value" "[B", .laysFinal ST ST "coder" "B", .fieldLink ST 15 ST "coder" "B",
  .methodLink ST 1 Lib.objectInit, .instanceMethod Lib.objectInit, .code Lib.objectInit ⟨#[0xb1]⟩ 1 none, .methodLink ST 177 Cmp3.yN, .static Cmp3.yN, .methodLink ST 47 CodL.yN, .static CodL.yN,
  .code Cmp3.yN Cmp3.yB 6 (some (.array .byte)), .initialized U16, .arrayClass .byte, .methodLink U16 115 Cmp5.yN, .static Cmp5.yN, .code Cmp5.yN Cmp5.yB 7 (some .int), .code CodL.yN CodL.yB 2 (some .byte)]
theorem tab_of {a : Array Value} {s : State} (h : ∀ w ∈ words, w.before a s = true) : New1.tab.before a s = true := by
  have h5 : Cmp5.tab.before a s = true := unparts (wk h (.code Cmp5.yN Cmp5.yB 7 (some .int))) (wks h (.initialized Cmp5.yN.cls :: Cmp5.site))
  have hc : CodL.tab.before a s = true := unparts (wk h (.code CodL.yN CodL.yB 2 (some .byte))) (wks h (.initialized CodL.yN.cls :: CodL.site))
  have q5 : ∀ w ∈ Cmp5.tab :: words, w.before a s = true := fun w hw => (List.mem_cons.mp hw).elim (fun e => e ▸ h5) (h w)
  have h3 : Cmp3.tab.before a s = true := unparts (wk q5 (.code Cmp3.yN Cmp3.yB 6 (some (.array .byte)))) (wks q5 (.initialized Cmp3.yN.cls :: Cmp3.site))
  have q3 : ∀ w ∈ Cmp3.tab :: CodL.tab :: words, w.before a s = true := fun w hw => (List.mem_cons.mp hw).elim (fun e => e ▸ h3) fun hw => (List.mem_cons.mp hw).elim (fun e => e ▸ hc) (h w)
  have h4 : New4.tab.before a s = true := unparts (wk q3 (.code New4.yN New4.yB 6 none)) (wks q3 (.initialized New4.yN.cls :: New4.site))
  have q4 : ∀ w ∈ New4.tab :: words, w.before a s = true := fun w hw => (List.mem_cons.mp hw).elim (fun e => e ▸ h4) (h w)
  exact unparts (wk q4 (.code New1.yN New1.yB 2 none)) (wks q4 (.initialized New1.yN.cls :: New1.site))
/-- the words ride from the start Z to the walk's own state -/
theorem moved {Z s : State} {a0 args : Array Value} (hZ : Z.Warmed39 s.vm) (hw : ∀ d ∈ words, d.before a0 Z = true) : ∀ d ∈ words, d.before args s = true := fun d hd => by
  have q := hw d hd
  have t : ∀ d ∈ words, d = .arrayClass .byte ∨ (d.onTables && d.keepsFace) = true := by decide +kernel
  rcases t d hd with rfl | t
  · exact RoadKit.mvA hZ q
  · exact RoadKit.mv hZ q t
/-- WHAT COMES BACK, over the tables of the start Z: h the heap at the call, h' behind it -/
def Q (Z : State) (x : Addr) (A : Cell) (h : Heap) (v : Option Value) (h' : Heap) (L : List Loc) : Prop := v = none ∧ (∀ y ∈ L, y.base = x) ∧ RoadKit.Keep h h' [x] ∧ h'.size = h.size + 1 ∧ RoadKit.Exa Z h' x ST ∧ RoadKit.Fld Z h' x ST "value" "[B" (.ref h.size) ∧ RoadKit.Fld Z h' x ST "coder" "B" (.int 0) ∧
  (∃ V : Cell, RoadKit.Arr Z h' h.size V .byte ∧ V.vm = .none ∧ Z.vm.findClass "[B" = some V.cls ∧ V.slots.size = A.slots.size ∧ ∀ j, j < A.slots.size → V.slots[j]? = some (.int (lo8 (cv A j)))) ∧
  ∀ (O n d : String) (w : Value), RoadKit.Fld Z h x O n d w → RoadKit.slotOf Z O n d ≠ RoadKit.slotOf Z ST "value" "[B" → RoadKit.slotOf Z O n d ≠ RoadKit.slotOf Z ST "coder" "B" → RoadKit.Fld Z h' x O n d w
/-- **new String(chars) AT A CALL, IN THE ROAD'S FORM**: for specialBack behind newO: x the fresh String, b the char[] with the cell A -/
theorem back {p : Program} {l : Launch} {e : Env} {R : Room} {s : State} {args : Array Value} {below : List Frame} {len W : Nat} {Z : State} {a0 : Array Value} {h : Heap} (hZ : Z.Warmed39 s.vm) (hw : ∀ d ∈ words, d.before a0 Z = true) {kI : Nat} (wi : (Jvm.Cond.instantiable ST kI).before a0 Z = true)
    {x b : Addr} {A : Cell} {z : Int32} {v0 c0 : Value} (E : RoadKit.Exa Z h x ST) (V : RoadKit.Fld Z h x ST "value" "[B" v0) (C : RoadKit.Fld Z h x ST "coder" "B" c0) (K : RoadKit.Arr Z h b A .char) (hty : Typed .char A) (S : RoadKit.Sta Z h ST "COMPACT_STRINGS" "Z" (.int z)) (hz : ¬ z = 0)
    (l0 : 0 < A.slots.size) (l2 : A.slots.size ≤ 536870912) (hp : ∀ i, i < A.slots.size → ¬ 255 < cv A i) (hfr : 4 ≤ R.frames) (hlo : W + 65 ≤ R.locals) :
    Back l R p e below s args New1.yN len W (fun P a => a = #[.ref x, .ref b] ∧ P.U.heap = h ∧ P.cells + 1 ≤ R.cells ∧ P.slots + A.slots.size ≤ R.slots)
      (fun P _ v B => ∃ L, Q Z x A h v B.U.heap L ∧ B.locs = P.locs ++ L ∧ B.cells = P.cells + 1 ∧ B.slots = P.slots + A.slots.size) := by
  intro m meth c P g ig mk a X hg hsize hdg hW hn hp'
  obtain ⟨rfl, rfl, r1, r2⟩ := hp'
  have al : Z.vm.Alike P.U.vm := hZ.alike.trans X.warmed.alike
  obtain ⟨D, cfV, kV, iV, fV, hD, gV, stV, knV, obV, asV, slV⟩ := id V
  obtain ⟨D', cfC, kC, iC, fC, hD', gC, stC, -, -, asC, slC⟩ := id C
  cases hD.symm.trans hD'
  obtain ⟨D2, kD, e1, e2, e3, e4, e5⟩ := id E
  cases hD.symm.trans e1
  obtain ⟨c2, k2, i1, i2, i3, -⟩ := Cond.instantiable_spec wi
  cases e2.symm.trans i1
  cases e3.symm.trans i2
  obtain ⟨kU, u1, u2⟩ := al.2.2 _ _ e3
  have hB : Blank ST x D P.U := ⟨hD, ⟨knV, fun q hq => by rw [hq] at obV; cases obV⟩, by rw [al.findClass]; exact e2, kU, u1, by rw [u2]; exact i3, by rw [u2]; exact e5 i3⟩
  have F1 : Found ST "value" "[B" fV P.U := ⟨SBG.found_only al ⟨cfV, kV, iV, gV⟩, stV⟩
  have F2 : Found ST "coder" "B" fC P.U := ⟨SBG.found_only al ⟨cfC, kC, iC, gC⟩, stC⟩
  have hA : Ch b A P.U := ⟨⟨K.1, State.isArrayOf_alike al K.2.1, K.2.2, by omega⟩, hty⟩
  have hS : StaticIs P.U ST "COMPACT_STRINGS" "Z" (.int z) := by
    obtain ⟨cfS, iS, kS, fS, st, cS, t1, t2, t3, t4, t5, t6, t7⟩ := S
    exact StaticIs.there (s := { Z with heap := P.U.heap }) ⟨cfS, iS, kS, fS, st, cS, t1, t2, t3, t4, t5, (fun q => by rw [q] at t6; cases t6), t7⟩ al rfl
  obtain ⟨v, B, X', ⟨⟨hv, E', V', q1, q2, q3, q4, q5, q6, q7, q8, q9, q10, q11⟩, hl, hc, hs⟩, st⟩ := New1.pays x D fV fC b A z (tab_of (moved hZ hw)) hfr hlo m meth c P g ig mk _ X hg hsize hdg hW hn ⟨r1, r2, rfl, hB, F1, F2, hA, hS, hz, l0, l2, hp⟩
  have al' : Z.vm.Alike B.U.vm := hZ.alike.trans X'.warmed.alike
  have hsz : E'.slots.size = D.slots.size := by
    obtain ⟨-, -, -, kB, w1, w2, w3⟩ := q1
    obtain ⟨kB', y1, y2⟩ := al'.2.2 _ _ e3
    rw [q2.2.1] at w1
    cases w1.symm.trans y1
    rw [w3, e5 i3, y2]
  refine ⟨v, B, X', ⟨_, ⟨hv, ?_, ⟨by omega, fun y cy hy hn' => q10 y cy (by simpa using hn') hy, fun y cy hy => ?_⟩, q11, ⟨E', _, q1.1, by rw [q2.2.1]; exact e2, by rw [q2.2.1]; exact e3, by rw [q2.1]; exact obV, fun _ => by rw [hsz]; exact e5 i3⟩,
    ⟨E', cfV, kV, iV, fV, q1.1, gV, stV, by rw [q2.1]; exact knV, by rw [q2.1]; exact obV, by rw [q2.2.1]; exact asV, q3⟩, ⟨E', cfC, kC, iC, fC, q1.1, gC, stC, by rw [q2.1]; exact knV, by rw [q2.1]; exact obV, by rw [q2.2.1]; exact asC, q4⟩,
    ⟨V', ⟨q5.1, State.isArrayOf_alike al'.symm q5.2.1, q5.2.2.1⟩, q6, by rw [← al'.findClass]; exact q7, q8, fun j hj => by have := q9 j hj; rwa [Nat.zero_add] at this⟩, fun O n d w F n1 n2 => ?_⟩, hl, hc, hs⟩, st⟩
  · intro y hy
    simp only [List.mem_cons, List.not_mem_nil, or_false] at hy
    rcases hy with rfl | rfl <;> rfl
  · by_cases q : y = x
    · subst q
      cases hD.symm.trans hy
      exact ⟨E', q1.1, q2.2.1, q2.1, hsz⟩
    · exact ⟨cy, q10 y cy q hy, rfl, rfl, rfl⟩
  · obtain ⟨D3, cf, k, i, f, g1, g2, g3, g4, g5, g6, g7⟩ := F
    cases hD.symm.trans g1
    simp only [RoadKit.slotOf, g2, gV, gC, Option.map_some, Option.getD_some] at n1 n2
    exact ⟨E', cf, k, i, f, q1.1, g2, g3, by rw [q2.1]; exact g4, by rw [q2.1]; exact g5, by rw [q2.2.1]; exact g6, by rw [q2.2.2 f.slot (by simp [n1, n2])]; exact g7⟩
end StrChars.Road
namespace StrChars.Road
open Jvm Sem ClassFile Op Lib Jvm.Stand Jvm.Free Jvm.Free.XT
/-- WHAT COMES BACK, the byte[] as a list of values -/
def QA (Z : State) (x : Addr) (zn : Int32) (cs : List Int32) (h : Heap) (v : Option Value) (h' : Heap) (L : List Loc) : Prop := v = none ∧ (∀ y ∈ L, y.base = x) ∧ RoadKit.Keep h h' [x] ∧ h'.size = h.size + 1 ∧ RoadKit.Exa Z h' x ST ∧ RoadKit.Fld Z h' x ST "value" "[B" (.ref h.size) ∧ RoadKit.Fld Z h' x ST "coder" "B" (.int 0) ∧
  (∃ kb, Z.vm.findClass "[B" = some kb ∧ RoadKit.Arv Z h' h.size kb .byte zn (cs.map fun c => .int (lo8 c)) (.int 0)) ∧
  ∀ (O n d : String) (w : Value), RoadKit.Fld Z h x O n d w → RoadKit.slotOf Z O n d ≠ RoadKit.slotOf Z ST "value" "[B" → RoadKit.slotOf Z O n d ≠ RoadKit.slotOf Z ST "coder" "B" → RoadKit.Fld Z h' x O n d w
/-- **new String(chars) AT A CALL, THE ARRAYS AS LISTS**: the char[] at b holds cs, not empty, no char above 255 -/
theorem backArv {p : Program} {l : Launch} {e : Env} {R : Room} {s : State} {args : Array Value} {below : List Frame} {len W : Nat} {Z : State} {a0 : Array Value} {h : Heap} (hZ : Z.Warmed39 s.vm) (hw : ∀ d ∈ words, d.before a0 Z = true) {kI : Nat} (wi : (Jvm.Cond.instantiable ST kI).before a0 Z = true)
    {x b : Addr} {k : ClassId} {zn z : Int32} {cs : List Int32} {dv v0 c0 : Value} (E : RoadKit.Exa Z h x ST) (V : RoadKit.Fld Z h x ST "value" "[B" v0) (C : RoadKit.Fld Z h x ST "coder" "B" c0) (K : RoadKit.Arv Z h b k .char zn (cs.map Value.int) dv) (S : RoadKit.Sta Z h ST "COMPACT_STRINGS" "Z" (.int z)) (hz : ¬ z = 0)
    (hlen : zn.toNatClampNeg = cs.length) (h0 : 0 < cs.length) (hbig : cs.length ≤ 536870912) (hall : ∀ c ∈ cs, ¬ 255 < c) (hfr : 4 ≤ R.frames) (hlo : W + 65 ≤ R.locals) :
    Back l R p e below s args New1.yN len W (fun P a => a = #[.ref x, .ref b] ∧ P.U.heap = h ∧ P.cells + 1 ≤ R.cells ∧ P.slots + cs.length ≤ R.slots)
      (fun P _ v B => ∃ L, QA Z x zn cs h v B.U.heap L ∧ B.locs = P.locs ++ L ∧ B.cells = P.cells + 1 ∧ B.slots = P.slots + cs.length) := by
  obtain ⟨A, K1, K2, K3, K4, K5, K6⟩ := K
  have e : A.slots.size = cs.length := K3.trans hlen
  have hat : ∀ (i : Nat) (hi : i < cs.length), A.slots[i]? = some (.int cs[i]) := fun i hi => by rw [K5 i (by omega)]; simp [List.getD_eq_getElem?_getD, hi]
  have hcv : ∀ (i : Nat) (hi : i < cs.length), cv A i = cs[i] := fun i hi => by unfold cv; rw [hat i hi]
  have hty : Typed .char A := fun i v hv => by
    have hi : i < A.slots.size := (Array.getElem?_eq_some_iff.mp hv).1
    have q := K5 i hi
    rw [hv] at q
    rw [Option.some.inj q]
    exact K6 i hi
  refine Back.mono (back hZ hw wi E V C K1 hty S hz (by omega) (by omega) (fun i hi => by rw [hcv i (by omega)]; exact hall _ (List.getElem_mem _)) hfr hlo) (fun P a hp => ⟨hp.1, hp.2.1, hp.2.2.1, by rw [e]; exact hp.2.2.2⟩) (fun P a v B hp hq => ?_)
  obtain ⟨L, ⟨q1, q2, q3, q4, q5, q6, q7, ⟨V', v1, v2, v3, v4, v5⟩, q9⟩, hl, hc, hs⟩ := hq
  refine ⟨L, ⟨q1, q2, q3, q4, q5, q6, q7, ⟨V'.cls, v3, V', v1, rfl, by rw [v4, e, hlen], K4, fun i hi => ?_, fun i hi => ?_⟩, q9⟩, hl, hc, by rw [hs, e]⟩
  · have hi' : i < cs.length := by omega
    rw [v5 i (by omega), hcv i hi']; simp [List.getD_eq_getElem?_getD, hi']
  · have hi' : i < cs.length := by omega
    simp only [List.getD_eq_getElem?_getD, List.getElem?_map, List.getElem?_eq_getElem hi', Option.map_some, Option.getD_some]
    exact fits_lo8 _
end StrChars.Road
namespace StrChars.Road
open Jvm Sem ClassFile Op Lib Jvm.Stand Jvm.Free Jvm.Free.XT
/-- WHAT COMES BACK, in the writer's own shape -/
def QV (Z : State) (x : Addr) (N : Int32) (bs : List Int32) (h : Heap) (n0 : Nat) (v : Option Value) (h' : Heap) (L : List Loc) : Prop := v = none ∧ RoadKit.Fr n0 L ∧ RoadKit.Keep h h' [x] ∧ RoadKit.Exa Z h' x ST ∧ RoadKit.Fld Z h' x ST "coder" "B" (.int 0) ∧
  ∃ (t : Addr) (kb : ClassId), n0 ≤ t ∧ h.size ≤ t ∧ ¬ t = x ∧ RoadKit.Fld Z h' x ST "value" "[B" (.ref t) ∧ RoadKit.Arv Z h' t kb .byte N (bs.map Value.int) (.int 0)
/-- **new String(chars) AT A CALL, FOR THE WRITER**: a char[] of n known ints, each 0 to 255 -/
theorem backV {p : Program} {l : Launch} {e : Env} {R : Room} {s : State} {args : Array Value} {below : List Frame} {len W : Nat} {Z : State} {a0 : Array Value} {h : Heap} (hZ : Z.Warmed39 s.vm) (hw : ∀ d ∈ words, d.before a0 Z = true) {kI : Nat} (wi : (Jvm.Cond.instantiable ST kI).before a0 Z = true)
    {x b : Addr} {kC : ClassId} {cs bs : List Int32} {d v0 c0 : Value} {z N : Int32} {n n0 : Nat} (hx0 : n0 ≤ x) (hh0 : n0 ≤ h.size) (E : RoadKit.Exa Z h x ST) (V : RoadKit.Fld Z h x ST "value" "[B" v0) (C : RoadKit.Fld Z h x ST "coder" "B" c0) (K : RoadKit.Arv Z h b kC .char N (cs.map Value.int) d) (S : RoadKit.Sta Z h ST "COMPACT_STRINGS" "Z" (.int z)) (hz : ¬ z = 0)
    (hn : cs.length = n) (hN : N = Int32.ofNat n) (l0 : 0 < n) (l2 : n ≤ 4000) (hp : ∀ c ∈ cs, ¬ c < 0 ∧ ¬ (255 : Int32) < c) (hb : bs = cs.map (fun c => c.toInt8.toInt32)) (hfr : 4 ≤ R.frames) (hlo : W + 65 ≤ R.locals) :
    Back l R p e below s args (⟨"java/lang/String", "<init>", "([C)V"⟩ : MethodName) len W (fun P a => a = #[.ref x, .ref b] ∧ P.U.heap = h ∧ P.cells + 1 ≤ R.cells ∧ P.slots + n ≤ R.slots)
      (fun P _ v B => ∃ L, QV Z x N bs h n0 v B.U.heap L ∧ B.locs = P.locs ++ L ∧ B.cells = P.cells + 1 ∧ B.slots = P.slots + n) := by
  subst hn hN hb
  refine Back.mono (backArv hZ hw wi E V C K S hz (n32 (by omega)) l0 (by omega) (fun c hc => (hp c hc).2) hfr hlo) (fun P a hp => hp) (fun P a v B hp hq => ?_)
  obtain ⟨L, ⟨q1, q2, q3, q4, q5, q6, q7, ⟨kb, v1, v2⟩, q9⟩, hl, hc, hs⟩ := hq
  exact ⟨L, ⟨q1, fun y hy => by rw [q2 y hy]; exact hx0, q3, q5, q7, h.size, kb, hh0, Nat.le_refl _, Nat.ne_of_gt E.lt, q6, by rw [List.map_map]; exact v2⟩, hl, hc, hs⟩
end StrChars.Road
namespace StrChars
open Jvm Sem ClassFile Op Lib Jvm.Stand Jvm.Free.XT Jvm.Free.ALB Jvm.Free.JM Jvm.Free
open Jvm.Lib.Cold (StaticIs)
def hi8 (x : Int32) : Int32 := lo8 (x >>> ((8 : Int32) &&& 31))
end StrChars
namespace StrChars.Road
open Jvm Sem ClassFile Op Lib Jvm.Stand Jvm.Free Jvm.Free.XT
open Jvm.Lib.Cold (StaticIs)
/-- the bytes of the chars cs, low before high -/
def wideBytes : List Int32 → List Value
  | [] => []
  | c :: cs => .int (lo8 c) :: .int (hi8 c) :: wideBytes cs
/-- an array of N2 bytes vs codes the chars cs by the coder cd -/
def CodA (cs : List Int32) (cd N2 : Int32) (vs : List Value) : Prop := (cd = 0 ∧ N2 = Int32.ofNat cs.length ∧ vs = (cs.map fun c => Value.int (lo8 c)) ∧ ∀ c ∈ cs, ¬ 255 < c) ∨ (cd = 1 ∧ N2 = Int32.ofNat (2 * cs.length) ∧ vs = wideBytes cs ∧ ∃ c ∈ cs, 255 < c)
end StrChars.Road
namespace StrChars.Road
open Jvm Sem ClassFile Op Lib Jvm.Stand Jvm.Free Jvm.Free.XT
open Jvm.Lib.Cold (StaticIs)
/-- what backV says of its String, as the contracts of this text ask it: cs's low bytes, coder 0 -/
theorem codOf {cs : List Int32} {n : Nat} (hn : cs.length = n) (hb : ∀ c ∈ cs, ¬ 255 < c) : CodA cs 0 (Int32.ofNat n) ((cs.map lo8).map Value.int) := Or.inl ⟨rfl, by rw [hn], by simp [List.map_map, Function.comp_def], hb⟩
end StrChars.Road
end Jvm.Pilot.@@N@@
namespace Jvm.Pilot.@@N@@
open Jvm Jvm.ClassFile Sem Op Lib Jvm.Free Jvm.Stand Jvm.LawKit Jvm.RoadKit Bundle Jvm.Pilot.@@N@@.Jvm.D
/-- what a walk owes from a state on: the run comes to a state of which G speaks -/
def own_Go (p : Program) (e : Env) (below : List Frame) (A : State) (G : State → Prop) : Prop := ∃ B, (∀ t, Steps p.tables e below B t → Steps p.tables e below A t) ∧ G B
theorem own_via {p : Program} {e : Env} {below : List Frame} {A B : State} {G : State → Prop} (h : ∀ t, Steps p.tables e below B t → Steps p.tables e below A t) (k : own_Go p e below B G) : own_Go p e below A G := by
  obtain ⟨C, h1, h2⟩ := k
  exact ⟨C, fun t q => h t (h1 t q), h2⟩
abbrev uu : Slot := .unset
theorem ov {p : Program} {e : Env} {below : List Frame} {A B : State} {G : State → Prop} (h : ∀ t, Steps p.tables e below B t → Steps p.tables e below A t) (k : own_Go p e below B G) : own_Go p e below A G := own_via h k
theorem own_done {p : Program} {e : Env} {below : List Frame} {A : State} {G : State → Prop} (g : G A) : own_Go p e below A G := ⟨A, fun _ q => q, g⟩
theorem own_bind {p : Program} {e : Env} {below : List Frame} {A : State} {G G' : State → Prop} (h : own_Go p e below A G) (k : ∀ B, G B → own_Go p e below B G') : own_Go p e below A G' := by
  obtain ⟨B, h1, h2⟩ := h
  exact own_via h1 (k B h2)
/-- the method ends here -/
def own_End (p : Program) (e : Env) (below : List Frame) (s : State) (Q : Option Value → Heap → List Loc → Prop) (C S : Nat) (B : State) : Prop :=
  ∃ s₂ o, Steps p.tables e below B s₂ ∧ s₂.status = .running ∧ Ended s₂ below o ∧ ∃ v L, o = .returned v ∧ Q v s₂.heap L ∧ FrameEnd s o s₂ L C S
theorem own_body {p : Program} {e : Env} {below : List Frame} {s A A' : State} {Q : Option Value → Heap → List Loc → Prop} {C S : Nat} (q : ∀ t, Steps p.tables e below A t → Steps p.tables e below A' t) (h : own_Go p e below A (own_End p e below s Q C S)) :
    ∃ s₂ o, Steps p.tables e below A' s₂ ∧ s₂.status = .running ∧ Ended s₂ below o ∧ ∃ v L, o = .returned v ∧ Q v s₂.heap L ∧ FrameEnd s o s₂ L C S := by
  obtain ⟨B, h1, s₂, o, h2, h3⟩ := h
  exact ⟨s₂, o, q _ (h1 _ h2), h3⟩
theorem oW {Z : State} {a0 : Array Value} (hw : ∀ d ∈ tables_1, d.before a0 Z = true) (i : Nat) {d : Jvm.Cond} (h : tables_1[i]? = some d) : d.before a0 Z = true := hw _ (List.mem_of_getElem? h)
section Short
variable {p : Program} {l : Launch} {e : Env} {R : Room} {s : State} {m : MethodId} {args : Array Value} {below : List Frame} {meth : Method} {c : Code} {T : State} {locs : List Loc} {cells slots : Nat} {G : State → Prop} {pc n : Nat} {Ls : Array Slot} {st : List Value}
theorem oAL (X : Stand p l e R s m args below meth c T locs cells slots) (hx : p.tables.exec = Jvm.exec) {k : Nat} {v : Value} (hd : decode c.code pc = .ok (.aload k, 2)) (hl : Ls[k]? = some (.val v)) (hv : v.isRef = true) (hn : n = pc + 2) (K : own_Go p e below (T.setTop (mkF m n Ls (v :: st))) G) : own_Go p e below (T.setTop (mkF m pc Ls st)) G := by
  subst hn; exact own_via (fun t k => XS.aload X.here hx rfl hd hl hv k) K
theorem oALN (X : Stand p l e R s m args below meth c T locs cells slots) (hx : p.tables.exec = Jvm.exec) {k : Fin 4} {v : Value} (hd : decode c.code pc = .ok (.aload_n k, 1)) (hl : Ls[k.val]? = some (.val v)) (hv : v.isRef = true) (hn : n = pc + 1) (K : own_Go p e below (T.setTop (mkF m n Ls (v :: st))) G) : own_Go p e below (T.setTop (mkF m pc Ls st)) G := by
  subst hn; exact own_via (fun t k => XS.aloadN X.here hx rfl hd hl hv k) K
theorem oIL (X : Stand p l e R s m args below meth c T locs cells slots) (hx : p.tables.exec = Jvm.exec) {k : Nat} {v : Int32} (hd : decode c.code pc = .ok (.iload k, 2)) (hl : Ls[k]? = some (.val (.int v))) (hn : n = pc + 2) (K : own_Go p e below (T.setTop (mkF m n Ls (.int v :: st))) G) : own_Go p e below (T.setTop (mkF m pc Ls st)) G := by
  subst hn; exact own_via (fun t k => XS.iload X.here hx rfl hd hl k) K
theorem oILN (X : Stand p l e R s m args below meth c T locs cells slots) (hx : p.tables.exec = Jvm.exec) {k : Fin 4} {v : Int32} (hd : decode c.code pc = .ok (.iload_n k, 1)) (hl : Ls[k.val]? = some (.val (.int v))) (hn : n = pc + 1) (K : own_Go p e below (T.setTop (mkF m n Ls (.int v :: st))) G) : own_Go p e below (T.setTop (mkF m pc Ls st)) G := by
  subst hn; exact own_via (fun t k => XS.iloadN X.here hx rfl hd hl k) K
theorem oIC (X : Stand p l e R s m args below meth c T locs cells slots) (hx : p.tables.exec = Jvm.exec) {i : Int} (z : Int32) (hd : decode c.code pc = .ok (.iconst i, 1)) (hz : Int32.ofInt i = z) (hn : n = pc + 1) (K : own_Go p e below (T.setTop (mkF m n Ls (.int z :: st))) G) : own_Go p e below (T.setTop (mkF m pc Ls st)) G := by
  subst hn hz; exact own_via (fun t k => XS.iconst X.here hx rfl hd k) K
theorem oBP (X : Stand p l e R s m args below meth c T locs cells slots) (hx : p.tables.exec = Jvm.exec) {i : Int} (z : Int32) (hd : decode c.code pc = .ok (.bipush i, 2)) (hz : (Int8.ofInt i).toInt32 = z) (hn : n = pc + 2) (K : own_Go p e below (T.setTop (mkF m n Ls (.int z :: st))) G) : own_Go p e below (T.setTop (mkF m pc Ls st)) G := by
  subst hn hz; exact own_via (fun t k => XS.bipush X.here hx rfl hd k) K
theorem oSP (X : Stand p l e R s m args below meth c T locs cells slots) (hx : p.tables.exec = Jvm.exec) {i : Int} (z : Int32) (hd : decode c.code pc = .ok (.sipush i, 3)) (hz : (Int16.ofInt i).toInt32 = z) (hn : n = pc + 3) (K : own_Go p e below (T.setTop (mkF m n Ls (.int z :: st))) G) : own_Go p e below (T.setTop (mkF m pc Ls st)) G := by
  subst hn hz; exact own_via (fun t k => XS.sipush X.here hx rfl hd k) K
theorem oNU (X : Stand p l e R s m args below meth c T locs cells slots) (hx : p.tables.exec = Jvm.exec) (hd : decode c.code pc = .ok (.aconst_null, 1)) (hn : n = pc + 1) (K : own_Go p e below (T.setTop (mkF m n Ls (.null :: st))) G) : own_Go p e below (T.setTop (mkF m pc Ls st)) G := by
  subst hn; exact own_via (fun t k => XS.aconstNull X.here hx rfl hd k) K
theorem oDU (X : Stand p l e R s m args below meth c T locs cells slots) (hx : p.tables.exec = Jvm.exec) {x : Value} (hd : decode c.code pc = .ok (.dup, 1)) (hc : x.category = 1) (hn : n = pc + 1) (K : own_Go p e below (T.setTop (mkF m n Ls (x :: x :: st))) G) : own_Go p e below (T.setTop (mkF m pc Ls (x :: st))) G := by
  subst hn; exact own_via (fun t k => XS.dup X.here hx rfl hd rfl hc k) K
theorem oPO (X : Stand p l e R s m args below meth c T locs cells slots) (hx : p.tables.exec = Jvm.exec) {x : Value} (hd : decode c.code pc = .ok (.pop, 1)) (hc : x.category = 1) (hn : n = pc + 1) (K : own_Go p e below (T.setTop (mkF m n Ls st)) G) : own_Go p e below (T.setTop (mkF m pc Ls (x :: st))) G := by
  subst hn; exact own_via (fun t k => XS.pop X.here hx rfl hd rfl hc k) K
theorem oGO (X : Stand p l e R s m args below meth c T locs cells slots) (hx : p.tables.exec = Jvm.exec) {o : Int} (hd : decode c.code pc = .ok (.goto o, 3)) (ho : 0 ≤ (pc : Int) + o) (hn : ((pc : Int) + o).toNat = n) (K : own_Go p e below (T.setTop (mkF m n Ls st)) G) : own_Go p e below (T.setTop (mkF m pc Ls st)) G :=
  own_via (fun t k => XS.goto X.here hx rfl (pc0 := pc) (pc' := n) rfl hd ho hn k) K
end Short
section Leaf
variable {p : Program} {l : Launch} {e : Env} {R : Room} {s : State} {m : MethodId} {args : Array Value} {below : List Frame} {meth : Method} {c : Code} {T : State} {locs : List Loc} {cells slots : Nat}
theorem own_leaf (X : Stand p l e R s m args below meth c T locs cells slots) (hx : p.tables.exec = Jvm.exec) (hlk : meth.locks = false) {pc : Nat} {Ls : Array Slot} {w : Value} {t : FieldType} {i : Instr} {rest : List Value} (hret : meth.sig.returnType = some t) (hn : narrow t w = w)
    (hi : (i = .ireturn ∧ (t = .int ∨ t = .boolean ∨ t = .byte ∨ t = .char ∨ t = .short) ∧ ∃ z, w = .int z) ∨ (i = .lreturn ∧ t = .long ∧ ∃ z, w = .long z) ∨ (i = .dreturn ∧ t = .double ∧ ∃ z, w = .double z) ∨ (i = .freturn ∧ t = .float ∧ ∃ z, w = .float z) ∨ (i = .areturn ∧ t.isReference = true ∧ w.isRef = true))
    (hd : decode c.code pc = .ok (i, 1)) {Q : Option Value → Heap → List Loc → Prop} {C S : Nat} (hC : cells ≤ C) (hS : slots ≤ S) (hq : Q (some w) T.heap locs) : own_Go p e below (T.setTop (mkF m pc Ls (w :: rest))) (own_End p e below s Q C S) := by
  obtain ⟨fs, hr, hrun, hended, hW, hsame⟩ := X.leave (v := some w) (fun h => by rw [hret] at h; cases h) hlk
  exact own_done ⟨_, _, retOut X hx hret hn hi hd hr, hrun, hended, _, _, rfl, hq, ⟨_, rfl⟩, hW, hsame.mono hC hS⟩
theorem own_leafV (X : Stand p l e R s m args below meth c T locs cells slots) (hx : p.tables.exec = Jvm.exec) (hlk : meth.locks = false) {pc : Nat} {Ls : Array Slot} (hret : meth.sig.returnType = none)
    (hd : decode c.code pc = .ok (.return_, 1)) {Q : Option Value → Heap → List Loc → Prop} {C S : Nat} (hC : cells ≤ C) (hS : slots ≤ S) (hq : Q none T.heap locs) : own_Go p e below (T.setTop (mkF m pc Ls [])) (own_End p e below s Q C S) := by
  obtain ⟨fs, hr, hrun, hended, hW, hsame⟩ := X.leave (v := none) (fun _ => rfl) hlk
  exact own_done ⟨_, _, X.returnOut hx hret hd hr, hrun, hended, _, _, rfl, hq, ⟨_, rfl⟩, hW, hsame.mono hC hS⟩
theorem own_getFR {Z : State} {a0 : Array Value} {h : Heap} (X : Stand p l e R s m args below meth c T locs cells slots) (hx : p.tables.exec = Jvm.exec) (hZ : Z.Warmed39 s.vm) {own R0 O n d : String} {index : Nat} (hown : s.vm.findClass own = some m.cls) (w : (Cond.fieldRef own index R0 n d).before a0 Z = true) (via : Via Z R0 O n d)
    (eT : T.heap = h) {a : Addr} {v : Value} (F : Fld Z h a O n d v) {g : JFrame} (hg : g.method = m) {rest : List Value} (hs : g.stack = .ref a :: rest) (hd : decode c.code g.pc = .ok (.getfield index, 3)) : ∃ T', Stand p l e R s m args below meth c T' locs cells slots ∧ T'.heap = h ∧ ∀ target, Steps p.tables e below (T'.setTop { g with pc := g.pc + 3, stack := v :: rest }) target → Steps p.tables e below (T.setTop g) target := by
  obtain ⟨cell, cf, k, i, f, h1, h2, h3, h4, -, -, h7⟩ := F
  have hW : Z.Warmed39 T.vm := wtrans hZ X.warmed
  have w1 := Cond.fieldRef_warmed39 hW w
  obtain ⟨c', k', i', f', hi, hr⟩ := Cond.fieldRef_spec (cur := m.cls) (show (Z.setVm T.vm).vm.findClass own = some m.cls by show T.vm.findClass own = _; rw [X.warmed.alike.findClass]; exact hown) w1
  obtain ⟨k'', hi', -⟩ := State.fieldFound?_setVm (s := Z) hW.alike (via _ h2)
  cases hi.symm.trans hi'
  refine ⟨T, X, eT, fun target hrest => ?_⟩
  subst hg
  jvm_step X.here [hx, hd, getfield.wp_ready (e := e) (s := T) (f := g) X.here.top hr h3 hs (by rw [eT]; exact h1) h4 h7]
  exact hrest
def own_EndW (p : Program) (e : Env) (below : List Frame) (s : State) (Q : Option Value → Heap → List Loc → Prop) (C S : Nat) (B : State) : Prop :=
  ∃ s₂ o, Steps p.tables e below B s₂ ∧ s₂.status = .running ∧ Ended s₂ below o ∧ ∃ v L, o = .returned v ∧ Q v s₂.heap L ∧ ReturnedEndW s o s₂ L C S
theorem own_bodyW {A A' : State} {Q : Option Value → Heap → List Loc → Prop} {C S : Nat} (q : ∀ t, Steps p.tables e below A t → Steps p.tables e below A' t) (h : own_Go p e below A (own_EndW p e below s Q C S)) :
    ∃ s₂ o, Steps p.tables e below A' s₂ ∧ s₂.status = .running ∧ Ended s₂ below o ∧ ∃ v L, o = .returned v ∧ Q v s₂.heap L ∧ ReturnedEndW s o s₂ L C S := by
  obtain ⟨B, h1, s₂, o, h2, h3⟩ := h
  exact ⟨s₂, o, q _ (h1 _ h2), h3⟩
theorem own_leafW {vm₁ : Vm} (X : Stand p l e R (s.setVm vm₁) m args below meth c T locs cells slots) (hx : p.tables.exec = Jvm.exec) (hlk : meth.locks = false) {n : Nat} (hS : s.Since vm₁ n) (hk : n ≤ T.heap.size) {pc : Nat} {Ls : Array Slot} {w : Value} {t : FieldType} {i : Instr} {rest : List Value} (hret : meth.sig.returnType = some t) (hn : narrow t w = w)
    (hi : (i = .ireturn ∧ (t = .int ∨ t = .boolean ∨ t = .byte ∨ t = .char ∨ t = .short) ∧ ∃ z, w = .int z) ∨ (i = .lreturn ∧ t = .long ∧ ∃ z, w = .long z) ∨ (i = .dreturn ∧ t = .double ∧ ∃ z, w = .double z) ∨ (i = .freturn ∧ t = .float ∧ ∃ z, w = .float z) ∨ (i = .areturn ∧ t.isReference = true ∧ w.isRef = true))
    (hd : decode c.code pc = .ok (i, 1)) {Q : Option Value → Heap → List Loc → Prop} {C S : Nat} (hC : cells ≤ C) (hS' : slots ≤ S) (hq : Q (some w) T.heap locs) : own_Go p e below (T.setTop (mkF m pc Ls (w :: rest))) (own_EndW p e below s Q C S) := by
  obtain ⟨fs, hr, hrun, hended, h1, h2, h3, hsame⟩ := X.leaveW hS hk (v := some w) (fun h => by rw [hret] at h; cases h) hlk
  exact own_done ⟨_, _, retOut X hx hret hn hi hd hr, hrun, hended, _, _, rfl, hq, h1, h2, h3, hsame.mono hC hS'⟩
theorem own_leafVW {vm₁ : Vm} (X : Stand p l e R (s.setVm vm₁) m args below meth c T locs cells slots) (hx : p.tables.exec = Jvm.exec) (hlk : meth.locks = false) {n : Nat} (hS : s.Since vm₁ n) (hk : n ≤ T.heap.size) {pc : Nat} {Ls : Array Slot} (hret : meth.sig.returnType = none)
    (hd : decode c.code pc = .ok (.return_, 1)) {Q : Option Value → Heap → List Loc → Prop} {C S : Nat} (hC : cells ≤ C) (hS' : slots ≤ S) (hq : Q none T.heap locs) : own_Go p e below (T.setTop (mkF m pc Ls [])) (own_EndW p e below s Q C S) := by
  obtain ⟨fs, hr, hrun, hended, h1, h2, h3, hsame⟩ := X.leaveW hS hk (v := none) (fun _ => rfl) hlk
  exact own_done ⟨_, _, X.returnOut hx hret hd hr, hrun, hended, _, _, rfl, hq, h1, h2, h3, hsame.mono hC hS'⟩
def own_bit (P : Prop) [Decidable P] : Int32 := if P then 1 else 0
theorem own_bit01 (P : Prop) [Decidable P] : own_bit P = 0 ∨ own_bit P = 1 := by unfold own_bit; split <;> simp
theorem own_bitT {P : Prop} [Decidable P] (h : P) : own_bit P = 1 := if_pos h
theorem own_bitF {P : Prop} [Decidable P] (h : ¬ P) : own_bit P = 0 := if_neg h
theorem own_bit0 {P : Prop} [Decidable P] : own_bit P = 0 ↔ ¬ P := by unfold own_bit; split <;> simp_all
theorem own_bit1 {P : Prop} [Decidable P] : own_bit P = 1 ↔ P := by unfold own_bit; split <;> simp_all
theorem own_bits {P P' : Prop} [Decidable P] [Decidable P'] (h : P ↔ P') : own_bit P = own_bit P' := by unfold own_bit; simp [h]
theorem own_lt (x y : Int32) : x < y ↔ x.toInt < y.toInt := Int32.lt_iff_toInt_lt
theorem own_eq (x y : Int32) : x = y ↔ x.toInt = y.toInt := Int32.toInt_inj.symm
theorem own_ltL (x y : Int64) : x < y ↔ x.toInt < y.toInt := Int64.lt_iff_toInt_lt
theorem own_eqL (x y : Int64) : x = y ↔ x.toInt = y.toInt := Int64.toInt_inj.symm
theorem own_mask (x : Int32) : 0 ≤ (x &&& (2147483647 : Int32)).toInt := by
  have h : (x &&& (2147483647 : Int32)).toBitVec.msb = false := by
    show (x.toBitVec &&& 2147483647#32).msb = false
    have e : (2147483647#32).msb = false := by decide
    rw [BitVec.msb_and, e]; simp
  have := BitVec.toInt_eq_msb_cond (x &&& (2147483647 : Int32)).toBitVec
  rw [h] at this
  show 0 ≤ (x &&& (2147483647 : Int32)).toBitVec.toInt
  rw [this]
  simp only [Bool.false_eq_true, if_false]
  exact Int.natCast_nonneg _
theorem own_modm (x m : Int32) (hm : 0 < m.toInt) : 0 ≤ ((x &&& (2147483647 : Int32)) % m).toInt ∧ ((x &&& (2147483647 : Int32)) % m).toInt < m.toInt := by
  have h := own_mask x
  rw [Int32.toInt_mod, Int.tmod_eq_emod_of_nonneg h]
  exact ⟨Int.emod_nonneg _ (by omega), Int.emod_lt_of_pos _ hm⟩
theorem own_fb {x : Int32} (h : x = 0 ∨ x = 1) : fits .boolean (.int x) = true := by rcases h with rfl | rfl <;> decide
theorem own_eqI {t : Term} {k : Int32} {args : Array Value} {s : State} (h : (Cond.eq t (Term.int k)).value args s none s [] = some true) : t.eval args s none [] s = some (.int k) := by
  simp only [Cond.value] at h
  have hn : (Term.int k).eval args s none [] s = some (.int k) := rfl
  rw [hn] at h
  cases ht : t.eval args s none [] s with
  | none => simp [ht] at h
  | some v => cases v <;> simp [ht] at h ⊢ <;> first | exact h | (exact h.elim) | simp_all
theorem own_eqR {t u : Term} {a : Addr} {args : Array Value} {s : State} (h : (Cond.eq t u).value args s none s [] = some true) (hu : u.eval args s none [] s = some (.ref a)) : t.eval args s none [] s = some (.ref a) := by
  simp only [Cond.value] at h
  rw [hu] at h
  cases ht : t.eval args s none [] s with
  | none => simp [ht] at h
  | some v => cases v <;> simp [ht] at h ⊢ <;> first | exact h | (exact h.elim) | simp_all
theorem own_eqJ {t : Term} {k : Int64} {args : Array Value} {s : State} (h : (Cond.eq t (Term.long k)).value args s none s [] = some true) : t.eval args s none [] s = some (.long k) := by
  simp only [Cond.value] at h
  have hn : (Term.long k).eval args s none [] s = some (.long k) := rfl
  rw [hn] at h
  cases ht : t.eval args s none [] s with
  | none => simp [ht] at h
  | some v => cases v <;> simp [ht] at h ⊢ <;> first | exact h | (exact h.elim) | simp_all
theorem own_b1 {x : Int32} (h : x = 0 ∨ x = 1) : narrow .boolean (.int x) = .int x := by rcases h with rfl | rfl <;> rfl
end Leaf

def own_C (c : Int32) : Prop := ¬ c < 0 ∧ ¬ (255 : Int32) < c
theorem own_C256 {c : Int32} (h : own_C c) : ∃ k : Fin 256, c = Int32.ofNat k.val := by
  obtain ⟨h1, h2⟩ := h
  rw [own_lt] at h1 h2
  have e0 : (0 : Int32).toInt = 0 := by decide
  have e1 : (255 : Int32).toInt = 255 := by decide
  rw [e0] at h1; rw [e1] at h2
  refine ⟨⟨c.toInt.toNat, by omega⟩, ?_⟩
  rw [own_eq]
  show _ = (Int32.ofNat c.toInt.toNat).toInt
  rw [Int32.toInt_ofNat_of_lt (by omega)]
  omega
theorem own_i2c {c : Int32} (h : own_C c) : c.toUInt32.toUInt16.toUInt32.toInt32 = c := by
  obtain ⟨k, rfl⟩ := own_C256 h
  exact (by decide +kernel : ∀ k : Fin 256, (Int32.ofNat k.val).toUInt32.toUInt16.toUInt32.toInt32 = Int32.ofNat k.val) k
theorem own_cg {a b : Int32} (e : a = b) (h : own_C a) : own_C b := e ▸ h
theorem own_nc {c : Int32} (h : own_C c) : nar .char c = c := own_i2c h
theorem own_b255 (x : Int32) : own_C (x &&& (255 : Int32)) := by
  have h : (x &&& 255).toBitVec.toNat < 256 := by
    simp only [Int32.toBitVec_and, BitVec.toNat_and]
    exact Nat.lt_succ_of_le Nat.and_le_right
  have e : (x &&& 255) = Int32.ofNat (x &&& 255).toBitVec.toNat := by
    apply Int32.toBitVec_inj.mp
    show _ = BitVec.ofNat 32 _
    rw [BitVec.ofNat_toNat]; simp
  rw [e]
  exact (by decide +kernel : ∀ k : Fin 256, ¬ (Int32.ofNat k.val) < 0 ∧ ¬ (255 : Int32) < (Int32.ofNat k.val)) ⟨_, h⟩
theorem own_cs1 {a : Int32} (h : own_C a) : ∀ c ∈ [a], ¬ c < 0 ∧ ¬ (255 : Int32) < c := fun c hc => by
  simp only [List.mem_cons, List.not_mem_nil, or_false] at hc; subst hc; exact h
theorem own_cs2 {a b : Int32} (h : own_C a) (h' : own_C b) : ∀ c ∈ [a, b], ¬ c < 0 ∧ ¬ (255 : Int32) < c := fun c hc => by
  simp only [List.mem_cons, List.not_mem_nil, or_false] at hc; rcases hc with rfl | rfl
  · exact h
  · exact h'
theorem own_cs3 {a b d : Int32} (h : own_C a) (h' : own_C b) (h2 : own_C d) : ∀ c ∈ [a, b, d], ¬ c < 0 ∧ ¬ (255 : Int32) < c := fun c hc => by
  simp only [List.mem_cons, List.not_mem_nil, or_false] at hc; rcases hc with rfl | rfl | rfl
  · exact h
  · exact h'
  · exact h2
theorem own_eqv {v : Option Value} {P : Prop} [Decidable P] (h : (v = some (.int 1) ∧ P) ∨ (v = some (.int 0) ∧ ¬ P)) : v = some (.int (own_bit P)) := by
  rcases h with ⟨h1, h2⟩ | ⟨h1, h2⟩
  · rw [h1, own_bitT h2]
  · rw [h1, own_bitF h2]
theorem own_up255 {cs : List Int32} (h : ∀ c ∈ cs, ¬ c < 0 ∧ ¬ (255 : Int32) < c) : ∀ c ∈ cs, ¬ c < 0 ∧ ¬ (65535 : Int32) < c := fun c hc => ⟨(h c hc).1, fun q => (h c hc).2 (by rw [Int32.lt_iff_toInt_lt] at q ⊢; have e1 : (65535 : Int32).toInt = 65535 := rfl; have e2 : (255 : Int32).toInt = 255 := rfl; omega)⟩

theorem own_ibW {Z s : State} {vm' : Vm} {Ts : List String} (I : IB Z s.vm Ts) (h : s.WarmedH vm') : IB Z vm' Ts := by
  obtain ⟨more, e, hm⟩ := I
  exact ⟨more, h.interned_eq.trans e, hm⟩
section Ib
variable {p : Program} {l : Launch} {e : Env} {R : Room} {s : State} {args : Array Value} {below : List Frame} {Z : State} {a0 : Array Value} {h : Heap}
/-- a callee that may intern and wants to know that nobody has interned since the start -/
theorem own_backI {y : MethodName} {bytes : ByteArray} {maxL : Nat} {ret : Option FieldType} {rm : Room} {len W : Nat} {as' : Array Value} {Q : Option Value → Heap → List Loc → Prop}
    (hM : MetFree l y (head1 [Cond.code y bytes maxL ret] rm) (fun a U => a = as' ∧ Z.Warmed39 U.vm ∧ U.heap = h ∧ IB Z U.vm []) (fun _ _ _ _ _ => True) (fun _ U o U' => ∃ v L, o = .returned v ∧ Q v U'.heap L ∧ ReturnedEndW U o U' L rm.cells rm.slots))
    (hI : IB Z s.vm []) (hZ : Z.Warmed39 s.vm) (wc : (Cond.code y bytes maxL ret).before a0 Z = true) (wz : (Cond.initialized y.cls).before a0 Z = true) (hf : rm.frames + 1 ≤ R.frames) (hl : W + (maxL + 11) + rm.locals ≤ R.locals) :
    BackS l R p e below s args y len W (fun A a => a = as' ∧ A.U.heap = h ∧ A.cells + rm.cells ≤ R.cells ∧ A.slots + rm.slots ≤ R.slots)
      (fun A _ v B => ∃ L, Q v B.U.heap L ∧ B.locs = A.locs ++ L ∧ B.cells = A.cells + rm.cells ∧ B.slots = A.slots + rm.slots) := by
  refine BackS.of_freeW (bytes := bytes) (maxL := maxL) (ret := ret) (E := fun _ _ o t L k n => k = rm.cells ∧ n = rm.slots ∧ ∃ v, o = .returned v ∧ Q v t.heap L) hM hf hl ?_ ?_ ?_ ?_ ?_
  · intro m meth c A a Y hp
    have hU : Z.Warmed39 A.U.vm := wtrans hZ Y.warmed
    exact ⟨by show (Cond.and _ .tt).before a A.U = true; rw [Cond.before_and, mv hU wc]; rfl, mv hU wc, mv hU wz, hp.2.2.1, hp.2.2.2⟩
  · intro m meth c A a g mk Y hp
    exact ⟨hp.1, wtrans hZ Y.warmed, hp.2.1, own_ibW hI Y.warmed⟩
  · intros; trivial
  · rintro _ _ _ _ ⟨v, L, h1, h2, h3⟩
    exact ⟨L, _, _, h3, rfl, rfl, v, h1, h2⟩
  · rintro m meth c A a g mk v t L k n Y hp _ _ ⟨e1, e2, v', e3, e4⟩
    cases e3; subst e1 e2; exact ⟨L, e4, rfl, rfl, rfl⟩
/-- the same, for any word VP on the tables at the call, and a Q that looks at the tables behind it -/
theorem own_backV {VP : Vm → Prop} {y : MethodName} {bytes : ByteArray} {maxL : Nat} {ret : Option FieldType} {rm : Room} {len W : Nat} {as' : Array Value} {Q : Option Value → Heap → List Loc → Vm → Prop}
    (hM : MetFree l y (head1 [Cond.code y bytes maxL ret] rm) (fun a U => a = as' ∧ Z.Warmed39 U.vm ∧ U.heap = h ∧ VP U.vm) (fun _ _ _ _ _ => True) (fun _ U o U' => ∃ v L, o = .returned v ∧ Q v U'.heap L U'.vm ∧ ReturnedEndW U o U' L rm.cells rm.slots))
    (hV : ∀ vm', s.WarmedH vm' → VP vm') (hZ : Z.Warmed39 s.vm) (wc : (Cond.code y bytes maxL ret).before a0 Z = true) (wz : (Cond.initialized y.cls).before a0 Z = true) (hf : rm.frames + 1 ≤ R.frames) (hl : W + (maxL + 11) + rm.locals ≤ R.locals) :
    BackS l R p e below s args y len W (fun A a => a = as' ∧ A.U.heap = h ∧ A.cells + rm.cells ≤ R.cells ∧ A.slots + rm.slots ≤ R.slots)
      (fun A _ v B => ∃ L, Q v B.U.heap L B.U.vm ∧ B.locs = A.locs ++ L ∧ B.cells = A.cells + rm.cells ∧ B.slots = A.slots + rm.slots) := by
  refine BackS.of_freeW (bytes := bytes) (maxL := maxL) (ret := ret) (E := fun _ _ o t L k n => k = rm.cells ∧ n = rm.slots ∧ ∃ v, o = .returned v ∧ Q v t.heap L t.vm) hM hf hl ?_ ?_ ?_ ?_ ?_
  · intro m meth c A a Y hp
    have hU : Z.Warmed39 A.U.vm := wtrans hZ Y.warmed
    exact ⟨by show (Cond.and _ .tt).before a A.U = true; rw [Cond.before_and, mv hU wc]; rfl, mv hU wc, mv hU wz, hp.2.2.1, hp.2.2.2⟩
  · intro m meth c A a g mk Y hp
    exact ⟨hp.1, wtrans hZ Y.warmed, hp.2.1, hV _ Y.warmed⟩
  · intros; trivial
  · rintro _ _ _ _ ⟨v, L, h1, h2, h3⟩
    exact ⟨L, _, _, h3, rfl, rfl, v, h1, h2⟩
  · rintro m meth c A a g mk v t L k n Y hp _ _ ⟨e1, e2, v', e3, e4⟩
    cases e3; subst e1 e2; exact ⟨L, e4, rfl, rfl, rfl⟩
/-- the same, for any word VP on the tables at the call -/
theorem own_backP {VP : Vm → Prop} {y : MethodName} {bytes : ByteArray} {maxL : Nat} {ret : Option FieldType} {rm : Room} {len W : Nat} {as' : Array Value} {Q : Option Value → Heap → List Loc → Prop}
    (hM : MetFree l y (head1 [Cond.code y bytes maxL ret] rm) (fun a U => a = as' ∧ Z.Warmed39 U.vm ∧ U.heap = h ∧ VP U.vm) (fun _ _ _ _ _ => True) (fun _ U o U' => ∃ v L, o = .returned v ∧ Q v U'.heap L ∧ ReturnedEndW U o U' L rm.cells rm.slots))
    (hV : ∀ vm', s.WarmedH vm' → VP vm') (hZ : Z.Warmed39 s.vm) (wc : (Cond.code y bytes maxL ret).before a0 Z = true) (wz : (Cond.initialized y.cls).before a0 Z = true) (hf : rm.frames + 1 ≤ R.frames) (hl : W + (maxL + 11) + rm.locals ≤ R.locals) :
    BackS l R p e below s args y len W (fun A a => a = as' ∧ A.U.heap = h ∧ A.cells + rm.cells ≤ R.cells ∧ A.slots + rm.slots ≤ R.slots)
      (fun A _ v B => ∃ L, Q v B.U.heap L ∧ B.locs = A.locs ++ L ∧ B.cells = A.cells + rm.cells ∧ B.slots = A.slots + rm.slots) := by
  refine BackS.of_freeW (bytes := bytes) (maxL := maxL) (ret := ret) (E := fun _ _ o t L k n => k = rm.cells ∧ n = rm.slots ∧ ∃ v, o = .returned v ∧ Q v t.heap L) hM hf hl ?_ ?_ ?_ ?_ ?_
  · intro m meth c A a Y hp
    have hU : Z.Warmed39 A.U.vm := wtrans hZ Y.warmed
    exact ⟨by show (Cond.and _ .tt).before a A.U = true; rw [Cond.before_and, mv hU wc]; rfl, mv hU wc, mv hU wz, hp.2.2.1, hp.2.2.2⟩
  · intro m meth c A a g mk Y hp
    exact ⟨hp.1, wtrans hZ Y.warmed, hp.2.1, hV _ Y.warmed⟩
  · intros; trivial
  · rintro _ _ _ _ ⟨v, L, h1, h2, h3⟩
    exact ⟨L, _, _, h3, rfl, rfl, v, h1, h2⟩
  · rintro m meth c A a g mk v t L k n Y hp _ _ ⟨e1, e2, v', e3, e4⟩
    cases e3; subst e1 e2; exact ⟨L, e4, rfl, rfl, rfl⟩
end Ib
def own_EndV (p : Program) (e : Env) (below : List Frame) (s : State) (Q : Option Value → Heap → List Loc → Vm → Prop) (C S : Nat) (B : State) : Prop :=
  ∃ s₂ o, Steps p.tables e below B s₂ ∧ s₂.status = .running ∧ Ended s₂ below o ∧ ∃ v L, o = .returned v ∧ Q v s₂.heap L s₂.vm ∧ ReturnedEndW s o s₂ L C S
section LeafV
variable {p : Program} {l : Launch} {e : Env} {R : Room} {s : State} {m : MethodId} {args : Array Value} {below : List Frame} {meth : Method} {c : Code} {T : State} {locs : List Loc} {cells slots : Nat}
theorem own_bodyV {A A' : State} {Q : Option Value → Heap → List Loc → Vm → Prop} {C S : Nat} (q : ∀ t, Steps p.tables e below A t → Steps p.tables e below A' t) (h : own_Go p e below A (own_EndV p e below s Q C S)) :
    ∃ s₂ o, Steps p.tables e below A' s₂ ∧ s₂.status = .running ∧ Ended s₂ below o ∧ ∃ v L, o = .returned v ∧ Q v s₂.heap L s₂.vm ∧ ReturnedEndW s o s₂ L C S := by
  obtain ⟨B, h1, s₂, o, h2, h3⟩ := h
  exact ⟨s₂, o, q _ (h1 _ h2), h3⟩
theorem own_leafVV {vm₁ : Vm} (X : Stand p l e R (s.setVm vm₁) m args below meth c T locs cells slots) (hx : p.tables.exec = Jvm.exec) (hlk : meth.locks = false) {n : Nat} (hS : s.Since vm₁ n) (hk : n ≤ T.heap.size) {pc : Nat} {Ls : Array Slot} (hret : meth.sig.returnType = none)
    (hd : decode c.code pc = .ok (.return_, 1)) {Q : Option Value → Heap → List Loc → Vm → Prop} {C S : Nat} (hC : cells ≤ C) (hS' : slots ≤ S) (hq : Q none T.heap locs T.vm) : own_Go p e below (T.setTop (mkF m pc Ls [])) (own_EndV p e below s Q C S) := by
  obtain ⟨fs, hr, hrun, hended, h1, h2, h3, hsame⟩ := X.leaveW hS hk (v := none) (fun _ => rfl) hlk
  exact own_done ⟨_, _, X.returnOut hx hret hd hr, hrun, hended, _, _, rfl, hq, h1, h2, h3, hsame.mono hC hS'⟩
theorem own_ldcS2 {vm0 : Vm} {Z : State} {a0 : Array Value} {h : Heap} (X : Stand p l e R (s.setVm vm0) m args below meth c T locs cells slots) (hx : p.tables.exec = Jvm.exec) (hZ : Z.Warmed39 vm0) {own text : String} {index : Nat} (hown : vm0.findClass own = some m.cls) (w : (Cond.stringLink own index text).before a0 Z = true) (wS : ∀ a ∈ Bundle.stringAtoms, a.before a0 Z = true)
    (eT : T.heap = h) {k0 : Nat} (hS : s.Since vm0 k0) (hk : k0 ≤ h.size) {g : JFrame} (hg : g.method = m) (hd : decode c.code g.pc = .ok (.ldc index, 2)) {n : Nat} (hn : 4 * text.toList.length ≤ n) (hbig : n ≤ 536870912) (hc : cells + 2 ≤ R.cells) (hl : slots + (n + 4) ≤ R.slots) :
    ∃ (a : Addr) (T' : State) (h' : Heap) (k1 : Nat), Stand p l e R (s.setVm T'.vm) m args below meth c T' locs (cells + 2) (slots + (n + 4)) ∧ T'.heap = h' ∧ Ext h h' ∧ s.Since T'.vm k1 ∧ k1 ≤ h'.size ∧ Z.Warmed39 (s.setVm T'.vm).vm ∧ (s.setVm T'.vm).vm.findClass own = some m.cls ∧ (s.setVm vm0).Warmed39 T'.vm ∧
      ∀ target, Steps p.tables e below (T'.setTop { g with pc := g.pc + 2, stack := .ref a :: g.stack }) target → Steps p.tables e below (T.setTop g) target := by
  obtain ⟨a, T', h', k1, X', e', E, hS', hk', hZ', hown', st⟩ := ldcS (s := s.setVm vm0) (vm0 := vm0) X hx hZ hown w wS eT ((State.WarmedH.refl (s.setVm vm0)).since h.size) (Nat.le_refl _) hg hd hn hbig hc hl
  exact ⟨a, T', h', h'.size, X', e', E, hS.trans ⟨hS'.1, hS'.2.mono hk'⟩ (Nat.le_trans hk E.1), Nat.le_refl _, hZ', hown', hS'.1, st⟩
theorem own_litL {Z s : State} {vm vm' : Vm} {own : String} {i : Nat} {a : Addr} (L : Lit (s.setVm vm) own i a) (h : (s.setVm vm).WarmedH vm') : Lit (Z.setVm vm') own i a := Lit.stays (s := s) L h.wide
end LeafV

theorem own_b8 (x : Int32) : x.toInt8.toInt32.toInt8.toInt32 = x.toInt8.toInt32 := by simp
theorem own_pn0 : plainName "java/lang/String" = true := by first | (simp [plainName, overriddenIn]; done) | decide +kernel
theorem own_d2_0 : decode jdk_42_method_149_code 0 = .ok (.aload_n 0, 1) := by decide +kernel
theorem own_d2_1 : decode jdk_42_method_149_code 1 = .ok (.invokespecial 1, 3) := by decide +kernel
theorem own_d2_4 : decode jdk_42_method_149_code 4 = .ok (.iload_n 3, 1) := by decide +kernel
theorem own_d2_5 : decode jdk_42_method_149_code 5 = .ok (.ifCond .ne 22, 3) := by decide +kernel
theorem own_d2_8 : decode jdk_42_method_149_code 8 = .ok (.aload_n 0, 1) := by decide +kernel
theorem own_d2_9 : decode jdk_42_method_149_code 9 = .ok (.ldc 7, 2) := by decide +kernel
theorem own_d2_11 : decode jdk_42_method_149_code 11 = .ok (.getfield 9, 3) := by decide +kernel
theorem own_d2_14 : decode jdk_42_method_149_code 14 = .ok (.putfield 9, 3) := by decide +kernel
theorem own_d2_17 : decode jdk_42_method_149_code 17 = .ok (.aload_n 0, 1) := by decide +kernel
theorem own_d2_18 : decode jdk_42_method_149_code 18 = .ok (.ldc 7, 2) := by decide +kernel
theorem own_d2_20 : decode jdk_42_method_149_code 20 = .ok (.getfield 15, 3) := by decide +kernel
theorem own_d2_23 : decode jdk_42_method_149_code 23 = .ok (.putfield 15, 3) := by decide +kernel
theorem own_d2_26 : decode jdk_42_method_149_code 26 = .ok (.return_, 1) := by decide +kernel
theorem own_efE (m : MethodId) (x0 : Addr) (x1 : Addr) (x2 : Int32) (x3 : Int32) : entryFrame m #[(.ref x0), (.ref x1), (.int x2), (.int x3), .null] 6 = mkF m 0 #[rv x0, rv x1, iv x2, iv x3, .val .null, uu] [] := by first | (simp [entryFrame, mkF, argsToLocals, Value.category]; done) | rfl
def QE (Z : State) (x1 : Addr) (b1 : Addr) (o1 : Int32) (l1 : Int32) (u1 : Value) (h0 : Heap) (n0 : Nat) (v : Option Value) (h : Heap) (L : List Loc) (vm : Vm) : Prop := v = none ∧ Fr n0 L ∧ Keep h0 h [x1] ∧ (IB Z vm [""])
set_option maxRecDepth 65536 in
set_option maxHeartbeats 40000000 in
theorem rmE (l : Launch) (Z : State) (a0 : Array Value) (hw : ∀ d ∈ tables_1, d.before a0 Z = true) (ws : List Jvm.Cond) (x1 : Addr) (b1 : Addr) (o1 : Int32) (l1 : Int32) (u1 : Value) (h0 : Heap) (n0 : Nat) (Z0 : n0 ≤ h0.size) (O0 : Old Z n0 h0) (hch : Jvm.Lit.constHeld Z "java/lang/String" 7) (hcw : Jvm.Lit.compactW.before a0 Z = true) (E1 : Exa Z h0 x1 "java/lang/String") (Fv : Fld Z h0 x1 "java/lang/String" "value" "[B" .null) (Fc : Fld Z h0 x1 "java/lang/String" "coder" "B" u1) (g_x1 : n0 ≤ x1) (hl : l1 = (0 : Int32)) :
    MetFree l (⟨"java/lang/String", "<init>", "([CIILjava/lang/Void;)V"⟩ : MethodName) (head1 (Jvm.Cond.code (⟨"java/lang/String", "<init>", "([CIILjava/lang/Void;)V"⟩ : MethodName) jdk_42_method_149_code 6 none :: ws) ({ frames := 1, cells := 2, slots := 4, locals := 12 } : Room)) (fun a U => a = #[(.ref x1), (.ref b1), (.int o1), (.int l1), .null] ∧ Z.Warmed39 U.vm ∧ U.heap = h0 ∧ (IB Z U.vm [])) (fun _ _ _ _ _ => True) (fun _ U o U' => ∃ v L, o = .returned v ∧ QE Z x1 b1 o1 l1 u1 h0 n0 v U'.heap L U'.vm ∧ ReturnedEndW U o U' L ({ frames := 1, cells := 2, slots := 4, locals := 12 } : Room).cells ({ frames := 1, cells := 2, slots := 4, locals := 12 } : Room).slots) := by
  refine MetFree.of_bodySF (plainFor_of_name own_pn0) hisR ?_
  intro p e s m args below meth c s₁ Bd hml0 hP hK
  obtain ⟨rfl, hZ, hh, hV⟩ := hP
  have hx := Bd.exec
  have hby := Bd.bytes
  have hlk : meth.locks = false := Bd.notSynchronized
  have hml : c.maxLocals = 6 := hml0
  have hown : s.vm.findClass "java/lang/String" = some m.cls := findClass_of_methodNamed Bd.named
  have hnm := (name_of_methodNamed Bd.named Bd.method).1
  have X0 : Stand p l e ({ frames := 1, cells := 2, slots := 4, locals := 12 } : Room) (s.setVm s.vm) m #[(.ref x1), (.ref b1), (.int o1), (.int l1), .null] below meth c s₁ [] 0 0 := Stand.of_body Bd
  have e0 : s₁.heap = h0 := by rw [← hh, Bd.state]; rfl
  have N0 := Fr.nil n0
  have hS0 : s.Since s.vm h0.size := (State.WarmedH.refl s).since _
  have hk0 : h0.size ≤ h0.size := Nat.le_refl _
  have wS : ∀ a ∈ Bundle.stringAtoms, a.before a0 Z = true := by
    intro a ha
    simp only [Bundle.stringAtoms, List.mem_cons, List.not_mem_nil, or_false] at ha
    rcases ha with rfl | rfl | rfl | rfl | rfl | rfl | rfl
    · exact (oW hw 2 rfl)
    · exact (oW hw 1 rfl)
    · exact (oW hw 19 rfl)
    · exact (oW hw 29 rfl)
    · exact (oW hw 27 rfl)
    · exact (oW hw 57 rfl)
    · exact (oW hw 58 rfl)
  refine own_bodyV (A := s₁.setTop (mkF m 0 #[rv x1, rv b1, iv o1, iv l1, .val .null, uu] [])) (Q := QE Z x1 b1 o1 l1 u1 h0 n0) (fun t k => castTop (own_efE m x1 b1 o1 l1) k) ?_
  refine oALN (n := 1) X0 hx (hb hby own_d2_0) rfl rfl rfl ?_
  obtain ⟨T1, X1, e1, st1⟩ := initO X0 hx hZ hown (oW hw 11 rfl) (oW hw 12 rfl) (oW hw 13 rfl) e0 (g := (mkF m 1 #[rv x1, rv b1, iv o1, iv l1, .val .null, uu] [(.ref x1)])) rfl (by rw [hml]; rfl) rfl (hb hby own_d2_1) (by decide) (W := 0) (by show 2 * 0 + _ ≤ _; exact Nat.le_of_eq rfl) (by decide)
  refine ov (B := T1.setTop (mkF m 4 #[rv x1, rv b1, iv o1, iv l1, .val .null, uu] [])) (fun t k => st1 t k) ?_
  refine oILN (n := 5) X1 hx (hb hby own_d2_4) rfl rfl ?_
  have hc5 : l1 = (0 : Int32) := hl
  refine ov (B := T1.setTop (mkF m 8 #[rv x1, rv b1, iv o1, iv l1, .val .null, uu] [])) (fun t k => XS.ifNo X1.here hx rfl (hb hby own_d2_5) rfl ((if0 _ _).trans (teq hc5).2) k) ?_
  refine oALN (n := 9) X1 hx (hb hby own_d2_8) rfl rfl rfl ?_
  obtain ⟨c2, T2, h2, k2, t2, kt2, X2, e2, E2, hS2, hk2, hZ, hown, gE2, gC2, gV2, gA2, la2, lb2, hI2, hlit_c2, st2⟩ := ldcSVL X1 hx hZ hown (oW hw 109 rfl) wS e1 hS0 hk0 (Fr.nil _) (fun b cl q => by show s.heap[b]? = some cl; rw [hh]; exact O0.2.2 b cl q) hV (by simp) hch hcw (vs := ([] : List Int32).map Value.int) (z := (0 : Int32)) (by decide) (by decide) (by decide) (g := (mkF m 9 #[rv x1, rv b1, iv o1, iv l1, .val .null, uu] [(.ref x1)])) rfl (hb hby own_d2_9) (n := 0) (by decide) (by decide) (by decide) (by decide)
  refine ov (B := T2.setTop (mkF m 11 #[rv x1, rv b1, iv o1, iv l1, .val .null, uu] [(.ref c2), (.ref x1)])) (fun t k => st2 t k) ?_
  obtain ⟨T3, X3, e3, st3⟩ := getF X2 hx hZ hown (host := "") (Or.inl (oW hw 28 rfl)) Via.refl e2 gV2 (g := (mkF m 11 #[rv x1, rv b1, iv o1, iv l1, .val .null, uu] [(.ref c2), (.ref x1)])) rfl rfl (hb hby own_d2_11)
  refine ov (B := T3.setTop (mkF m 14 #[rv x1, rv b1, iv o1, iv l1, .val .null, uu] [(.ref t2), (.ref x1)])) (fun t k => st3 t k) ?_
  obtain ⟨T4, h4, X4, e4, W4, st4⟩ := putF X3 hx hZ hown (host := "") (Or.inl (oW hw 28 rfl)) Via.refl e3 (Fv.ext E2) (E1.ext E2) (Or.inr ⟨(oW hw 29 rfl), rfl, hnm⟩) (oW hw 1 rfl) (ty := (.array .byte)) (by decide) rfl rfl (g := (mkF m 14 #[rv x1, rv b1, iv o1, iv l1, .val .null, uu] [(.ref t2), (.ref x1)])) rfl rfl (hb hby own_d2_14)
  have Fw4 := (Fv.ext E2).same W4
  have N4 := Fr.snoc X4 N0 g_x1
  refine ov (B := T4.setTop (mkF m 17 #[rv x1, rv b1, iv o1, iv l1, .val .null, uu] [])) (fun t k => st4 t k) ?_
  refine oALN (n := 18) X4 hx (hb hby own_d2_17) rfl rfl rfl ?_
  refine ov (B := T4.setTop (mkF m 20 #[rv x1, rv b1, iv o1, iv l1, .val .null, uu] [(.ref c2), (.ref x1)])) (fun t k => ldcAgain X4 hx hZ hown (oW hw 109 rfl) hlit_c2 (g := (mkF m 18 #[rv x1, rv b1, iv o1, iv l1, .val .null, uu] [(.ref x1)])) rfl (hb hby own_d2_18) t k) ?_
  obtain ⟨T5, X5, e5, st5⟩ := getF X4 hx hZ hown (host := "") (Or.inl (oW hw 26 rfl)) Via.refl e4 (gC2.other W4 (Or.inl (Fld.ne gV2 (Fv.ext E2) nofun))) (g := (mkF m 20 #[rv x1, rv b1, iv o1, iv l1, .val .null, uu] [(.ref c2), (.ref x1)])) rfl rfl (hb hby own_d2_20)
  refine ov (B := T5.setTop (mkF m 23 #[rv x1, rv b1, iv o1, iv l1, .val .null, uu] [(.int (0 : Int32)), (.ref x1)])) (fun t k => st5 t k) ?_
  obtain ⟨T6, h6, X6, e6, W6, st6⟩ := putFN X5 hx hZ hown (oW hw 26 rfl) Via.refl e5 ((Fc.ext E2).other W4 (Or.inr (slot_ne (Or.inr (oW hw 27 rfl)) (Or.inr (oW hw 29 rfl)) (by decide +kernel) (t := .byte) (t' := (.array .byte)) (by decide +kernel) (by decide +kernel)))) ((E1.ext E2).wr W4) (Or.inr ⟨(oW hw 27 rfl), rfl, hnm⟩) (oW hw 1 rfl) (ty := .byte) (v' := (.int (0 : Int32))) (by decide) (by decide) (by decide) (g := (mkF m 23 #[rv x1, rv b1, iv o1, iv l1, .val .null, uu] [(.int (0 : Int32)), (.ref x1)])) rfl rfl (hb hby own_d2_23)
  have Fw6 := ((Fc.ext E2).other W4 (Or.inr (slot_ne (Or.inr (oW hw 27 rfl)) (Or.inr (oW hw 29 rfl)) (by decide +kernel) (t := .byte) (t' := (.array .byte)) (by decide +kernel) (by decide +kernel)))).same W6
  have N6 := Fr.snoc X6 N4 g_x1
  refine ov (B := T6.setTop (mkF m 26 #[rv x1, rv b1, iv o1, iv l1, .val .null, uu] [])) (fun t k => st6 t k) ?_
  refine own_leafVV X6 hx hlk hS2 (by rw [e6]; exact (Nat.le_trans (Nat.le_trans hk2 (Keep.of_wr W4).1) (Keep.of_wr W6).1)) Bd.returns (hb hby own_d2_26) (by decide) (by decide) ?_
  show QE Z x1 b1 o1 l1 u1 h0 n0 _ T6.heap _ T6.vm
  rw [e6]
  refine ⟨?_, N6, ((((Keep.refl h0 [x1]).ext E2).wr W4 (Or.inl (List.mem_of_getElem? (i := 0) rfl))).wr W6 (Or.inl (List.mem_of_getElem? (i := 0) rfl))), ?_⟩
  · rfl
  · exact own_ibW (s := (s.setVm T2.vm)) hI2 X6.warmed
theorem own_pd0 : parseMethodDescriptor "([CIILjava/lang/Void;)V" = some ⟨[(.array .char), .int, .int, (.object "java/lang/Void")], none⟩ := by decide +kernel
theorem own_d1_0 : decode jdk_42_method_3_code 0 = .ok (.aload_n 0, 1) := by decide +kernel
theorem own_d1_1 : decode jdk_42_method_3_code 1 = .ok (.aload_n 1, 1) := by decide +kernel
theorem own_d1_2 : decode jdk_42_method_3_code 2 = .ok (.iconst 0, 1) := by decide +kernel
theorem own_d1_3 : decode jdk_42_method_3_code 3 = .ok (.aload_n 1, 1) := by decide +kernel
theorem own_d1_4 : decode jdk_42_method_3_code 4 = .ok (.arraylength, 1) := by decide +kernel
theorem own_d1_5 : decode jdk_42_method_3_code 5 = .ok (.aconst_null, 1) := by decide +kernel
theorem own_d1_6 : decode jdk_42_method_3_code 6 = .ok (.invokespecial 27, 3) := by decide +kernel
theorem own_d1_9 : decode jdk_42_method_3_code 9 = .ok (.return_, 1) := by decide +kernel
theorem own_efF (m : MethodId) (x0 : Addr) (x1 : Addr) : entryFrame m #[(.ref x0), (.ref x1)] 2 = mkF m 0 #[rv x0, rv x1] [] := by first | (simp [entryFrame, mkF, argsToLocals, Value.category]; done) | rfl
def QF (Z : State) (x2 : Addr) (b2 : Addr) (u1 : Value) (k2 : ClassId) (h0 : Heap) (n0 : Nat) (v : Option Value) (h : Heap) (L : List Loc) (vm : Vm) : Prop := v = none ∧ Fr n0 L ∧ Keep h0 h [x2] ∧ (IB Z vm [""])
set_option maxRecDepth 65536 in
set_option maxHeartbeats 40000000 in
theorem rmF (l : Launch) (Z : State) (a0 : Array Value) (hw : ∀ d ∈ tables_1, d.before a0 Z = true) (ws : List Jvm.Cond) (x2 : Addr) (b2 : Addr) (u1 : Value) (k2 : ClassId) (h0 : Heap) (n0 : Nat) (Z0 : n0 ≤ h0.size) (O0 : Old Z n0 h0) (hch : Jvm.Lit.constHeld Z "java/lang/String" 7) (hcw : Jvm.Lit.compactW.before a0 Z = true) (E2 : Exa Z h0 x2 "java/lang/String") (Fv : Fld Z h0 x2 "java/lang/String" "value" "[B" .null) (Fc : Fld Z h0 x2 "java/lang/String" "coder" "B" u1) (g_x2 : n0 ≤ x2) (V2 : Arv Z h0 b2 k2 .char (0 : Int32) [] (.int (0 : Int32))) :
    MetFree l (⟨"java/lang/String", "<init>", "([C)V"⟩ : MethodName) (head1 (Jvm.Cond.code (⟨"java/lang/String", "<init>", "([C)V"⟩ : MethodName) jdk_42_method_3_code 2 none :: ws) ({ frames := 2, cells := 2, slots := 4, locals := 31 } : Room)) (fun a U => a = #[(.ref x2), (.ref b2)] ∧ Z.Warmed39 U.vm ∧ U.heap = h0 ∧ (IB Z U.vm [])) (fun _ _ _ _ _ => True) (fun _ U o U' => ∃ v L, o = .returned v ∧ QF Z x2 b2 u1 k2 h0 n0 v U'.heap L U'.vm ∧ ReturnedEndW U o U' L ({ frames := 2, cells := 2, slots := 4, locals := 31 } : Room).cells ({ frames := 2, cells := 2, slots := 4, locals := 31 } : Room).slots) := by
  refine MetFree.of_bodySF (plainFor_of_name own_pn0) hisR ?_
  intro p e s m args below meth c s₁ Bd hml0 hP hK
  obtain ⟨rfl, hZ, hh, hV⟩ := hP
  have hx := Bd.exec
  have hby := Bd.bytes
  have hlk : meth.locks = false := Bd.notSynchronized
  have hml : c.maxLocals = 2 := hml0
  have hown : s.vm.findClass "java/lang/String" = some m.cls := findClass_of_methodNamed Bd.named
  have hnm := (name_of_methodNamed Bd.named Bd.method).1
  have X0 : Stand p l e ({ frames := 2, cells := 2, slots := 4, locals := 31 } : Room) (s.setVm s.vm) m #[(.ref x2), (.ref b2)] below meth c s₁ [] 0 0 := Stand.of_body Bd
  have e0 : s₁.heap = h0 := by rw [← hh, Bd.state]; rfl
  have N0 := Fr.nil n0
  have hS0 : s.Since s.vm h0.size := (State.WarmedH.refl s).since _
  have hk0 : h0.size ≤ h0.size := Nat.le_refl _
  have wS : ∀ a ∈ Bundle.stringAtoms, a.before a0 Z = true := by
    intro a ha
    simp only [Bundle.stringAtoms, List.mem_cons, List.not_mem_nil, or_false] at ha
    rcases ha with rfl | rfl | rfl | rfl | rfl | rfl | rfl
    · exact (oW hw 2 rfl)
    · exact (oW hw 1 rfl)
    · exact (oW hw 19 rfl)
    · exact (oW hw 29 rfl)
    · exact (oW hw 27 rfl)
    · exact (oW hw 57 rfl)
    · exact (oW hw 58 rfl)
  refine own_bodyV (A := s₁.setTop (mkF m 0 #[rv x2, rv b2] [])) (Q := QF Z x2 b2 u1 k2 h0 n0) (fun t k => castTop (own_efF m x2 b2) k) ?_
  refine oALN (n := 1) X0 hx (hb hby own_d1_0) rfl rfl rfl ?_
  refine oALN (n := 2) X0 hx (hb hby own_d1_1) rfl rfl rfl ?_
  refine oIC (n := 3) X0 hx (0 : Int32) (hb hby own_d1_2) (by decide) rfl ?_
  refine oALN (n := 4) X0 hx (hb hby own_d1_3) rfl rfl rfl ?_
  obtain ⟨cl1, Ar1, q1, S1, M1, H1, G1⟩ := id V2
  refine ov (B := s₁.setTop (mkF m 5 #[rv x2, rv b2] [(.int (0 : Int32)), (.int (0 : Int32)), (.ref b2), (.ref x2)])) (fun t k => X0.arraylength hx (by rw [e0]; exact Ar1.1) (State.isArrayOf_alike hZ.alike Ar1.2.1) (g := (mkF m 4 #[rv x2, rv b2] [(.ref b2), (.int (0 : Int32)), (.ref b2), (.ref x2)])) rfl rfl (hb hby own_d1_4) _ (by rw [len_of S1 M1]; exact k)) ?_
  refine oNU (n := 6) X0 hx (hb hby own_d1_5) rfl ?_
  obtain ⟨_, _, ⟨T2, L2, k2, n2⟩, -, X2, hT2, gT2, ⟨Lc2, hQ2, l2, y2, z2⟩, st2⟩ := X0.specialBackS hx (y := (⟨"java/lang/String", "<init>", "([CIILjava/lang/Void;)V"⟩ : MethodName)) rfl hown (mvT hZ (oW hw 7 rfl)) (mvT hZ (oW hw 8 rfl)) (mvT hZ (oW hw 10 rfl)) (by decide) (own_backV (VP := fun vm'' => IB Z vm'' []) (W := 0) (rmE l Z a0 hw [] x2 b2 (0 : Int32) (0 : Int32) u1 h0 n0 Z0 O0 (by assumption) (by assumption) E2 Fv Fc g_x2 rfl) (fun vm'' hW'' => own_ibW (s := (s.setVm s.vm)) hV hW'') hZ (oW hw 10 rfl) (oW hw 2 rfl) (by decide) (by decide)) (g := (mkF m 6 #[rv x2, rv b2] [.null, (.int (0 : Int32)), (.int (0 : Int32)), (.ref b2), (.ref x2)])) rfl (by rw [hml]; rfl) (Steps.refl _) (a := x2) (argsL := [(.ref b2), (.int (0 : Int32)), (.int (0 : Int32)), .null]) (rest := []) (lenOf own_pd0 rfl) rfl (by show 2 * 0 + _ ≤ _; exact Nat.le_of_eq rfl) (hb hby own_d1_6) (fun _ _ => ⟨rfl, e0, (by decide : 0 + 2 ≤ _), (by decide : 0 + 4 ≤ _)⟩)
  dsimp only [Pt.U, Pt.locs, Pt.cells, Pt.slots] at X2 l2 y2 z2 st2 hQ2 hT2 gT2
  subst l2 y2 z2
  obtain ⟨X2, hS2, hZ, hown⟩ := rebS hS0 (by rw [e0]; exact hk0) X2 hT2 gT2 hZ hown
  obtain ⟨rfl, Nq2, Kq2, vI_2⟩ := hQ2
  have N2 := Fr.app N0 Nq2
  refine ov (B := T2.setTop (mkF m 9 #[rv x2, rv b2] [])) (fun t k => st2.trans k) ?_
  refine own_leafVV X2 hx hlk hS2 (Nat.le_refl _) Bd.returns (hb hby own_d1_9) (by decide) (by decide) ?_
  show QF Z x2 b2 u1 k2 h0 n0 _ T2.heap _ T2.vm
  refine ⟨?_, N2, ((Keep.refl h0 [x2]).trans Kq2 (allS (Or.inl (List.mem_of_getElem? (i := 0) rfl)) all0)), ?_⟩
  · rfl
  · exact own_ibW (s := (s.setVm T2.vm)) vI_2 X2.warmed
theorem own_pn1 : plainName "java/lang/StringLatin1" = true := by first | (simp [plainName, overriddenIn]; done) | decide +kernel
theorem own_d8_0 : decode jdk_43_method_3_code 0 = .ok (.iload_n 0, 1) := by decide +kernel
theorem own_d8_1 : decode jdk_43_method_3_code 1 = .ok (.sipush 255, 3) := by decide +kernel
theorem own_d8_4 : decode jdk_43_method_3_code 4 = .ok (.if_icmp .gt 7, 3) := by decide +kernel
theorem own_d8_7 : decode jdk_43_method_3_code 7 = .ok (.iconst 1, 1) := by decide +kernel
theorem own_d8_8 : decode jdk_43_method_3_code 8 = .ok (.goto 4, 3) := by decide +kernel
theorem own_d8_12 : decode jdk_43_method_3_code 12 = .ok (.ireturn, 1) := by decide +kernel
theorem own_efG (m : MethodId) (x0 : Int32) : entryFrame m #[(.int x0)] 1 = mkF m 0 #[iv x0] [] := by first | (simp [entryFrame, mkF, argsToLocals, Value.category]; done) | rfl
def QG (Z : State) (c3 : Int32) (h0 : Heap) (n0 : Nat) (v : Option Value) (h : Heap) (L : List Loc) : Prop := v = some (.int (1 : Int32)) ∧ Fr n0 L ∧ h = h0
set_option maxRecDepth 65536 in
set_option maxHeartbeats 40000000 in
theorem rmG (l : Launch) (Z : State) (a0 : Array Value) (hw : ∀ d ∈ tables_1, d.before a0 Z = true) (ws : List Jvm.Cond) (c3 : Int32) (h0 : Heap) (n0 : Nat) (Z0 : n0 ≤ h0.size) (hc3 : own_C c3) :
    MetFree l (⟨"java/lang/StringLatin1", "canEncode", "(C)Z"⟩ : MethodName) (head1 (Jvm.Cond.code (⟨"java/lang/StringLatin1", "canEncode", "(C)Z"⟩ : MethodName) jdk_43_method_3_code 1 (some .boolean) :: ws) ({ frames := 0, cells := 0, slots := 0, locals := 0 } : Room)) (fun a U => a = #[(.int c3)] ∧ Z.Warmed39 U.vm ∧ U.heap = h0) (fun _ _ _ _ _ => True) (fun _ U o U' => ∃ v L, o = .returned v ∧ QG Z c3 h0 n0 v U'.heap L ∧ FrameEnd U o U' L ({ frames := 0, cells := 0, slots := 0, locals := 0 } : Room).cells ({ frames := 0, cells := 0, slots := 0, locals := 0 } : Room).slots) := by
  refine MetFree.of_bodySF (plainFor_of_name own_pn1) hisR ?_
  intro p e s m args below meth c s₁ Bd hml0 hP hK
  obtain ⟨rfl, hZ, hh⟩ := hP
  have hx := Bd.exec
  have hby := Bd.bytes
  have hlk : meth.locks = false := Bd.notSynchronized
  have hml : c.maxLocals = 1 := hml0
  have hown : s.vm.findClass "java/lang/StringLatin1" = some m.cls := findClass_of_methodNamed Bd.named
  have hnm := (name_of_methodNamed Bd.named Bd.method).1
  have X0 : Stand p l e ({ frames := 0, cells := 0, slots := 0, locals := 0 } : Room) s m #[(.int c3)] below meth c s₁ [] 0 0 := Stand.of_body Bd
  have e0 : s₁.heap = h0 := by rw [← hh, Bd.state]; rfl
  have N0 := Fr.nil n0
  refine own_body (A := s₁.setTop (mkF m 0 #[iv c3] [])) (Q := QG Z c3 h0 n0) (fun t k => castTop (own_efG m c3) k) ?_
  refine oILN (n := 1) X0 hx (hb hby own_d8_0) rfl rfl ?_
  refine oSP (n := 4) X0 hx (255 : Int32) (hb hby own_d8_1) (by decide) rfl ?_
  have hc4 : ¬ ((255 : Int32) < c3) := hc3.2
  refine ov (B := s₁.setTop (mkF m 7 #[iv c3] [])) (fun t k => XS.icmpNo X0.here hx rfl (hb hby own_d8_4) rfl (flt hc4).2.2.1 k) ?_
  refine oIC (n := 8) X0 hx (1 : Int32) (hb hby own_d8_7) (by decide) rfl ?_
  refine oGO (n := 12) X0 hx (hb hby own_d8_8) (by decide) (by decide) ?_
  refine own_leaf X0 hx hlk (t := .boolean) Bd.returns (by decide) (Or.inl ⟨rfl, by simp, _, rfl⟩) (hb hby own_d8_12) (by decide) (by decide) ?_
  show QG Z c3 h0 n0 _ s₁.heap _
  rw [e0]
  refine ⟨?_, N0, rfl⟩
  rfl
theorem own_d9_0 : decode jdk_43_method_46_code 0 = .ok (.iconst 1, 1) := by decide +kernel
theorem own_d9_1 : decode jdk_43_method_46_code 1 = .ok (.newarray .byte, 2) := by decide +kernel
theorem own_d9_3 : decode jdk_43_method_46_code 3 = .ok (.dup, 1) := by decide +kernel
theorem own_d9_4 : decode jdk_43_method_46_code 4 = .ok (.iconst 0, 1) := by decide +kernel
theorem own_d9_5 : decode jdk_43_method_46_code 5 = .ok (.iload_n 0, 1) := by decide +kernel
theorem own_d9_6 : decode jdk_43_method_46_code 6 = .ok (.i2b, 1) := by decide +kernel
theorem own_d9_7 : decode jdk_43_method_46_code 7 = .ok (.bastore, 1) := by decide +kernel
theorem own_d9_8 : decode jdk_43_method_46_code 8 = .ok (.areturn, 1) := by decide +kernel
theorem own_efH (m : MethodId) (x0 : Int32) : entryFrame m #[(.int x0)] 1 = mkF m 0 #[iv x0] [] := by first | (simp [entryFrame, mkF, argsToLocals, Value.category]; done) | rfl
def QH (Z : State) (c4 : Int32) (h0 : Heap) (n0 : Nat) (v : Option Value) (h : Heap) (L : List Loc) : Prop := ∃ (r : Addr) (kr : ClassId), v = some (.ref r) ∧ Fr n0 L ∧ Keep h0 h [] ∧ (h0.size ≤ r) ∧ (Arv Z h r kr .byte (1 : Int32) [(.int c4.toInt8.toInt32)] (.int (0 : Int32)))
set_option maxRecDepth 65536 in
set_option maxHeartbeats 40000000 in
theorem rmH (l : Launch) (Z : State) (a0 : Array Value) (hw : ∀ d ∈ tables_1, d.before a0 Z = true) (ws : List Jvm.Cond) (c4 : Int32) (h0 : Heap) (n0 : Nat) (Z0 : n0 ≤ h0.size) :
    MetFree l (⟨"java/lang/StringLatin1", "toBytes", "(C)[B"⟩ : MethodName) (head1 (Jvm.Cond.code (⟨"java/lang/StringLatin1", "toBytes", "(C)[B"⟩ : MethodName) jdk_43_method_46_code 1 (some (.array .byte)) :: ws) ({ frames := 0, cells := 1, slots := 1, locals := 0 } : Room)) (fun a U => a = #[(.int c4)] ∧ Z.Warmed39 U.vm ∧ U.heap = h0) (fun _ _ _ _ _ => True) (fun _ U o U' => ∃ v L, o = .returned v ∧ QH Z c4 h0 n0 v U'.heap L ∧ FrameEnd U o U' L ({ frames := 0, cells := 1, slots := 1, locals := 0 } : Room).cells ({ frames := 0, cells := 1, slots := 1, locals := 0 } : Room).slots) := by
  refine MetFree.of_bodySF (plainFor_of_name own_pn1) hisR ?_
  intro p e s m args below meth c s₁ Bd hml0 hP hK
  obtain ⟨rfl, hZ, hh⟩ := hP
  have hx := Bd.exec
  have hby := Bd.bytes
  have hlk : meth.locks = false := Bd.notSynchronized
  have hml : c.maxLocals = 1 := hml0
  have hown : s.vm.findClass "java/lang/StringLatin1" = some m.cls := findClass_of_methodNamed Bd.named
  have hnm := (name_of_methodNamed Bd.named Bd.method).1
  have X0 : Stand p l e ({ frames := 0, cells := 1, slots := 1, locals := 0 } : Room) s m #[(.int c4)] below meth c s₁ [] 0 0 := Stand.of_body Bd
  have e0 : s₁.heap = h0 := by rw [← hh, Bd.state]; rfl
  have N0 := Fr.nil n0
  refine own_body (A := s₁.setTop (mkF m 0 #[iv c4] [])) (Q := QH Z c4 h0 n0) (fun t k => castTop (own_efH m c4) k) ?_
  refine oIC (n := 1) X0 hx (1 : Int32) (hb hby own_d9_0) (by decide) rfl ?_
  obtain ⟨T1, h1, kc1, X1, e1, E1, A1, st1⟩ := newP X0 hx hZ (oW hw 19 rfl) e0 (g := (mkF m 1 #[iv c4] [(.int (1 : Int32))])) rfl (hb hby own_d9_1) rfl (by decide) (cap := 1) (by decide) (by decide) (by decide) (by decide)
  obtain ⟨b1, g1⟩ : ∃ z, z = h0.size := ⟨_, rfl⟩
  rw [← g1] at A1 st1
  have g_b1 : n0 ≤ b1 := Nat.le_trans Z0 (Nat.le_of_eq g1.symm)
  have V1 : Arv Z h1 b1 kc1 .byte (1 : Int32) [(.int (0 : Int32))] (.int (0 : Int32)) := (Arv.new A1 (by decide)).pad (pad_rep [] (.int (0 : Int32)) 1)
  refine ov (B := T1.setTop (mkF m 3 #[iv c4] [(.ref b1)])) (fun t k => st1 t k) ?_
  refine oDU (n := 4) X1 hx (hb hby own_d9_3) rfl rfl ?_
  refine oIC (n := 5) X1 hx (0 : Int32) (hb hby own_d9_4) (by decide) rfl ?_
  refine oILN (n := 6) X1 hx (hb hby own_d9_5) rfl rfl ?_
  refine ov (B := T1.setTop (mkF m 7 #[iv c4] [(.int (c4.toInt8.toInt32)), (.int (0 : Int32)), (.ref b1), (.ref b1)])) (fun t k => XS.i2b X1.here hx rfl (hb hby own_d9_6) rfl k) ?_
  obtain ⟨cl2, Ar2, q2, S2, M2, H2, G2⟩ := id V1
  obtain ⟨T3, h3, X3, e3, W3, st3⟩ := stB X1 hx hZ e1 Ar2 (j := (0 : Int32)) (inb_of S2 ⟨by decide, by decide⟩) (g := (mkF m 7 #[iv c4] [(.int (c4.toInt8.toInt32)), (.int (0 : Int32)), (.ref b1), (.ref b1)])) rfl rfl (hb hby own_d9_7)
  have V3 : Arv Z h3 b1 kc1 .byte (1 : Int32) [(.int (c4.toInt8.toInt32).toInt8.toInt32)] (.int (0 : Int32)) := Arv.set Ar2 q2 S2 M2 H2 G2 (fits_nar_byte _) W3 0 rfl (Nat.le_of_ble_eq_true rfl)
  have N3 := Fr.snoc X3 N0 g_b1
  refine ov (B := T3.setTop (mkF m 8 #[iv c4] [(.ref b1)])) (fun t k => st3 t k) ?_
  refine own_leaf X3 hx hlk (t := (.array .byte)) Bd.returns rfl (Or.inr (Or.inr (Or.inr (Or.inr ⟨rfl, rfl, rfl⟩)))) (hb hby own_d9_8) (by decide) (by decide) ?_
  show QH Z c4 h0 n0 _ T3.heap _
  rw [e3]
  refine ⟨b1, kc1, ?_, N3, (((Keep.refl h0 []).ext E1).wr W3 (Or.inr (Nat.le_of_eq g1.symm))), ?_, (by have q := V3; rw [own_b8] at q; exact q)⟩
  · rfl
  · exact (Nat.le_of_eq g1.symm)
theorem own_d10_0 : decode jdk_42_method_151_code 0 = .ok (.aload_n 0, 1) := by decide +kernel
theorem own_d10_1 : decode jdk_42_method_151_code 1 = .ok (.invokespecial 1, 3) := by decide +kernel
theorem own_d10_4 : decode jdk_42_method_151_code 4 = .ok (.aload_n 0, 1) := by decide +kernel
theorem own_d10_5 : decode jdk_42_method_151_code 5 = .ok (.aload_n 1, 1) := by decide +kernel
theorem own_d10_6 : decode jdk_42_method_151_code 6 = .ok (.putfield 9, 3) := by decide +kernel
theorem own_d10_9 : decode jdk_42_method_151_code 9 = .ok (.aload_n 0, 1) := by decide +kernel
theorem own_d10_10 : decode jdk_42_method_151_code 10 = .ok (.iload_n 2, 1) := by decide +kernel
theorem own_d10_11 : decode jdk_42_method_151_code 11 = .ok (.putfield 15, 3) := by decide +kernel
theorem own_d10_14 : decode jdk_42_method_151_code 14 = .ok (.return_, 1) := by decide +kernel
theorem own_efI (m : MethodId) (x0 : Addr) (x1 : Addr) (x2 : Int32) : entryFrame m #[(.ref x0), (.ref x1), (.int x2)] 3 = mkF m 0 #[rv x0, rv x1, iv x2] [] := by first | (simp [entryFrame, mkF, argsToLocals, Value.category]; done) | rfl
def QI (Z : State) (x5 : Addr) (b5 : Addr) (k5 : Int32) (u0 : Value) (u1 : Value) (h0 : Heap) (n0 : Nat) (v : Option Value) (h : Heap) (L : List Loc) : Prop := v = none ∧ Fr n0 L ∧ Keep h0 h [x5] ∧ (Fld Z h x5 "java/lang/String" "coder" "B" (.int (0 : Int32))) ∧ (Fld Z h x5 "java/lang/String" "value" "[B" (.ref b5))
set_option maxRecDepth 65536 in
set_option maxHeartbeats 40000000 in
theorem rmI (l : Launch) (Z : State) (a0 : Array Value) (hw : ∀ d ∈ tables_1, d.before a0 Z = true) (ws : List Jvm.Cond) (x5 : Addr) (b5 : Addr) (k5 : Int32) (u0 : Value) (u1 : Value) (h0 : Heap) (n0 : Nat) (Z0 : n0 ≤ h0.size) (E5 : Exa Z h0 x5 "java/lang/String") (F50 : Fld Z h0 x5 "java/lang/String" "value" "[B" u0) (F51 : Fld Z h0 x5 "java/lang/String" "coder" "B" u1) (g_x5 : n0 ≤ x5) (hk5 : k5 = (0 : Int32)) :
    MetFree l (⟨"java/lang/String", "<init>", "([BB)V"⟩ : MethodName) (head1 (Jvm.Cond.code (⟨"java/lang/String", "<init>", "([BB)V"⟩ : MethodName) jdk_42_method_151_code 3 none :: ws) ({ frames := 1, cells := 0, slots := 0, locals := 12 } : Room)) (fun a U => a = #[(.ref x5), (.ref b5), (.int k5)] ∧ Z.Warmed39 U.vm ∧ U.heap = h0) (fun _ _ _ _ _ => True) (fun _ U o U' => ∃ v L, o = .returned v ∧ QI Z x5 b5 k5 u0 u1 h0 n0 v U'.heap L ∧ FrameEnd U o U' L ({ frames := 1, cells := 0, slots := 0, locals := 12 } : Room).cells ({ frames := 1, cells := 0, slots := 0, locals := 12 } : Room).slots) := by
  refine MetFree.of_bodySF (plainFor_of_name own_pn0) hisR ?_
  intro p e s m args below meth c s₁ Bd hml0 hP hK
  obtain ⟨rfl, hZ, hh⟩ := hP
  have hx := Bd.exec
  have hby := Bd.bytes
  have hlk : meth.locks = false := Bd.notSynchronized
  have hml : c.maxLocals = 3 := hml0
  have hown : s.vm.findClass "java/lang/String" = some m.cls := findClass_of_methodNamed Bd.named
  have hnm := (name_of_methodNamed Bd.named Bd.method).1
  have X0 : Stand p l e ({ frames := 1, cells := 0, slots := 0, locals := 12 } : Room) s m #[(.ref x5), (.ref b5), (.int k5)] below meth c s₁ [] 0 0 := Stand.of_body Bd
  have e0 : s₁.heap = h0 := by rw [← hh, Bd.state]; rfl
  have N0 := Fr.nil n0
  refine own_body (A := s₁.setTop (mkF m 0 #[rv x5, rv b5, iv k5] [])) (Q := QI Z x5 b5 k5 u0 u1 h0 n0) (fun t k => castTop (own_efI m x5 b5 k5) k) ?_
  refine oALN (n := 1) X0 hx (hb hby own_d10_0) rfl rfl rfl ?_
  obtain ⟨T1, X1, e1, st1⟩ := initO X0 hx hZ hown (oW hw 11 rfl) (oW hw 12 rfl) (oW hw 13 rfl) e0 (g := (mkF m 1 #[rv x5, rv b5, iv k5] [(.ref x5)])) rfl (by rw [hml]; rfl) rfl (hb hby own_d10_1) (by decide) (W := 0) (by show 2 * 0 + _ ≤ _; exact Nat.le_of_eq rfl) (by decide)
  refine ov (B := T1.setTop (mkF m 4 #[rv x5, rv b5, iv k5] [])) (fun t k => st1 t k) ?_
  refine oALN (n := 5) X1 hx (hb hby own_d10_4) rfl rfl rfl ?_
  refine oALN (n := 6) X1 hx (hb hby own_d10_5) rfl rfl rfl ?_
  obtain ⟨T2, h2, X2, e2, W2, st2⟩ := putF X1 hx hZ hown (host := "") (Or.inl (oW hw 28 rfl)) Via.refl e1 F50 E5 (Or.inr ⟨(oW hw 29 rfl), rfl, hnm⟩) (oW hw 1 rfl) (ty := (.array .byte)) (by decide) rfl rfl (g := (mkF m 6 #[rv x5, rv b5, iv k5] [(.ref b5), (.ref x5)])) rfl rfl (hb hby own_d10_6)
  have Fw2 := F50.same W2
  have N2 := Fr.snoc X2 N0 g_x5
  refine ov (B := T2.setTop (mkF m 9 #[rv x5, rv b5, iv k5] [])) (fun t k => st2 t k) ?_
  refine oALN (n := 10) X2 hx (hb hby own_d10_9) rfl rfl rfl ?_
  refine oILN (n := 11) X2 hx (hb hby own_d10_10) rfl rfl ?_
  obtain ⟨T3, h3, X3, e3, W3, st3⟩ := putFN X2 hx hZ hown (oW hw 26 rfl) Via.refl e2 (F51.other W2 (Or.inr (slot_ne (Or.inr (oW hw 27 rfl)) (Or.inr (oW hw 29 rfl)) (by decide +kernel) (t := .byte) (t' := (.array .byte)) (by decide +kernel) (by decide +kernel)))) (E5.wr W2) (Or.inr ⟨(oW hw 27 rfl), rfl, hnm⟩) (oW hw 1 rfl) (ty := .byte) (v' := (.int (0 : Int32))) (by decide) (by rw [hk5]; rfl) (by decide) (g := (mkF m 11 #[rv x5, rv b5, iv k5] [(.int k5), (.ref x5)])) rfl rfl (hb hby own_d10_11)
  have Fw3 := (F51.other W2 (Or.inr (slot_ne (Or.inr (oW hw 27 rfl)) (Or.inr (oW hw 29 rfl)) (by decide +kernel) (t := .byte) (t' := (.array .byte)) (by decide +kernel) (by decide +kernel)))).same W3
  have N3 := Fr.snoc X3 N2 g_x5
  refine ov (B := T3.setTop (mkF m 14 #[rv x5, rv b5, iv k5] [])) (fun t k => st3 t k) ?_
  refine own_leafV X3 hx hlk Bd.returns (hb hby own_d10_14) (by decide) (by decide) ?_
  show QI Z x5 b5 k5 u0 u1 h0 n0 _ T3.heap _
  rw [e3]
  refine ⟨?_, N3, (((Keep.refl h0 [x5]).wr W2 (Or.inl (List.mem_of_getElem? (i := 0) rfl))).wr W3 (Or.inl (List.mem_of_getElem? (i := 0) rfl))), Fw3, (Fw2.other W3 (Or.inr (slot_ne (Or.inr (oW hw 29 rfl)) (Or.inr (oW hw 27 rfl)) (by decide +kernel) (t := (.array .byte)) (t' := .byte) (by decide +kernel) (by decide +kernel))))⟩
  rfl
theorem own_pd1 : parseMethodDescriptor "(C)Z" = some ⟨[.char], some .boolean⟩ := by decide +kernel
theorem own_pd2 : parseMethodDescriptor "(C)[B" = some ⟨[.char], some (.array .byte)⟩ := by decide +kernel
theorem own_pd3 : parseMethodDescriptor "([BB)V" = some ⟨[(.array .byte), .byte], none⟩ := by decide +kernel
theorem own_d7_0 : decode jdk_42_method_139_code 0 = .ok (.getstatic 38, 3) := by decide +kernel
theorem own_d7_3 : decode jdk_42_method_139_code 3 = .ok (.ifCond .eq 23, 3) := by decide +kernel
theorem own_d7_6 : decode jdk_42_method_139_code 6 = .ok (.iload_n 0, 1) := by decide +kernel
theorem own_d7_7 : decode jdk_42_method_139_code 7 = .ok (.invokestatic 1015, 3) := by decide +kernel
theorem own_d7_10 : decode jdk_42_method_139_code 10 = .ok (.ifCond .eq 16, 3) := by decide +kernel
theorem own_d7_13 : decode jdk_42_method_139_code 13 = .ok (.new 10, 3) := by decide +kernel
theorem own_d7_16 : decode jdk_42_method_139_code 16 = .ok (.dup, 1) := by decide +kernel
theorem own_d7_17 : decode jdk_42_method_139_code 17 = .ok (.iload_n 0, 1) := by decide +kernel
theorem own_d7_18 : decode jdk_42_method_139_code 18 = .ok (.invokestatic 1018, 3) := by decide +kernel
theorem own_d7_21 : decode jdk_42_method_139_code 21 = .ok (.iconst 0, 1) := by decide +kernel
theorem own_d7_22 : decode jdk_42_method_139_code 22 = .ok (.invokespecial 209, 3) := by decide +kernel
theorem own_d7_25 : decode jdk_42_method_139_code 25 = .ok (.areturn, 1) := by decide +kernel
theorem own_efJ (m : MethodId) (x0 : Int32) : entryFrame m #[(.int x0)] 1 = mkF m 0 #[iv x0] [] := by first | (simp [entryFrame, mkF, argsToLocals, Value.category]; done) | rfl
def QJ (Z : State) (c6 : Int32) (zc : Int32) (h0 : Heap) (n0 : Nat) (v : Option Value) (h : Heap) (L : List Loc) : Prop := ∃ (r : Addr) (tr : Addr) (kr : ClassId), v = some (.ref r) ∧ Fr n0 L ∧ Keep h0 h [] ∧ (h0.size ≤ r) ∧ (h0.size ≤ tr) ∧ (Exa Z h r "java/lang/String") ∧ (Fld Z h r "java/lang/String" "coder" "B" (.int (0 : Int32))) ∧ (Fld Z h r "java/lang/String" "value" "[B" (.ref tr)) ∧ (Arv Z h tr kr .byte (Int32.ofNat [c6].length) (([c6].map StrChars.lo8).map Value.int) (.int 0))
set_option maxRecDepth 65536 in
set_option maxHeartbeats 40000000 in
theorem rmJ (l : Launch) (Z : State) (a0 : Array Value) (hw : ∀ d ∈ tables_1, d.before a0 Z = true) (ws : List Jvm.Cond) (c6 : Int32) (zc : Int32) (h0 : Heap) (n0 : Nat) (Z0 : n0 ≤ h0.size) (O0 : Old Z n0 h0) (Scz : Sta Z Z.heap "java/lang/String" "COMPACT_STRINGS" "Z" (.int zc)) (hcz : ¬ zc = 0) (hc6 : own_C c6) :
    MetFree l (⟨"java/lang/String", "valueOf", "(C)Ljava/lang/String;"⟩ : MethodName) (head1 (Jvm.Cond.code (⟨"java/lang/String", "valueOf", "(C)Ljava/lang/String;"⟩ : MethodName) jdk_42_method_139_code 1 (some (.object "java/lang/String")) :: ws) ({ frames := 2, cells := 2, slots := 5, locals := 28 } : Room)) (fun a U => a = #[(.int c6)] ∧ Z.Warmed39 U.vm ∧ U.heap = h0) (fun _ _ _ _ _ => True) (fun _ U o U' => ∃ v L, o = .returned v ∧ QJ Z c6 zc h0 n0 v U'.heap L ∧ FrameEnd U o U' L ({ frames := 2, cells := 2, slots := 5, locals := 28 } : Room).cells ({ frames := 2, cells := 2, slots := 5, locals := 28 } : Room).slots) := by
  refine MetFree.of_bodySF (plainFor_of_name own_pn0) hisR ?_
  intro p e s m args below meth c s₁ Bd hml0 hP hK
  obtain ⟨rfl, hZ, hh⟩ := hP
  have hx := Bd.exec
  have hby := Bd.bytes
  have hlk : meth.locks = false := Bd.notSynchronized
  have hml : c.maxLocals = 1 := hml0
  have hown : s.vm.findClass "java/lang/String" = some m.cls := findClass_of_methodNamed Bd.named
  have hnm := (name_of_methodNamed Bd.named Bd.method).1
  have X0 : Stand p l e ({ frames := 2, cells := 2, slots := 5, locals := 28 } : Room) s m #[(.int c6)] below meth c s₁ [] 0 0 := Stand.of_body Bd
  have e0 : s₁.heap = h0 := by rw [← hh, Bd.state]; rfl
  have N0 := Fr.nil n0
  refine own_body (A := s₁.setTop (mkF m 0 #[iv c6] [])) (Q := QJ Z c6 zc h0 n0) (fun t k => castTop (own_efJ m c6) k) ?_
  obtain ⟨T1, X1, e1, st1⟩ := getS2 X0 hx hZ hown (host := "") (Or.inl (oW hw 14 rfl)) Via.refl e0 (Scz.ext O0.2) (g := (mkF m 0 #[iv c6] [])) rfl (hb hby own_d7_0)
  refine ov (B := T1.setTop (mkF m 3 #[iv c6] [(.int zc)])) (fun t k => st1 t k) ?_
  have hc3 : ¬ (zc = (0 : Int32)) := hcz
  refine ov (B := T1.setTop (mkF m 6 #[iv c6] [])) (fun t k => XS.ifNo X1.here hx rfl (hb hby own_d7_3) rfl ((if0 _ _).trans (feq hc3).1) k) ?_
  refine oILN (n := 7) X1 hx (hb hby own_d7_6) rfl rfl ?_
  obtain ⟨_, _, ⟨T2, L2, k2, n2⟩, -, X2, ⟨Lc2, hQ2, l2, y2, z2⟩, st2⟩ := Jvm.LawKit.callS X1 hx (y := (⟨"java/lang/StringLatin1", "canEncode", "(C)Z"⟩ : MethodName)) hown (mvT hZ (oW hw 33 rfl)) (mvT hZ (oW hw 34 rfl)) (mvT hZ (oW hw 35 rfl)) (mvT hZ (oW hw 36 rfl)) (by decide) (backOf (W := 0) (rmG l Z a0 hw [] c6 h0 n0 Z0 hc6) hZ (oW hw 36 rfl) (oW hw 35 rfl) (by decide) (by decide)) (g := (mkF m 7 #[iv c6] [(.int c6)])) rfl (by rw [hml]; rfl) (argsL := [(.int c6)]) (rest := []) (lenOf own_pd1 rfl) rfl (by show 2 * 0 + _ ≤ _; exact Nat.le_of_eq rfl) (hb hby own_d7_7) (fun _ _ => ⟨rfl, e1, (by decide : 0 + 0 ≤ _), (by decide : 0 + 0 ≤ _)⟩)
  dsimp only [Pt.U, Pt.locs, Pt.cells, Pt.slots] at X2 l2 y2 z2 st2 hQ2
  subst l2 y2 z2
  obtain ⟨rfl, Nq2, eq2⟩ := hQ2
  have N2 := Fr.app N0 Nq2
  refine ov (B := T2.setTop (mkF m 10 #[iv c6] [(.int (1 : Int32))])) (fun t k => st2 t k) ?_
  have hc10 : ¬ ((1 : Int32) = (0 : Int32)) := by decide
  refine ov (B := T2.setTop (mkF m 13 #[iv c6] [])) (fun t k => XS.ifNo X2.here hx rfl (hb hby own_d7_10) rfl ((if0 _ _).trans (feq hc10).1) k) ?_
  obtain ⟨T3, h3, X3, e3, E3, A3, D3, -, st3⟩ := newO X2 hx hZ hown (oW hw 37 rfl) (oW hw 1 rfl) (oW hw 2 rfl) eq2 (g := (mkF m 13 #[iv c6] [])) rfl (hb hby own_d7_13) (by decide) (by decide)
  obtain ⟨b3, g3⟩ : ∃ z, z = h0.size := ⟨_, rfl⟩
  rw [← g3] at A3 D3 st3
  have g_b3 : n0 ≤ b3 := Nat.le_trans Z0 (Nat.le_of_eq g3.symm)
  have F3_coder : Fld Z h3 b3 "java/lang/String" "coder" "B" (.int (0 : Int32)) := D3 (Or.inr (oW hw 27 rfl)) (ty := .byte) (by decide)
  have F3_value : Fld Z h3 b3 "java/lang/String" "value" "[B" .null := D3 (Or.inr (oW hw 29 rfl)) (ty := (.array .byte)) (by decide)
  refine ov (B := T3.setTop (mkF m 16 #[iv c6] [(.ref b3)])) (fun t k => st3 t k) ?_
  refine oDU (n := 17) X3 hx (hb hby own_d7_16) rfl rfl ?_
  refine oILN (n := 18) X3 hx (hb hby own_d7_17) rfl rfl ?_
  obtain ⟨_, _, ⟨T4, L4, k4, n4⟩, -, X4, ⟨Lc4, hQ4, l4, y4, z4⟩, st4⟩ := Jvm.LawKit.callS X3 hx (y := (⟨"java/lang/StringLatin1", "toBytes", "(C)[B"⟩ : MethodName)) hown (mvT hZ (oW hw 38 rfl)) (mvT hZ (oW hw 39 rfl)) (mvT hZ (oW hw 35 rfl)) (mvT hZ (oW hw 40 rfl)) (by decide) (backOf (W := 2) (rmH l Z a0 hw [] c6 h3 n0 (Nat.le_trans Z0 E3.1) ) hZ (oW hw 40 rfl) (oW hw 35 rfl) (by decide) (by decide)) (g := (mkF m 18 #[iv c6] [(.int c6), (.ref b3), (.ref b3)])) rfl (by rw [hml]; rfl) (argsL := [(.int c6)]) (rest := [(.ref b3), (.ref b3)]) (lenOf own_pd2 rfl) rfl (by show 2 * 0 + _ ≤ _; exact Nat.le_of_eq rfl) (hb hby own_d7_18) (fun _ _ => ⟨rfl, e3, (by decide : ((0 + 0) + 1) + 1 ≤ _), (by decide : ((0 + 0) + 4) + 1 ≤ _)⟩)
  dsimp only [Pt.U, Pt.locs, Pt.cells, Pt.slots] at X4 l4 y4 z4 st4 hQ4
  subst l4 y4 z4
  obtain ⟨r_4, kr_4, rfl, Nq4, Kq4, hr_4, f4_0⟩ := hQ4
  have N4 := Fr.app N2 Nq4
  have g_r_4 : n0 ≤ r_4 := Nat.le_trans (Nat.le_trans Z0 E3.1) hr_4
  refine ov (B := T4.setTop (mkF m 21 #[iv c6] [(.ref r_4), (.ref b3), (.ref b3)])) (fun t k => st4 t k) ?_
  refine oIC (n := 22) X4 hx (0 : Int32) (hb hby own_d7_21) (by decide) rfl ?_
  obtain ⟨_, _, ⟨T5, L5, k5, n5⟩, -, X5, ⟨Lc5, hQ5, l5, y5, z5⟩, st5⟩ := X4.specialBack hx (y := (⟨"java/lang/String", "<init>", "([BB)V"⟩ : MethodName)) rfl hown (mvT hZ (oW hw 41 rfl)) (mvT hZ (oW hw 42 rfl)) (mvT hZ (oW hw 43 rfl)) (by decide) (backOf (W := 1) (rmI l Z a0 hw [] b3 r_4 (0 : Int32) .null (.int (0 : Int32)) T4.heap n0 (Nat.le_trans (Nat.le_trans Z0 E3.1) Kq4.1) (A3.keep Kq4) (F3_value.keep Kq4 nin0) (F3_coder.keep Kq4 nin0) g_b3 rfl) hZ (oW hw 43 rfl) (oW hw 2 rfl) (by decide) (by decide)) (g := (mkF m 22 #[iv c6] [(.int (0 : Int32)), (.ref r_4), (.ref b3), (.ref b3)])) rfl (by rw [hml]; rfl) (Steps.refl _) (a := b3) (argsL := [(.ref r_4), (.int (0 : Int32))]) (rest := [(.ref b3)]) (lenOf own_pd3 rfl) rfl (by show 2 * 0 + _ ≤ _; exact Nat.le_of_eq rfl) (hb hby own_d7_22) (fun _ _ => ⟨rfl, rfl, (by decide : (((0 + 0) + 1) + 1) + 0 ≤ _), (by decide : (((0 + 0) + 4) + 1) + 0 ≤ _)⟩)
  dsimp only [Pt.U, Pt.locs, Pt.cells, Pt.slots] at X5 l5 y5 z5 st5 hQ5
  subst l5 y5 z5
  obtain ⟨rfl, Nq5, Kq5, f5_0, f5_1⟩ := hQ5
  have N5 := Fr.app N4 Nq5
  refine ov (B := T5.setTop (mkF m 25 #[iv c6] [(.ref b3)])) (fun t k => st5.trans k) ?_
  refine own_leaf X5 hx hlk (t := (.object "java/lang/String")) Bd.returns rfl (Or.inr (Or.inr (Or.inr (Or.inr ⟨rfl, rfl, rfl⟩)))) (hb hby own_d7_25) (by decide) (by decide) ?_
  show QJ Z c6 zc h0 n0 _ T5.heap _
  refine ⟨b3, r_4, kr_4, ?_, N5, ((((Keep.refl h0 []).ext E3).trans Kq4 all0).trans Kq5 (allS (Or.inr (Nat.le_of_eq g3.symm)) all0)), ?_, ?_, ((A3.keep Kq4).keep Kq5), f5_0, f5_1, (f4_0.keep Kq5 (ninS (Ne.symm (Nat.ne_of_lt (Nat.lt_of_lt_of_le A3.lt hr_4))) nin0))⟩
  · rfl
  · exact (Nat.le_of_eq g3.symm)
  · exact (Nat.le_trans (Nat.le_trans (Nat.le_refl _) E3.1) hr_4)
theorem own_pn2 : plainName "java/lang/Record" = true := by first | (simp [plainName, overriddenIn]; done) | decide +kernel
theorem own_d12_0 : decode jdk_30_method_1_code 0 = .ok (.aload_n 0, 1) := by decide +kernel
theorem own_d12_1 : decode jdk_30_method_1_code 1 = .ok (.invokespecial 1, 3) := by decide +kernel
theorem own_d12_4 : decode jdk_30_method_1_code 4 = .ok (.return_, 1) := by decide +kernel
theorem own_efR (m : MethodId) (x0 : Addr) : entryFrame m #[(.ref x0)] 1 = mkF m 0 #[rv x0] [] := by first | (simp [entryFrame, mkF, argsToLocals, Value.category]; done) | rfl
def QR (Z : State) (aR : Addr) (h0 : Heap) (n0 : Nat) (v : Option Value) (h : Heap) (L : List Loc) : Prop := v = none ∧ Fr n0 L ∧ h = h0 ∧ (L = [])
set_option maxRecDepth 65536 in
set_option maxHeartbeats 40000000 in
theorem rmR (l : Launch) (Z : State) (a0 : Array Value) (hw : ∀ d ∈ tables_1, d.before a0 Z = true) (ws : List Jvm.Cond) (aR : Addr) (h0 : Heap) (n0 : Nat) (Z0 : n0 ≤ h0.size) :
    MetFree l (⟨"java/lang/Record", "<init>", "()V"⟩ : MethodName) (head1 (Jvm.Cond.code (⟨"java/lang/Record", "<init>", "()V"⟩ : MethodName) jdk_30_method_1_code 1 none :: ws) ({ frames := 1, cells := 0, slots := 0, locals := 12 } : Room)) (fun a U => a = #[(.ref aR)] ∧ Z.Warmed39 U.vm ∧ U.heap = h0) (fun _ _ _ _ _ => True) (fun _ U o U' => ∃ v L, o = .returned v ∧ QR Z aR h0 n0 v U'.heap L ∧ FrameEnd U o U' L ({ frames := 1, cells := 0, slots := 0, locals := 12 } : Room).cells ({ frames := 1, cells := 0, slots := 0, locals := 12 } : Room).slots) := by
  refine MetFree.of_bodySF (plainFor_of_name own_pn2) hisR ?_
  intro p e s m args below meth c s₁ Bd hml0 hP hK
  obtain ⟨rfl, hZ, hh⟩ := hP
  have hx := Bd.exec
  have hby := Bd.bytes
  have hlk : meth.locks = false := Bd.notSynchronized
  have hml : c.maxLocals = 1 := hml0
  have hown : s.vm.findClass "java/lang/Record" = some m.cls := findClass_of_methodNamed Bd.named
  have hnm := (name_of_methodNamed Bd.named Bd.method).1
  have X0 : Stand p l e ({ frames := 1, cells := 0, slots := 0, locals := 12 } : Room) s m #[(.ref aR)] below meth c s₁ [] 0 0 := Stand.of_body Bd
  have e0 : s₁.heap = h0 := by rw [← hh, Bd.state]; rfl
  have N0 := Fr.nil n0
  refine own_body (A := s₁.setTop (mkF m 0 #[rv aR] [])) (Q := QR Z aR h0 n0) (fun t k => castTop (own_efR m aR) k) ?_
  refine oALN (n := 1) X0 hx (hb hby own_d12_0) rfl rfl rfl ?_
  obtain ⟨T1, X1, e1, st1⟩ := initO X0 hx hZ hown (oW hw 55 rfl) (oW hw 12 rfl) (oW hw 13 rfl) e0 (g := (mkF m 1 #[rv aR] [(.ref aR)])) rfl (by rw [hml]; rfl) rfl (hb hby own_d12_1) (by decide) (W := 0) (by show 2 * 0 + _ ≤ _; exact Nat.le_of_eq rfl) (by decide)
  refine ov (B := T1.setTop (mkF m 4 #[rv aR] [])) (fun t k => st1 t k) ?_
  refine own_leafV X1 hx hlk Bd.returns (hb hby own_d12_4) (by decide) (by decide) ?_
  show QR Z aR h0 n0 _ T1.heap _
  rw [e1]
  refine ⟨?_, N0, rfl, ?_⟩
  · rfl
  · rfl
theorem own_pn3 : plainName "java/util/Objects" = true := by first | (simp [plainName, overriddenIn]; done) | decide +kernel
theorem own_d18_0 : decode jdk_31_method_11_code 0 = .ok (.aload_n 0, 1) := by decide +kernel
theorem own_d18_1 : decode jdk_31_method_11_code 1 = .ok (.ifnonnull 12, 3) := by decide +kernel
theorem own_d18_13 : decode jdk_31_method_11_code 13 = .ok (.aload_n 0, 1) := by decide +kernel
theorem own_d18_14 : decode jdk_31_method_11_code 14 = .ok (.areturn, 1) := by decide +kernel
theorem own_efN (m : MethodId) (x0 : Addr) (x1 : Addr) : entryFrame m #[(.ref x0), (.ref x1)] 2 = mkF m 0 #[rv x0, rv x1] [] := by first | (simp [entryFrame, mkF, argsToLocals, Value.category]; done) | rfl
def QN (Z : State) (aN : Addr) (bN : Addr) (h0 : Heap) (n0 : Nat) (v : Option Value) (h : Heap) (L : List Loc) : Prop := v = some (.ref aN) ∧ Fr n0 L ∧ h = h0
set_option maxRecDepth 65536 in
set_option maxHeartbeats 40000000 in
theorem rmN (l : Launch) (Z : State) (a0 : Array Value) (hw : ∀ d ∈ tables_1, d.before a0 Z = true) (ws : List Jvm.Cond) (aN : Addr) (bN : Addr) (h0 : Heap) (n0 : Nat) (Z0 : n0 ≤ h0.size) :
    MetFree l (⟨"java/util/Objects", "requireNonNull", "(Ljava/lang/Object;Ljava/lang/String;)Ljava/lang/Object;"⟩ : MethodName) (head1 (Jvm.Cond.code (⟨"java/util/Objects", "requireNonNull", "(Ljava/lang/Object;Ljava/lang/String;)Ljava/lang/Object;"⟩ : MethodName) jdk_31_method_11_code 2 (some (.object "java/lang/Object")) :: ws) ({ frames := 0, cells := 0, slots := 0, locals := 0 } : Room)) (fun a U => a = #[(.ref aN), (.ref bN)] ∧ Z.Warmed39 U.vm ∧ U.heap = h0) (fun _ _ _ _ _ => True) (fun _ U o U' => ∃ v L, o = .returned v ∧ QN Z aN bN h0 n0 v U'.heap L ∧ FrameEnd U o U' L ({ frames := 0, cells := 0, slots := 0, locals := 0 } : Room).cells ({ frames := 0, cells := 0, slots := 0, locals := 0 } : Room).slots) := by
  refine MetFree.of_bodySF (plainFor_of_name own_pn3) hisR ?_
  intro p e s m args below meth c s₁ Bd hml0 hP hK
  obtain ⟨rfl, hZ, hh⟩ := hP
  have hx := Bd.exec
  have hby := Bd.bytes
  have hlk : meth.locks = false := Bd.notSynchronized
  have hml : c.maxLocals = 2 := hml0
  have hown : s.vm.findClass "java/util/Objects" = some m.cls := findClass_of_methodNamed Bd.named
  have hnm := (name_of_methodNamed Bd.named Bd.method).1
  have X0 : Stand p l e ({ frames := 0, cells := 0, slots := 0, locals := 0 } : Room) s m #[(.ref aN), (.ref bN)] below meth c s₁ [] 0 0 := Stand.of_body Bd
  have e0 : s₁.heap = h0 := by rw [← hh, Bd.state]; rfl
  have N0 := Fr.nil n0
  refine own_body (A := s₁.setTop (mkF m 0 #[rv aN, rv bN] [])) (Q := QN Z aN bN h0 n0) (fun t k => castTop (own_efN m aN bN) k) ?_
  refine oALN (n := 1) X0 hx (hb hby own_d18_0) rfl rfl rfl ?_
  refine ov (B := s₁.setTop (mkF m 13 #[rv aN, rv bN] [])) (fun t k => XS.ifnonnullYes X0.here hx rfl (pc0 := 1) (pc' := 13) rfl (hb hby own_d18_1) rfl (by decide) (by decide) k) ?_
  refine oALN (n := 14) X0 hx (hb hby own_d18_13) rfl rfl rfl ?_
  refine own_leaf X0 hx hlk (t := (.object "java/lang/Object")) Bd.returns rfl (Or.inr (Or.inr (Or.inr (Or.inr ⟨rfl, rfl, rfl⟩)))) (hb hby own_d18_14) (by decide) (by decide) ?_
  show QN Z aN bN h0 n0 _ s₁.heap _
  rw [e0]
  refine ⟨?_, N0, rfl⟩
  rfl
theorem own_d16_0 : decode jdk_42_method_152_code 0 = .ok (.getstatic 38, 3) := by decide +kernel
theorem own_d16_3 : decode jdk_42_method_152_code 3 = .ok (.ifCond .eq 10, 3) := by decide +kernel
theorem own_d16_6 : decode jdk_42_method_152_code 6 = .ok (.aload_n 0, 1) := by decide +kernel
theorem own_d16_7 : decode jdk_42_method_152_code 7 = .ok (.getfield 15, 3) := by decide +kernel
theorem own_d16_10 : decode jdk_42_method_152_code 10 = .ok (.goto 4, 3) := by decide +kernel
theorem own_d16_14 : decode jdk_42_method_152_code 14 = .ok (.ireturn, 1) := by decide +kernel
theorem own_efK (m : MethodId) (x0 : Addr) : entryFrame m #[(.ref x0)] 1 = mkF m 0 #[rv x0] [] := by first | (simp [entryFrame, mkF, argsToLocals, Value.category]; done) | rfl
def QK (Z : State) (a2 : Addr) (zc : Int32) (h0 : Heap) (n0 : Nat) (v : Option Value) (h : Heap) (L : List Loc) : Prop := v = some (.int (0 : Int32)) ∧ Fr n0 L ∧ h = h0
set_option maxRecDepth 65536 in
set_option maxHeartbeats 40000000 in
theorem rmK (l : Launch) (Z : State) (a0 : Array Value) (hw : ∀ d ∈ tables_1, d.before a0 Z = true) (ws : List Jvm.Cond) (a2 : Addr) (zc : Int32) (h0 : Heap) (n0 : Nat) (Z0 : n0 ≤ h0.size) (O0 : Old Z n0 h0) (Scz : Sta Z Z.heap "java/lang/String" "COMPACT_STRINGS" "Z" (.int zc)) (hcz : ¬ zc = 0) (F2 : Fld Z h0 a2 "java/lang/String" "coder" "B" (.int (0 : Int32))) :
    MetFree l (⟨"java/lang/String", "coder", "()B"⟩ : MethodName) (head1 (Jvm.Cond.code (⟨"java/lang/String", "coder", "()B"⟩ : MethodName) jdk_42_method_152_code 1 (some .byte) :: ws) ({ frames := 0, cells := 0, slots := 0, locals := 0 } : Room)) (fun a U => a = #[(.ref a2)] ∧ Z.Warmed39 U.vm ∧ U.heap = h0) (fun _ _ _ _ _ => True) (fun _ U o U' => ∃ v L, o = .returned v ∧ QK Z a2 zc h0 n0 v U'.heap L ∧ FrameEnd U o U' L ({ frames := 0, cells := 0, slots := 0, locals := 0 } : Room).cells ({ frames := 0, cells := 0, slots := 0, locals := 0 } : Room).slots) := by
  refine MetFree.of_bodySF (plainFor_of_name own_pn0) hisR ?_
  intro p e s m args below meth c s₁ Bd hml0 hP hK
  obtain ⟨rfl, hZ, hh⟩ := hP
  have hx := Bd.exec
  have hby := Bd.bytes
  have hlk : meth.locks = false := Bd.notSynchronized
  have hml : c.maxLocals = 1 := hml0
  have hown : s.vm.findClass "java/lang/String" = some m.cls := findClass_of_methodNamed Bd.named
  have hnm := (name_of_methodNamed Bd.named Bd.method).1
  have X0 : Stand p l e ({ frames := 0, cells := 0, slots := 0, locals := 0 } : Room) s m #[(.ref a2)] below meth c s₁ [] 0 0 := Stand.of_body Bd
  have e0 : s₁.heap = h0 := by rw [← hh, Bd.state]; rfl
  have N0 := Fr.nil n0
  refine own_body (A := s₁.setTop (mkF m 0 #[rv a2] [])) (Q := QK Z a2 zc h0 n0) (fun t k => castTop (own_efK m a2) k) ?_
  obtain ⟨T1, X1, e1, st1⟩ := getS2 X0 hx hZ hown (host := "") (Or.inl (oW hw 14 rfl)) Via.refl e0 (Scz.ext O0.2) (g := (mkF m 0 #[rv a2] [])) rfl (hb hby own_d16_0)
  refine ov (B := T1.setTop (mkF m 3 #[rv a2] [(.int zc)])) (fun t k => st1 t k) ?_
  have hc3 : ¬ (zc = (0 : Int32)) := hcz
  refine ov (B := T1.setTop (mkF m 6 #[rv a2] [])) (fun t k => XS.ifNo X1.here hx rfl (hb hby own_d16_3) rfl ((if0 _ _).trans (feq hc3).1) k) ?_
  refine oALN (n := 7) X1 hx (hb hby own_d16_6) rfl rfl rfl ?_
  obtain ⟨T2, X2, e2, st2⟩ := getF X1 hx hZ hown (host := "") (Or.inl (oW hw 26 rfl)) Via.refl e1 F2 (g := (mkF m 7 #[rv a2] [(.ref a2)])) rfl rfl (hb hby own_d16_7)
  refine ov (B := T2.setTop (mkF m 10 #[rv a2] [(.int (0 : Int32))])) (fun t k => st2 t k) ?_
  refine oGO (n := 14) X2 hx (hb hby own_d16_10) (by decide) (by decide) ?_
  refine own_leaf X2 hx hlk (t := .byte) Bd.returns (by decide) (Or.inl ⟨rfl, by simp, _, rfl⟩) (hb hby own_d16_14) (by decide) (by decide) ?_
  show QK Z a2 zc h0 n0 _ T2.heap _
  rw [e2]
  refine ⟨?_, N0, rfl⟩
  rfl
theorem own_pd4 : parseMethodDescriptor "()B" = some ⟨[], some .byte⟩ := by decide +kernel
theorem own_d15_0 : decode jdk_42_method_54_code 0 = .ok (.aload_n 0, 1) := by decide +kernel
theorem own_d15_1 : decode jdk_42_method_54_code 1 = .ok (.getfield 9, 3) := by decide +kernel
theorem own_d15_4 : decode jdk_42_method_54_code 4 = .ok (.arraylength, 1) := by decide +kernel
theorem own_d15_5 : decode jdk_42_method_54_code 5 = .ok (.aload_n 0, 1) := by decide +kernel
theorem own_d15_6 : decode jdk_42_method_54_code 6 = .ok (.invokevirtual 335, 3) := by decide +kernel
theorem own_d15_9 : decode jdk_42_method_54_code 9 = .ok (.ishr, 1) := by decide +kernel
theorem own_d15_10 : decode jdk_42_method_54_code 10 = .ok (.ireturn, 1) := by decide +kernel
theorem own_efLn3 (m : MethodId) (x0 : Addr) : entryFrame m #[(.ref x0)] 1 = mkF m 0 #[rv x0] [] := by first | (simp [entryFrame, mkF, argsToLocals, Value.category]; done) | rfl
def QLn3 (Z : State) (a3 : Addr) (zc : Int32) (t3 : Addr) (k3 : ClassId) (x1 : Int32) (x2 : Int32) (x3 : Int32) (h0 : Heap) (n0 : Nat) (v : Option Value) (h : Heap) (L : List Loc) : Prop := v = some (.int (3 : Int32)) ∧ Fr n0 L ∧ h = h0
set_option maxRecDepth 65536 in
set_option maxHeartbeats 40000000 in
theorem rmLn3 (l : Launch) (Z : State) (a0 : Array Value) (hw : ∀ d ∈ tables_1, d.before a0 Z = true) (ws : List Jvm.Cond) (a3 : Addr) (zc : Int32) (t3 : Addr) (k3 : ClassId) (x1 : Int32) (x2 : Int32) (x3 : Int32) (h0 : Heap) (n0 : Nat) (Z0 : n0 ≤ h0.size) (O0 : Old Z n0 h0) (Scz : Sta Z Z.heap "java/lang/String" "COMPACT_STRINGS" "Z" (.int zc)) (hcz : ¬ zc = 0) (E_a3 : Exa Z h0 a3 "java/lang/String") (C_a3 : Fld Z h0 a3 "java/lang/String" "coder" "B" (.int (0 : Int32))) (V_a3 : Fld Z h0 a3 "java/lang/String" "value" "[B" (.ref t3)) (A_a3 : Arv Z h0 t3 k3 .byte (3 : Int32) [(.int x1), (.int x2), (.int x3)] (.int (0 : Int32))) :
    MetFree l (⟨"java/lang/String", "length", "()I"⟩ : MethodName) (head1 (Jvm.Cond.code (⟨"java/lang/String", "length", "()I"⟩ : MethodName) jdk_42_method_54_code 1 (some .int) :: ws) ({ frames := 1, cells := 0, slots := 0, locals := 16 } : Room)) (fun a U => a = #[(.ref a3)] ∧ Z.Warmed39 U.vm ∧ U.heap = h0) (fun _ _ _ _ _ => True) (fun _ U o U' => ∃ v L, o = .returned v ∧ QLn3 Z a3 zc t3 k3 x1 x2 x3 h0 n0 v U'.heap L ∧ FrameEnd U o U' L ({ frames := 1, cells := 0, slots := 0, locals := 16 } : Room).cells ({ frames := 1, cells := 0, slots := 0, locals := 16 } : Room).slots) := by
  refine MetFree.of_bodySF (plainFor_of_name own_pn0) hisR ?_
  intro p e s m args below meth c s₁ Bd hml0 hP hK
  obtain ⟨rfl, hZ, hh⟩ := hP
  have hx := Bd.exec
  have hby := Bd.bytes
  have hlk : meth.locks = false := Bd.notSynchronized
  have hml : c.maxLocals = 1 := hml0
  have hown : s.vm.findClass "java/lang/String" = some m.cls := findClass_of_methodNamed Bd.named
  have hnm := (name_of_methodNamed Bd.named Bd.method).1
  have X0 : Stand p l e ({ frames := 1, cells := 0, slots := 0, locals := 16 } : Room) s m #[(.ref a3)] below meth c s₁ [] 0 0 := Stand.of_body Bd
  have e0 : s₁.heap = h0 := by rw [← hh, Bd.state]; rfl
  have N0 := Fr.nil n0
  refine own_body (A := s₁.setTop (mkF m 0 #[rv a3] [])) (Q := QLn3 Z a3 zc t3 k3 x1 x2 x3 h0 n0) (fun t k => castTop (own_efLn3 m a3) k) ?_
  refine oALN (n := 1) X0 hx (hb hby own_d15_0) rfl rfl rfl ?_
  obtain ⟨T1, X1, e1, st1⟩ := getF X0 hx hZ hown (host := "") (Or.inl (oW hw 28 rfl)) Via.refl e0 V_a3 (g := (mkF m 1 #[rv a3] [(.ref a3)])) rfl rfl (hb hby own_d15_1)
  refine ov (B := T1.setTop (mkF m 4 #[rv a3] [(.ref t3)])) (fun t k => st1 t k) ?_
  obtain ⟨cl2, Ar2, q2, S2, M2, H2, G2⟩ := id A_a3
  refine ov (B := T1.setTop (mkF m 5 #[rv a3] [(.int (3 : Int32))])) (fun t k => X1.arraylength hx (by rw [e1]; exact Ar2.1) (State.isArrayOf_alike hZ.alike Ar2.2.1) (g := (mkF m 4 #[rv a3] [(.ref t3)])) rfl rfl (hb hby own_d15_4) _ (by rw [len_of S2 M2]; exact k)) ?_
  refine oALN (n := 6) X1 hx (hb hby own_d15_5) rfl rfl rfl ?_
  obtain ⟨cq3, kq3, q3a, q3b, q3c⟩ := isOf hZ e1 E_a3
  obtain ⟨_, _, ⟨T3, L3, k3, n3⟩, -, X3, ⟨Lc3, hQ3, l3, y3, z3⟩, st3⟩ := X1.virtualBack hx (y := (⟨"java/lang/String", "coder", "()B"⟩ : MethodName)) (z := (⟨"java/lang/String", "coder", "()B"⟩ : MethodName)) hown (mvT hZ (oW hw 74 rfl)) (mvT hZ (oW hw 75 rfl)) (notFace_of_selects (args := #[]) (mvT hZ (oW hw 77 rfl))) (mvT hZ (oW hw 77 rfl)) (mvT hZ (oW hw 76 rfl)) (by decide) (backOf (W := 1) (rmK l Z a0 hw [] a3 zc h0 n0 Z0 O0 (by assumption) (by assumption) C_a3) hZ (oW hw 78 rfl) (oW hw 2 rfl) (by decide) (by decide)) q3a q3c (g := (mkF m 6 #[rv a3] [(.ref a3), (.int (3 : Int32))])) rfl (by rw [hml]; rfl) (Steps.refl _) (argsL := []) (rest := [(.int (3 : Int32))]) (lenOf own_pd4 rfl) rfl (by show 2 * 0 + _ ≤ _; exact Nat.le_of_eq rfl) (hb hby own_d15_6) (fun _ _ => ⟨rfl, e1, (by decide : 0 + 0 ≤ _), (by decide : 0 + 0 ≤ _)⟩)
  dsimp only [Pt.U, Pt.locs, Pt.cells, Pt.slots] at X3 l3 y3 z3 st3 hQ3
  subst l3 y3 z3
  obtain ⟨rfl, Nq3, eq3⟩ := hQ3
  have N3 := Fr.app N0 Nq3
  refine ov (B := T3.setTop (mkF m 9 #[rv a3] [(.int (0 : Int32)), (.int (3 : Int32))])) (fun t k => st3.trans k) ?_
  refine ov (B := T3.setTop (mkF m 10 #[rv a3] [(.int (3 : Int32))])) (fun t k => XS.ishr X3.here hx rfl (hb hby own_d15_9) rfl k) ?_
  refine own_leaf X3 hx hlk (t := .int) Bd.returns rfl (Or.inl ⟨rfl, by simp, _, rfl⟩) (hb hby own_d15_10) (by decide) (by decide) ?_
  show QLn3 Z a3 zc t3 k3 x1 x2 x3 h0 n0 _ T3.heap _
  rw [eq3]
  refine ⟨?_, N3, rfl⟩
  rfl
theorem own_efLn2 (m : MethodId) (x0 : Addr) : entryFrame m #[(.ref x0)] 1 = mkF m 0 #[rv x0] [] := by first | (simp [entryFrame, mkF, argsToLocals, Value.category]; done) | rfl
def QLn2 (Z : State) (a3 : Addr) (zc : Int32) (t3 : Addr) (k3 : ClassId) (h0 : Heap) (n0 : Nat) (v : Option Value) (h : Heap) (L : List Loc) : Prop := v = some (.int (2 : Int32)) ∧ Fr n0 L ∧ h = h0
set_option maxRecDepth 65536 in
set_option maxHeartbeats 40000000 in
theorem rmLn2 (l : Launch) (Z : State) (a0 : Array Value) (hw : ∀ d ∈ tables_1, d.before a0 Z = true) (ws : List Jvm.Cond) (a3 : Addr) (zc : Int32) (t3 : Addr) (k3 : ClassId) (h0 : Heap) (n0 : Nat) (Z0 : n0 ≤ h0.size) (O0 : Old Z n0 h0) (Scz : Sta Z Z.heap "java/lang/String" "COMPACT_STRINGS" "Z" (.int zc)) (hcz : ¬ zc = 0) (E_a3 : Exa Z h0 a3 "java/lang/String") (C_a3 : Fld Z h0 a3 "java/lang/String" "coder" "B" (.int (0 : Int32))) (V_a3 : Fld Z h0 a3 "java/lang/String" "value" "[B" (.ref t3)) (A_a3 : Arv Z h0 t3 k3 .byte (2 : Int32) [(.int (45 : Int32)), (.int (45 : Int32))] (.int (0 : Int32))) :
    MetFree l (⟨"java/lang/String", "length", "()I"⟩ : MethodName) (head1 (Jvm.Cond.code (⟨"java/lang/String", "length", "()I"⟩ : MethodName) jdk_42_method_54_code 1 (some .int) :: ws) ({ frames := 1, cells := 0, slots := 0, locals := 16 } : Room)) (fun a U => a = #[(.ref a3)] ∧ Z.Warmed39 U.vm ∧ U.heap = h0) (fun _ _ _ _ _ => True) (fun _ U o U' => ∃ v L, o = .returned v ∧ QLn2 Z a3 zc t3 k3 h0 n0 v U'.heap L ∧ FrameEnd U o U' L ({ frames := 1, cells := 0, slots := 0, locals := 16 } : Room).cells ({ frames := 1, cells := 0, slots := 0, locals := 16 } : Room).slots) := by
  refine MetFree.of_bodySF (plainFor_of_name own_pn0) hisR ?_
  intro p e s m args below meth c s₁ Bd hml0 hP hK
  obtain ⟨rfl, hZ, hh⟩ := hP
  have hx := Bd.exec
  have hby := Bd.bytes
  have hlk : meth.locks = false := Bd.notSynchronized
  have hml : c.maxLocals = 1 := hml0
  have hown : s.vm.findClass "java/lang/String" = some m.cls := findClass_of_methodNamed Bd.named
  have hnm := (name_of_methodNamed Bd.named Bd.method).1
  have X0 : Stand p l e ({ frames := 1, cells := 0, slots := 0, locals := 16 } : Room) s m #[(.ref a3)] below meth c s₁ [] 0 0 := Stand.of_body Bd
  have e0 : s₁.heap = h0 := by rw [← hh, Bd.state]; rfl
  have N0 := Fr.nil n0
  refine own_body (A := s₁.setTop (mkF m 0 #[rv a3] [])) (Q := QLn2 Z a3 zc t3 k3 h0 n0) (fun t k => castTop (own_efLn2 m a3) k) ?_
  refine oALN (n := 1) X0 hx (hb hby own_d15_0) rfl rfl rfl ?_
  obtain ⟨T1, X1, e1, st1⟩ := getF X0 hx hZ hown (host := "") (Or.inl (oW hw 28 rfl)) Via.refl e0 V_a3 (g := (mkF m 1 #[rv a3] [(.ref a3)])) rfl rfl (hb hby own_d15_1)
  refine ov (B := T1.setTop (mkF m 4 #[rv a3] [(.ref t3)])) (fun t k => st1 t k) ?_
  obtain ⟨cl2, Ar2, q2, S2, M2, H2, G2⟩ := id A_a3
  refine ov (B := T1.setTop (mkF m 5 #[rv a3] [(.int (2 : Int32))])) (fun t k => X1.arraylength hx (by rw [e1]; exact Ar2.1) (State.isArrayOf_alike hZ.alike Ar2.2.1) (g := (mkF m 4 #[rv a3] [(.ref t3)])) rfl rfl (hb hby own_d15_4) _ (by rw [len_of S2 M2]; exact k)) ?_
  refine oALN (n := 6) X1 hx (hb hby own_d15_5) rfl rfl rfl ?_
  obtain ⟨cq3, kq3, q3a, q3b, q3c⟩ := isOf hZ e1 E_a3
  obtain ⟨_, _, ⟨T3, L3, k3, n3⟩, -, X3, ⟨Lc3, hQ3, l3, y3, z3⟩, st3⟩ := X1.virtualBack hx (y := (⟨"java/lang/String", "coder", "()B"⟩ : MethodName)) (z := (⟨"java/lang/String", "coder", "()B"⟩ : MethodName)) hown (mvT hZ (oW hw 74 rfl)) (mvT hZ (oW hw 75 rfl)) (notFace_of_selects (args := #[]) (mvT hZ (oW hw 77 rfl))) (mvT hZ (oW hw 77 rfl)) (mvT hZ (oW hw 76 rfl)) (by decide) (backOf (W := 1) (rmK l Z a0 hw [] a3 zc h0 n0 Z0 O0 (by assumption) (by assumption) C_a3) hZ (oW hw 78 rfl) (oW hw 2 rfl) (by decide) (by decide)) q3a q3c (g := (mkF m 6 #[rv a3] [(.ref a3), (.int (2 : Int32))])) rfl (by rw [hml]; rfl) (Steps.refl _) (argsL := []) (rest := [(.int (2 : Int32))]) (lenOf own_pd4 rfl) rfl (by show 2 * 0 + _ ≤ _; exact Nat.le_of_eq rfl) (hb hby own_d15_6) (fun _ _ => ⟨rfl, e1, (by decide : 0 + 0 ≤ _), (by decide : 0 + 0 ≤ _)⟩)
  dsimp only [Pt.U, Pt.locs, Pt.cells, Pt.slots] at X3 l3 y3 z3 st3 hQ3
  subst l3 y3 z3
  obtain ⟨rfl, Nq3, eq3⟩ := hQ3
  have N3 := Fr.app N0 Nq3
  refine ov (B := T3.setTop (mkF m 9 #[rv a3] [(.int (0 : Int32)), (.int (2 : Int32))])) (fun t k => st3.trans k) ?_
  refine ov (B := T3.setTop (mkF m 10 #[rv a3] [(.int (2 : Int32))])) (fun t k => XS.ishr X3.here hx rfl (hb hby own_d15_9) rfl k) ?_
  refine own_leaf X3 hx hlk (t := .int) Bd.returns rfl (Or.inl ⟨rfl, by simp, _, rfl⟩) (hb hby own_d15_10) (by decide) (by decide) ?_
  show QLn2 Z a3 zc t3 k3 h0 n0 _ T3.heap _
  rw [eq3]
  refine ⟨?_, N3, rfl⟩
  rfl
theorem own_pn4 : plainName "jdk/internal/util/ArraysSupport" = true := by first | (simp [plainName, overriddenIn]; done) | decide +kernel
theorem own_d17_0 : decode jdk_48_method_14_code 0 = .ok (.iconst 0, 1) := by decide +kernel
theorem own_d17_1 : decode jdk_48_method_14_code 1 = .ok (.istore 5, 2) := by decide +kernel
theorem own_d17_3 : decode jdk_48_method_14_code 3 = .ok (.iload 4, 2) := by decide +kernel
theorem own_d17_5 : decode jdk_48_method_14_code 5 = .ok (.bipush 7, 2) := by decide +kernel
theorem own_d17_7 : decode jdk_48_method_14_code 7 = .ok (.if_icmp .le 63, 3) := by decide +kernel
theorem own_d17_70 : decode jdk_48_method_14_code 70 = .ok (.iload 5, 2) := by decide +kernel
theorem own_d17_72 : decode jdk_48_method_14_code 72 = .ok (.iload 4, 2) := by decide +kernel
theorem own_d17_74 : decode jdk_48_method_14_code 74 = .ok (.if_icmp .ge 27, 3) := by decide +kernel
theorem own_d17_77 : decode jdk_48_method_14_code 77 = .ok (.aload_n 0, 1) := by decide +kernel
theorem own_d17_78 : decode jdk_48_method_14_code 78 = .ok (.iload_n 1, 1) := by decide +kernel
theorem own_d17_79 : decode jdk_48_method_14_code 79 = .ok (.iload 5, 2) := by decide +kernel
theorem own_d17_81 : decode jdk_48_method_14_code 81 = .ok (.iadd, 1) := by decide +kernel
theorem own_d17_82 : decode jdk_48_method_14_code 82 = .ok (.baload, 1) := by decide +kernel
theorem own_d17_83 : decode jdk_48_method_14_code 83 = .ok (.aload_n 2, 1) := by decide +kernel
theorem own_d17_84 : decode jdk_48_method_14_code 84 = .ok (.iload_n 3, 1) := by decide +kernel
theorem own_d17_85 : decode jdk_48_method_14_code 85 = .ok (.iload 5, 2) := by decide +kernel
theorem own_d17_87 : decode jdk_48_method_14_code 87 = .ok (.iadd, 1) := by decide +kernel
theorem own_d17_88 : decode jdk_48_method_14_code 88 = .ok (.baload, 1) := by decide +kernel
theorem own_d17_89 : decode jdk_48_method_14_code 89 = .ok (.if_icmp .eq 6, 3) := by decide +kernel
theorem own_d17_95 : decode jdk_48_method_14_code 95 = .ok (.iinc 5 1, 3) := by decide +kernel
theorem own_d17_98 : decode jdk_48_method_14_code 98 = .ok (.goto (-28), 3) := by decide +kernel
theorem own_d17_101 : decode jdk_48_method_14_code 101 = .ok (.iconst (-1), 1) := by decide +kernel
theorem own_d17_102 : decode jdk_48_method_14_code 102 = .ok (.ireturn, 1) := by decide +kernel
theorem own_efM (m : MethodId) (x0 : Addr) (x1 : Int32) (x2 : Addr) (x3 : Int32) (x4 : Int32) : entryFrame m #[(.ref x0), (.int x1), (.ref x2), (.int x3), (.int x4)] 8 = mkF m 0 #[rv x0, iv x1, rv x2, iv x3, iv x4, uu, uu, uu] [] := by first | (simp [entryFrame, mkF, argsToLocals, Value.category]; done) | rfl
def QM (Z : State) (a4 : Addr) (b4 : Addr) (k4 : ClassId) (l4 : ClassId) (x1 : Int32) (x2 : Int32) (x3 : Int32) (h0 : Heap) (n0 : Nat) (v : Option Value) (h : Heap) (L : List Loc) : Prop := v = some (.int (-1 : Int32)) ∧ Fr n0 L ∧ h = h0
set_option maxRecDepth 65536 in
set_option maxHeartbeats 40000000 in
theorem rmM (l : Launch) (Z : State) (a0 : Array Value) (hw : ∀ d ∈ tables_1, d.before a0 Z = true) (ws : List Jvm.Cond) (a4 : Addr) (b4 : Addr) (k4 : ClassId) (l4 : ClassId) (x1 : Int32) (x2 : Int32) (x3 : Int32) (h0 : Heap) (n0 : Nat) (Z0 : n0 ≤ h0.size) (A4 : Arv Z h0 a4 k4 .byte (3 : Int32) [(.int x1), (.int x2), (.int x3)] (.int (0 : Int32))) (B4 : Arv Z h0 b4 l4 .byte (2 : Int32) [(.int (45 : Int32)), (.int (45 : Int32))] (.int (0 : Int32))) (hx1 : x1 = (45 : Int32)) (hx2 : x2 = (45 : Int32)) :
    MetFree l (⟨"jdk/internal/util/ArraysSupport", "mismatch", "([BI[BII)I"⟩ : MethodName) (head1 (Jvm.Cond.code (⟨"jdk/internal/util/ArraysSupport", "mismatch", "([BI[BII)I"⟩ : MethodName) jdk_48_method_14_code 8 (some .int) :: ws) ({ frames := 0, cells := 0, slots := 0, locals := 0 } : Room)) (fun a U => a = #[(.ref a4), (.int (0 : Int32)), (.ref b4), (.int (0 : Int32)), (.int (2 : Int32))] ∧ Z.Warmed39 U.vm ∧ U.heap = h0) (fun _ _ _ _ _ => True) (fun _ U o U' => ∃ v L, o = .returned v ∧ QM Z a4 b4 k4 l4 x1 x2 x3 h0 n0 v U'.heap L ∧ FrameEnd U o U' L ({ frames := 0, cells := 0, slots := 0, locals := 0 } : Room).cells ({ frames := 0, cells := 0, slots := 0, locals := 0 } : Room).slots) := by
  refine MetFree.of_bodySF (plainFor_of_name own_pn4) hisR ?_
  intro p e s m args below meth c s₁ Bd hml0 hP hK
  obtain ⟨rfl, hZ, hh⟩ := hP
  have hx := Bd.exec
  have hby := Bd.bytes
  have hlk : meth.locks = false := Bd.notSynchronized
  have hml : c.maxLocals = 8 := hml0
  have hown : s.vm.findClass "jdk/internal/util/ArraysSupport" = some m.cls := findClass_of_methodNamed Bd.named
  have hnm := (name_of_methodNamed Bd.named Bd.method).1
  have X0 : Stand p l e ({ frames := 0, cells := 0, slots := 0, locals := 0 } : Room) s m #[(.ref a4), (.int (0 : Int32)), (.ref b4), (.int (0 : Int32)), (.int (2 : Int32))] below meth c s₁ [] 0 0 := Stand.of_body Bd
  have e0 : s₁.heap = h0 := by rw [← hh, Bd.state]; rfl
  have N0 := Fr.nil n0
  refine own_body (A := s₁.setTop (mkF m 0 #[rv a4, iv (0 : Int32), rv b4, iv (0 : Int32), iv (2 : Int32), uu, uu, uu] [])) (Q := QM Z a4 b4 k4 l4 x1 x2 x3 h0 n0) (fun t k => castTop (own_efM m a4 (0 : Int32) b4 (0 : Int32) (2 : Int32)) k) ?_
  refine oIC (n := 1) X0 hx (0 : Int32) (hb hby own_d17_0) (by decide) rfl ?_
  refine ov (B := s₁.setTop (mkF m 3 #[rv a4, iv (0 : Int32), rv b4, iv (0 : Int32), iv (2 : Int32), iv (0 : Int32), uu, uu] [])) (fun t k => XS.istore X0.here hx rfl (hb hby own_d17_1) rfl (l' := #[rv a4, iv (0 : Int32), rv b4, iv (0 : Int32), iv (2 : Int32), iv (0 : Int32), uu, uu]) rfl k) ?_
  refine oIL (n := 5) X0 hx (hb hby own_d17_3) rfl rfl ?_
  refine oBP (n := 7) X0 hx (7 : Int32) (hb hby own_d17_5) (by decide) rfl ?_
  have hc7 : ¬ ((7 : Int32) < (2 : Int32)) := by decide
  refine ov (B := s₁.setTop (mkF m 70 #[rv a4, iv (0 : Int32), rv b4, iv (0 : Int32), iv (2 : Int32), iv (0 : Int32), uu, uu] [])) (fun t k => XS.icmpYes X0.here hx rfl (pc0 := 7) (pc' := 70) rfl (hb hby own_d17_7) rfl (flt hc7).2.2.2 (by decide) (by decide) k) ?_
  refine oIL (n := 72) X0 hx (hb hby own_d17_70) rfl rfl ?_
  refine oIL (n := 74) X0 hx (hb hby own_d17_72) rfl rfl ?_
  have hc74 : (0 : Int32) < (2 : Int32) := by decide
  refine ov (B := s₁.setTop (mkF m 77 #[rv a4, iv (0 : Int32), rv b4, iv (0 : Int32), iv (2 : Int32), iv (0 : Int32), uu, uu] [])) (fun t k => XS.icmpNo X0.here hx rfl (hb hby own_d17_74) rfl (tlt hc74).2.1 k) ?_
  refine oALN (n := 78) X0 hx (hb hby own_d17_77) rfl rfl rfl ?_
  refine oILN (n := 79) X0 hx (hb hby own_d17_78) rfl rfl ?_
  refine oIL (n := 81) X0 hx (hb hby own_d17_79) rfl rfl ?_
  refine ov (B := s₁.setTop (mkF m 82 #[rv a4, iv (0 : Int32), rv b4, iv (0 : Int32), iv (2 : Int32), iv (0 : Int32), uu, uu] [(.int (0 : Int32)), (.ref a4)])) (fun t k => XS.iadd X0.here hx rfl (hb hby own_d17_81) rfl k) ?_
  obtain ⟨cl1, Ar1, q1, S1, M1, H1, G1⟩ := id A4
  have hin1 : ¬ ((0 : Int32) < 0 ∨ cl1.slots.size ≤ ((0 : Int32)).toNatClampNeg) := inb_of S1 ⟨by decide, by decide⟩
  refine ov (B := s₁.setTop (mkF m 83 #[rv a4, iv (0 : Int32), rv b4, iv (0 : Int32), iv (2 : Int32), iv (0 : Int32), uu, uu] [(.int x1)])) (fun t k => X0.baloadBytes hx (j := (0 : Int32)) (v := (.int x1)) (by rw [e0]; exact Ar1.1) (State.isArrayOf_alike hZ.alike Ar1.2.1) Ar1.2.2 hin1 (Has.at H1 hin1 rfl) (g := (mkF m 82 #[rv a4, iv (0 : Int32), rv b4, iv (0 : Int32), iv (2 : Int32), iv (0 : Int32), uu, uu] [(.int (0 : Int32)), (.ref a4)])) rfl rfl (hb hby own_d17_82) _ k) ?_
  refine oALN (n := 84) X0 hx (hb hby own_d17_83) rfl rfl rfl ?_
  refine oILN (n := 85) X0 hx (hb hby own_d17_84) rfl rfl ?_
  refine oIL (n := 87) X0 hx (hb hby own_d17_85) rfl rfl ?_
  refine ov (B := s₁.setTop (mkF m 88 #[rv a4, iv (0 : Int32), rv b4, iv (0 : Int32), iv (2 : Int32), iv (0 : Int32), uu, uu] [(.int (0 : Int32)), (.ref b4), (.int x1)])) (fun t k => XS.iadd X0.here hx rfl (hb hby own_d17_87) rfl k) ?_
  obtain ⟨cl2, Ar2, q2, S2, M2, H2, G2⟩ := id B4
  have hin2 : ¬ ((0 : Int32) < 0 ∨ cl2.slots.size ≤ ((0 : Int32)).toNatClampNeg) := inb_of S2 ⟨by decide, by decide⟩
  refine ov (B := s₁.setTop (mkF m 89 #[rv a4, iv (0 : Int32), rv b4, iv (0 : Int32), iv (2 : Int32), iv (0 : Int32), uu, uu] [(.int (45 : Int32)), (.int x1)])) (fun t k => X0.baloadBytes hx (j := (0 : Int32)) (v := (.int (45 : Int32))) (by rw [e0]; exact Ar2.1) (State.isArrayOf_alike hZ.alike Ar2.2.1) Ar2.2.2 hin2 (Has.at H2 hin2 rfl) (g := (mkF m 88 #[rv a4, iv (0 : Int32), rv b4, iv (0 : Int32), iv (2 : Int32), iv (0 : Int32), uu, uu] [(.int (0 : Int32)), (.ref b4), (.int x1)])) rfl rfl (hb hby own_d17_88) _ k) ?_
  have hc89 : x1 = (45 : Int32) := hx1
  refine ov (B := s₁.setTop (mkF m 95 #[rv a4, iv (0 : Int32), rv b4, iv (0 : Int32), iv (2 : Int32), iv (0 : Int32), uu, uu] [])) (fun t k => XS.icmpYes X0.here hx rfl (pc0 := 89) (pc' := 95) rfl (hb hby own_d17_89) rfl (teq hc89).1 (by decide) (by decide) k) ?_
  refine ov (B := s₁.setTop (mkF m 98 #[rv a4, iv (0 : Int32), rv b4, iv (0 : Int32), iv (2 : Int32), iv (1 : Int32), uu, uu] [])) (fun t k => XS.iinc X0.here hx rfl (hb hby own_d17_95) rfl (l' := #[rv a4, iv (0 : Int32), rv b4, iv (0 : Int32), iv (2 : Int32), iv (1 : Int32), uu, uu]) rfl k) ?_
  refine oGO (n := 70) X0 hx (hb hby own_d17_98) (by decide) (by decide) ?_
  refine oIL (n := 72) X0 hx (hb hby own_d17_70) rfl rfl ?_
  refine oIL (n := 74) X0 hx (hb hby own_d17_72) rfl rfl ?_
  have hc74 : (1 : Int32) < (2 : Int32) := by decide
  refine ov (B := s₁.setTop (mkF m 77 #[rv a4, iv (0 : Int32), rv b4, iv (0 : Int32), iv (2 : Int32), iv (1 : Int32), uu, uu] [])) (fun t k => XS.icmpNo X0.here hx rfl (hb hby own_d17_74) rfl (tlt hc74).2.1 k) ?_
  refine oALN (n := 78) X0 hx (hb hby own_d17_77) rfl rfl rfl ?_
  refine oILN (n := 79) X0 hx (hb hby own_d17_78) rfl rfl ?_
  refine oIL (n := 81) X0 hx (hb hby own_d17_79) rfl rfl ?_
  refine ov (B := s₁.setTop (mkF m 82 #[rv a4, iv (0 : Int32), rv b4, iv (0 : Int32), iv (2 : Int32), iv (1 : Int32), uu, uu] [(.int (1 : Int32)), (.ref a4)])) (fun t k => XS.iadd X0.here hx rfl (hb hby own_d17_81) rfl k) ?_
  obtain ⟨cl3, Ar3, q3, S3, M3, H3, G3⟩ := id A4
  have hin3 : ¬ ((1 : Int32) < 0 ∨ cl3.slots.size ≤ ((1 : Int32)).toNatClampNeg) := inb_of S3 ⟨by decide, by decide⟩
  refine ov (B := s₁.setTop (mkF m 83 #[rv a4, iv (0 : Int32), rv b4, iv (0 : Int32), iv (2 : Int32), iv (1 : Int32), uu, uu] [(.int x2)])) (fun t k => X0.baloadBytes hx (j := (1 : Int32)) (v := (.int x2)) (by rw [e0]; exact Ar3.1) (State.isArrayOf_alike hZ.alike Ar3.2.1) Ar3.2.2 hin3 (Has.at H3 hin3 rfl) (g := (mkF m 82 #[rv a4, iv (0 : Int32), rv b4, iv (0 : Int32), iv (2 : Int32), iv (1 : Int32), uu, uu] [(.int (1 : Int32)), (.ref a4)])) rfl rfl (hb hby own_d17_82) _ k) ?_
  refine oALN (n := 84) X0 hx (hb hby own_d17_83) rfl rfl rfl ?_
  refine oILN (n := 85) X0 hx (hb hby own_d17_84) rfl rfl ?_
  refine oIL (n := 87) X0 hx (hb hby own_d17_85) rfl rfl ?_
  refine ov (B := s₁.setTop (mkF m 88 #[rv a4, iv (0 : Int32), rv b4, iv (0 : Int32), iv (2 : Int32), iv (1 : Int32), uu, uu] [(.int (1 : Int32)), (.ref b4), (.int x2)])) (fun t k => XS.iadd X0.here hx rfl (hb hby own_d17_87) rfl k) ?_
  obtain ⟨cl4, Ar4, q4, S4, M4, H4, G4⟩ := id B4
  have hin4 : ¬ ((1 : Int32) < 0 ∨ cl4.slots.size ≤ ((1 : Int32)).toNatClampNeg) := inb_of S4 ⟨by decide, by decide⟩
  refine ov (B := s₁.setTop (mkF m 89 #[rv a4, iv (0 : Int32), rv b4, iv (0 : Int32), iv (2 : Int32), iv (1 : Int32), uu, uu] [(.int (45 : Int32)), (.int x2)])) (fun t k => X0.baloadBytes hx (j := (1 : Int32)) (v := (.int (45 : Int32))) (by rw [e0]; exact Ar4.1) (State.isArrayOf_alike hZ.alike Ar4.2.1) Ar4.2.2 hin4 (Has.at H4 hin4 rfl) (g := (mkF m 88 #[rv a4, iv (0 : Int32), rv b4, iv (0 : Int32), iv (2 : Int32), iv (1 : Int32), uu, uu] [(.int (1 : Int32)), (.ref b4), (.int x2)])) rfl rfl (hb hby own_d17_88) _ k) ?_
  have hc89 : x2 = (45 : Int32) := hx2
  refine ov (B := s₁.setTop (mkF m 95 #[rv a4, iv (0 : Int32), rv b4, iv (0 : Int32), iv (2 : Int32), iv (1 : Int32), uu, uu] [])) (fun t k => XS.icmpYes X0.here hx rfl (pc0 := 89) (pc' := 95) rfl (hb hby own_d17_89) rfl (teq hc89).1 (by decide) (by decide) k) ?_
  refine ov (B := s₁.setTop (mkF m 98 #[rv a4, iv (0 : Int32), rv b4, iv (0 : Int32), iv (2 : Int32), iv (2 : Int32), uu, uu] [])) (fun t k => XS.iinc X0.here hx rfl (hb hby own_d17_95) rfl (l' := #[rv a4, iv (0 : Int32), rv b4, iv (0 : Int32), iv (2 : Int32), iv (2 : Int32), uu, uu]) rfl k) ?_
  refine oGO (n := 70) X0 hx (hb hby own_d17_98) (by decide) (by decide) ?_
  refine oIL (n := 72) X0 hx (hb hby own_d17_70) rfl rfl ?_
  refine oIL (n := 74) X0 hx (hb hby own_d17_72) rfl rfl ?_
  have hc74 : ¬ ((2 : Int32) < (2 : Int32)) := by decide
  refine ov (B := s₁.setTop (mkF m 101 #[rv a4, iv (0 : Int32), rv b4, iv (0 : Int32), iv (2 : Int32), iv (2 : Int32), uu, uu] [])) (fun t k => XS.icmpYes X0.here hx rfl (pc0 := 74) (pc' := 101) rfl (hb hby own_d17_74) rfl (flt hc74).2.1 (by decide) (by decide) k) ?_
  refine oIC (n := 102) X0 hx (-1 : Int32) (hb hby own_d17_101) (by decide) rfl ?_
  refine own_leaf X0 hx hlk (t := .int) Bd.returns rfl (Or.inl ⟨rfl, by simp, _, rfl⟩) (hb hby own_d17_102) (by decide) (by decide) ?_
  show QM Z a4 b4 k4 l4 x1 x2 x3 h0 n0 _ s₁.heap _
  rw [e0]
  refine ⟨?_, N0, rfl⟩
  rfl
theorem own_pd5 : parseMethodDescriptor "()I" = some ⟨[], some .int⟩ := by decide +kernel
theorem own_pd6 : parseMethodDescriptor "([BI[BII)I" = some ⟨[(.array .byte), .int, (.array .byte), .int, .int], some .int⟩ := by decide +kernel
theorem own_d14_0 : decode jdk_42_method_75_code 0 = .ok (.iload_n 2, 1) := by decide +kernel
theorem own_d14_1 : decode jdk_42_method_75_code 1 = .ok (.ifCond .lt 16, 3) := by decide +kernel
theorem own_d14_4 : decode jdk_42_method_75_code 4 = .ok (.iload_n 2, 1) := by decide +kernel
theorem own_d14_5 : decode jdk_42_method_75_code 5 = .ok (.aload_n 0, 1) := by decide +kernel
theorem own_d14_6 : decode jdk_42_method_75_code 6 = .ok (.invokevirtual 505, 3) := by decide +kernel
theorem own_d14_9 : decode jdk_42_method_75_code 9 = .ok (.aload_n 1, 1) := by decide +kernel
theorem own_d14_10 : decode jdk_42_method_75_code 10 = .ok (.invokevirtual 505, 3) := by decide +kernel
theorem own_d14_13 : decode jdk_42_method_75_code 13 = .ok (.isub, 1) := by decide +kernel
theorem own_d14_14 : decode jdk_42_method_75_code 14 = .ok (.if_icmp .le 5, 3) := by decide +kernel
theorem own_d14_19 : decode jdk_42_method_75_code 19 = .ok (.aload_n 0, 1) := by decide +kernel
theorem own_d14_20 : decode jdk_42_method_75_code 20 = .ok (.getfield 9, 3) := by decide +kernel
theorem own_d14_23 : decode jdk_42_method_75_code 23 = .ok (.astore_n 3, 1) := by decide +kernel
theorem own_d14_24 : decode jdk_42_method_75_code 24 = .ok (.aload_n 1, 1) := by decide +kernel
theorem own_d14_25 : decode jdk_42_method_75_code 25 = .ok (.getfield 9, 3) := by decide +kernel
theorem own_d14_28 : decode jdk_42_method_75_code 28 = .ok (.astore 4, 2) := by decide +kernel
theorem own_d14_30 : decode jdk_42_method_75_code 30 = .ok (.iconst 0, 1) := by decide +kernel
theorem own_d14_31 : decode jdk_42_method_75_code 31 = .ok (.istore 5, 2) := by decide +kernel
theorem own_d14_33 : decode jdk_42_method_75_code 33 = .ok (.aload 4, 2) := by decide +kernel
theorem own_d14_35 : decode jdk_42_method_75_code 35 = .ok (.arraylength, 1) := by decide +kernel
theorem own_d14_36 : decode jdk_42_method_75_code 36 = .ok (.istore 6, 2) := by decide +kernel
theorem own_d14_38 : decode jdk_42_method_75_code 38 = .ok (.aload_n 0, 1) := by decide +kernel
theorem own_d14_39 : decode jdk_42_method_75_code 39 = .ok (.invokevirtual 335, 3) := by decide +kernel
theorem own_d14_42 : decode jdk_42_method_75_code 42 = .ok (.istore 7, 2) := by decide +kernel
theorem own_d14_44 : decode jdk_42_method_75_code 44 = .ok (.iload 7, 2) := by decide +kernel
theorem own_d14_46 : decode jdk_42_method_75_code 46 = .ok (.aload_n 1, 1) := by decide +kernel
theorem own_d14_47 : decode jdk_42_method_75_code 47 = .ok (.invokevirtual 335, 3) := by decide +kernel
theorem own_d14_50 : decode jdk_42_method_75_code 50 = .ok (.if_icmp .ne 32, 3) := by decide +kernel
theorem own_d14_53 : decode jdk_42_method_75_code 53 = .ok (.iload 7, 2) := by decide +kernel
theorem own_d14_55 : decode jdk_42_method_75_code 55 = .ok (.iconst 1, 1) := by decide +kernel
theorem own_d14_56 : decode jdk_42_method_75_code 56 = .ok (.if_icmp .ne 7, 3) := by decide +kernel
theorem own_d14_63 : decode jdk_42_method_75_code 63 = .ok (.aload_n 3, 1) := by decide +kernel
theorem own_d14_64 : decode jdk_42_method_75_code 64 = .ok (.iload_n 2, 1) := by decide +kernel
theorem own_d14_65 : decode jdk_42_method_75_code 65 = .ok (.aload 4, 2) := by decide +kernel
theorem own_d14_67 : decode jdk_42_method_75_code 67 = .ok (.iconst 0, 1) := by decide +kernel
theorem own_d14_68 : decode jdk_42_method_75_code 68 = .ok (.iload 6, 2) := by decide +kernel
theorem own_d14_70 : decode jdk_42_method_75_code 70 = .ok (.invokestatic 607, 3) := by decide +kernel
theorem own_d14_73 : decode jdk_42_method_75_code 73 = .ok (.ifCond .ge 7, 3) := by decide +kernel
theorem own_d14_76 : decode jdk_42_method_75_code 76 = .ok (.iconst 1, 1) := by decide +kernel
theorem own_d14_77 : decode jdk_42_method_75_code 77 = .ok (.goto 4, 3) := by decide +kernel
theorem own_d14_81 : decode jdk_42_method_75_code 81 = .ok (.ireturn, 1) := by decide +kernel
theorem own_efW (m : MethodId) (x0 : Addr) (x1 : Addr) (x2 : Int32) : entryFrame m #[(.ref x0), (.ref x1), (.int x2)] 8 = mkF m 0 #[rv x0, rv x1, iv x2, uu, uu, uu, uu, uu] [] := by first | (simp [entryFrame, mkF, argsToLocals, Value.category]; done) | rfl
def QW (Z : State) (a5 : Addr) (p5 : Addr) (zc : Int32) (t5 : Addr) (k5 : ClassId) (s5 : Addr) (l5 : ClassId) (x1 : Int32) (x2 : Int32) (x3 : Int32) (h0 : Heap) (n0 : Nat) (v : Option Value) (h : Heap) (L : List Loc) : Prop := v = some (.int (1 : Int32)) ∧ Fr n0 L ∧ h = h0
set_option maxRecDepth 65536 in
set_option maxHeartbeats 40000000 in
theorem rmW (l : Launch) (Z : State) (a0 : Array Value) (hw : ∀ d ∈ tables_1, d.before a0 Z = true) (ws : List Jvm.Cond) (a5 : Addr) (p5 : Addr) (zc : Int32) (t5 : Addr) (k5 : ClassId) (s5 : Addr) (l5 : ClassId) (x1 : Int32) (x2 : Int32) (x3 : Int32) (h0 : Heap) (n0 : Nat) (Z0 : n0 ≤ h0.size) (O0 : Old Z n0 h0) (Scz : Sta Z Z.heap "java/lang/String" "COMPACT_STRINGS" "Z" (.int zc)) (hcz : ¬ zc = 0) (E_a5 : Exa Z h0 a5 "java/lang/String") (C_a5 : Fld Z h0 a5 "java/lang/String" "coder" "B" (.int (0 : Int32))) (V_a5 : Fld Z h0 a5 "java/lang/String" "value" "[B" (.ref t5)) (A_a5 : Arv Z h0 t5 k5 .byte (3 : Int32) [(.int x1), (.int x2), (.int x3)] (.int (0 : Int32))) (E_p5 : Exa Z h0 p5 "java/lang/String") (C_p5 : Fld Z h0 p5 "java/lang/String" "coder" "B" (.int (0 : Int32))) (V_p5 : Fld Z h0 p5 "java/lang/String" "value" "[B" (.ref s5)) (A_p5 : Arv Z h0 s5 l5 .byte (2 : Int32) [(.int (45 : Int32)), (.int (45 : Int32))] (.int (0 : Int32))) (hx1 : x1 = (45 : Int32)) (hx2 : x2 = (45 : Int32)) :
    MetFree l (⟨"java/lang/String", "startsWith", "(Ljava/lang/String;I)Z"⟩ : MethodName) (head1 (Jvm.Cond.code (⟨"java/lang/String", "startsWith", "(Ljava/lang/String;I)Z"⟩ : MethodName) jdk_42_method_75_code 8 (some .boolean) :: ws) ({ frames := 2, cells := 0, slots := 0, locals := 48 } : Room)) (fun a U => a = #[(.ref a5), (.ref p5), (.int (0 : Int32))] ∧ Z.Warmed39 U.vm ∧ U.heap = h0) (fun _ _ _ _ _ => True) (fun _ U o U' => ∃ v L, o = .returned v ∧ QW Z a5 p5 zc t5 k5 s5 l5 x1 x2 x3 h0 n0 v U'.heap L ∧ FrameEnd U o U' L ({ frames := 2, cells := 0, slots := 0, locals := 48 } : Room).cells ({ frames := 2, cells := 0, slots := 0, locals := 48 } : Room).slots) := by
  refine MetFree.of_bodySF (plainFor_of_name own_pn0) hisR ?_
  intro p e s m args below meth c s₁ Bd hml0 hP hK
  obtain ⟨rfl, hZ, hh⟩ := hP
  have hx := Bd.exec
  have hby := Bd.bytes
  have hlk : meth.locks = false := Bd.notSynchronized
  have hml : c.maxLocals = 8 := hml0
  have hown : s.vm.findClass "java/lang/String" = some m.cls := findClass_of_methodNamed Bd.named
  have hnm := (name_of_methodNamed Bd.named Bd.method).1
  have X0 : Stand p l e ({ frames := 2, cells := 0, slots := 0, locals := 48 } : Room) s m #[(.ref a5), (.ref p5), (.int (0 : Int32))] below meth c s₁ [] 0 0 := Stand.of_body Bd
  have e0 : s₁.heap = h0 := by rw [← hh, Bd.state]; rfl
  have N0 := Fr.nil n0
  refine own_body (A := s₁.setTop (mkF m 0 #[rv a5, rv p5, iv (0 : Int32), uu, uu, uu, uu, uu] [])) (Q := QW Z a5 p5 zc t5 k5 s5 l5 x1 x2 x3 h0 n0) (fun t k => castTop (own_efW m a5 p5 (0 : Int32)) k) ?_
  refine oILN (n := 1) X0 hx (hb hby own_d14_0) rfl rfl ?_
  have hc1 : ¬ ((0 : Int32) < (0 : Int32)) := by decide
  refine ov (B := s₁.setTop (mkF m 4 #[rv a5, rv p5, iv (0 : Int32), uu, uu, uu, uu, uu] [])) (fun t k => XS.ifNo X0.here hx rfl (hb hby own_d14_1) rfl ((if0 _ _).trans (flt hc1).1) k) ?_
  refine oILN (n := 5) X0 hx (hb hby own_d14_4) rfl rfl ?_
  refine oALN (n := 6) X0 hx (hb hby own_d14_5) rfl rfl rfl ?_
  obtain ⟨cq1, kq1, q1a, q1b, q1c⟩ := isOf hZ e0 E_a5
  obtain ⟨_, _, ⟨T1, L1, k1, n1⟩, -, X1, ⟨Lc1, hQ1, l1, y1, z1⟩, st1⟩ := X0.virtualBack hx (y := (⟨"java/lang/String", "length", "()I"⟩ : MethodName)) (z := (⟨"java/lang/String", "length", "()I"⟩ : MethodName)) hown (mvT hZ (oW hw 69 rfl)) (mvT hZ (oW hw 70 rfl)) (notFace_of_selects (args := #[]) (mvT hZ (oW hw 72 rfl))) (mvT hZ (oW hw 72 rfl)) (mvT hZ (oW hw 71 rfl)) (by decide) (backOf (W := 1) (rmLn3 l Z a0 hw [] a5 zc t5 k5 x1 x2 x3 h0 n0 Z0 O0 (by assumption) (by assumption) E_a5 C_a5 V_a5 A_a5) hZ (oW hw 73 rfl) (oW hw 2 rfl) (by decide) (by decide)) q1a q1c (g := (mkF m 6 #[rv a5, rv p5, iv (0 : Int32), uu, uu, uu, uu, uu] [(.ref a5), (.int (0 : Int32))])) rfl (by rw [hml]; rfl) (Steps.refl _) (argsL := []) (rest := [(.int (0 : Int32))]) (lenOf own_pd5 rfl) rfl (by show 2 * 0 + _ ≤ _; exact Nat.le_of_eq rfl) (hb hby own_d14_6) (fun _ _ => ⟨rfl, e0, (by decide : 0 + 0 ≤ _), (by decide : 0 + 0 ≤ _)⟩)
  dsimp only [Pt.U, Pt.locs, Pt.cells, Pt.slots] at X1 l1 y1 z1 st1 hQ1
  subst l1 y1 z1
  obtain ⟨rfl, Nq1, eq1⟩ := hQ1
  have N1 := Fr.app N0 Nq1
  refine ov (B := T1.setTop (mkF m 9 #[rv a5, rv p5, iv (0 : Int32), uu, uu, uu, uu, uu] [(.int (3 : Int32)), (.int (0 : Int32))])) (fun t k => st1.trans k) ?_
  refine oALN (n := 10) X1 hx (hb hby own_d14_9) rfl rfl rfl ?_
  obtain ⟨cq2, kq2, q2a, q2b, q2c⟩ := isOf hZ eq1 E_p5
  obtain ⟨_, _, ⟨T2, L2, k2, n2⟩, -, X2, ⟨Lc2, hQ2, l2, y2, z2⟩, st2⟩ := X1.virtualBack hx (y := (⟨"java/lang/String", "length", "()I"⟩ : MethodName)) (z := (⟨"java/lang/String", "length", "()I"⟩ : MethodName)) hown (mvT hZ (oW hw 69 rfl)) (mvT hZ (oW hw 70 rfl)) (notFace_of_selects (args := #[]) (mvT hZ (oW hw 72 rfl))) (mvT hZ (oW hw 72 rfl)) (mvT hZ (oW hw 71 rfl)) (by decide) (backOf (W := 2) (rmLn2 l Z a0 hw [] p5 zc s5 l5 h0 n0 Z0 O0 (by assumption) (by assumption) E_p5 C_p5 V_p5 A_p5) hZ (oW hw 73 rfl) (oW hw 2 rfl) (by decide) (by decide)) q2a q2c (g := (mkF m 10 #[rv a5, rv p5, iv (0 : Int32), uu, uu, uu, uu, uu] [(.ref p5), (.int (3 : Int32)), (.int (0 : Int32))])) rfl (by rw [hml]; rfl) (Steps.refl _) (argsL := []) (rest := [(.int (3 : Int32)), (.int (0 : Int32))]) (lenOf own_pd5 rfl) rfl (by show 2 * 0 + _ ≤ _; exact Nat.le_of_eq rfl) (hb hby own_d14_10) (fun _ _ => ⟨rfl, eq1, (by decide : (0 + 0) + 0 ≤ _), (by decide : (0 + 0) + 0 ≤ _)⟩)
  dsimp only [Pt.U, Pt.locs, Pt.cells, Pt.slots] at X2 l2 y2 z2 st2 hQ2
  subst l2 y2 z2
  obtain ⟨rfl, Nq2, eq2⟩ := hQ2
  have N2 := Fr.app N1 Nq2
  refine ov (B := T2.setTop (mkF m 13 #[rv a5, rv p5, iv (0 : Int32), uu, uu, uu, uu, uu] [(.int (2 : Int32)), (.int (3 : Int32)), (.int (0 : Int32))])) (fun t k => st2.trans k) ?_
  refine ov (B := T2.setTop (mkF m 14 #[rv a5, rv p5, iv (0 : Int32), uu, uu, uu, uu, uu] [(.int (1 : Int32)), (.int (0 : Int32))])) (fun t k => XS.isub X2.here hx rfl (hb hby own_d14_13) rfl k) ?_
  have hc14 : ¬ ((1 : Int32) < (0 : Int32)) := by decide
  refine ov (B := T2.setTop (mkF m 19 #[rv a5, rv p5, iv (0 : Int32), uu, uu, uu, uu, uu] [])) (fun t k => XS.icmpYes X2.here hx rfl (pc0 := 14) (pc' := 19) rfl (hb hby own_d14_14) rfl (flt hc14).2.2.2 (by decide) (by decide) k) ?_
  refine oALN (n := 20) X2 hx (hb hby own_d14_19) rfl rfl rfl ?_
  obtain ⟨T3, X3, e3, st3⟩ := getF X2 hx hZ hown (host := "") (Or.inl (oW hw 28 rfl)) Via.refl eq2 V_a5 (g := (mkF m 20 #[rv a5, rv p5, iv (0 : Int32), uu, uu, uu, uu, uu] [(.ref a5)])) rfl rfl (hb hby own_d14_20)
  refine ov (B := T3.setTop (mkF m 23 #[rv a5, rv p5, iv (0 : Int32), uu, uu, uu, uu, uu] [(.ref t5)])) (fun t k => st3 t k) ?_
  refine ov (B := T3.setTop (mkF m 24 #[rv a5, rv p5, iv (0 : Int32), rv t5, uu, uu, uu, uu] [])) (fun t k => XS.astoreN X3.here hx rfl (hb hby own_d14_23) rfl rfl (l' := #[rv a5, rv p5, iv (0 : Int32), rv t5, uu, uu, uu, uu]) rfl k) ?_
  refine oALN (n := 25) X3 hx (hb hby own_d14_24) rfl rfl rfl ?_
  obtain ⟨T4, X4, e4, st4⟩ := getF X3 hx hZ hown (host := "") (Or.inl (oW hw 28 rfl)) Via.refl e3 V_p5 (g := (mkF m 25 #[rv a5, rv p5, iv (0 : Int32), rv t5, uu, uu, uu, uu] [(.ref p5)])) rfl rfl (hb hby own_d14_25)
  refine ov (B := T4.setTop (mkF m 28 #[rv a5, rv p5, iv (0 : Int32), rv t5, uu, uu, uu, uu] [(.ref s5)])) (fun t k => st4 t k) ?_
  refine ov (B := T4.setTop (mkF m 30 #[rv a5, rv p5, iv (0 : Int32), rv t5, rv s5, uu, uu, uu] [])) (fun t k => XS.astore X4.here hx rfl (hb hby own_d14_28) rfl rfl (l' := #[rv a5, rv p5, iv (0 : Int32), rv t5, rv s5, uu, uu, uu]) rfl k) ?_
  refine oIC (n := 31) X4 hx (0 : Int32) (hb hby own_d14_30) (by decide) rfl ?_
  refine ov (B := T4.setTop (mkF m 33 #[rv a5, rv p5, iv (0 : Int32), rv t5, rv s5, iv (0 : Int32), uu, uu] [])) (fun t k => XS.istore X4.here hx rfl (hb hby own_d14_31) rfl (l' := #[rv a5, rv p5, iv (0 : Int32), rv t5, rv s5, iv (0 : Int32), uu, uu]) rfl k) ?_
  refine oAL (n := 35) X4 hx (hb hby own_d14_33) rfl rfl rfl ?_
  obtain ⟨cl5, Ar5, q5, S5, M5, H5, G5⟩ := id A_p5
  refine ov (B := T4.setTop (mkF m 36 #[rv a5, rv p5, iv (0 : Int32), rv t5, rv s5, iv (0 : Int32), uu, uu] [(.int (2 : Int32))])) (fun t k => X4.arraylength hx (by rw [e4]; exact Ar5.1) (State.isArrayOf_alike hZ.alike Ar5.2.1) (g := (mkF m 35 #[rv a5, rv p5, iv (0 : Int32), rv t5, rv s5, iv (0 : Int32), uu, uu] [(.ref s5)])) rfl rfl (hb hby own_d14_35) _ (by rw [len_of S5 M5]; exact k)) ?_
  refine ov (B := T4.setTop (mkF m 38 #[rv a5, rv p5, iv (0 : Int32), rv t5, rv s5, iv (0 : Int32), iv (2 : Int32), uu] [])) (fun t k => XS.istore X4.here hx rfl (hb hby own_d14_36) rfl (l' := #[rv a5, rv p5, iv (0 : Int32), rv t5, rv s5, iv (0 : Int32), iv (2 : Int32), uu]) rfl k) ?_
  refine oALN (n := 39) X4 hx (hb hby own_d14_38) rfl rfl rfl ?_
  obtain ⟨cq6, kq6, q6a, q6b, q6c⟩ := isOf hZ e4 E_a5
  obtain ⟨_, _, ⟨T6, L6, k6, n6⟩, -, X6, ⟨Lc6, hQ6, l6, y6, z6⟩, st6⟩ := X4.virtualBack hx (y := (⟨"java/lang/String", "coder", "()B"⟩ : MethodName)) (z := (⟨"java/lang/String", "coder", "()B"⟩ : MethodName)) hown (mvT hZ (oW hw 74 rfl)) (mvT hZ (oW hw 75 rfl)) (notFace_of_selects (args := #[]) (mvT hZ (oW hw 77 rfl))) (mvT hZ (oW hw 77 rfl)) (mvT hZ (oW hw 76 rfl)) (by decide) (backOf (W := 0) (rmK l Z a0 hw [] a5 zc h0 n0 Z0 O0 (by assumption) (by assumption) C_a5) hZ (oW hw 78 rfl) (oW hw 2 rfl) (by decide) (by decide)) q6a q6c (g := (mkF m 39 #[rv a5, rv p5, iv (0 : Int32), rv t5, rv s5, iv (0 : Int32), iv (2 : Int32), uu] [(.ref a5)])) rfl (by rw [hml]; rfl) (Steps.refl _) (argsL := []) (rest := []) (lenOf own_pd4 rfl) rfl (by show 2 * 0 + _ ≤ _; exact Nat.le_of_eq rfl) (hb hby own_d14_39) (fun _ _ => ⟨rfl, e4, (by decide : ((0 + 0) + 0) + 0 ≤ _), (by decide : ((0 + 0) + 0) + 0 ≤ _)⟩)
  dsimp only [Pt.U, Pt.locs, Pt.cells, Pt.slots] at X6 l6 y6 z6 st6 hQ6
  subst l6 y6 z6
  obtain ⟨rfl, Nq6, eq6⟩ := hQ6
  have N6 := Fr.app N2 Nq6
  refine ov (B := T6.setTop (mkF m 42 #[rv a5, rv p5, iv (0 : Int32), rv t5, rv s5, iv (0 : Int32), iv (2 : Int32), uu] [(.int (0 : Int32))])) (fun t k => st6.trans k) ?_
  refine ov (B := T6.setTop (mkF m 44 #[rv a5, rv p5, iv (0 : Int32), rv t5, rv s5, iv (0 : Int32), iv (2 : Int32), iv (0 : Int32)] [])) (fun t k => XS.istore X6.here hx rfl (hb hby own_d14_42) rfl (l' := #[rv a5, rv p5, iv (0 : Int32), rv t5, rv s5, iv (0 : Int32), iv (2 : Int32), iv (0 : Int32)]) rfl k) ?_
  refine oIL (n := 46) X6 hx (hb hby own_d14_44) rfl rfl ?_
  refine oALN (n := 47) X6 hx (hb hby own_d14_46) rfl rfl rfl ?_
  obtain ⟨cq7, kq7, q7a, q7b, q7c⟩ := isOf hZ eq6 E_p5
  obtain ⟨_, _, ⟨T7, L7, k7, n7⟩, -, X7, ⟨Lc7, hQ7, l7, y7, z7⟩, st7⟩ := X6.virtualBack hx (y := (⟨"java/lang/String", "coder", "()B"⟩ : MethodName)) (z := (⟨"java/lang/String", "coder", "()B"⟩ : MethodName)) hown (mvT hZ (oW hw 74 rfl)) (mvT hZ (oW hw 75 rfl)) (notFace_of_selects (args := #[]) (mvT hZ (oW hw 77 rfl))) (mvT hZ (oW hw 77 rfl)) (mvT hZ (oW hw 76 rfl)) (by decide) (backOf (W := 1) (rmK l Z a0 hw [] p5 zc h0 n0 Z0 O0 (by assumption) (by assumption) C_p5) hZ (oW hw 78 rfl) (oW hw 2 rfl) (by decide) (by decide)) q7a q7c (g := (mkF m 47 #[rv a5, rv p5, iv (0 : Int32), rv t5, rv s5, iv (0 : Int32), iv (2 : Int32), iv (0 : Int32)] [(.ref p5), (.int (0 : Int32))])) rfl (by rw [hml]; rfl) (Steps.refl _) (argsL := []) (rest := [(.int (0 : Int32))]) (lenOf own_pd4 rfl) rfl (by show 2 * 0 + _ ≤ _; exact Nat.le_of_eq rfl) (hb hby own_d14_47) (fun _ _ => ⟨rfl, eq6, (by decide : (((0 + 0) + 0) + 0) + 0 ≤ _), (by decide : (((0 + 0) + 0) + 0) + 0 ≤ _)⟩)
  dsimp only [Pt.U, Pt.locs, Pt.cells, Pt.slots] at X7 l7 y7 z7 st7 hQ7
  subst l7 y7 z7
  obtain ⟨rfl, Nq7, eq7⟩ := hQ7
  have N7 := Fr.app N6 Nq7
  refine ov (B := T7.setTop (mkF m 50 #[rv a5, rv p5, iv (0 : Int32), rv t5, rv s5, iv (0 : Int32), iv (2 : Int32), iv (0 : Int32)] [(.int (0 : Int32)), (.int (0 : Int32))])) (fun t k => st7.trans k) ?_
  have hc50 : (0 : Int32) = (0 : Int32) := by decide
  refine ov (B := T7.setTop (mkF m 53 #[rv a5, rv p5, iv (0 : Int32), rv t5, rv s5, iv (0 : Int32), iv (2 : Int32), iv (0 : Int32)] [])) (fun t k => XS.icmpNo X7.here hx rfl (hb hby own_d14_50) rfl (teq hc50).2 k) ?_
  refine oIL (n := 55) X7 hx (hb hby own_d14_53) rfl rfl ?_
  refine oIC (n := 56) X7 hx (1 : Int32) (hb hby own_d14_55) (by decide) rfl ?_
  have hc56 : ¬ ((0 : Int32) = (1 : Int32)) := by decide
  refine ov (B := T7.setTop (mkF m 63 #[rv a5, rv p5, iv (0 : Int32), rv t5, rv s5, iv (0 : Int32), iv (2 : Int32), iv (0 : Int32)] [])) (fun t k => XS.icmpYes X7.here hx rfl (pc0 := 56) (pc' := 63) rfl (hb hby own_d14_56) rfl (feq hc56).2 (by decide) (by decide) k) ?_
  refine oALN (n := 64) X7 hx (hb hby own_d14_63) rfl rfl rfl ?_
  refine oILN (n := 65) X7 hx (hb hby own_d14_64) rfl rfl ?_
  refine oAL (n := 67) X7 hx (hb hby own_d14_65) rfl rfl rfl ?_
  refine oIC (n := 68) X7 hx (0 : Int32) (hb hby own_d14_67) (by decide) rfl ?_
  refine oIL (n := 70) X7 hx (hb hby own_d14_68) rfl rfl ?_
  obtain ⟨_, _, ⟨T8, L8, k8, n8⟩, -, X8, ⟨Lc8, hQ8, l8, y8, z8⟩, st8⟩ := Jvm.LawKit.callS X7 hx (y := (⟨"jdk/internal/util/ArraysSupport", "mismatch", "([BI[BII)I"⟩ : MethodName)) hown (mvT hZ (oW hw 79 rfl)) (mvT hZ (oW hw 80 rfl)) (mvT hZ (oW hw 81 rfl)) (mvT hZ (oW hw 82 rfl)) (by decide) (backOf (W := 0) (rmM l Z a0 hw [] t5 s5 k5 l5 x1 x2 x3 h0 n0 Z0 A_a5 A_p5 hx1 hx2) hZ (oW hw 82 rfl) (oW hw 81 rfl) (by decide) (by decide)) (g := (mkF m 70 #[rv a5, rv p5, iv (0 : Int32), rv t5, rv s5, iv (0 : Int32), iv (2 : Int32), iv (0 : Int32)] [(.int (2 : Int32)), (.int (0 : Int32)), (.ref s5), (.int (0 : Int32)), (.ref t5)])) rfl (by rw [hml]; rfl) (argsL := [(.ref t5), (.int (0 : Int32)), (.ref s5), (.int (0 : Int32)), (.int (2 : Int32))]) (rest := []) (lenOf own_pd6 rfl) rfl (by show 2 * 0 + _ ≤ _; exact Nat.le_of_eq rfl) (hb hby own_d14_70) (fun _ _ => ⟨rfl, eq7, (by decide : ((((0 + 0) + 0) + 0) + 0) + 0 ≤ _), (by decide : ((((0 + 0) + 0) + 0) + 0) + 0 ≤ _)⟩)
  dsimp only [Pt.U, Pt.locs, Pt.cells, Pt.slots] at X8 l8 y8 z8 st8 hQ8
  subst l8 y8 z8
  obtain ⟨rfl, Nq8, eq8⟩ := hQ8
  have N8 := Fr.app N7 Nq8
  refine ov (B := T8.setTop (mkF m 73 #[rv a5, rv p5, iv (0 : Int32), rv t5, rv s5, iv (0 : Int32), iv (2 : Int32), iv (0 : Int32)] [(.int (-1 : Int32))])) (fun t k => st8 t k) ?_
  have hc73 : (-1 : Int32) < (0 : Int32) := by decide
  refine ov (B := T8.setTop (mkF m 76 #[rv a5, rv p5, iv (0 : Int32), rv t5, rv s5, iv (0 : Int32), iv (2 : Int32), iv (0 : Int32)] [])) (fun t k => XS.ifNo X8.here hx rfl (hb hby own_d14_73) rfl ((if0 _ _).trans (tlt hc73).2.1) k) ?_
  refine oIC (n := 77) X8 hx (1 : Int32) (hb hby own_d14_76) (by decide) rfl ?_
  refine oGO (n := 81) X8 hx (hb hby own_d14_77) (by decide) (by decide) ?_
  refine own_leaf X8 hx hlk (t := .boolean) Bd.returns (by decide) (Or.inl ⟨rfl, by simp, _, rfl⟩) (hb hby own_d14_81) (by decide) (by decide) ?_
  show QW Z a5 p5 zc t5 k5 s5 l5 x1 x2 x3 h0 n0 _ T8.heap _
  rw [eq8]
  refine ⟨?_, N8, rfl⟩
  rfl
theorem own_pd7 : parseMethodDescriptor "(Ljava/lang/String;I)Z" = some ⟨[(.object "java/lang/String"), .int], some .boolean⟩ := by decide +kernel
theorem own_d13_0 : decode jdk_42_method_76_code 0 = .ok (.aload_n 0, 1) := by decide +kernel
theorem own_d13_1 : decode jdk_42_method_76_code 1 = .ok (.aload_n 1, 1) := by decide +kernel
theorem own_d13_2 : decode jdk_42_method_76_code 2 = .ok (.iconst 0, 1) := by decide +kernel
theorem own_d13_3 : decode jdk_42_method_76_code 3 = .ok (.invokevirtual 624, 3) := by decide +kernel
theorem own_d13_6 : decode jdk_42_method_76_code 6 = .ok (.ireturn, 1) := by decide +kernel
theorem own_efS (m : MethodId) (x0 : Addr) (x1 : Addr) : entryFrame m #[(.ref x0), (.ref x1)] 2 = mkF m 0 #[rv x0, rv x1] [] := by first | (simp [entryFrame, mkF, argsToLocals, Value.category]; done) | rfl
def QS (Z : State) (a6 : Addr) (p6 : Addr) (zc : Int32) (t6 : Addr) (k6 : ClassId) (s6 : Addr) (l6 : ClassId) (x1 : Int32) (x2 : Int32) (x3 : Int32) (h0 : Heap) (n0 : Nat) (v : Option Value) (h : Heap) (L : List Loc) : Prop := v = some (.int (1 : Int32)) ∧ Fr n0 L ∧ h = h0
set_option maxRecDepth 65536 in
set_option maxHeartbeats 40000000 in
theorem rmS (l : Launch) (Z : State) (a0 : Array Value) (hw : ∀ d ∈ tables_1, d.before a0 Z = true) (ws : List Jvm.Cond) (a6 : Addr) (p6 : Addr) (zc : Int32) (t6 : Addr) (k6 : ClassId) (s6 : Addr) (l6 : ClassId) (x1 : Int32) (x2 : Int32) (x3 : Int32) (h0 : Heap) (n0 : Nat) (Z0 : n0 ≤ h0.size) (O0 : Old Z n0 h0) (Scz : Sta Z Z.heap "java/lang/String" "COMPACT_STRINGS" "Z" (.int zc)) (hcz : ¬ zc = 0) (E_a6 : Exa Z h0 a6 "java/lang/String") (C_a6 : Fld Z h0 a6 "java/lang/String" "coder" "B" (.int (0 : Int32))) (V_a6 : Fld Z h0 a6 "java/lang/String" "value" "[B" (.ref t6)) (A_a6 : Arv Z h0 t6 k6 .byte (3 : Int32) [(.int x1), (.int x2), (.int x3)] (.int (0 : Int32))) (E_p6 : Exa Z h0 p6 "java/lang/String") (C_p6 : Fld Z h0 p6 "java/lang/String" "coder" "B" (.int (0 : Int32))) (V_p6 : Fld Z h0 p6 "java/lang/String" "value" "[B" (.ref s6)) (A_p6 : Arv Z h0 s6 l6 .byte (2 : Int32) [(.int (45 : Int32)), (.int (45 : Int32))] (.int (0 : Int32))) (hx1 : x1 = (45 : Int32)) (hx2 : x2 = (45 : Int32)) :
    MetFree l (⟨"java/lang/String", "startsWith", "(Ljava/lang/String;)Z"⟩ : MethodName) (head1 (Jvm.Cond.code (⟨"java/lang/String", "startsWith", "(Ljava/lang/String;)Z"⟩ : MethodName) jdk_42_method_76_code 2 (some .boolean) :: ws) ({ frames := 3, cells := 0, slots := 0, locals := 72 } : Room)) (fun a U => a = #[(.ref a6), (.ref p6)] ∧ Z.Warmed39 U.vm ∧ U.heap = h0) (fun _ _ _ _ _ => True) (fun _ U o U' => ∃ v L, o = .returned v ∧ QS Z a6 p6 zc t6 k6 s6 l6 x1 x2 x3 h0 n0 v U'.heap L ∧ FrameEnd U o U' L ({ frames := 3, cells := 0, slots := 0, locals := 72 } : Room).cells ({ frames := 3, cells := 0, slots := 0, locals := 72 } : Room).slots) := by
  refine MetFree.of_bodySF (plainFor_of_name own_pn0) hisR ?_
  intro p e s m args below meth c s₁ Bd hml0 hP hK
  obtain ⟨rfl, hZ, hh⟩ := hP
  have hx := Bd.exec
  have hby := Bd.bytes
  have hlk : meth.locks = false := Bd.notSynchronized
  have hml : c.maxLocals = 2 := hml0
  have hown : s.vm.findClass "java/lang/String" = some m.cls := findClass_of_methodNamed Bd.named
  have hnm := (name_of_methodNamed Bd.named Bd.method).1
  have X0 : Stand p l e ({ frames := 3, cells := 0, slots := 0, locals := 72 } : Room) s m #[(.ref a6), (.ref p6)] below meth c s₁ [] 0 0 := Stand.of_body Bd
  have e0 : s₁.heap = h0 := by rw [← hh, Bd.state]; rfl
  have N0 := Fr.nil n0
  refine own_body (A := s₁.setTop (mkF m 0 #[rv a6, rv p6] [])) (Q := QS Z a6 p6 zc t6 k6 s6 l6 x1 x2 x3 h0 n0) (fun t k => castTop (own_efS m a6 p6) k) ?_
  refine oALN (n := 1) X0 hx (hb hby own_d13_0) rfl rfl rfl ?_
  refine oALN (n := 2) X0 hx (hb hby own_d13_1) rfl rfl rfl ?_
  refine oIC (n := 3) X0 hx (0 : Int32) (hb hby own_d13_2) (by decide) rfl ?_
  obtain ⟨cq1, kq1, q1a, q1b, q1c⟩ := isOf hZ e0 E_a6
  obtain ⟨_, _, ⟨T1, L1, k1, n1⟩, -, X1, ⟨Lc1, hQ1, l1, y1, z1⟩, st1⟩ := X0.virtualBack hx (y := (⟨"java/lang/String", "startsWith", "(Ljava/lang/String;I)Z"⟩ : MethodName)) (z := (⟨"java/lang/String", "startsWith", "(Ljava/lang/String;I)Z"⟩ : MethodName)) hown (mvT hZ (oW hw 64 rfl)) (mvT hZ (oW hw 65 rfl)) (notFace_of_selects (args := #[]) (mvT hZ (oW hw 67 rfl))) (mvT hZ (oW hw 67 rfl)) (mvT hZ (oW hw 66 rfl)) (by decide) (backOf (W := 0) (rmW l Z a0 hw [] a6 p6 zc t6 k6 s6 l6 x1 x2 x3 h0 n0 Z0 O0 (by assumption) (by assumption) E_a6 C_a6 V_a6 A_a6 E_p6 C_p6 V_p6 A_p6 hx1 hx2) hZ (oW hw 68 rfl) (oW hw 2 rfl) (by decide) (by decide)) q1a q1c (g := (mkF m 3 #[rv a6, rv p6] [(.int (0 : Int32)), (.ref p6), (.ref a6)])) rfl (by rw [hml]; rfl) (Steps.refl _) (argsL := [(.ref p6), (.int (0 : Int32))]) (rest := []) (lenOf own_pd7 rfl) rfl (by show 2 * 0 + _ ≤ _; exact Nat.le_of_eq rfl) (hb hby own_d13_3) (fun _ _ => ⟨rfl, e0, (by decide : 0 + 0 ≤ _), (by decide : 0 + 0 ≤ _)⟩)
  dsimp only [Pt.U, Pt.locs, Pt.cells, Pt.slots] at X1 l1 y1 z1 st1 hQ1
  subst l1 y1 z1
  obtain ⟨rfl, Nq1, eq1⟩ := hQ1
  have N1 := Fr.app N0 Nq1
  refine ov (B := T1.setTop (mkF m 6 #[rv a6, rv p6] [(.int (1 : Int32))])) (fun t k => st1.trans k) ?_
  refine own_leaf X1 hx hlk (t := .boolean) Bd.returns (by decide) (Or.inl ⟨rfl, by simp, _, rfl⟩) (hb hby own_d13_6) (by decide) (by decide) ?_
  show QS Z a6 p6 zc t6 k6 s6 l6 x1 x2 x3 h0 n0 _ T1.heap _
  rw [eq1]
  refine ⟨?_, N1, rfl⟩
  rfl
theorem own_pn5 : plainName "com/example/planmend/planmend/cli/Option" = true := by first | (simp [plainName, overriddenIn]; done) | decide +kernel
theorem own_pd8 : parseMethodDescriptor "()V" = some ⟨[], none⟩ := by decide +kernel
theorem own_pd9 : parseMethodDescriptor "(Ljava/lang/String;)Z" = some ⟨[(.object "java/lang/String")], some .boolean⟩ := by decide +kernel
theorem own_pd10 : parseMethodDescriptor "(Ljava/lang/Object;Ljava/lang/String;)Ljava/lang/Object;" = some ⟨[(.object "java/lang/Object"), (.object "java/lang/String")], some (.object "java/lang/Object")⟩ := by decide +kernel
theorem own_d11_0 : decode prog_2_method_1_code 0 = .ok (.aload_n 0, 1) := by decide +kernel
theorem own_d11_1 : decode prog_2_method_1_code 1 = .ok (.invokespecial 1, 3) := by decide +kernel
theorem own_d11_4 : decode prog_2_method_1_code 4 = .ok (.aload_n 1, 1) := by decide +kernel
theorem own_d11_5 : decode prog_2_method_1_code 5 = .ok (.ldc 7, 2) := by decide +kernel
theorem own_d11_7 : decode prog_2_method_1_code 7 = .ok (.invokevirtual 9, 3) := by decide +kernel
theorem own_d11_10 : decode prog_2_method_1_code 10 = .ok (.ifCond .eq 11, 3) := by decide +kernel
theorem own_d11_13 : decode prog_2_method_1_code 13 = .ok (.aload_n 1, 1) := by decide +kernel
theorem own_d11_14 : decode prog_2_method_1_code 14 = .ok (.invokevirtual 15, 3) := by decide +kernel
theorem own_d11_17 : decode prog_2_method_1_code 17 = .ok (.iconst 2, 1) := by decide +kernel
theorem own_d11_18 : decode prog_2_method_1_code 18 = .ok (.if_icmp .ne 17, 3) := by decide +kernel
theorem own_d11_35 : decode prog_2_method_1_code 35 = .ok (.aload_n 3, 1) := by decide +kernel
theorem own_d11_36 : decode prog_2_method_1_code 36 = .ok (.ldc 28, 2) := by decide +kernel
theorem own_d11_38 : decode prog_2_method_1_code 38 = .ok (.invokestatic 30, 3) := by decide +kernel
theorem own_d11_41 : decode prog_2_method_1_code 41 = .ok (.pop, 1) := by decide +kernel
theorem own_d11_42 : decode prog_2_method_1_code 42 = .ok (.aload_n 0, 1) := by decide +kernel
theorem own_d11_43 : decode prog_2_method_1_code 43 = .ok (.aload_n 1, 1) := by decide +kernel
theorem own_d11_44 : decode prog_2_method_1_code 44 = .ok (.putfield 36, 3) := by decide +kernel
theorem own_d11_47 : decode prog_2_method_1_code 47 = .ok (.aload_n 0, 1) := by decide +kernel
theorem own_d11_48 : decode prog_2_method_1_code 48 = .ok (.aload_n 2, 1) := by decide +kernel
theorem own_d11_49 : decode prog_2_method_1_code 49 = .ok (.putfield 42, 3) := by decide +kernel
theorem own_d11_52 : decode prog_2_method_1_code 52 = .ok (.aload_n 0, 1) := by decide +kernel
theorem own_d11_53 : decode prog_2_method_1_code 53 = .ok (.aload_n 3, 1) := by decide +kernel
theorem own_d11_54 : decode prog_2_method_1_code 54 = .ok (.putfield 45, 3) := by decide +kernel
theorem own_d11_57 : decode prog_2_method_1_code 57 = .ok (.aload_n 0, 1) := by decide +kernel
theorem own_d11_58 : decode prog_2_method_1_code 58 = .ok (.iload 4, 2) := by decide +kernel
theorem own_d11_60 : decode prog_2_method_1_code 60 = .ok (.putfield 47, 3) := by decide +kernel
theorem own_d11_63 : decode prog_2_method_1_code 63 = .ok (.return_, 1) := by decide +kernel
theorem own_efO1n (m : MethodId) (x0 : Addr) (x1 : Addr) (x3 : Addr) (x4 : Int32) : entryFrame m #[(.ref x0), (.ref x1), .null, (.ref x3), (.int x4)] 5 = mkF m 0 #[rv x0, rv x1, .val .null, rv x3, iv x4] [] := by first | (simp [entryFrame, mkF, argsToLocals, Value.category]; done) | rfl
def QO1n (Z : State) (a7 : Addr) (n7 : Addr) (d7 : Addr) (q7 : Int32) (u0 : Value) (u1 : Value) (u2 : Value) (u3 : Value) (zc : Int32) (t7 : Addr) (k7 : ClassId) (x1 : Int32) (x2 : Int32) (x3 : Int32) (Ts : List String) (h0 : Heap) (n0 : Nat) (v : Option Value) (h : Heap) (L : List Loc) (vm : Vm) : Prop := ∃ (lc : Addr) (lt : Addr) (lk : ClassId), v = none ∧ Fr n0 L ∧ Keep h0 h [a7] ∧ (Lit (Z.setVm vm) "com/example/planmend/planmend/cli/Option" 7 lc) ∧ (Fld Z h a7 "com/example/planmend/planmend/cli/Option" "name" "Ljava/lang/String;" (.ref n7)) ∧ (Fld Z h a7 "com/example/planmend/planmend/cli/Option" "value" "Ljava/lang/String;" .null) ∧ (Fld Z h a7 "com/example/planmend/planmend/cli/Option" "description" "Ljava/lang/String;" (.ref d7)) ∧ (Fld Z h a7 "com/example/planmend/planmend/cli/Option" "required" "Z" (.int q7)) ∧ (Exa Z h lc "java/lang/String") ∧ (Fld Z h lc "java/lang/String" "coder" "B" (.int (0 : Int32))) ∧ (Fld Z h lc "java/lang/String" "value" "[B" (.ref lt)) ∧ (Arv Z h lt lk .byte (2 : Int32) [(.int (45 : Int32)), (.int (45 : Int32))] (.int (0 : Int32)))
set_option maxRecDepth 65536 in
set_option maxHeartbeats 40000000 in
theorem rmO1n (l : Launch) (Z : State) (a0 : Array Value) (hw : ∀ d ∈ tables_1, d.before a0 Z = true) (ws : List Jvm.Cond) (a7 : Addr) (n7 : Addr) (d7 : Addr) (q7 : Int32) (u0 : Value) (u1 : Value) (u2 : Value) (u3 : Value) (zc : Int32) (t7 : Addr) (k7 : ClassId) (x1 : Int32) (x2 : Int32) (x3 : Int32) (Ts : List String) (h0 : Heap) (n0 : Nat) (Z0 : n0 ≤ h0.size) (O0 : Old Z n0 h0) (Scz : Sta Z Z.heap "java/lang/String" "COMPACT_STRINGS" "Z" (.int zc)) (hcz : ¬ zc = 0) (hcw : Jvm.Lit.compactW.before a0 Z = true) (hco : Jvm.Lit.constHeld Z "com/example/planmend/planmend/cli/Option" 7) (E7 : Exa Z h0 a7 "com/example/planmend/planmend/cli/Option") (F70 : Fld Z h0 a7 "com/example/planmend/planmend/cli/Option" "name" "Ljava/lang/String;" u0) (F71 : Fld Z h0 a7 "com/example/planmend/planmend/cli/Option" "value" "Ljava/lang/String;" u1) (F72 : Fld Z h0 a7 "com/example/planmend/planmend/cli/Option" "description" "Ljava/lang/String;" u2) (F73 : Fld Z h0 a7 "com/example/planmend/planmend/cli/Option" "required" "Z" u3) (g_a7 : n0 ≤ a7) (E_n7 : Exa Z h0 n7 "java/lang/String") (C_n7 : Fld Z h0 n7 "java/lang/String" "coder" "B" (.int (0 : Int32))) (V_n7 : Fld Z h0 n7 "java/lang/String" "value" "[B" (.ref t7)) (A_n7 : Arv Z h0 t7 k7 .byte (3 : Int32) [(.int x1), (.int x2), (.int x3)] (.int (0 : Int32))) (hx1 : x1 = (45 : Int32)) (hx2 : x2 = (45 : Int32)) (hq7 : q7 = 0 ∨ q7 = 1) (hts : "--" ∉ Ts) :
    MetFree l (⟨"com/example/planmend/planmend/cli/Option", "<init>", "(Ljava/lang/String;Ljava/lang/String;Ljava/lang/String;Z)V"⟩ : MethodName) (head1 (Jvm.Cond.code (⟨"com/example/planmend/planmend/cli/Option", "<init>", "(Ljava/lang/String;Ljava/lang/String;Ljava/lang/String;Z)V"⟩ : MethodName) prog_2_method_1_code 5 none :: ws) ({ frames := 4, cells := 4, slots := 60, locals := 90 } : Room)) (fun a U => a = #[(.ref a7), (.ref n7), .null, (.ref d7), (.int q7)] ∧ Z.Warmed39 U.vm ∧ U.heap = h0 ∧ (IB Z U.vm Ts)) (fun _ _ _ _ _ => True) (fun _ U o U' => ∃ v L, o = .returned v ∧ QO1n Z a7 n7 d7 q7 u0 u1 u2 u3 zc t7 k7 x1 x2 x3 Ts h0 n0 v U'.heap L U'.vm ∧ ReturnedEndW U o U' L ({ frames := 4, cells := 4, slots := 60, locals := 90 } : Room).cells ({ frames := 4, cells := 4, slots := 60, locals := 90 } : Room).slots) := by
  refine MetFree.of_bodySF (plainFor_of_name own_pn5) hisR ?_
  intro p e s m args below meth c s₁ Bd hml0 hP hK
  obtain ⟨rfl, hZ, hh, hV⟩ := hP
  have hx := Bd.exec
  have hby := Bd.bytes
  have hlk : meth.locks = false := Bd.notSynchronized
  have hml : c.maxLocals = 5 := hml0
  have hown : s.vm.findClass "com/example/planmend/planmend/cli/Option" = some m.cls := findClass_of_methodNamed Bd.named
  have hnm := (name_of_methodNamed Bd.named Bd.method).1
  have X0 : Stand p l e ({ frames := 4, cells := 4, slots := 60, locals := 90 } : Room) (s.setVm s.vm) m #[(.ref a7), (.ref n7), .null, (.ref d7), (.int q7)] below meth c s₁ [] 0 0 := Stand.of_body Bd
  have e0 : s₁.heap = h0 := by rw [← hh, Bd.state]; rfl
  have N0 := Fr.nil n0
  have hS0 : s.Since s.vm h0.size := (State.WarmedH.refl s).since _
  have hk0 : h0.size ≤ h0.size := Nat.le_refl _
  have wS : ∀ a ∈ Bundle.stringAtoms, a.before a0 Z = true := by
    intro a ha
    simp only [Bundle.stringAtoms, List.mem_cons, List.not_mem_nil, or_false] at ha
    rcases ha with rfl | rfl | rfl | rfl | rfl | rfl | rfl
    · exact (oW hw 2 rfl)
    · exact (oW hw 1 rfl)
    · exact (oW hw 19 rfl)
    · exact (oW hw 29 rfl)
    · exact (oW hw 27 rfl)
    · exact (oW hw 57 rfl)
    · exact (oW hw 58 rfl)
  refine own_bodyV (A := s₁.setTop (mkF m 0 #[rv a7, rv n7, .val .null, rv d7, iv q7] [])) (Q := QO1n Z a7 n7 d7 q7 u0 u1 u2 u3 zc t7 k7 x1 x2 x3 Ts h0 n0) (fun t k => castTop (own_efO1n m a7 n7 d7 q7) k) ?_
  refine oALN (n := 1) X0 hx (hb hby own_d11_0) rfl rfl rfl ?_
  obtain ⟨_, _, ⟨T1, L1, k1, n1⟩, -, X1, ⟨Lc1, hQ1, l1, y1, z1⟩, st1⟩ := X0.specialBack hx (y := (⟨"java/lang/Record", "<init>", "()V"⟩ : MethodName)) rfl hown (mvT hZ (oW hw 50 rfl)) (mvT hZ (oW hw 51 rfl)) (mvT hZ (oW hw 54 rfl)) (by decide) (backOf (W := 0) (rmR l Z a0 hw [] a7 h0 n0 Z0 ) hZ (oW hw 54 rfl) (oW hw 53 rfl) (by decide) (by decide)) (g := (mkF m 1 #[rv a7, rv n7, .val .null, rv d7, iv q7] [(.ref a7)])) rfl (by rw [hml]; rfl) (Steps.refl _) (a := a7) (argsL := []) (rest := []) (lenOf own_pd8 rfl) rfl (by show 2 * 0 + _ ≤ _; exact Nat.le_of_eq rfl) (hb hby own_d11_1) (fun _ _ => ⟨rfl, e0, (by decide : 0 + 0 ≤ _), (by decide : 0 + 0 ≤ _)⟩)
  dsimp only [Pt.U, Pt.locs, Pt.cells, Pt.slots] at X1 l1 y1 z1 st1 hQ1
  subst l1 y1 z1
  obtain ⟨rfl, Nq1, eq1, pL_1⟩ := hQ1
  have N1 := Fr.app N0 Nq1
  subst pL_1
  refine ov (B := T1.setTop (mkF m 4 #[rv a7, rv n7, .val .null, rv d7, iv q7] [])) (fun t k => st1.trans k) ?_
  refine oALN (n := 5) X1 hx (hb hby own_d11_4) rfl rfl rfl ?_
  obtain ⟨c2, T2, h2, k2, t2, kt2, X2, e2, E2, hS2, hk2, hZ, hown, gE2, gC2, gV2, gA2, la2, lb2, hI2, hlit_c2, st2⟩ := ldcSVL X1 hx hZ hown (oW hw 56 rfl) wS eq1 hS0 hk0 (Fr.nil _) (fun b cl q => by show s.heap[b]? = some cl; rw [hh]; exact O0.2.2 b cl q) hV hts hco hcw (vs := ([(45 : Int32), (45 : Int32)] : List Int32).map Value.int) (z := (2 : Int32)) (by decide) (by decide) (by decide) (g := (mkF m 5 #[rv a7, rv n7, .val .null, rv d7, iv q7] [(.ref n7)])) rfl (hb hby own_d11_5) (n := 8) (by decide) (by decide) (by decide) (by decide)
  refine ov (B := T2.setTop (mkF m 7 #[rv a7, rv n7, .val .null, rv d7, iv q7] [(.ref c2), (.ref n7)])) (fun t k => st2 t k) ?_
  obtain ⟨cq3, kq3, q3a, q3b, q3c⟩ := isOf hZ e2 (E_n7.ext E2)
  obtain ⟨_, _, ⟨T3, L3, k3, n3⟩, -, X3, ⟨Lc3, hQ3, l3, y3, z3⟩, st3⟩ := X2.virtualBack hx (y := (⟨"java/lang/String", "startsWith", "(Ljava/lang/String;)Z"⟩ : MethodName)) (z := (⟨"java/lang/String", "startsWith", "(Ljava/lang/String;)Z"⟩ : MethodName)) hown (mvT hZ (oW hw 59 rfl)) (mvT hZ (oW hw 60 rfl)) (notFace_of_selects (args := #[]) (mvT hZ (oW hw 62 rfl))) (mvT hZ (oW hw 62 rfl)) (mvT hZ (oW hw 61 rfl)) (by decide) (backOf (W := 0) (rmS l Z a0 hw [] n7 c2 zc t7 k7 t2 kt2 x1 x2 x3 h2 n0 (Nat.le_trans Z0 E2.1) (O0.ext E2) (by assumption) (by assumption) (E_n7.ext E2) (C_n7.ext E2) (V_n7.ext E2) (A_n7.ext E2) gE2 gC2 gV2 gA2 hx1 hx2) hZ (oW hw 63 rfl) (oW hw 2 rfl) (by decide) (by decide)) q3a q3c (g := (mkF m 7 #[rv a7, rv n7, .val .null, rv d7, iv q7] [(.ref c2), (.ref n7)])) rfl (by rw [hml]; rfl) (Steps.refl _) (argsL := [(.ref c2)]) (rest := []) (lenOf own_pd9 rfl) rfl (by show 2 * 0 + _ ≤ _; exact Nat.le_of_eq rfl) (hb hby own_d11_7) (fun _ _ => ⟨rfl, e2, (by decide : ((0 + 0) + 2) + 0 ≤ _), (by decide : ((0 + 0) + (8 + 4)) + 0 ≤ _)⟩)
  dsimp only [Pt.U, Pt.locs, Pt.cells, Pt.slots] at X3 l3 y3 z3 st3 hQ3
  subst l3 y3 z3
  obtain ⟨rfl, Nq3, eq3⟩ := hQ3
  have N3 := Fr.app N1 Nq3
  refine ov (B := T3.setTop (mkF m 10 #[rv a7, rv n7, .val .null, rv d7, iv q7] [(.int (1 : Int32))])) (fun t k => st3.trans k) ?_
  have hc10 : ¬ ((1 : Int32) = (0 : Int32)) := by decide
  refine ov (B := T3.setTop (mkF m 13 #[rv a7, rv n7, .val .null, rv d7, iv q7] [])) (fun t k => XS.ifNo X3.here hx rfl (hb hby own_d11_10) rfl ((if0 _ _).trans (feq hc10).1) k) ?_
  refine oALN (n := 14) X3 hx (hb hby own_d11_13) rfl rfl rfl ?_
  obtain ⟨cq4, kq4, q4a, q4b, q4c⟩ := isOf hZ eq3 (E_n7.ext E2)
  obtain ⟨_, _, ⟨T4, L4, k4, n4⟩, -, X4, ⟨Lc4, hQ4, l4, y4, z4⟩, st4⟩ := X3.virtualBack hx (y := (⟨"java/lang/String", "length", "()I"⟩ : MethodName)) (z := (⟨"java/lang/String", "length", "()I"⟩ : MethodName)) hown (mvT hZ (oW hw 83 rfl)) (mvT hZ (oW hw 70 rfl)) (notFace_of_selects (args := #[]) (mvT hZ (oW hw 72 rfl))) (mvT hZ (oW hw 72 rfl)) (mvT hZ (oW hw 71 rfl)) (by decide) (backOf (W := 0) (rmLn3 l Z a0 hw [] n7 zc t7 k7 x1 x2 x3 h2 n0 (Nat.le_trans Z0 E2.1) (O0.ext E2) (by assumption) (by assumption) (E_n7.ext E2) (C_n7.ext E2) (V_n7.ext E2) (A_n7.ext E2)) hZ (oW hw 73 rfl) (oW hw 2 rfl) (by decide) (by decide)) q4a q4c (g := (mkF m 14 #[rv a7, rv n7, .val .null, rv d7, iv q7] [(.ref n7)])) rfl (by rw [hml]; rfl) (Steps.refl _) (argsL := []) (rest := []) (lenOf own_pd5 rfl) rfl (by show 2 * 0 + _ ≤ _; exact Nat.le_of_eq rfl) (hb hby own_d11_14) (fun _ _ => ⟨rfl, eq3, (by decide : (((0 + 0) + 2) + 0) + 0 ≤ _), (by decide : (((0 + 0) + (8 + 4)) + 0) + 0 ≤ _)⟩)
  dsimp only [Pt.U, Pt.locs, Pt.cells, Pt.slots] at X4 l4 y4 z4 st4 hQ4
  subst l4 y4 z4
  obtain ⟨rfl, Nq4, eq4⟩ := hQ4
  have N4 := Fr.app N3 Nq4
  refine ov (B := T4.setTop (mkF m 17 #[rv a7, rv n7, .val .null, rv d7, iv q7] [(.int (3 : Int32))])) (fun t k => st4.trans k) ?_
  refine oIC (n := 18) X4 hx (2 : Int32) (hb hby own_d11_17) (by decide) rfl ?_
  have hc18 : ¬ ((3 : Int32) = (2 : Int32)) := by decide
  refine ov (B := T4.setTop (mkF m 35 #[rv a7, rv n7, .val .null, rv d7, iv q7] [])) (fun t k => XS.icmpYes X4.here hx rfl (pc0 := 18) (pc' := 35) rfl (hb hby own_d11_18) rfl (feq hc18).2 (by decide) (by decide) k) ?_
  refine oALN (n := 36) X4 hx (hb hby own_d11_35) rfl rfl rfl ?_
  obtain ⟨c5, T5, h5, k5, X5, e5, E5, hS5, hk5, hZ, hown, hwm5, st5⟩ := own_ldcS2 X4 hx hZ hown (oW hw 84 rfl) wS eq4 hS2 hk2 (g := (mkF m 36 #[rv a7, rv n7, .val .null, rv d7, iv q7] [(.ref d7)])) rfl (hb hby own_d11_36) (n := 44) (by decide) (by decide) (by decide) (by decide)
  have hlit5_c2 := Lit.stays (s := s) hlit_c2 hwm5
  refine ov (B := T5.setTop (mkF m 38 #[rv a7, rv n7, .val .null, rv d7, iv q7] [(.ref c5), (.ref d7)])) (fun t k => st5 t k) ?_
  obtain ⟨_, _, ⟨T6, L6, k6, n6⟩, -, X6, ⟨Lc6, hQ6, l6, y6, z6⟩, st6⟩ := Jvm.LawKit.callS X5 hx (y := (⟨"java/util/Objects", "requireNonNull", "(Ljava/lang/Object;Ljava/lang/String;)Ljava/lang/Object;"⟩ : MethodName)) hown (mvT hZ (oW hw 85 rfl)) (mvT hZ (oW hw 86 rfl)) (mvT hZ (oW hw 87 rfl)) (mvT hZ (oW hw 88 rfl)) (by decide) (backOf (W := 0) (rmN l Z a0 hw [] d7 c5 h5 n0 (Nat.le_trans (Nat.le_trans Z0 E2.1) E5.1) ) hZ (oW hw 88 rfl) (oW hw 87 rfl) (by decide) (by decide)) (g := (mkF m 38 #[rv a7, rv n7, .val .null, rv d7, iv q7] [(.ref c5), (.ref d7)])) rfl (by rw [hml]; rfl) (argsL := [(.ref d7), (.ref c5)]) (rest := []) (lenOf own_pd10 rfl) rfl (by show 2 * 0 + _ ≤ _; exact Nat.le_of_eq rfl) (hb hby own_d11_38) (fun _ _ => ⟨rfl, e5, (by decide : (((((0 + 0) + 2) + 0) + 0) + 2) + 0 ≤ _), (by decide : (((((0 + 0) + (8 + 4)) + 0) + 0) + (44 + 4)) + 0 ≤ _)⟩)
  dsimp only [Pt.U, Pt.locs, Pt.cells, Pt.slots] at X6 l6 y6 z6 st6 hQ6
  subst l6 y6 z6
  obtain ⟨rfl, Nq6, eq6⟩ := hQ6
  have N6 := Fr.app N4 Nq6
  refine ov (B := T6.setTop (mkF m 41 #[rv a7, rv n7, .val .null, rv d7, iv q7] [(.ref d7)])) (fun t k => st6 t k) ?_
  refine oPO (n := 42) X6 hx (hb hby own_d11_41) rfl rfl ?_
  refine oALN (n := 43) X6 hx (hb hby own_d11_42) rfl rfl rfl ?_
  refine oALN (n := 44) X6 hx (hb hby own_d11_43) rfl rfl rfl ?_
  obtain ⟨T7, h7, X7, e7, W7, st7⟩ := putF X6 hx hZ hown (host := "") (Or.inl (oW hw 89 rfl)) Via.refl eq6 ((F70.ext E2).ext E5) ((E7.ext E2).ext E5) (Or.inr ⟨(oW hw 90 rfl), rfl, hnm⟩) (oW hw 45 rfl) (ty := (.object "java/lang/String")) (by decide) rfl rfl (g := (mkF m 44 #[rv a7, rv n7, .val .null, rv d7, iv q7] [(.ref n7), (.ref a7)])) rfl rfl (hb hby own_d11_44)
  have Fw7 := ((F70.ext E2).ext E5).same W7
  have N7 := Fr.snoc X7 N6 g_a7
  refine ov (B := T7.setTop (mkF m 47 #[rv a7, rv n7, .val .null, rv d7, iv q7] [])) (fun t k => st7 t k) ?_
  refine oALN (n := 48) X7 hx (hb hby own_d11_47) rfl rfl rfl ?_
  refine oALN (n := 49) X7 hx (hb hby own_d11_48) rfl rfl rfl ?_
  obtain ⟨T8, h8, X8, e8, W8, st8⟩ := putF X7 hx hZ hown (host := "") (Or.inl (oW hw 91 rfl)) Via.refl e7 (((F71.ext E2).ext E5).other W7 (Or.inr (slot_ne (Or.inr (oW hw 92 rfl)) (Or.inr (oW hw 90 rfl)) (by decide +kernel) (t := (.object "java/lang/String")) (t' := (.object "java/lang/String")) (by decide +kernel) (by decide +kernel)))) (((E7.ext E2).ext E5).wr W7) (Or.inr ⟨(oW hw 92 rfl), rfl, hnm⟩) (oW hw 45 rfl) (ty := (.object "java/lang/String")) (by decide) rfl rfl (g := (mkF m 49 #[rv a7, rv n7, .val .null, rv d7, iv q7] [.null, (.ref a7)])) rfl rfl (hb hby own_d11_49)
  have Fw8 := (((F71.ext E2).ext E5).other W7 (Or.inr (slot_ne (Or.inr (oW hw 92 rfl)) (Or.inr (oW hw 90 rfl)) (by decide +kernel) (t := (.object "java/lang/String")) (t' := (.object "java/lang/String")) (by decide +kernel) (by decide +kernel)))).same W8
  have N8 := Fr.snoc X8 N7 g_a7
  refine ov (B := T8.setTop (mkF m 52 #[rv a7, rv n7, .val .null, rv d7, iv q7] [])) (fun t k => st8 t k) ?_
  refine oALN (n := 53) X8 hx (hb hby own_d11_52) rfl rfl rfl ?_
  refine oALN (n := 54) X8 hx (hb hby own_d11_53) rfl rfl rfl ?_
  obtain ⟨T9, h9, X9, e9, W9, st9⟩ := putF X8 hx hZ hown (host := "") (Or.inl (oW hw 93 rfl)) Via.refl e8 ((((F72.ext E2).ext E5).other W7 (Or.inr (slot_ne (Or.inr (oW hw 94 rfl)) (Or.inr (oW hw 90 rfl)) (by decide +kernel) (t := (.object "java/lang/String")) (t' := (.object "java/lang/String")) (by decide +kernel) (by decide +kernel)))).other W8 (Or.inr (slot_ne (Or.inr (oW hw 94 rfl)) (Or.inr (oW hw 92 rfl)) (by decide +kernel) (t := (.object "java/lang/String")) (t' := (.object "java/lang/String")) (by decide +kernel) (by decide +kernel)))) ((((E7.ext E2).ext E5).wr W7).wr W8) (Or.inr ⟨(oW hw 94 rfl), rfl, hnm⟩) (oW hw 45 rfl) (ty := (.object "java/lang/String")) (by decide) rfl rfl (g := (mkF m 54 #[rv a7, rv n7, .val .null, rv d7, iv q7] [(.ref d7), (.ref a7)])) rfl rfl (hb hby own_d11_54)
  have Fw9 := ((((F72.ext E2).ext E5).other W7 (Or.inr (slot_ne (Or.inr (oW hw 94 rfl)) (Or.inr (oW hw 90 rfl)) (by decide +kernel) (t := (.object "java/lang/String")) (t' := (.object "java/lang/String")) (by decide +kernel) (by decide +kernel)))).other W8 (Or.inr (slot_ne (Or.inr (oW hw 94 rfl)) (Or.inr (oW hw 92 rfl)) (by decide +kernel) (t := (.object "java/lang/String")) (t' := (.object "java/lang/String")) (by decide +kernel) (by decide +kernel)))).same W9
  have N9 := Fr.snoc X9 N8 g_a7
  refine ov (B := T9.setTop (mkF m 57 #[rv a7, rv n7, .val .null, rv d7, iv q7] [])) (fun t k => st9 t k) ?_
  refine oALN (n := 58) X9 hx (hb hby own_d11_57) rfl rfl rfl ?_
  refine oIL (n := 60) X9 hx (hb hby own_d11_58) rfl rfl ?_
  obtain ⟨T10, h10, X10, e10, W10, st10⟩ := putFN X9 hx hZ hown (oW hw 95 rfl) Via.refl e9 (((((F73.ext E2).ext E5).other W7 (Or.inr (slot_ne (Or.inr (oW hw 96 rfl)) (Or.inr (oW hw 90 rfl)) (by decide +kernel) (t := .boolean) (t' := (.object "java/lang/String")) (by decide +kernel) (by decide +kernel)))).other W8 (Or.inr (slot_ne (Or.inr (oW hw 96 rfl)) (Or.inr (oW hw 92 rfl)) (by decide +kernel) (t := .boolean) (t' := (.object "java/lang/String")) (by decide +kernel) (by decide +kernel)))).other W9 (Or.inr (slot_ne (Or.inr (oW hw 96 rfl)) (Or.inr (oW hw 94 rfl)) (by decide +kernel) (t := .boolean) (t' := (.object "java/lang/String")) (by decide +kernel) (by decide +kernel)))) (((((E7.ext E2).ext E5).wr W7).wr W8).wr W9) (Or.inr ⟨(oW hw 96 rfl), rfl, hnm⟩) (oW hw 45 rfl) (ty := .boolean) (v' := (.int q7)) (by decide) (own_b1 (by first | assumption | (simp; done))) (own_fb (by first | assumption | (simp; done))) (g := (mkF m 60 #[rv a7, rv n7, .val .null, rv d7, iv q7] [(.int q7), (.ref a7)])) rfl rfl (hb hby own_d11_60)
  have Fw10 := (((((F73.ext E2).ext E5).other W7 (Or.inr (slot_ne (Or.inr (oW hw 96 rfl)) (Or.inr (oW hw 90 rfl)) (by decide +kernel) (t := .boolean) (t' := (.object "java/lang/String")) (by decide +kernel) (by decide +kernel)))).other W8 (Or.inr (slot_ne (Or.inr (oW hw 96 rfl)) (Or.inr (oW hw 92 rfl)) (by decide +kernel) (t := .boolean) (t' := (.object "java/lang/String")) (by decide +kernel) (by decide +kernel)))).other W9 (Or.inr (slot_ne (Or.inr (oW hw 96 rfl)) (Or.inr (oW hw 94 rfl)) (by decide +kernel) (t := .boolean) (t' := (.object "java/lang/String")) (by decide +kernel) (by decide +kernel)))).same W10
  have N10 := Fr.snoc X10 N9 g_a7
  refine ov (B := T10.setTop (mkF m 63 #[rv a7, rv n7, .val .null, rv d7, iv q7] [])) (fun t k => st10 t k) ?_
  refine own_leafVV X10 hx hlk hS5 (by rw [e10]; exact (Nat.le_trans (Nat.le_trans (Nat.le_trans (Nat.le_trans hk5 (Keep.of_wr W7).1) (Keep.of_wr W8).1) (Keep.of_wr W9).1) (Keep.of_wr W10).1)) Bd.returns (hb hby own_d11_63) (by decide) (by decide) ?_
  show QO1n Z a7 n7 d7 q7 u0 u1 u2 u3 zc t7 k7 x1 x2 x3 Ts h0 n0 _ T10.heap _ T10.vm
  rw [e10]
  refine ⟨c2, t2, kt2, ?_, N10, (((((((Keep.refl h0 [a7]).ext E2).ext E5).wr W7 (Or.inl (List.mem_of_getElem? (i := 0) rfl))).wr W8 (Or.inl (List.mem_of_getElem? (i := 0) rfl))).wr W9 (Or.inl (List.mem_of_getElem? (i := 0) rfl))).wr W10 (Or.inl (List.mem_of_getElem? (i := 0) rfl))), ?_, (((Fw7.other W8 (Or.inr (slot_ne (Or.inr (oW hw 90 rfl)) (Or.inr (oW hw 92 rfl)) (by decide +kernel) (t := (.object "java/lang/String")) (t' := (.object "java/lang/String")) (by decide +kernel) (by decide +kernel)))).other W9 (Or.inr (slot_ne (Or.inr (oW hw 90 rfl)) (Or.inr (oW hw 94 rfl)) (by decide +kernel) (t := (.object "java/lang/String")) (t' := (.object "java/lang/String")) (by decide +kernel) (by decide +kernel)))).other W10 (Or.inr (slot_ne (Or.inr (oW hw 90 rfl)) (Or.inr (oW hw 96 rfl)) (by decide +kernel) (t := (.object "java/lang/String")) (t' := .boolean) (by decide +kernel) (by decide +kernel)))), ((Fw8.other W9 (Or.inr (slot_ne (Or.inr (oW hw 92 rfl)) (Or.inr (oW hw 94 rfl)) (by decide +kernel) (t := (.object "java/lang/String")) (t' := (.object "java/lang/String")) (by decide +kernel) (by decide +kernel)))).other W10 (Or.inr (slot_ne (Or.inr (oW hw 92 rfl)) (Or.inr (oW hw 96 rfl)) (by decide +kernel) (t := (.object "java/lang/String")) (t' := .boolean) (by decide +kernel) (by decide +kernel)))), (Fw9.other W10 (Or.inr (slot_ne (Or.inr (oW hw 94 rfl)) (Or.inr (oW hw 96 rfl)) (by decide +kernel) (t := (.object "java/lang/String")) (t' := .boolean) (by decide +kernel) (by decide +kernel)))), Fw10, (((((gE2.ext E5).wr W7).wr W8).wr W9).wr W10), (((((gC2.ext E5).other W7 (Or.inl (Exa.ne gE2 (E7.ext E2) (by decide +kernel)))).other W8 (Or.inl (Exa.ne gE2 (E7.ext E2) (by decide +kernel)))).other W9 (Or.inl (Exa.ne gE2 (E7.ext E2) (by decide +kernel)))).other W10 (Or.inl (Exa.ne gE2 (E7.ext E2) (by decide +kernel)))), (((((gV2.ext E5).other W7 (Or.inl (Exa.ne gE2 (E7.ext E2) (by decide +kernel)))).other W8 (Or.inl (Exa.ne gE2 (E7.ext E2) (by decide +kernel)))).other W9 (Or.inl (Exa.ne gE2 (E7.ext E2) (by decide +kernel)))).other W10 (Or.inl (Exa.ne gE2 (E7.ext E2) (by decide +kernel)))), (((((gA2.ext E5).other W7 (Ne.symm (Exa.neArv (E7.ext E2) gA2 (oW hw 45 rfl)))).other W8 (Ne.symm (Exa.neArv (E7.ext E2) gA2 (oW hw 45 rfl)))).other W9 (Ne.symm (Exa.neArv (E7.ext E2) gA2 (oW hw 45 rfl)))).other W10 (Ne.symm (Exa.neArv (E7.ext E2) gA2 (oW hw 45 rfl))))⟩
  · rfl
  · exact own_litL (s := s) (vm := T5.vm) hlit5_c2 X10.warmed
theorem own_efO1r (m : MethodId) (x0 : Addr) (x1 : Addr) (x2 : Addr) (x3 : Addr) (x4 : Int32) : entryFrame m #[(.ref x0), (.ref x1), (.ref x2), (.ref x3), (.int x4)] 5 = mkF m 0 #[rv x0, rv x1, rv x2, rv x3, iv x4] [] := by first | (simp [entryFrame, mkF, argsToLocals, Value.category]; done) | rfl
def QO1r (Z : State) (a7 : Addr) (n7 : Addr) (w7 : Addr) (d7 : Addr) (q7 : Int32) (u0 : Value) (u1 : Value) (u2 : Value) (u3 : Value) (zc : Int32) (t7 : Addr) (k7 : ClassId) (x1 : Int32) (x2 : Int32) (x3 : Int32) (Ts : List String) (h0 : Heap) (n0 : Nat) (v : Option Value) (h : Heap) (L : List Loc) (vm : Vm) : Prop := ∃ (lc : Addr) (lt : Addr) (lk : ClassId), v = none ∧ Fr n0 L ∧ Keep h0 h [a7] ∧ (Lit (Z.setVm vm) "com/example/planmend/planmend/cli/Option" 7 lc) ∧ (Fld Z h a7 "com/example/planmend/planmend/cli/Option" "name" "Ljava/lang/String;" (.ref n7)) ∧ (Fld Z h a7 "com/example/planmend/planmend/cli/Option" "value" "Ljava/lang/String;" (.ref w7)) ∧ (Fld Z h a7 "com/example/planmend/planmend/cli/Option" "description" "Ljava/lang/String;" (.ref d7)) ∧ (Fld Z h a7 "com/example/planmend/planmend/cli/Option" "required" "Z" (.int q7)) ∧ (Exa Z h lc "java/lang/String") ∧ (Fld Z h lc "java/lang/String" "coder" "B" (.int (0 : Int32))) ∧ (Fld Z h lc "java/lang/String" "value" "[B" (.ref lt)) ∧ (Arv Z h lt lk .byte (2 : Int32) [(.int (45 : Int32)), (.int (45 : Int32))] (.int (0 : Int32)))
set_option maxRecDepth 65536 in
set_option maxHeartbeats 40000000 in
theorem rmO1r (l : Launch) (Z : State) (a0 : Array Value) (hw : ∀ d ∈ tables_1, d.before a0 Z = true) (ws : List Jvm.Cond) (a7 : Addr) (n7 : Addr) (w7 : Addr) (d7 : Addr) (q7 : Int32) (u0 : Value) (u1 : Value) (u2 : Value) (u3 : Value) (zc : Int32) (t7 : Addr) (k7 : ClassId) (x1 : Int32) (x2 : Int32) (x3 : Int32) (Ts : List String) (h0 : Heap) (n0 : Nat) (Z0 : n0 ≤ h0.size) (O0 : Old Z n0 h0) (Scz : Sta Z Z.heap "java/lang/String" "COMPACT_STRINGS" "Z" (.int zc)) (hcz : ¬ zc = 0) (hcw : Jvm.Lit.compactW.before a0 Z = true) (hco : Jvm.Lit.constHeld Z "com/example/planmend/planmend/cli/Option" 7) (E7 : Exa Z h0 a7 "com/example/planmend/planmend/cli/Option") (F70 : Fld Z h0 a7 "com/example/planmend/planmend/cli/Option" "name" "Ljava/lang/String;" u0) (F71 : Fld Z h0 a7 "com/example/planmend/planmend/cli/Option" "value" "Ljava/lang/String;" u1) (F72 : Fld Z h0 a7 "com/example/planmend/planmend/cli/Option" "description" "Ljava/lang/String;" u2) (F73 : Fld Z h0 a7 "com/example/planmend/planmend/cli/Option" "required" "Z" u3) (g_a7 : n0 ≤ a7) (E_n7 : Exa Z h0 n7 "java/lang/String") (C_n7 : Fld Z h0 n7 "java/lang/String" "coder" "B" (.int (0 : Int32))) (V_n7 : Fld Z h0 n7 "java/lang/String" "value" "[B" (.ref t7)) (A_n7 : Arv Z h0 t7 k7 .byte (3 : Int32) [(.int x1), (.int x2), (.int x3)] (.int (0 : Int32))) (hx1 : x1 = (45 : Int32)) (hx2 : x2 = (45 : Int32)) (hq7 : q7 = 0 ∨ q7 = 1) (hts : "--" ∉ Ts) :
    MetFree l (⟨"com/example/planmend/planmend/cli/Option", "<init>", "(Ljava/lang/String;Ljava/lang/String;Ljava/lang/String;Z)V"⟩ : MethodName) (head1 (Jvm.Cond.code (⟨"com/example/planmend/planmend/cli/Option", "<init>", "(Ljava/lang/String;Ljava/lang/String;Ljava/lang/String;Z)V"⟩ : MethodName) prog_2_method_1_code 5 none :: ws) ({ frames := 4, cells := 4, slots := 60, locals := 90 } : Room)) (fun a U => a = #[(.ref a7), (.ref n7), (.ref w7), (.ref d7), (.int q7)] ∧ Z.Warmed39 U.vm ∧ U.heap = h0 ∧ (IB Z U.vm Ts)) (fun _ _ _ _ _ => True) (fun _ U o U' => ∃ v L, o = .returned v ∧ QO1r Z a7 n7 w7 d7 q7 u0 u1 u2 u3 zc t7 k7 x1 x2 x3 Ts h0 n0 v U'.heap L U'.vm ∧ ReturnedEndW U o U' L ({ frames := 4, cells := 4, slots := 60, locals := 90 } : Room).cells ({ frames := 4, cells := 4, slots := 60, locals := 90 } : Room).slots) := by
  refine MetFree.of_bodySF (plainFor_of_name own_pn5) hisR ?_
  intro p e s m args below meth c s₁ Bd hml0 hP hK
  obtain ⟨rfl, hZ, hh, hV⟩ := hP
  have hx := Bd.exec
  have hby := Bd.bytes
  have hlk : meth.locks = false := Bd.notSynchronized
  have hml : c.maxLocals = 5 := hml0
  have hown : s.vm.findClass "com/example/planmend/planmend/cli/Option" = some m.cls := findClass_of_methodNamed Bd.named
  have hnm := (name_of_methodNamed Bd.named Bd.method).1
  have X0 : Stand p l e ({ frames := 4, cells := 4, slots := 60, locals := 90 } : Room) (s.setVm s.vm) m #[(.ref a7), (.ref n7), (.ref w7), (.ref d7), (.int q7)] below meth c s₁ [] 0 0 := Stand.of_body Bd
  have e0 : s₁.heap = h0 := by rw [← hh, Bd.state]; rfl
  have N0 := Fr.nil n0
  have hS0 : s.Since s.vm h0.size := (State.WarmedH.refl s).since _
  have hk0 : h0.size ≤ h0.size := Nat.le_refl _
  have wS : ∀ a ∈ Bundle.stringAtoms, a.before a0 Z = true := by
    intro a ha
    simp only [Bundle.stringAtoms, List.mem_cons, List.not_mem_nil, or_false] at ha
    rcases ha with rfl | rfl | rfl | rfl | rfl | rfl | rfl
    · exact (oW hw 2 rfl)
    · exact (oW hw 1 rfl)
    · exact (oW hw 19 rfl)
    · exact (oW hw 29 rfl)
    · exact (oW hw 27 rfl)
    · exact (oW hw 57 rfl)
    · exact (oW hw 58 rfl)
  refine own_bodyV (A := s₁.setTop (mkF m 0 #[rv a7, rv n7, rv w7, rv d7, iv q7] [])) (Q := QO1r Z a7 n7 w7 d7 q7 u0 u1 u2 u3 zc t7 k7 x1 x2 x3 Ts h0 n0) (fun t k => castTop (own_efO1r m a7 n7 w7 d7 q7) k) ?_
  refine oALN (n := 1) X0 hx (hb hby own_d11_0) rfl rfl rfl ?_
  obtain ⟨_, _, ⟨T1, L1, k1, n1⟩, -, X1, ⟨Lc1, hQ1, l1, y1, z1⟩, st1⟩ := X0.specialBack hx (y := (⟨"java/lang/Record", "<init>", "()V"⟩ : MethodName)) rfl hown (mvT hZ (oW hw 50 rfl)) (mvT hZ (oW hw 51 rfl)) (mvT hZ (oW hw 54 rfl)) (by decide) (backOf (W := 0) (rmR l Z a0 hw [] a7 h0 n0 Z0 ) hZ (oW hw 54 rfl) (oW hw 53 rfl) (by decide) (by decide)) (g := (mkF m 1 #[rv a7, rv n7, rv w7, rv d7, iv q7] [(.ref a7)])) rfl (by rw [hml]; rfl) (Steps.refl _) (a := a7) (argsL := []) (rest := []) (lenOf own_pd8 rfl) rfl (by show 2 * 0 + _ ≤ _; exact Nat.le_of_eq rfl) (hb hby own_d11_1) (fun _ _ => ⟨rfl, e0, (by decide : 0 + 0 ≤ _), (by decide : 0 + 0 ≤ _)⟩)
  dsimp only [Pt.U, Pt.locs, Pt.cells, Pt.slots] at X1 l1 y1 z1 st1 hQ1
  subst l1 y1 z1
  obtain ⟨rfl, Nq1, eq1, pL_1⟩ := hQ1
  have N1 := Fr.app N0 Nq1
  subst pL_1
  refine ov (B := T1.setTop (mkF m 4 #[rv a7, rv n7, rv w7, rv d7, iv q7] [])) (fun t k => st1.trans k) ?_
  refine oALN (n := 5) X1 hx (hb hby own_d11_4) rfl rfl rfl ?_
  obtain ⟨c2, T2, h2, k2, t2, kt2, X2, e2, E2, hS2, hk2, hZ, hown, gE2, gC2, gV2, gA2, la2, lb2, hI2, hlit_c2, st2⟩ := ldcSVL X1 hx hZ hown (oW hw 56 rfl) wS eq1 hS0 hk0 (Fr.nil _) (fun b cl q => by show s.heap[b]? = some cl; rw [hh]; exact O0.2.2 b cl q) hV hts hco hcw (vs := ([(45 : Int32), (45 : Int32)] : List Int32).map Value.int) (z := (2 : Int32)) (by decide) (by decide) (by decide) (g := (mkF m 5 #[rv a7, rv n7, rv w7, rv d7, iv q7] [(.ref n7)])) rfl (hb hby own_d11_5) (n := 8) (by decide) (by decide) (by decide) (by decide)
  refine ov (B := T2.setTop (mkF m 7 #[rv a7, rv n7, rv w7, rv d7, iv q7] [(.ref c2), (.ref n7)])) (fun t k => st2 t k) ?_
  obtain ⟨cq3, kq3, q3a, q3b, q3c⟩ := isOf hZ e2 (E_n7.ext E2)
  obtain ⟨_, _, ⟨T3, L3, k3, n3⟩, -, X3, ⟨Lc3, hQ3, l3, y3, z3⟩, st3⟩ := X2.virtualBack hx (y := (⟨"java/lang/String", "startsWith", "(Ljava/lang/String;)Z"⟩ : MethodName)) (z := (⟨"java/lang/String", "startsWith", "(Ljava/lang/String;)Z"⟩ : MethodName)) hown (mvT hZ (oW hw 59 rfl)) (mvT hZ (oW hw 60 rfl)) (notFace_of_selects (args := #[]) (mvT hZ (oW hw 62 rfl))) (mvT hZ (oW hw 62 rfl)) (mvT hZ (oW hw 61 rfl)) (by decide) (backOf (W := 0) (rmS l Z a0 hw [] n7 c2 zc t7 k7 t2 kt2 x1 x2 x3 h2 n0 (Nat.le_trans Z0 E2.1) (O0.ext E2) (by assumption) (by assumption) (E_n7.ext E2) (C_n7.ext E2) (V_n7.ext E2) (A_n7.ext E2) gE2 gC2 gV2 gA2 hx1 hx2) hZ (oW hw 63 rfl) (oW hw 2 rfl) (by decide) (by decide)) q3a q3c (g := (mkF m 7 #[rv a7, rv n7, rv w7, rv d7, iv q7] [(.ref c2), (.ref n7)])) rfl (by rw [hml]; rfl) (Steps.refl _) (argsL := [(.ref c2)]) (rest := []) (lenOf own_pd9 rfl) rfl (by show 2 * 0 + _ ≤ _; exact Nat.le_of_eq rfl) (hb hby own_d11_7) (fun _ _ => ⟨rfl, e2, (by decide : ((0 + 0) + 2) + 0 ≤ _), (by decide : ((0 + 0) + (8 + 4)) + 0 ≤ _)⟩)
  dsimp only [Pt.U, Pt.locs, Pt.cells, Pt.slots] at X3 l3 y3 z3 st3 hQ3
  subst l3 y3 z3
  obtain ⟨rfl, Nq3, eq3⟩ := hQ3
  have N3 := Fr.app N1 Nq3
  refine ov (B := T3.setTop (mkF m 10 #[rv a7, rv n7, rv w7, rv d7, iv q7] [(.int (1 : Int32))])) (fun t k => st3.trans k) ?_
  have hc10 : ¬ ((1 : Int32) = (0 : Int32)) := by decide
  refine ov (B := T3.setTop (mkF m 13 #[rv a7, rv n7, rv w7, rv d7, iv q7] [])) (fun t k => XS.ifNo X3.here hx rfl (hb hby own_d11_10) rfl ((if0 _ _).trans (feq hc10).1) k) ?_
  refine oALN (n := 14) X3 hx (hb hby own_d11_13) rfl rfl rfl ?_
  obtain ⟨cq4, kq4, q4a, q4b, q4c⟩ := isOf hZ eq3 (E_n7.ext E2)
  obtain ⟨_, _, ⟨T4, L4, k4, n4⟩, -, X4, ⟨Lc4, hQ4, l4, y4, z4⟩, st4⟩ := X3.virtualBack hx (y := (⟨"java/lang/String", "length", "()I"⟩ : MethodName)) (z := (⟨"java/lang/String", "length", "()I"⟩ : MethodName)) hown (mvT hZ (oW hw 83 rfl)) (mvT hZ (oW hw 70 rfl)) (notFace_of_selects (args := #[]) (mvT hZ (oW hw 72 rfl))) (mvT hZ (oW hw 72 rfl)) (mvT hZ (oW hw 71 rfl)) (by decide) (backOf (W := 0) (rmLn3 l Z a0 hw [] n7 zc t7 k7 x1 x2 x3 h2 n0 (Nat.le_trans Z0 E2.1) (O0.ext E2) (by assumption) (by assumption) (E_n7.ext E2) (C_n7.ext E2) (V_n7.ext E2) (A_n7.ext E2)) hZ (oW hw 73 rfl) (oW hw 2 rfl) (by decide) (by decide)) q4a q4c (g := (mkF m 14 #[rv a7, rv n7, rv w7, rv d7, iv q7] [(.ref n7)])) rfl (by rw [hml]; rfl) (Steps.refl _) (argsL := []) (rest := []) (lenOf own_pd5 rfl) rfl (by show 2 * 0 + _ ≤ _; exact Nat.le_of_eq rfl) (hb hby own_d11_14) (fun _ _ => ⟨rfl, eq3, (by decide : (((0 + 0) + 2) + 0) + 0 ≤ _), (by decide : (((0 + 0) + (8 + 4)) + 0) + 0 ≤ _)⟩)
  dsimp only [Pt.U, Pt.locs, Pt.cells, Pt.slots] at X4 l4 y4 z4 st4 hQ4
  subst l4 y4 z4
  obtain ⟨rfl, Nq4, eq4⟩ := hQ4
  have N4 := Fr.app N3 Nq4
  refine ov (B := T4.setTop (mkF m 17 #[rv a7, rv n7, rv w7, rv d7, iv q7] [(.int (3 : Int32))])) (fun t k => st4.trans k) ?_
  refine oIC (n := 18) X4 hx (2 : Int32) (hb hby own_d11_17) (by decide) rfl ?_
  have hc18 : ¬ ((3 : Int32) = (2 : Int32)) := by decide
  refine ov (B := T4.setTop (mkF m 35 #[rv a7, rv n7, rv w7, rv d7, iv q7] [])) (fun t k => XS.icmpYes X4.here hx rfl (pc0 := 18) (pc' := 35) rfl (hb hby own_d11_18) rfl (feq hc18).2 (by decide) (by decide) k) ?_
  refine oALN (n := 36) X4 hx (hb hby own_d11_35) rfl rfl rfl ?_
  obtain ⟨c5, T5, h5, k5, X5, e5, E5, hS5, hk5, hZ, hown, hwm5, st5⟩ := own_ldcS2 X4 hx hZ hown (oW hw 84 rfl) wS eq4 hS2 hk2 (g := (mkF m 36 #[rv a7, rv n7, rv w7, rv d7, iv q7] [(.ref d7)])) rfl (hb hby own_d11_36) (n := 44) (by decide) (by decide) (by decide) (by decide)
  have hlit5_c2 := Lit.stays (s := s) hlit_c2 hwm5
  refine ov (B := T5.setTop (mkF m 38 #[rv a7, rv n7, rv w7, rv d7, iv q7] [(.ref c5), (.ref d7)])) (fun t k => st5 t k) ?_
  obtain ⟨_, _, ⟨T6, L6, k6, n6⟩, -, X6, ⟨Lc6, hQ6, l6, y6, z6⟩, st6⟩ := Jvm.LawKit.callS X5 hx (y := (⟨"java/util/Objects", "requireNonNull", "(Ljava/lang/Object;Ljava/lang/String;)Ljava/lang/Object;"⟩ : MethodName)) hown (mvT hZ (oW hw 85 rfl)) (mvT hZ (oW hw 86 rfl)) (mvT hZ (oW hw 87 rfl)) (mvT hZ (oW hw 88 rfl)) (by decide) (backOf (W := 0) (rmN l Z a0 hw [] d7 c5 h5 n0 (Nat.le_trans (Nat.le_trans Z0 E2.1) E5.1) ) hZ (oW hw 88 rfl) (oW hw 87 rfl) (by decide) (by decide)) (g := (mkF m 38 #[rv a7, rv n7, rv w7, rv d7, iv q7] [(.ref c5), (.ref d7)])) rfl (by rw [hml]; rfl) (argsL := [(.ref d7), (.ref c5)]) (rest := []) (lenOf own_pd10 rfl) rfl (by show 2 * 0 + _ ≤ _; exact Nat.le_of_eq rfl) (hb hby own_d11_38) (fun _ _ => ⟨rfl, e5, (by decide : (((((0 + 0) + 2) + 0) + 0) + 2) + 0 ≤ _), (by decide : (((((0 + 0) + (8 + 4)) + 0) + 0) + (44 + 4)) + 0 ≤ _)⟩)
  dsimp only [Pt.U, Pt.locs, Pt.cells, Pt.slots] at X6 l6 y6 z6 st6 hQ6
  subst l6 y6 z6
  obtain ⟨rfl, Nq6, eq6⟩ := hQ6
  have N6 := Fr.app N4 Nq6
  refine ov (B := T6.setTop (mkF m 41 #[rv a7, rv n7, rv w7, rv d7, iv q7] [(.ref d7)])) (fun t k => st6 t k) ?_
  refine oPO (n := 42) X6 hx (hb hby own_d11_41) rfl rfl ?_
  refine oALN (n := 43) X6 hx (hb hby own_d11_42) rfl rfl rfl ?_
  refine oALN (n := 44) X6 hx (hb hby own_d11_43) rfl rfl rfl ?_
  obtain ⟨T7, h7, X7, e7, W7, st7⟩ := putF X6 hx hZ hown (host := "") (Or.inl (oW hw 89 rfl)) Via.refl eq6 ((F70.ext E2).ext E5) ((E7.ext E2).ext E5) (Or.inr ⟨(oW hw 90 rfl), rfl, hnm⟩) (oW hw 45 rfl) (ty := (.object "java/lang/String")) (by decide) rfl rfl (g := (mkF m 44 #[rv a7, rv n7, rv w7, rv d7, iv q7] [(.ref n7), (.ref a7)])) rfl rfl (hb hby own_d11_44)
  have Fw7 := ((F70.ext E2).ext E5).same W7
  have N7 := Fr.snoc X7 N6 g_a7
  refine ov (B := T7.setTop (mkF m 47 #[rv a7, rv n7, rv w7, rv d7, iv q7] [])) (fun t k => st7 t k) ?_
  refine oALN (n := 48) X7 hx (hb hby own_d11_47) rfl rfl rfl ?_
  refine oALN (n := 49) X7 hx (hb hby own_d11_48) rfl rfl rfl ?_
  obtain ⟨T8, h8, X8, e8, W8, st8⟩ := putF X7 hx hZ hown (host := "") (Or.inl (oW hw 91 rfl)) Via.refl e7 (((F71.ext E2).ext E5).other W7 (Or.inr (slot_ne (Or.inr (oW hw 92 rfl)) (Or.inr (oW hw 90 rfl)) (by decide +kernel) (t := (.object "java/lang/String")) (t' := (.object "java/lang/String")) (by decide +kernel) (by decide +kernel)))) (((E7.ext E2).ext E5).wr W7) (Or.inr ⟨(oW hw 92 rfl), rfl, hnm⟩) (oW hw 45 rfl) (ty := (.object "java/lang/String")) (by decide) rfl rfl (g := (mkF m 49 #[rv a7, rv n7, rv w7, rv d7, iv q7] [(.ref w7), (.ref a7)])) rfl rfl (hb hby own_d11_49)
  have Fw8 := (((F71.ext E2).ext E5).other W7 (Or.inr (slot_ne (Or.inr (oW hw 92 rfl)) (Or.inr (oW hw 90 rfl)) (by decide +kernel) (t := (.object "java/lang/String")) (t' := (.object "java/lang/String")) (by decide +kernel) (by decide +kernel)))).same W8
  have N8 := Fr.snoc X8 N7 g_a7
  refine ov (B := T8.setTop (mkF m 52 #[rv a7, rv n7, rv w7, rv d7, iv q7] [])) (fun t k => st8 t k) ?_
  refine oALN (n := 53) X8 hx (hb hby own_d11_52) rfl rfl rfl ?_
  refine oALN (n := 54) X8 hx (hb hby own_d11_53) rfl rfl rfl ?_
  obtain ⟨T9, h9, X9, e9, W9, st9⟩ := putF X8 hx hZ hown (host := "") (Or.inl (oW hw 93 rfl)) Via.refl e8 ((((F72.ext E2).ext E5).other W7 (Or.inr (slot_ne (Or.inr (oW hw 94 rfl)) (Or.inr (oW hw 90 rfl)) (by decide +kernel) (t := (.object "java/lang/String")) (t' := (.object "java/lang/String")) (by decide +kernel) (by decide +kernel)))).other W8 (Or.inr (slot_ne (Or.inr (oW hw 94 rfl)) (Or.inr (oW hw 92 rfl)) (by decide +kernel) (t := (.object "java/lang/String")) (t' := (.object "java/lang/String")) (by decide +kernel) (by decide +kernel)))) ((((E7.ext E2).ext E5).wr W7).wr W8) (Or.inr ⟨(oW hw 94 rfl), rfl, hnm⟩) (oW hw 45 rfl) (ty := (.object "java/lang/String")) (by decide) rfl rfl (g := (mkF m 54 #[rv a7, rv n7, rv w7, rv d7, iv q7] [(.ref d7), (.ref a7)])) rfl rfl (hb hby own_d11_54)
  have Fw9 := ((((F72.ext E2).ext E5).other W7 (Or.inr (slot_ne (Or.inr (oW hw 94 rfl)) (Or.inr (oW hw 90 rfl)) (by decide +kernel) (t := (.object "java/lang/String")) (t' := (.object "java/lang/String")) (by decide +kernel) (by decide +kernel)))).other W8 (Or.inr (slot_ne (Or.inr (oW hw 94 rfl)) (Or.inr (oW hw 92 rfl)) (by decide +kernel) (t := (.object "java/lang/String")) (t' := (.object "java/lang/String")) (by decide +kernel) (by decide +kernel)))).same W9
  have N9 := Fr.snoc X9 N8 g_a7
  refine ov (B := T9.setTop (mkF m 57 #[rv a7, rv n7, rv w7, rv d7, iv q7] [])) (fun t k => st9 t k) ?_
  refine oALN (n := 58) X9 hx (hb hby own_d11_57) rfl rfl rfl ?_
  refine oIL (n := 60) X9 hx (hb hby own_d11_58) rfl rfl ?_
  obtain ⟨T10, h10, X10, e10, W10, st10⟩ := putFN X9 hx hZ hown (oW hw 95 rfl) Via.refl e9 (((((F73.ext E2).ext E5).other W7 (Or.inr (slot_ne (Or.inr (oW hw 96 rfl)) (Or.inr (oW hw 90 rfl)) (by decide +kernel) (t := .boolean) (t' := (.object "java/lang/String")) (by decide +kernel) (by decide +kernel)))).other W8 (Or.inr (slot_ne (Or.inr (oW hw 96 rfl)) (Or.inr (oW hw 92 rfl)) (by decide +kernel) (t := .boolean) (t' := (.object "java/lang/String")) (by decide +kernel) (by decide +kernel)))).other W9 (Or.inr (slot_ne (Or.inr (oW hw 96 rfl)) (Or.inr (oW hw 94 rfl)) (by decide +kernel) (t := .boolean) (t' := (.object "java/lang/String")) (by decide +kernel) (by decide +kernel)))) (((((E7.ext E2).ext E5).wr W7).wr W8).wr W9) (Or.inr ⟨(oW hw 96 rfl), rfl, hnm⟩) (oW hw 45 rfl) (ty := .boolean) (v' := (.int q7)) (by decide) (own_b1 (by first | assumption | (simp; done))) (own_fb (by first | assumption | (simp; done))) (g := (mkF m 60 #[rv a7, rv n7, rv w7, rv d7, iv q7] [(.int q7), (.ref a7)])) rfl rfl (hb hby own_d11_60)
  have Fw10 := (((((F73.ext E2).ext E5).other W7 (Or.inr (slot_ne (Or.inr (oW hw 96 rfl)) (Or.inr (oW hw 90 rfl)) (by decide +kernel) (t := .boolean) (t' := (.object "java/lang/String")) (by decide +kernel) (by decide +kernel)))).other W8 (Or.inr (slot_ne (Or.inr (oW hw 96 rfl)) (Or.inr (oW hw 92 rfl)) (by decide +kernel) (t := .boolean) (t' := (.object "java/lang/String")) (by decide +kernel) (by decide +kernel)))).other W9 (Or.inr (slot_ne (Or.inr (oW hw 96 rfl)) (Or.inr (oW hw 94 rfl)) (by decide +kernel) (t := .boolean) (t' := (.object "java/lang/String")) (by decide +kernel) (by decide +kernel)))).same W10
  have N10 := Fr.snoc X10 N9 g_a7
  refine ov (B := T10.setTop (mkF m 63 #[rv a7, rv n7, rv w7, rv d7, iv q7] [])) (fun t k => st10 t k) ?_
  refine own_leafVV X10 hx hlk hS5 (by rw [e10]; exact (Nat.le_trans (Nat.le_trans (Nat.le_trans (Nat.le_trans hk5 (Keep.of_wr W7).1) (Keep.of_wr W8).1) (Keep.of_wr W9).1) (Keep.of_wr W10).1)) Bd.returns (hb hby own_d11_63) (by decide) (by decide) ?_
  show QO1r Z a7 n7 w7 d7 q7 u0 u1 u2 u3 zc t7 k7 x1 x2 x3 Ts h0 n0 _ T10.heap _ T10.vm
  rw [e10]
  refine ⟨c2, t2, kt2, ?_, N10, (((((((Keep.refl h0 [a7]).ext E2).ext E5).wr W7 (Or.inl (List.mem_of_getElem? (i := 0) rfl))).wr W8 (Or.inl (List.mem_of_getElem? (i := 0) rfl))).wr W9 (Or.inl (List.mem_of_getElem? (i := 0) rfl))).wr W10 (Or.inl (List.mem_of_getElem? (i := 0) rfl))), ?_, (((Fw7.other W8 (Or.inr (slot_ne (Or.inr (oW hw 90 rfl)) (Or.inr (oW hw 92 rfl)) (by decide +kernel) (t := (.object "java/lang/String")) (t' := (.object "java/lang/String")) (by decide +kernel) (by decide +kernel)))).other W9 (Or.inr (slot_ne (Or.inr (oW hw 90 rfl)) (Or.inr (oW hw 94 rfl)) (by decide +kernel) (t := (.object "java/lang/String")) (t' := (.object "java/lang/String")) (by decide +kernel) (by decide +kernel)))).other W10 (Or.inr (slot_ne (Or.inr (oW hw 90 rfl)) (Or.inr (oW hw 96 rfl)) (by decide +kernel) (t := (.object "java/lang/String")) (t' := .boolean) (by decide +kernel) (by decide +kernel)))), ((Fw8.other W9 (Or.inr (slot_ne (Or.inr (oW hw 92 rfl)) (Or.inr (oW hw 94 rfl)) (by decide +kernel) (t := (.object "java/lang/String")) (t' := (.object "java/lang/String")) (by decide +kernel) (by decide +kernel)))).other W10 (Or.inr (slot_ne (Or.inr (oW hw 92 rfl)) (Or.inr (oW hw 96 rfl)) (by decide +kernel) (t := (.object "java/lang/String")) (t' := .boolean) (by decide +kernel) (by decide +kernel)))), (Fw9.other W10 (Or.inr (slot_ne (Or.inr (oW hw 94 rfl)) (Or.inr (oW hw 96 rfl)) (by decide +kernel) (t := (.object "java/lang/String")) (t' := .boolean) (by decide +kernel) (by decide +kernel)))), Fw10, (((((gE2.ext E5).wr W7).wr W8).wr W9).wr W10), (((((gC2.ext E5).other W7 (Or.inl (Exa.ne gE2 (E7.ext E2) (by decide +kernel)))).other W8 (Or.inl (Exa.ne gE2 (E7.ext E2) (by decide +kernel)))).other W9 (Or.inl (Exa.ne gE2 (E7.ext E2) (by decide +kernel)))).other W10 (Or.inl (Exa.ne gE2 (E7.ext E2) (by decide +kernel)))), (((((gV2.ext E5).other W7 (Or.inl (Exa.ne gE2 (E7.ext E2) (by decide +kernel)))).other W8 (Or.inl (Exa.ne gE2 (E7.ext E2) (by decide +kernel)))).other W9 (Or.inl (Exa.ne gE2 (E7.ext E2) (by decide +kernel)))).other W10 (Or.inl (Exa.ne gE2 (E7.ext E2) (by decide +kernel)))), (((((gA2.ext E5).other W7 (Ne.symm (Exa.neArv (E7.ext E2) gA2 (oW hw 45 rfl)))).other W8 (Ne.symm (Exa.neArv (E7.ext E2) gA2 (oW hw 45 rfl)))).other W9 (Ne.symm (Exa.neArv (E7.ext E2) gA2 (oW hw 45 rfl)))).other W10 (Ne.symm (Exa.neArv (E7.ext E2) gA2 (oW hw 45 rfl))))⟩
  · rfl
  · exact own_litL (s := s) (vm := T5.vm) hlit5_c2 X10.warmed
theorem own_efO2n (m : MethodId) (x0 : Addr) (x1 : Addr) (x3 : Addr) (x4 : Int32) : entryFrame m #[(.ref x0), (.ref x1), .null, (.ref x3), (.int x4)] 5 = mkF m 0 #[rv x0, rv x1, .val .null, rv x3, iv x4] [] := by first | (simp [entryFrame, mkF, argsToLocals, Value.category]; done) | rfl
def QO2n (Z : State) (a7 : Addr) (n7 : Addr) (d7 : Addr) (q7 : Int32) (u0 : Value) (u1 : Value) (u2 : Value) (u3 : Value) (zc : Int32) (t7 : Addr) (k7 : ClassId) (x1 : Int32) (x2 : Int32) (x3 : Int32) (lc : Addr) (lt : Addr) (lk : ClassId) (h0 : Heap) (n0 : Nat) (v : Option Value) (h : Heap) (L : List Loc) : Prop := v = none ∧ Fr n0 L ∧ Keep h0 h [a7] ∧ (Fld Z h a7 "com/example/planmend/planmend/cli/Option" "name" "Ljava/lang/String;" (.ref n7)) ∧ (Fld Z h a7 "com/example/planmend/planmend/cli/Option" "value" "Ljava/lang/String;" .null) ∧ (Fld Z h a7 "com/example/planmend/planmend/cli/Option" "description" "Ljava/lang/String;" (.ref d7)) ∧ (Fld Z h a7 "com/example/planmend/planmend/cli/Option" "required" "Z" (.int q7))
set_option maxRecDepth 65536 in
set_option maxHeartbeats 40000000 in
theorem rmO2n (l : Launch) (Z : State) (a0 : Array Value) (hw : ∀ d ∈ tables_1, d.before a0 Z = true) (ws : List Jvm.Cond) (a7 : Addr) (n7 : Addr) (d7 : Addr) (q7 : Int32) (u0 : Value) (u1 : Value) (u2 : Value) (u3 : Value) (zc : Int32) (t7 : Addr) (k7 : ClassId) (x1 : Int32) (x2 : Int32) (x3 : Int32) (lc : Addr) (lt : Addr) (lk : ClassId) (h0 : Heap) (n0 : Nat) (Z0 : n0 ≤ h0.size) (O0 : Old Z n0 h0) (Scz : Sta Z Z.heap "java/lang/String" "COMPACT_STRINGS" "Z" (.int zc)) (hcz : ¬ zc = 0) (hcw : Jvm.Lit.compactW.before a0 Z = true) (hco : Jvm.Lit.constHeld Z "com/example/planmend/planmend/cli/Option" 7) (E7 : Exa Z h0 a7 "com/example/planmend/planmend/cli/Option") (F70 : Fld Z h0 a7 "com/example/planmend/planmend/cli/Option" "name" "Ljava/lang/String;" u0) (F71 : Fld Z h0 a7 "com/example/planmend/planmend/cli/Option" "value" "Ljava/lang/String;" u1) (F72 : Fld Z h0 a7 "com/example/planmend/planmend/cli/Option" "description" "Ljava/lang/String;" u2) (F73 : Fld Z h0 a7 "com/example/planmend/planmend/cli/Option" "required" "Z" u3) (g_a7 : n0 ≤ a7) (E_n7 : Exa Z h0 n7 "java/lang/String") (C_n7 : Fld Z h0 n7 "java/lang/String" "coder" "B" (.int (0 : Int32))) (V_n7 : Fld Z h0 n7 "java/lang/String" "value" "[B" (.ref t7)) (A_n7 : Arv Z h0 t7 k7 .byte (3 : Int32) [(.int x1), (.int x2), (.int x3)] (.int (0 : Int32))) (hx1 : x1 = (45 : Int32)) (hx2 : x2 = (45 : Int32)) (hq7 : q7 = 0 ∨ q7 = 1) (E_lc : Exa Z h0 lc "java/lang/String") (C_lc : Fld Z h0 lc "java/lang/String" "coder" "B" (.int (0 : Int32))) (V_lc : Fld Z h0 lc "java/lang/String" "value" "[B" (.ref lt)) (A_lc : Arv Z h0 lt lk .byte (2 : Int32) [(.int (45 : Int32)), (.int (45 : Int32))] (.int (0 : Int32))) :
    MetFree l (⟨"com/example/planmend/planmend/cli/Option", "<init>", "(Ljava/lang/String;Ljava/lang/String;Ljava/lang/String;Z)V"⟩ : MethodName) (head1 (Jvm.Cond.code (⟨"com/example/planmend/planmend/cli/Option", "<init>", "(Ljava/lang/String;Ljava/lang/String;Ljava/lang/String;Z)V"⟩ : MethodName) prog_2_method_1_code 5 none :: ws) ({ frames := 4, cells := 4, slots := 60, locals := 90 } : Room)) (fun a U => a = #[(.ref a7), (.ref n7), .null, (.ref d7), (.int q7)] ∧ Z.Warmed39 U.vm ∧ U.heap = h0 ∧ (Lit (Z.setVm U.vm) "com/example/planmend/planmend/cli/Option" 7 lc)) (fun _ _ _ _ _ => True) (fun _ U o U' => ∃ v L, o = .returned v ∧ QO2n Z a7 n7 d7 q7 u0 u1 u2 u3 zc t7 k7 x1 x2 x3 lc lt lk h0 n0 v U'.heap L ∧ ReturnedEndW U o U' L ({ frames := 4, cells := 4, slots := 60, locals := 90 } : Room).cells ({ frames := 4, cells := 4, slots := 60, locals := 90 } : Room).slots) := by
  refine MetFree.of_bodySF (plainFor_of_name own_pn5) hisR ?_
  intro p e s m args below meth c s₁ Bd hml0 hP hK
  obtain ⟨rfl, hZ, hh, hV⟩ := hP
  have hx := Bd.exec
  have hby := Bd.bytes
  have hlk : meth.locks = false := Bd.notSynchronized
  have hml : c.maxLocals = 5 := hml0
  have hown : s.vm.findClass "com/example/planmend/planmend/cli/Option" = some m.cls := findClass_of_methodNamed Bd.named
  have hnm := (name_of_methodNamed Bd.named Bd.method).1
  have X0 : Stand p l e ({ frames := 4, cells := 4, slots := 60, locals := 90 } : Room) (s.setVm s.vm) m #[(.ref a7), (.ref n7), .null, (.ref d7), (.int q7)] below meth c s₁ [] 0 0 := Stand.of_body Bd
  have e0 : s₁.heap = h0 := by rw [← hh, Bd.state]; rfl
  have N0 := Fr.nil n0
  have hS0 : s.Since s.vm h0.size := (State.WarmedH.refl s).since _
  have hk0 : h0.size ≤ h0.size := Nat.le_refl _
  have wS : ∀ a ∈ Bundle.stringAtoms, a.before a0 Z = true := by
    intro a ha
    simp only [Bundle.stringAtoms, List.mem_cons, List.not_mem_nil, or_false] at ha
    rcases ha with rfl | rfl | rfl | rfl | rfl | rfl | rfl
    · exact (oW hw 2 rfl)
    · exact (oW hw 1 rfl)
    · exact (oW hw 19 rfl)
    · exact (oW hw 29 rfl)
    · exact (oW hw 27 rfl)
    · exact (oW hw 57 rfl)
    · exact (oW hw 58 rfl)
  refine own_bodyW (A := s₁.setTop (mkF m 0 #[rv a7, rv n7, .val .null, rv d7, iv q7] [])) (Q := QO2n Z a7 n7 d7 q7 u0 u1 u2 u3 zc t7 k7 x1 x2 x3 lc lt lk h0 n0) (fun t k => castTop (own_efO2n m a7 n7 d7 q7) k) ?_
  refine oALN (n := 1) X0 hx (hb hby own_d11_0) rfl rfl rfl ?_
  obtain ⟨_, _, ⟨T1, L1, k1, n1⟩, -, X1, ⟨Lc1, hQ1, l1, y1, z1⟩, st1⟩ := X0.specialBack hx (y := (⟨"java/lang/Record", "<init>", "()V"⟩ : MethodName)) rfl hown (mvT hZ (oW hw 50 rfl)) (mvT hZ (oW hw 51 rfl)) (mvT hZ (oW hw 54 rfl)) (by decide) (backOf (W := 0) (rmR l Z a0 hw [] a7 h0 n0 Z0 ) hZ (oW hw 54 rfl) (oW hw 53 rfl) (by decide) (by decide)) (g := (mkF m 1 #[rv a7, rv n7, .val .null, rv d7, iv q7] [(.ref a7)])) rfl (by rw [hml]; rfl) (Steps.refl _) (a := a7) (argsL := []) (rest := []) (lenOf own_pd8 rfl) rfl (by show 2 * 0 + _ ≤ _; exact Nat.le_of_eq rfl) (hb hby own_d11_1) (fun _ _ => ⟨rfl, e0, (by decide : 0 + 0 ≤ _), (by decide : 0 + 0 ≤ _)⟩)
  dsimp only [Pt.U, Pt.locs, Pt.cells, Pt.slots] at X1 l1 y1 z1 st1 hQ1
  subst l1 y1 z1
  obtain ⟨rfl, Nq1, eq1, pL_1⟩ := hQ1
  have N1 := Fr.app N0 Nq1
  subst pL_1
  refine ov (B := T1.setTop (mkF m 4 #[rv a7, rv n7, .val .null, rv d7, iv q7] [])) (fun t k => st1.trans k) ?_
  refine oALN (n := 5) X1 hx (hb hby own_d11_4) rfl rfl rfl ?_
  refine ov (B := T1.setTop (mkF m 7 #[rv a7, rv n7, .val .null, rv d7, iv q7] [(.ref lc), (.ref n7)])) (fun t k => ldcAgain X1 hx hZ hown (oW hw 56 rfl) hV (g := (mkF m 5 #[rv a7, rv n7, .val .null, rv d7, iv q7] [(.ref n7)])) rfl (hb hby own_d11_5) t k) ?_
  obtain ⟨cq2, kq2, q2a, q2b, q2c⟩ := isOf hZ eq1 E_n7
  obtain ⟨_, _, ⟨T2, L2, k2, n2⟩, -, X2, ⟨Lc2, hQ2, l2, y2, z2⟩, st2⟩ := X1.virtualBack hx (y := (⟨"java/lang/String", "startsWith", "(Ljava/lang/String;)Z"⟩ : MethodName)) (z := (⟨"java/lang/String", "startsWith", "(Ljava/lang/String;)Z"⟩ : MethodName)) hown (mvT hZ (oW hw 59 rfl)) (mvT hZ (oW hw 60 rfl)) (notFace_of_selects (args := #[]) (mvT hZ (oW hw 62 rfl))) (mvT hZ (oW hw 62 rfl)) (mvT hZ (oW hw 61 rfl)) (by decide) (backOf (W := 0) (rmS l Z a0 hw [] n7 lc zc t7 k7 lt lk x1 x2 x3 h0 n0 Z0 O0 (by assumption) (by assumption) E_n7 C_n7 V_n7 A_n7 E_lc C_lc V_lc A_lc hx1 hx2) hZ (oW hw 63 rfl) (oW hw 2 rfl) (by decide) (by decide)) q2a q2c (g := (mkF m 7 #[rv a7, rv n7, .val .null, rv d7, iv q7] [(.ref lc), (.ref n7)])) rfl (by rw [hml]; rfl) (Steps.refl _) (argsL := [(.ref lc)]) (rest := []) (lenOf own_pd9 rfl) rfl (by show 2 * 0 + _ ≤ _; exact Nat.le_of_eq rfl) (hb hby own_d11_7) (fun _ _ => ⟨rfl, eq1, (by decide : (0 + 0) + 0 ≤ _), (by decide : (0 + 0) + 0 ≤ _)⟩)
  dsimp only [Pt.U, Pt.locs, Pt.cells, Pt.slots] at X2 l2 y2 z2 st2 hQ2
  subst l2 y2 z2
  obtain ⟨rfl, Nq2, eq2⟩ := hQ2
  have N2 := Fr.app N1 Nq2
  refine ov (B := T2.setTop (mkF m 10 #[rv a7, rv n7, .val .null, rv d7, iv q7] [(.int (1 : Int32))])) (fun t k => st2.trans k) ?_
  have hc10 : ¬ ((1 : Int32) = (0 : Int32)) := by decide
  refine ov (B := T2.setTop (mkF m 13 #[rv a7, rv n7, .val .null, rv d7, iv q7] [])) (fun t k => XS.ifNo X2.here hx rfl (hb hby own_d11_10) rfl ((if0 _ _).trans (feq hc10).1) k) ?_
  refine oALN (n := 14) X2 hx (hb hby own_d11_13) rfl rfl rfl ?_
  obtain ⟨cq3, kq3, q3a, q3b, q3c⟩ := isOf hZ eq2 E_n7
  obtain ⟨_, _, ⟨T3, L3, k3, n3⟩, -, X3, ⟨Lc3, hQ3, l3, y3, z3⟩, st3⟩ := X2.virtualBack hx (y := (⟨"java/lang/String", "length", "()I"⟩ : MethodName)) (z := (⟨"java/lang/String", "length", "()I"⟩ : MethodName)) hown (mvT hZ (oW hw 83 rfl)) (mvT hZ (oW hw 70 rfl)) (notFace_of_selects (args := #[]) (mvT hZ (oW hw 72 rfl))) (mvT hZ (oW hw 72 rfl)) (mvT hZ (oW hw 71 rfl)) (by decide) (backOf (W := 0) (rmLn3 l Z a0 hw [] n7 zc t7 k7 x1 x2 x3 h0 n0 Z0 O0 (by assumption) (by assumption) E_n7 C_n7 V_n7 A_n7) hZ (oW hw 73 rfl) (oW hw 2 rfl) (by decide) (by decide)) q3a q3c (g := (mkF m 14 #[rv a7, rv n7, .val .null, rv d7, iv q7] [(.ref n7)])) rfl (by rw [hml]; rfl) (Steps.refl _) (argsL := []) (rest := []) (lenOf own_pd5 rfl) rfl (by show 2 * 0 + _ ≤ _; exact Nat.le_of_eq rfl) (hb hby own_d11_14) (fun _ _ => ⟨rfl, eq2, (by decide : ((0 + 0) + 0) + 0 ≤ _), (by decide : ((0 + 0) + 0) + 0 ≤ _)⟩)
  dsimp only [Pt.U, Pt.locs, Pt.cells, Pt.slots] at X3 l3 y3 z3 st3 hQ3
  subst l3 y3 z3
  obtain ⟨rfl, Nq3, eq3⟩ := hQ3
  have N3 := Fr.app N2 Nq3
  refine ov (B := T3.setTop (mkF m 17 #[rv a7, rv n7, .val .null, rv d7, iv q7] [(.int (3 : Int32))])) (fun t k => st3.trans k) ?_
  refine oIC (n := 18) X3 hx (2 : Int32) (hb hby own_d11_17) (by decide) rfl ?_
  have hc18 : ¬ ((3 : Int32) = (2 : Int32)) := by decide
  refine ov (B := T3.setTop (mkF m 35 #[rv a7, rv n7, .val .null, rv d7, iv q7] [])) (fun t k => XS.icmpYes X3.here hx rfl (pc0 := 18) (pc' := 35) rfl (hb hby own_d11_18) rfl (feq hc18).2 (by decide) (by decide) k) ?_
  refine oALN (n := 36) X3 hx (hb hby own_d11_35) rfl rfl rfl ?_
  obtain ⟨c4, T4, h4, k4, X4, e4, E4, hS4, hk4, hZ, hown, hwm4, st4⟩ := own_ldcS2 X3 hx hZ hown (oW hw 84 rfl) wS eq3 hS0 hk0 (g := (mkF m 36 #[rv a7, rv n7, .val .null, rv d7, iv q7] [(.ref d7)])) rfl (hb hby own_d11_36) (n := 44) (by decide) (by decide) (by decide) (by decide)
  have hlit4_lc := Lit.stays (s := s) hV hwm4
  refine ov (B := T4.setTop (mkF m 38 #[rv a7, rv n7, .val .null, rv d7, iv q7] [(.ref c4), (.ref d7)])) (fun t k => st4 t k) ?_
  obtain ⟨_, _, ⟨T5, L5, k5, n5⟩, -, X5, ⟨Lc5, hQ5, l5, y5, z5⟩, st5⟩ := Jvm.LawKit.callS X4 hx (y := (⟨"java/util/Objects", "requireNonNull", "(Ljava/lang/Object;Ljava/lang/String;)Ljava/lang/Object;"⟩ : MethodName)) hown (mvT hZ (oW hw 85 rfl)) (mvT hZ (oW hw 86 rfl)) (mvT hZ (oW hw 87 rfl)) (mvT hZ (oW hw 88 rfl)) (by decide) (backOf (W := 0) (rmN l Z a0 hw [] d7 c4 h4 n0 (Nat.le_trans Z0 E4.1) ) hZ (oW hw 88 rfl) (oW hw 87 rfl) (by decide) (by decide)) (g := (mkF m 38 #[rv a7, rv n7, .val .null, rv d7, iv q7] [(.ref c4), (.ref d7)])) rfl (by rw [hml]; rfl) (argsL := [(.ref d7), (.ref c4)]) (rest := []) (lenOf own_pd10 rfl) rfl (by show 2 * 0 + _ ≤ _; exact Nat.le_of_eq rfl) (hb hby own_d11_38) (fun _ _ => ⟨rfl, e4, (by decide : ((((0 + 0) + 0) + 0) + 2) + 0 ≤ _), (by decide : ((((0 + 0) + 0) + 0) + (44 + 4)) + 0 ≤ _)⟩)
  dsimp only [Pt.U, Pt.locs, Pt.cells, Pt.slots] at X5 l5 y5 z5 st5 hQ5
  subst l5 y5 z5
  obtain ⟨rfl, Nq5, eq5⟩ := hQ5
  have N5 := Fr.app N3 Nq5
  refine ov (B := T5.setTop (mkF m 41 #[rv a7, rv n7, .val .null, rv d7, iv q7] [(.ref d7)])) (fun t k => st5 t k) ?_
  refine oPO (n := 42) X5 hx (hb hby own_d11_41) rfl rfl ?_
  refine oALN (n := 43) X5 hx (hb hby own_d11_42) rfl rfl rfl ?_
  refine oALN (n := 44) X5 hx (hb hby own_d11_43) rfl rfl rfl ?_
  obtain ⟨T6, h6, X6, e6, W6, st6⟩ := putF X5 hx hZ hown (host := "") (Or.inl (oW hw 89 rfl)) Via.refl eq5 (F70.ext E4) (E7.ext E4) (Or.inr ⟨(oW hw 90 rfl), rfl, hnm⟩) (oW hw 45 rfl) (ty := (.object "java/lang/String")) (by decide) rfl rfl (g := (mkF m 44 #[rv a7, rv n7, .val .null, rv d7, iv q7] [(.ref n7), (.ref a7)])) rfl rfl (hb hby own_d11_44)
  have Fw6 := (F70.ext E4).same W6
  have N6 := Fr.snoc X6 N5 g_a7
  refine ov (B := T6.setTop (mkF m 47 #[rv a7, rv n7, .val .null, rv d7, iv q7] [])) (fun t k => st6 t k) ?_
  refine oALN (n := 48) X6 hx (hb hby own_d11_47) rfl rfl rfl ?_
  refine oALN (n := 49) X6 hx (hb hby own_d11_48) rfl rfl rfl ?_
  obtain ⟨T7, h7, X7, e7, W7, st7⟩ := putF X6 hx hZ hown (host := "") (Or.inl (oW hw 91 rfl)) Via.refl e6 ((F71.ext E4).other W6 (Or.inr (slot_ne (Or.inr (oW hw 92 rfl)) (Or.inr (oW hw 90 rfl)) (by decide +kernel) (t := (.object "java/lang/String")) (t' := (.object "java/lang/String")) (by decide +kernel) (by decide +kernel)))) ((E7.ext E4).wr W6) (Or.inr ⟨(oW hw 92 rfl), rfl, hnm⟩) (oW hw 45 rfl) (ty := (.object "java/lang/String")) (by decide) rfl rfl (g := (mkF m 49 #[rv a7, rv n7, .val .null, rv d7, iv q7] [.null, (.ref a7)])) rfl rfl (hb hby own_d11_49)
  have Fw7 := ((F71.ext E4).other W6 (Or.inr (slot_ne (Or.inr (oW hw 92 rfl)) (Or.inr (oW hw 90 rfl)) (by decide +kernel) (t := (.object "java/lang/String")) (t' := (.object "java/lang/String")) (by decide +kernel) (by decide +kernel)))).same W7
  have N7 := Fr.snoc X7 N6 g_a7
  refine ov (B := T7.setTop (mkF m 52 #[rv a7, rv n7, .val .null, rv d7, iv q7] [])) (fun t k => st7 t k) ?_
  refine oALN (n := 53) X7 hx (hb hby own_d11_52) rfl rfl rfl ?_
  refine oALN (n := 54) X7 hx (hb hby own_d11_53) rfl rfl rfl ?_
  obtain ⟨T8, h8, X8, e8, W8, st8⟩ := putF X7 hx hZ hown (host := "") (Or.inl (oW hw 93 rfl)) Via.refl e7 (((F72.ext E4).other W6 (Or.inr (slot_ne (Or.inr (oW hw 94 rfl)) (Or.inr (oW hw 90 rfl)) (by decide +kernel) (t := (.object "java/lang/String")) (t' := (.object "java/lang/String")) (by decide +kernel) (by decide +kernel)))).other W7 (Or.inr (slot_ne (Or.inr (oW hw 94 rfl)) (Or.inr (oW hw 92 rfl)) (by decide +kernel) (t := (.object "java/lang/String")) (t' := (.object "java/lang/String")) (by decide +kernel) (by decide +kernel)))) (((E7.ext E4).wr W6).wr W7) (Or.inr ⟨(oW hw 94 rfl), rfl, hnm⟩) (oW hw 45 rfl) (ty := (.object "java/lang/String")) (by decide) rfl rfl (g := (mkF m 54 #[rv a7, rv n7, .val .null, rv d7, iv q7] [(.ref d7), (.ref a7)])) rfl rfl (hb hby own_d11_54)
  have Fw8 := (((F72.ext E4).other W6 (Or.inr (slot_ne (Or.inr (oW hw 94 rfl)) (Or.inr (oW hw 90 rfl)) (by decide +kernel) (t := (.object "java/lang/String")) (t' := (.object "java/lang/String")) (by decide +kernel) (by decide +kernel)))).other W7 (Or.inr (slot_ne (Or.inr (oW hw 94 rfl)) (Or.inr (oW hw 92 rfl)) (by decide +kernel) (t := (.object "java/lang/String")) (t' := (.object "java/lang/String")) (by decide +kernel) (by decide +kernel)))).same W8
  have N8 := Fr.snoc X8 N7 g_a7
  refine ov (B := T8.setTop (mkF m 57 #[rv a7, rv n7, .val .null, rv d7, iv q7] [])) (fun t k => st8 t k) ?_
  refine oALN (n := 58) X8 hx (hb hby own_d11_57) rfl rfl rfl ?_
  refine oIL (n := 60) X8 hx (hb hby own_d11_58) rfl rfl ?_
  obtain ⟨T9, h9, X9, e9, W9, st9⟩ := putFN X8 hx hZ hown (oW hw 95 rfl) Via.refl e8 ((((F73.ext E4).other W6 (Or.inr (slot_ne (Or.inr (oW hw 96 rfl)) (Or.inr (oW hw 90 rfl)) (by decide +kernel) (t := .boolean) (t' := (.object "java/lang/String")) (by decide +kernel) (by decide +kernel)))).other W7 (Or.inr (slot_ne (Or.inr (oW hw 96 rfl)) (Or.inr (oW hw 92 rfl)) (by decide +kernel) (t := .boolean) (t' := (.object "java/lang/String")) (by decide +kernel) (by decide +kernel)))).other W8 (Or.inr (slot_ne (Or.inr (oW hw 96 rfl)) (Or.inr (oW hw 94 rfl)) (by decide +kernel) (t := .boolean) (t' := (.object "java/lang/String")) (by decide +kernel) (by decide +kernel)))) ((((E7.ext E4).wr W6).wr W7).wr W8) (Or.inr ⟨(oW hw 96 rfl), rfl, hnm⟩) (oW hw 45 rfl) (ty := .boolean) (v' := (.int q7)) (by decide) (own_b1 (by first | assumption | (simp; done))) (own_fb (by first | assumption | (simp; done))) (g := (mkF m 60 #[rv a7, rv n7, .val .null, rv d7, iv q7] [(.int q7), (.ref a7)])) rfl rfl (hb hby own_d11_60)
  have Fw9 := ((((F73.ext E4).other W6 (Or.inr (slot_ne (Or.inr (oW hw 96 rfl)) (Or.inr (oW hw 90 rfl)) (by decide +kernel) (t := .boolean) (t' := (.object "java/lang/String")) (by decide +kernel) (by decide +kernel)))).other W7 (Or.inr (slot_ne (Or.inr (oW hw 96 rfl)) (Or.inr (oW hw 92 rfl)) (by decide +kernel) (t := .boolean) (t' := (.object "java/lang/String")) (by decide +kernel) (by decide +kernel)))).other W8 (Or.inr (slot_ne (Or.inr (oW hw 96 rfl)) (Or.inr (oW hw 94 rfl)) (by decide +kernel) (t := .boolean) (t' := (.object "java/lang/String")) (by decide +kernel) (by decide +kernel)))).same W9
  have N9 := Fr.snoc X9 N8 g_a7
  refine ov (B := T9.setTop (mkF m 63 #[rv a7, rv n7, .val .null, rv d7, iv q7] [])) (fun t k => st9 t k) ?_
  refine own_leafVW X9 hx hlk hS4 (by rw [e9]; exact (Nat.le_trans (Nat.le_trans (Nat.le_trans (Nat.le_trans hk4 (Keep.of_wr W6).1) (Keep.of_wr W7).1) (Keep.of_wr W8).1) (Keep.of_wr W9).1)) Bd.returns (hb hby own_d11_63) (by decide) (by decide) ?_
  show QO2n Z a7 n7 d7 q7 u0 u1 u2 u3 zc t7 k7 x1 x2 x3 lc lt lk h0 n0 _ T9.heap _
  rw [e9]
  refine ⟨?_, N9, ((((((Keep.refl h0 [a7]).ext E4).wr W6 (Or.inl (List.mem_of_getElem? (i := 0) rfl))).wr W7 (Or.inl (List.mem_of_getElem? (i := 0) rfl))).wr W8 (Or.inl (List.mem_of_getElem? (i := 0) rfl))).wr W9 (Or.inl (List.mem_of_getElem? (i := 0) rfl))), (((Fw6.other W7 (Or.inr (slot_ne (Or.inr (oW hw 90 rfl)) (Or.inr (oW hw 92 rfl)) (by decide +kernel) (t := (.object "java/lang/String")) (t' := (.object "java/lang/String")) (by decide +kernel) (by decide +kernel)))).other W8 (Or.inr (slot_ne (Or.inr (oW hw 90 rfl)) (Or.inr (oW hw 94 rfl)) (by decide +kernel) (t := (.object "java/lang/String")) (t' := (.object "java/lang/String")) (by decide +kernel) (by decide +kernel)))).other W9 (Or.inr (slot_ne (Or.inr (oW hw 90 rfl)) (Or.inr (oW hw 96 rfl)) (by decide +kernel) (t := (.object "java/lang/String")) (t' := .boolean) (by decide +kernel) (by decide +kernel)))), ((Fw7.other W8 (Or.inr (slot_ne (Or.inr (oW hw 92 rfl)) (Or.inr (oW hw 94 rfl)) (by decide +kernel) (t := (.object "java/lang/String")) (t' := (.object "java/lang/String")) (by decide +kernel) (by decide +kernel)))).other W9 (Or.inr (slot_ne (Or.inr (oW hw 92 rfl)) (Or.inr (oW hw 96 rfl)) (by decide +kernel) (t := (.object "java/lang/String")) (t' := .boolean) (by decide +kernel) (by decide +kernel)))), (Fw8.other W9 (Or.inr (slot_ne (Or.inr (oW hw 94 rfl)) (Or.inr (oW hw 96 rfl)) (by decide +kernel) (t := (.object "java/lang/String")) (t' := .boolean) (by decide +kernel) (by decide +kernel)))), Fw9⟩
  rfl
theorem own_efO2r (m : MethodId) (x0 : Addr) (x1 : Addr) (x2 : Addr) (x3 : Addr) (x4 : Int32) : entryFrame m #[(.ref x0), (.ref x1), (.ref x2), (.ref x3), (.int x4)] 5 = mkF m 0 #[rv x0, rv x1, rv x2, rv x3, iv x4] [] := by first | (simp [entryFrame, mkF, argsToLocals, Value.category]; done) | rfl
def QO2r (Z : State) (a7 : Addr) (n7 : Addr) (w7 : Addr) (d7 : Addr) (q7 : Int32) (u0 : Value) (u1 : Value) (u2 : Value) (u3 : Value) (zc : Int32) (t7 : Addr) (k7 : ClassId) (x1 : Int32) (x2 : Int32) (x3 : Int32) (lc : Addr) (lt : Addr) (lk : ClassId) (h0 : Heap) (n0 : Nat) (v : Option Value) (h : Heap) (L : List Loc) : Prop := v = none ∧ Fr n0 L ∧ Keep h0 h [a7] ∧ (Fld Z h a7 "com/example/planmend/planmend/cli/Option" "name" "Ljava/lang/String;" (.ref n7)) ∧ (Fld Z h a7 "com/example/planmend/planmend/cli/Option" "value" "Ljava/lang/String;" (.ref w7)) ∧ (Fld Z h a7 "com/example/planmend/planmend/cli/Option" "description" "Ljava/lang/String;" (.ref d7)) ∧ (Fld Z h a7 "com/example/planmend/planmend/cli/Option" "required" "Z" (.int q7))
set_option maxRecDepth 65536 in
set_option maxHeartbeats 40000000 in
theorem rmO2r (l : Launch) (Z : State) (a0 : Array Value) (hw : ∀ d ∈ tables_1, d.before a0 Z = true) (ws : List Jvm.Cond) (a7 : Addr) (n7 : Addr) (w7 : Addr) (d7 : Addr) (q7 : Int32) (u0 : Value) (u1 : Value) (u2 : Value) (u3 : Value) (zc : Int32) (t7 : Addr) (k7 : ClassId) (x1 : Int32) (x2 : Int32) (x3 : Int32) (lc : Addr) (lt : Addr) (lk : ClassId) (h0 : Heap) (n0 : Nat) (Z0 : n0 ≤ h0.size) (O0 : Old Z n0 h0) (Scz : Sta Z Z.heap "java/lang/String" "COMPACT_STRINGS" "Z" (.int zc)) (hcz : ¬ zc = 0) (hcw : Jvm.Lit.compactW.before a0 Z = true) (hco : Jvm.Lit.constHeld Z "com/example/planmend/planmend/cli/Option" 7) (E7 : Exa Z h0 a7 "com/example/planmend/planmend/cli/Option") (F70 : Fld Z h0 a7 "com/example/planmend/planmend/cli/Option" "name" "Ljava/lang/String;" u0) (F71 : Fld Z h0 a7 "com/example/planmend/planmend/cli/Option" "value" "Ljava/lang/String;" u1) (F72 : Fld Z h0 a7 "com/example/planmend/planmend/cli/Option" "description" "Ljava/lang/String;" u2) (F73 : Fld Z h0 a7 "com/example/planmend/planmend/cli/Option" "required" "Z" u3) (g_a7 : n0 ≤ a7) (E_n7 : Exa Z h0 n7 "java/lang/String") (C_n7 : Fld Z h0 n7 "java/lang/String" "coder" "B" (.int (0 : Int32))) (V_n7 : Fld Z h0 n7 "java/lang/String" "value" "[B" (.ref t7)) (A_n7 : Arv Z h0 t7 k7 .byte (3 : Int32) [(.int x1), (.int x2), (.int x3)] (.int (0 : Int32))) (hx1 : x1 = (45 : Int32)) (hx2 : x2 = (45 : Int32)) (hq7 : q7 = 0 ∨ q7 = 1) (E_lc : Exa Z h0 lc "java/lang/String") (C_lc : Fld Z h0 lc "java/lang/String" "coder" "B" (.int (0 : Int32))) (V_lc : Fld Z h0 lc "java/lang/String" "value" "[B" (.ref lt)) (A_lc : Arv Z h0 lt lk .byte (2 : Int32) [(.int (45 : Int32)), (.int (45 : Int32))] (.int (0 : Int32))) :
    MetFree l (⟨"com/example/planmend/planmend/cli/Option", "<init>", "(Ljava/lang/String;Ljava/lang/String;Ljava/lang/String;Z)V"⟩ : MethodName) (head1 (Jvm.Cond.code (⟨"com/example/planmend/planmend/cli/Option", "<init>", "(Ljava/lang/String;Ljava/lang/String;Ljava/lang/String;Z)V"⟩ : MethodName) prog_2_method_1_code 5 none :: ws) ({ frames := 4, cells := 4, slots := 60, locals := 90 } : Room)) (fun a U => a = #[(.ref a7), (.ref n7), (.ref w7), (.ref d7), (.int q7)] ∧ Z.Warmed39 U.vm ∧ U.heap = h0 ∧ (Lit (Z.setVm U.vm) "com/example/planmend/planmend/cli/Option" 7 lc)) (fun _ _ _ _ _ => True) (fun _ U o U' => ∃ v L, o = .returned v ∧ QO2r Z a7 n7 w7 d7 q7 u0 u1 u2 u3 zc t7 k7 x1 x2 x3 lc lt lk h0 n0 v U'.heap L ∧ ReturnedEndW U o U' L ({ frames := 4, cells := 4, slots := 60, locals := 90 } : Room).cells ({ frames := 4, cells := 4, slots := 60, locals := 90 } : Room).slots) := by
  refine MetFree.of_bodySF (plainFor_of_name own_pn5) hisR ?_
  intro p e s m args below meth c s₁ Bd hml0 hP hK
  obtain ⟨rfl, hZ, hh, hV⟩ := hP
  have hx := Bd.exec
  have hby := Bd.bytes
  have hlk : meth.locks = false := Bd.notSynchronized
  have hml : c.maxLocals = 5 := hml0
  have hown : s.vm.findClass "com/example/planmend/planmend/cli/Option" = some m.cls := findClass_of_methodNamed Bd.named
  have hnm := (name_of_methodNamed Bd.named Bd.method).1
  have X0 : Stand p l e ({ frames := 4, cells := 4, slots := 60, locals := 90 } : Room) (s.setVm s.vm) m #[(.ref a7), (.ref n7), (.ref w7), (.ref d7), (.int q7)] below meth c s₁ [] 0 0 := Stand.of_body Bd
  have e0 : s₁.heap = h0 := by rw [← hh, Bd.state]; rfl
  have N0 := Fr.nil n0
  have hS0 : s.Since s.vm h0.size := (State.WarmedH.refl s).since _
  have hk0 : h0.size ≤ h0.size := Nat.le_refl _
  have wS : ∀ a ∈ Bundle.stringAtoms, a.before a0 Z = true := by
    intro a ha
    simp only [Bundle.stringAtoms, List.mem_cons, List.not_mem_nil, or_false] at ha
    rcases ha with rfl | rfl | rfl | rfl | rfl | rfl | rfl
    · exact (oW hw 2 rfl)
    · exact (oW hw 1 rfl)
    · exact (oW hw 19 rfl)
    · exact (oW hw 29 rfl)
    · exact (oW hw 27 rfl)
    · exact (oW hw 57 rfl)
    · exact (oW hw 58 rfl)
  refine own_bodyW (A := s₁.setTop (mkF m 0 #[rv a7, rv n7, rv w7, rv d7, iv q7] [])) (Q := QO2r Z a7 n7 w7 d7 q7 u0 u1 u2 u3 zc t7 k7 x1 x2 x3 lc lt lk h0 n0) (fun t k => castTop (own_efO2r m a7 n7 w7 d7 q7) k) ?_
  refine oALN (n := 1) X0 hx (hb hby own_d11_0) rfl rfl rfl ?_
  obtain ⟨_, _, ⟨T1, L1, k1, n1⟩, -, X1, ⟨Lc1, hQ1, l1, y1, z1⟩, st1⟩ := X0.specialBack hx (y := (⟨"java/lang/Record", "<init>", "()V"⟩ : MethodName)) rfl hown (mvT hZ (oW hw 50 rfl)) (mvT hZ (oW hw 51 rfl)) (mvT hZ (oW hw 54 rfl)) (by decide) (backOf (W := 0) (rmR l Z a0 hw [] a7 h0 n0 Z0 ) hZ (oW hw 54 rfl) (oW hw 53 rfl) (by decide) (by decide)) (g := (mkF m 1 #[rv a7, rv n7, rv w7, rv d7, iv q7] [(.ref a7)])) rfl (by rw [hml]; rfl) (Steps.refl _) (a := a7) (argsL := []) (rest := []) (lenOf own_pd8 rfl) rfl (by show 2 * 0 + _ ≤ _; exact Nat.le_of_eq rfl) (hb hby own_d11_1) (fun _ _ => ⟨rfl, e0, (by decide : 0 + 0 ≤ _), (by decide : 0 + 0 ≤ _)⟩)
  dsimp only [Pt.U, Pt.locs, Pt.cells, Pt.slots] at X1 l1 y1 z1 st1 hQ1
  subst l1 y1 z1
  obtain ⟨rfl, Nq1, eq1, pL_1⟩ := hQ1
  have N1 := Fr.app N0 Nq1
  subst pL_1
  refine ov (B := T1.setTop (mkF m 4 #[rv a7, rv n7, rv w7, rv d7, iv q7] [])) (fun t k => st1.trans k) ?_
  refine oALN (n := 5) X1 hx (hb hby own_d11_4) rfl rfl rfl ?_
  refine ov (B := T1.setTop (mkF m 7 #[rv a7, rv n7, rv w7, rv d7, iv q7] [(.ref lc), (.ref n7)])) (fun t k => ldcAgain X1 hx hZ hown (oW hw 56 rfl) hV (g := (mkF m 5 #[rv a7, rv n7, rv w7, rv d7, iv q7] [(.ref n7)])) rfl (hb hby own_d11_5) t k) ?_
  obtain ⟨cq2, kq2, q2a, q2b, q2c⟩ := isOf hZ eq1 E_n7
  obtain ⟨_, _, ⟨T2, L2, k2, n2⟩, -, X2, ⟨Lc2, hQ2, l2, y2, z2⟩, st2⟩ := X1.virtualBack hx (y := (⟨"java/lang/String", "startsWith", "(Ljava/lang/String;)Z"⟩ : MethodName)) (z := (⟨"java/lang/String", "startsWith", "(Ljava/lang/String;)Z"⟩ : MethodName)) hown (mvT hZ (oW hw 59 rfl)) (mvT hZ (oW hw 60 rfl)) (notFace_of_selects (args := #[]) (mvT hZ (oW hw 62 rfl))) (mvT hZ (oW hw 62 rfl)) (mvT hZ (oW hw 61 rfl)) (by decide) (backOf (W := 0) (rmS l Z a0 hw [] n7 lc zc t7 k7 lt lk x1 x2 x3 h0 n0 Z0 O0 (by assumption) (by assumption) E_n7 C_n7 V_n7 A_n7 E_lc C_lc V_lc A_lc hx1 hx2) hZ (oW hw 63 rfl) (oW hw 2 rfl) (by decide) (by decide)) q2a q2c (g := (mkF m 7 #[rv a7, rv n7, rv w7, rv d7, iv q7] [(.ref lc), (.ref n7)])) rfl (by rw [hml]; rfl) (Steps.refl _) (argsL := [(.ref lc)]) (rest := []) (lenOf own_pd9 rfl) rfl (by show 2 * 0 + _ ≤ _; exact Nat.le_of_eq rfl) (hb hby own_d11_7) (fun _ _ => ⟨rfl, eq1, (by decide : (0 + 0) + 0 ≤ _), (by decide : (0 + 0) + 0 ≤ _)⟩)
  dsimp only [Pt.U, Pt.locs, Pt.cells, Pt.slots] at X2 l2 y2 z2 st2 hQ2
  subst l2 y2 z2
  obtain ⟨rfl, Nq2, eq2⟩ := hQ2
  have N2 := Fr.app N1 Nq2
  refine ov (B := T2.setTop (mkF m 10 #[rv a7, rv n7, rv w7, rv d7, iv q7] [(.int (1 : Int32))])) (fun t k => st2.trans k) ?_
  have hc10 : ¬ ((1 : Int32) = (0 : Int32)) := by decide
  refine ov (B := T2.setTop (mkF m 13 #[rv a7, rv n7, rv w7, rv d7, iv q7] [])) (fun t k => XS.ifNo X2.here hx rfl (hb hby own_d11_10) rfl ((if0 _ _).trans (feq hc10).1) k) ?_
  refine oALN (n := 14) X2 hx (hb hby own_d11_13) rfl rfl rfl ?_
  obtain ⟨cq3, kq3, q3a, q3b, q3c⟩ := isOf hZ eq2 E_n7
  obtain ⟨_, _, ⟨T3, L3, k3, n3⟩, -, X3, ⟨Lc3, hQ3, l3, y3, z3⟩, st3⟩ := X2.virtualBack hx (y := (⟨"java/lang/String", "length", "()I"⟩ : MethodName)) (z := (⟨"java/lang/String", "length", "()I"⟩ : MethodName)) hown (mvT hZ (oW hw 83 rfl)) (mvT hZ (oW hw 70 rfl)) (notFace_of_selects (args := #[]) (mvT hZ (oW hw 72 rfl))) (mvT hZ (oW hw 72 rfl)) (mvT hZ (oW hw 71 rfl)) (by decide) (backOf (W := 0) (rmLn3 l Z a0 hw [] n7 zc t7 k7 x1 x2 x3 h0 n0 Z0 O0 (by assumption) (by assumption) E_n7 C_n7 V_n7 A_n7) hZ (oW hw 73 rfl) (oW hw 2 rfl) (by decide) (by decide)) q3a q3c (g := (mkF m 14 #[rv a7, rv n7, rv w7, rv d7, iv q7] [(.ref n7)])) rfl (by rw [hml]; rfl) (Steps.refl _) (argsL := []) (rest := []) (lenOf own_pd5 rfl) rfl (by show 2 * 0 + _ ≤ _; exact Nat.le_of_eq rfl) (hb hby own_d11_14) (fun _ _ => ⟨rfl, eq2, (by decide : ((0 + 0) + 0) + 0 ≤ _), (by decide : ((0 + 0) + 0) + 0 ≤ _)⟩)
  dsimp only [Pt.U, Pt.locs, Pt.cells, Pt.slots] at X3 l3 y3 z3 st3 hQ3
  subst l3 y3 z3
  obtain ⟨rfl, Nq3, eq3⟩ := hQ3
  have N3 := Fr.app N2 Nq3
  refine ov (B := T3.setTop (mkF m 17 #[rv a7, rv n7, rv w7, rv d7, iv q7] [(.int (3 : Int32))])) (fun t k => st3.trans k) ?_
  refine oIC (n := 18) X3 hx (2 : Int32) (hb hby own_d11_17) (by decide) rfl ?_
  have hc18 : ¬ ((3 : Int32) = (2 : Int32)) := by decide
  refine ov (B := T3.setTop (mkF m 35 #[rv a7, rv n7, rv w7, rv d7, iv q7] [])) (fun t k => XS.icmpYes X3.here hx rfl (pc0 := 18) (pc' := 35) rfl (hb hby own_d11_18) rfl (feq hc18).2 (by decide) (by decide) k) ?_
  refine oALN (n := 36) X3 hx (hb hby own_d11_35) rfl rfl rfl ?_
  obtain ⟨c4, T4, h4, k4, X4, e4, E4, hS4, hk4, hZ, hown, hwm4, st4⟩ := own_ldcS2 X3 hx hZ hown (oW hw 84 rfl) wS eq3 hS0 hk0 (g := (mkF m 36 #[rv a7, rv n7, rv w7, rv d7, iv q7] [(.ref d7)])) rfl (hb hby own_d11_36) (n := 44) (by decide) (by decide) (by decide) (by decide)
  have hlit4_lc := Lit.stays (s := s) hV hwm4
  refine ov (B := T4.setTop (mkF m 38 #[rv a7, rv n7, rv w7, rv d7, iv q7] [(.ref c4), (.ref d7)])) (fun t k => st4 t k) ?_
  obtain ⟨_, _, ⟨T5, L5, k5, n5⟩, -, X5, ⟨Lc5, hQ5, l5, y5, z5⟩, st5⟩ := Jvm.LawKit.callS X4 hx (y := (⟨"java/util/Objects", "requireNonNull", "(Ljava/lang/Object;Ljava/lang/String;)Ljava/lang/Object;"⟩ : MethodName)) hown (mvT hZ (oW hw 85 rfl)) (mvT hZ (oW hw 86 rfl)) (mvT hZ (oW hw 87 rfl)) (mvT hZ (oW hw 88 rfl)) (by decide) (backOf (W := 0) (rmN l Z a0 hw [] d7 c4 h4 n0 (Nat.le_trans Z0 E4.1) ) hZ (oW hw 88 rfl) (oW hw 87 rfl) (by decide) (by decide)) (g := (mkF m 38 #[rv a7, rv n7, rv w7, rv d7, iv q7] [(.ref c4), (.ref d7)])) rfl (by rw [hml]; rfl) (argsL := [(.ref d7), (.ref c4)]) (rest := []) (lenOf own_pd10 rfl) rfl (by show 2 * 0 + _ ≤ _; exact Nat.le_of_eq rfl) (hb hby own_d11_38) (fun _ _ => ⟨rfl, e4, (by decide : ((((0 + 0) + 0) + 0) + 2) + 0 ≤ _), (by decide : ((((0 + 0) + 0) + 0) + (44 + 4)) + 0 ≤ _)⟩)
  dsimp only [Pt.U, Pt.locs, Pt.cells, Pt.slots] at X5 l5 y5 z5 st5 hQ5
  subst l5 y5 z5
  obtain ⟨rfl, Nq5, eq5⟩ := hQ5
  have N5 := Fr.app N3 Nq5
  refine ov (B := T5.setTop (mkF m 41 #[rv a7, rv n7, rv w7, rv d7, iv q7] [(.ref d7)])) (fun t k => st5 t k) ?_
  refine oPO (n := 42) X5 hx (hb hby own_d11_41) rfl rfl ?_
  refine oALN (n := 43) X5 hx (hb hby own_d11_42) rfl rfl rfl ?_
  refine oALN (n := 44) X5 hx (hb hby own_d11_43) rfl rfl rfl ?_
  obtain ⟨T6, h6, X6, e6, W6, st6⟩ := putF X5 hx hZ hown (host := "") (Or.inl (oW hw 89 rfl)) Via.refl eq5 (F70.ext E4) (E7.ext E4) (Or.inr ⟨(oW hw 90 rfl), rfl, hnm⟩) (oW hw 45 rfl) (ty := (.object "java/lang/String")) (by decide) rfl rfl (g := (mkF m 44 #[rv a7, rv n7, rv w7, rv d7, iv q7] [(.ref n7), (.ref a7)])) rfl rfl (hb hby own_d11_44)
  have Fw6 := (F70.ext E4).same W6
  have N6 := Fr.snoc X6 N5 g_a7
  refine ov (B := T6.setTop (mkF m 47 #[rv a7, rv n7, rv w7, rv d7, iv q7] [])) (fun t k => st6 t k) ?_
  refine oALN (n := 48) X6 hx (hb hby own_d11_47) rfl rfl rfl ?_
  refine oALN (n := 49) X6 hx (hb hby own_d11_48) rfl rfl rfl ?_
  obtain ⟨T7, h7, X7, e7, W7, st7⟩ := putF X6 hx hZ hown (host := "") (Or.inl (oW hw 91 rfl)) Via.refl e6 ((F71.ext E4).other W6 (Or.inr (slot_ne (Or.inr (oW hw 92 rfl)) (Or.inr (oW hw 90 rfl)) (by decide +kernel) (t := (.object "java/lang/String")) (t' := (.object "java/lang/String")) (by decide +kernel) (by decide +kernel)))) ((E7.ext E4).wr W6) (Or.inr ⟨(oW hw 92 rfl), rfl, hnm⟩) (oW hw 45 rfl) (ty := (.object "java/lang/String")) (by decide) rfl rfl (g := (mkF m 49 #[rv a7, rv n7, rv w7, rv d7, iv q7] [(.ref w7), (.ref a7)])) rfl rfl (hb hby own_d11_49)
  have Fw7 := ((F71.ext E4).other W6 (Or.inr (slot_ne (Or.inr (oW hw 92 rfl)) (Or.inr (oW hw 90 rfl)) (by decide +kernel) (t := (.object "java/lang/String")) (t' := (.object "java/lang/String")) (by decide +kernel) (by decide +kernel)))).same W7
  have N7 := Fr.snoc X7 N6 g_a7
  refine ov (B := T7.setTop (mkF m 52 #[rv a7, rv n7, rv w7, rv d7, iv q7] [])) (fun t k => st7 t k) ?_
  refine oALN (n := 53) X7 hx (hb hby own_d11_52) rfl rfl rfl ?_
  refine oALN (n := 54) X7 hx (hb hby own_d11_53) rfl rfl rfl ?_
  obtain ⟨T8, h8, X8, e8, W8, st8⟩ := putF X7 hx hZ hown (host := "") (Or.inl (oW hw 93 rfl)) Via.refl e7 (((F72.ext E4).other W6 (Or.inr (slot_ne (Or.inr (oW hw 94 rfl)) (Or.inr (oW hw 90 rfl)) (by decide +kernel) (t := (.object "java/lang/String")) (t' := (.object "java/lang/String")) (by decide +kernel) (by decide +kernel)))).other W7 (Or.inr (slot_ne (Or.inr (oW hw 94 rfl)) (Or.inr (oW hw 92 rfl)) (by decide +kernel) (t := (.object "java/lang/String")) (t' := (.object "java/lang/String")) (by decide +kernel) (by decide +kernel)))) (((E7.ext E4).wr W6).wr W7) (Or.inr ⟨(oW hw 94 rfl), rfl, hnm⟩) (oW hw 45 rfl) (ty := (.object "java/lang/String")) (by decide) rfl rfl (g := (mkF m 54 #[rv a7, rv n7, rv w7, rv d7, iv q7] [(.ref d7), (.ref a7)])) rfl rfl (hb hby own_d11_54)
  have Fw8 := (((F72.ext E4).other W6 (Or.inr (slot_ne (Or.inr (oW hw 94 rfl)) (Or.inr (oW hw 90 rfl)) (by decide +kernel) (t := (.object "java/lang/String")) (t' := (.object "java/lang/String")) (by decide +kernel) (by decide +kernel)))).other W7 (Or.inr (slot_ne (Or.inr (oW hw 94 rfl)) (Or.inr (oW hw 92 rfl)) (by decide +kernel) (t := (.object "java/lang/String")) (t' := (.object "java/lang/String")) (by decide +kernel) (by decide +kernel)))).same W8
  have N8 := Fr.snoc X8 N7 g_a7
  refine ov (B := T8.setTop (mkF m 57 #[rv a7, rv n7, rv w7, rv d7, iv q7] [])) (fun t k => st8 t k) ?_
  refine oALN (n := 58) X8 hx (hb hby own_d11_57) rfl rfl rfl ?_
  refine oIL (n := 60) X8 hx (hb hby own_d11_58) rfl rfl ?_
  obtain ⟨T9, h9, X9, e9, W9, st9⟩ := putFN X8 hx hZ hown (oW hw 95 rfl) Via.refl e8 ((((F73.ext E4).other W6 (Or.inr (slot_ne (Or.inr (oW hw 96 rfl)) (Or.inr (oW hw 90 rfl)) (by decide +kernel) (t := .boolean) (t' := (.object "java/lang/String")) (by decide +kernel) (by decide +kernel)))).other W7 (Or.inr (slot_ne (Or.inr (oW hw 96 rfl)) (Or.inr (oW hw 92 rfl)) (by decide +kernel) (t := .boolean) (t' := (.object "java/lang/String")) (by decide +kernel) (by decide +kernel)))).other W8 (Or.inr (slot_ne (Or.inr (oW hw 96 rfl)) (Or.inr (oW hw 94 rfl)) (by decide +kernel) (t := .boolean) (t' := (.object "java/lang/String")) (by decide +kernel) (by decide +kernel)))) ((((E7.ext E4).wr W6).wr W7).wr W8) (Or.inr ⟨(oW hw 96 rfl), rfl, hnm⟩) (oW hw 45 rfl) (ty := .boolean) (v' := (.int q7)) (by decide) (own_b1 (by first | assumption | (simp; done))) (own_fb (by first | assumption | (simp; done))) (g := (mkF m 60 #[rv a7, rv n7, rv w7, rv d7, iv q7] [(.int q7), (.ref a7)])) rfl rfl (hb hby own_d11_60)
  have Fw9 := ((((F73.ext E4).other W6 (Or.inr (slot_ne (Or.inr (oW hw 96 rfl)) (Or.inr (oW hw 90 rfl)) (by decide +kernel) (t := .boolean) (t' := (.object "java/lang/String")) (by decide +kernel) (by decide +kernel)))).other W7 (Or.inr (slot_ne (Or.inr (oW hw 96 rfl)) (Or.inr (oW hw 92 rfl)) (by decide +kernel) (t := .boolean) (t' := (.object "java/lang/String")) (by decide +kernel) (by decide +kernel)))).other W8 (Or.inr (slot_ne (Or.inr (oW hw 96 rfl)) (Or.inr (oW hw 94 rfl)) (by decide +kernel) (t := .boolean) (t' := (.object "java/lang/String")) (by decide +kernel) (by decide +kernel)))).same W9
  have N9 := Fr.snoc X9 N8 g_a7
  refine ov (B := T9.setTop (mkF m 63 #[rv a7, rv n7, rv w7, rv d7, iv q7] [])) (fun t k => st9 t k) ?_
  refine own_leafVW X9 hx hlk hS4 (by rw [e9]; exact (Nat.le_trans (Nat.le_trans (Nat.le_trans (Nat.le_trans hk4 (Keep.of_wr W6).1) (Keep.of_wr W7).1) (Keep.of_wr W8).1) (Keep.of_wr W9).1)) Bd.returns (hb hby own_d11_63) (by decide) (by decide) ?_
  show QO2r Z a7 n7 w7 d7 q7 u0 u1 u2 u3 zc t7 k7 x1 x2 x3 lc lt lk h0 n0 _ T9.heap _
  rw [e9]
  refine ⟨?_, N9, ((((((Keep.refl h0 [a7]).ext E4).wr W6 (Or.inl (List.mem_of_getElem? (i := 0) rfl))).wr W7 (Or.inl (List.mem_of_getElem? (i := 0) rfl))).wr W8 (Or.inl (List.mem_of_getElem? (i := 0) rfl))).wr W9 (Or.inl (List.mem_of_getElem? (i := 0) rfl))), (((Fw6.other W7 (Or.inr (slot_ne (Or.inr (oW hw 90 rfl)) (Or.inr (oW hw 92 rfl)) (by decide +kernel) (t := (.object "java/lang/String")) (t' := (.object "java/lang/String")) (by decide +kernel) (by decide +kernel)))).other W8 (Or.inr (slot_ne (Or.inr (oW hw 90 rfl)) (Or.inr (oW hw 94 rfl)) (by decide +kernel) (t := (.object "java/lang/String")) (t' := (.object "java/lang/String")) (by decide +kernel) (by decide +kernel)))).other W9 (Or.inr (slot_ne (Or.inr (oW hw 90 rfl)) (Or.inr (oW hw 96 rfl)) (by decide +kernel) (t := (.object "java/lang/String")) (t' := .boolean) (by decide +kernel) (by decide +kernel)))), ((Fw7.other W8 (Or.inr (slot_ne (Or.inr (oW hw 92 rfl)) (Or.inr (oW hw 94 rfl)) (by decide +kernel) (t := (.object "java/lang/String")) (t' := (.object "java/lang/String")) (by decide +kernel) (by decide +kernel)))).other W9 (Or.inr (slot_ne (Or.inr (oW hw 92 rfl)) (Or.inr (oW hw 96 rfl)) (by decide +kernel) (t := (.object "java/lang/String")) (t' := .boolean) (by decide +kernel) (by decide +kernel)))), (Fw8.other W9 (Or.inr (slot_ne (Or.inr (oW hw 94 rfl)) (Or.inr (oW hw 96 rfl)) (by decide +kernel) (t := (.object "java/lang/String")) (t' := .boolean) (by decide +kernel) (by decide +kernel)))), Fw9⟩
  rfl
theorem own_d19_0 : decode prog_2_method_5_code 0 = .ok (.aload_n 0, 1) := by decide +kernel
theorem own_d19_1 : decode prog_2_method_5_code 1 = .ok (.getfield 42, 3) := by decide +kernel
theorem own_d19_4 : decode prog_2_method_5_code 4 = .ok (.ifnull 7, 3) := by decide +kernel
theorem own_d19_11 : decode prog_2_method_5_code 11 = .ok (.iconst 0, 1) := by decide +kernel
theorem own_d19_12 : decode prog_2_method_5_code 12 = .ok (.ireturn, 1) := by decide +kernel
theorem own_efTn (m : MethodId) (x0 : Addr) : entryFrame m #[(.ref x0)] 1 = mkF m 0 #[rv x0] [] := by first | (simp [entryFrame, mkF, argsToLocals, Value.category]; done) | rfl
def QTn (Z : State) (a8 : Addr) (h0 : Heap) (n0 : Nat) (v : Option Value) (h : Heap) (L : List Loc) : Prop := v = some (.int (0 : Int32)) ∧ Fr n0 L ∧ h = h0
set_option maxRecDepth 65536 in
set_option maxHeartbeats 40000000 in
theorem rmTn (l : Launch) (Z : State) (a0 : Array Value) (hw : ∀ d ∈ tables_1, d.before a0 Z = true) (ws : List Jvm.Cond) (a8 : Addr) (h0 : Heap) (n0 : Nat) (Z0 : n0 ≤ h0.size) (F8 : Fld Z h0 a8 "com/example/planmend/planmend/cli/Option" "value" "Ljava/lang/String;" .null) :
    MetFree l (⟨"com/example/planmend/planmend/cli/Option", "takesValue", "()Z"⟩ : MethodName) (head1 (Jvm.Cond.code (⟨"com/example/planmend/planmend/cli/Option", "takesValue", "()Z"⟩ : MethodName) prog_2_method_5_code 1 (some .boolean) :: ws) ({ frames := 0, cells := 0, slots := 0, locals := 0 } : Room)) (fun a U => a = #[(.ref a8)] ∧ Z.Warmed39 U.vm ∧ U.heap = h0) (fun _ _ _ _ _ => True) (fun _ U o U' => ∃ v L, o = .returned v ∧ QTn Z a8 h0 n0 v U'.heap L ∧ FrameEnd U o U' L ({ frames := 0, cells := 0, slots := 0, locals := 0 } : Room).cells ({ frames := 0, cells := 0, slots := 0, locals := 0 } : Room).slots) := by
  refine MetFree.of_bodySF (plainFor_of_name own_pn5) hisR ?_
  intro p e s m args below meth c s₁ Bd hml0 hP hK
  obtain ⟨rfl, hZ, hh⟩ := hP
  have hx := Bd.exec
  have hby := Bd.bytes
  have hlk : meth.locks = false := Bd.notSynchronized
  have hml : c.maxLocals = 1 := hml0
  have hown : s.vm.findClass "com/example/planmend/planmend/cli/Option" = some m.cls := findClass_of_methodNamed Bd.named
  have hnm := (name_of_methodNamed Bd.named Bd.method).1
  have X0 : Stand p l e ({ frames := 0, cells := 0, slots := 0, locals := 0 } : Room) s m #[(.ref a8)] below meth c s₁ [] 0 0 := Stand.of_body Bd
  have e0 : s₁.heap = h0 := by rw [← hh, Bd.state]; rfl
  have N0 := Fr.nil n0
  refine own_body (A := s₁.setTop (mkF m 0 #[rv a8] [])) (Q := QTn Z a8 h0 n0) (fun t k => castTop (own_efTn m a8) k) ?_
  refine oALN (n := 1) X0 hx (hb hby own_d19_0) rfl rfl rfl ?_
  obtain ⟨T1, X1, e1, st1⟩ := getF X0 hx hZ hown (host := "") (Or.inl (oW hw 91 rfl)) Via.refl e0 F8 (g := (mkF m 1 #[rv a8] [(.ref a8)])) rfl rfl (hb hby own_d19_1)
  refine ov (B := T1.setTop (mkF m 4 #[rv a8] [.null])) (fun t k => st1 t k) ?_
  refine ov (B := T1.setTop (mkF m 11 #[rv a8] [])) (fun t k => XS.ifnullYes X1.here hx rfl (pc0 := 4) (pc' := 11) rfl (hb hby own_d19_4) rfl (by decide) (by decide) k) ?_
  refine oIC (n := 12) X1 hx (0 : Int32) (hb hby own_d19_11) (by decide) rfl ?_
  refine own_leaf X1 hx hlk (t := .boolean) Bd.returns (by decide) (Or.inl ⟨rfl, by simp, _, rfl⟩) (hb hby own_d19_12) (by decide) (by decide) ?_
  show QTn Z a8 h0 n0 _ T1.heap _
  rw [e1]
  refine ⟨?_, N0, rfl⟩
  rfl
theorem own_d19_7 : decode prog_2_method_5_code 7 = .ok (.iconst 1, 1) := by decide +kernel
theorem own_d19_8 : decode prog_2_method_5_code 8 = .ok (.goto 4, 3) := by decide +kernel
theorem own_efTr (m : MethodId) (x0 : Addr) : entryFrame m #[(.ref x0)] 1 = mkF m 0 #[rv x0] [] := by first | (simp [entryFrame, mkF, argsToLocals, Value.category]; done) | rfl
def QTr (Z : State) (a8 : Addr) (p8 : Addr) (h0 : Heap) (n0 : Nat) (v : Option Value) (h : Heap) (L : List Loc) : Prop := v = some (.int (1 : Int32)) ∧ Fr n0 L ∧ h = h0
set_option maxRecDepth 65536 in
set_option maxHeartbeats 40000000 in
theorem rmTr (l : Launch) (Z : State) (a0 : Array Value) (hw : ∀ d ∈ tables_1, d.before a0 Z = true) (ws : List Jvm.Cond) (a8 : Addr) (p8 : Addr) (h0 : Heap) (n0 : Nat) (Z0 : n0 ≤ h0.size) (F8 : Fld Z h0 a8 "com/example/planmend/planmend/cli/Option" "value" "Ljava/lang/String;" (.ref p8)) :
    MetFree l (⟨"com/example/planmend/planmend/cli/Option", "takesValue", "()Z"⟩ : MethodName) (head1 (Jvm.Cond.code (⟨"com/example/planmend/planmend/cli/Option", "takesValue", "()Z"⟩ : MethodName) prog_2_method_5_code 1 (some .boolean) :: ws) ({ frames := 0, cells := 0, slots := 0, locals := 0 } : Room)) (fun a U => a = #[(.ref a8)] ∧ Z.Warmed39 U.vm ∧ U.heap = h0) (fun _ _ _ _ _ => True) (fun _ U o U' => ∃ v L, o = .returned v ∧ QTr Z a8 p8 h0 n0 v U'.heap L ∧ FrameEnd U o U' L ({ frames := 0, cells := 0, slots := 0, locals := 0 } : Room).cells ({ frames := 0, cells := 0, slots := 0, locals := 0 } : Room).slots) := by
  refine MetFree.of_bodySF (plainFor_of_name own_pn5) hisR ?_
  intro p e s m args below meth c s₁ Bd hml0 hP hK
  obtain ⟨rfl, hZ, hh⟩ := hP
  have hx := Bd.exec
  have hby := Bd.bytes
  have hlk : meth.locks = false := Bd.notSynchronized
  have hml : c.maxLocals = 1 := hml0
  have hown : s.vm.findClass "com/example/planmend/planmend/cli/Option" = some m.cls := findClass_of_methodNamed Bd.named
  have hnm := (name_of_methodNamed Bd.named Bd.method).1
  have X0 : Stand p l e ({ frames := 0, cells := 0, slots := 0, locals := 0 } : Room) s m #[(.ref a8)] below meth c s₁ [] 0 0 := Stand.of_body Bd
  have e0 : s₁.heap = h0 := by rw [← hh, Bd.state]; rfl
  have N0 := Fr.nil n0
  refine own_body (A := s₁.setTop (mkF m 0 #[rv a8] [])) (Q := QTr Z a8 p8 h0 n0) (fun t k => castTop (own_efTr m a8) k) ?_
  refine oALN (n := 1) X0 hx (hb hby own_d19_0) rfl rfl rfl ?_
  obtain ⟨T1, X1, e1, st1⟩ := getF X0 hx hZ hown (host := "") (Or.inl (oW hw 91 rfl)) Via.refl e0 F8 (g := (mkF m 1 #[rv a8] [(.ref a8)])) rfl rfl (hb hby own_d19_1)
  refine ov (B := T1.setTop (mkF m 4 #[rv a8] [(.ref p8)])) (fun t k => st1 t k) ?_
  refine ov (B := T1.setTop (mkF m 7 #[rv a8] [])) (fun t k => XS.ifnullNo X1.here hx rfl (hb hby own_d19_4) rfl k) ?_
  refine oIC (n := 8) X1 hx (1 : Int32) (hb hby own_d19_7) (by decide) rfl ?_
  refine oGO (n := 12) X1 hx (hb hby own_d19_8) (by decide) (by decide) ?_
  refine own_leaf X1 hx hlk (t := .boolean) Bd.returns (by decide) (Or.inl ⟨rfl, by simp, _, rfl⟩) (hb hby own_d19_12) (by decide) (by decide) ?_
  show QTr Z a8 p8 h0 n0 _ T1.heap _
  rw [e1]
  refine ⟨?_, N0, rfl⟩
  rfl
theorem own_pd11 : parseMethodDescriptor "(Ljava/lang/String;Ljava/lang/String;Ljava/lang/String;Z)V" = some ⟨[(.object "java/lang/String"), (.object "java/lang/String"), (.object "java/lang/String"), .boolean], none⟩ := by decide +kernel
theorem own_d20_0 : decode prog_2_method_4_code 0 = .ok (.new 37, 3) := by decide +kernel
theorem own_d20_3 : decode prog_2_method_4_code 3 = .ok (.dup, 1) := by decide +kernel
theorem own_d20_4 : decode prog_2_method_4_code 4 = .ok (.aload_n 0, 1) := by decide +kernel
theorem own_d20_5 : decode prog_2_method_4_code 5 = .ok (.getfield 36, 3) := by decide +kernel
theorem own_d20_8 : decode prog_2_method_4_code 8 = .ok (.aload_n 0, 1) := by decide +kernel
theorem own_d20_9 : decode prog_2_method_4_code 9 = .ok (.getfield 42, 3) := by decide +kernel
theorem own_d20_12 : decode prog_2_method_4_code 12 = .ok (.aload_n 0, 1) := by decide +kernel
theorem own_d20_13 : decode prog_2_method_4_code 13 = .ok (.getfield 45, 3) := by decide +kernel
theorem own_d20_16 : decode prog_2_method_4_code 16 = .ok (.iconst 1, 1) := by decide +kernel
theorem own_d20_17 : decode prog_2_method_4_code 17 = .ok (.invokespecial 51, 3) := by decide +kernel
theorem own_d20_20 : decode prog_2_method_4_code 20 = .ok (.areturn, 1) := by decide +kernel
theorem own_efAn (m : MethodId) (x0 : Addr) : entryFrame m #[(.ref x0)] 1 = mkF m 0 #[rv x0] [] := by first | (simp [entryFrame, mkF, argsToLocals, Value.category]; done) | rfl
def QAn (Z : State) (a9 : Addr) (zc : Int32) (n7 : Addr) (d7 : Addr) (t7 : Addr) (k7 : ClassId) (x1 : Int32) (x2 : Int32) (x3 : Int32) (lc : Addr) (lt : Addr) (lk : ClassId) (h0 : Heap) (n0 : Nat) (v : Option Value) (h : Heap) (L : List Loc) : Prop := ∃ (r : Addr), v = some (.ref r) ∧ Fr n0 L ∧ Keep h0 h [] ∧ (Exa Z h r "com/example/planmend/planmend/cli/Option") ∧ (Fld Z h r "com/example/planmend/planmend/cli/Option" "value" "Ljava/lang/String;" .null)
set_option maxRecDepth 65536 in
set_option maxHeartbeats 40000000 in
theorem rmAn (l : Launch) (Z : State) (a0 : Array Value) (hw : ∀ d ∈ tables_1, d.before a0 Z = true) (ws : List Jvm.Cond) (a9 : Addr) (zc : Int32) (n7 : Addr) (d7 : Addr) (t7 : Addr) (k7 : ClassId) (x1 : Int32) (x2 : Int32) (x3 : Int32) (lc : Addr) (lt : Addr) (lk : ClassId) (h0 : Heap) (n0 : Nat) (Z0 : n0 ≤ h0.size) (O0 : Old Z n0 h0) (Scz : Sta Z Z.heap "java/lang/String" "COMPACT_STRINGS" "Z" (.int zc)) (hcz : ¬ zc = 0) (hcw : Jvm.Lit.compactW.before a0 Z = true) (hco : Jvm.Lit.constHeld Z "com/example/planmend/planmend/cli/Option" 7) (F90 : Fld Z h0 a9 "com/example/planmend/planmend/cli/Option" "name" "Ljava/lang/String;" (.ref n7)) (F91 : Fld Z h0 a9 "com/example/planmend/planmend/cli/Option" "value" "Ljava/lang/String;" .null) (F92 : Fld Z h0 a9 "com/example/planmend/planmend/cli/Option" "description" "Ljava/lang/String;" (.ref d7)) (E_n7 : Exa Z h0 n7 "java/lang/String") (C_n7 : Fld Z h0 n7 "java/lang/String" "coder" "B" (.int (0 : Int32))) (V_n7 : Fld Z h0 n7 "java/lang/String" "value" "[B" (.ref t7)) (A_n7 : Arv Z h0 t7 k7 .byte (3 : Int32) [(.int x1), (.int x2), (.int x3)] (.int (0 : Int32))) (hx1 : x1 = (45 : Int32)) (hx2 : x2 = (45 : Int32)) (E_lc : Exa Z h0 lc "java/lang/String") (C_lc : Fld Z h0 lc "java/lang/String" "coder" "B" (.int (0 : Int32))) (V_lc : Fld Z h0 lc "java/lang/String" "value" "[B" (.ref lt)) (A_lc : Arv Z h0 lt lk .byte (2 : Int32) [(.int (45 : Int32)), (.int (45 : Int32))] (.int (0 : Int32))) :
    MetFree l (⟨"com/example/planmend/planmend/cli/Option", "asRequired", "()Lcom/example/planmend/planmend/cli/Option;"⟩ : MethodName) (head1 (Jvm.Cond.code (⟨"com/example/planmend/planmend/cli/Option", "asRequired", "()Lcom/example/planmend/planmend/cli/Option;"⟩ : MethodName) prog_2_method_4_code 1 (some (.object "com/example/planmend/planmend/cli/Option")) :: ws) ({ frames := 5, cells := 5, slots := 64, locals := 110 } : Room)) (fun a U => a = #[(.ref a9)] ∧ Z.Warmed39 U.vm ∧ U.heap = h0 ∧ (Lit (Z.setVm U.vm) "com/example/planmend/planmend/cli/Option" 7 lc)) (fun _ _ _ _ _ => True) (fun _ U o U' => ∃ v L, o = .returned v ∧ QAn Z a9 zc n7 d7 t7 k7 x1 x2 x3 lc lt lk h0 n0 v U'.heap L ∧ ReturnedEndW U o U' L ({ frames := 5, cells := 5, slots := 64, locals := 110 } : Room).cells ({ frames := 5, cells := 5, slots := 64, locals := 110 } : Room).slots) := by
  refine MetFree.of_bodySF (plainFor_of_name own_pn5) hisR ?_
  intro p e s m args below meth c s₁ Bd hml0 hP hK
  obtain ⟨rfl, hZ, hh, hV⟩ := hP
  have hx := Bd.exec
  have hby := Bd.bytes
  have hlk : meth.locks = false := Bd.notSynchronized
  have hml : c.maxLocals = 1 := hml0
  have hown : s.vm.findClass "com/example/planmend/planmend/cli/Option" = some m.cls := findClass_of_methodNamed Bd.named
  have hnm := (name_of_methodNamed Bd.named Bd.method).1
  have X0 : Stand p l e ({ frames := 5, cells := 5, slots := 64, locals := 110 } : Room) (s.setVm s.vm) m #[(.ref a9)] below meth c s₁ [] 0 0 := Stand.of_body Bd
  have e0 : s₁.heap = h0 := by rw [← hh, Bd.state]; rfl
  have N0 := Fr.nil n0
  have hS0 : s.Since s.vm h0.size := (State.WarmedH.refl s).since _
  have hk0 : h0.size ≤ h0.size := Nat.le_refl _
  have wS : ∀ a ∈ Bundle.stringAtoms, a.before a0 Z = true := by
    intro a ha
    simp only [Bundle.stringAtoms, List.mem_cons, List.not_mem_nil, or_false] at ha
    rcases ha with rfl | rfl | rfl | rfl | rfl | rfl | rfl
    · exact (oW hw 2 rfl)
    · exact (oW hw 1 rfl)
    · exact (oW hw 19 rfl)
    · exact (oW hw 29 rfl)
    · exact (oW hw 27 rfl)
    · exact (oW hw 57 rfl)
    · exact (oW hw 58 rfl)
  refine own_bodyW (A := s₁.setTop (mkF m 0 #[rv a9] [])) (Q := QAn Z a9 zc n7 d7 t7 k7 x1 x2 x3 lc lt lk h0 n0) (fun t k => castTop (own_efAn m a9) k) ?_
  obtain ⟨T1, h1, X1, e1, E1, A1, D1, -, st1⟩ := newO X0 hx hZ hown (oW hw 107 rfl) (oW hw 45 rfl) (oW hw 46 rfl) e0 (g := (mkF m 0 #[rv a9] [])) rfl (hb hby own_d20_0) (by decide) (by decide)
  obtain ⟨b1, g1⟩ : ∃ z, z = h0.size := ⟨_, rfl⟩
  rw [← g1] at A1 D1 st1
  have g_b1 : n0 ≤ b1 := Nat.le_trans Z0 (Nat.le_of_eq g1.symm)
  have F1_name : Fld Z h1 b1 "com/example/planmend/planmend/cli/Option" "name" "Ljava/lang/String;" .null := D1 (Or.inr (oW hw 90 rfl)) (ty := (.object "java/lang/String")) (by decide)
  have F1_value : Fld Z h1 b1 "com/example/planmend/planmend/cli/Option" "value" "Ljava/lang/String;" .null := D1 (Or.inr (oW hw 92 rfl)) (ty := (.object "java/lang/String")) (by decide)
  have F1_description : Fld Z h1 b1 "com/example/planmend/planmend/cli/Option" "description" "Ljava/lang/String;" .null := D1 (Or.inr (oW hw 94 rfl)) (ty := (.object "java/lang/String")) (by decide)
  have F1_required : Fld Z h1 b1 "com/example/planmend/planmend/cli/Option" "required" "Z" (.int (0 : Int32)) := D1 (Or.inr (oW hw 96 rfl)) (ty := .boolean) (by decide)
  refine ov (B := T1.setTop (mkF m 3 #[rv a9] [(.ref b1)])) (fun t k => st1 t k) ?_
  refine oDU (n := 4) X1 hx (hb hby own_d20_3) rfl rfl ?_
  refine oALN (n := 5) X1 hx (hb hby own_d20_4) rfl rfl rfl ?_
  obtain ⟨T2, X2, e2, st2⟩ := getF X1 hx hZ hown (host := "") (Or.inl (oW hw 89 rfl)) Via.refl e1 (F90.ext E1) (g := (mkF m 5 #[rv a9] [(.ref a9), (.ref b1), (.ref b1)])) rfl rfl (hb hby own_d20_5)
  refine ov (B := T2.setTop (mkF m 8 #[rv a9] [(.ref n7), (.ref b1), (.ref b1)])) (fun t k => st2 t k) ?_
  refine oALN (n := 9) X2 hx (hb hby own_d20_8) rfl rfl rfl ?_
  obtain ⟨T3, X3, e3, st3⟩ := getF X2 hx hZ hown (host := "") (Or.inl (oW hw 91 rfl)) Via.refl e2 (F91.ext E1) (g := (mkF m 9 #[rv a9] [(.ref a9), (.ref n7), (.ref b1), (.ref b1)])) rfl rfl (hb hby own_d20_9)
  refine ov (B := T3.setTop (mkF m 12 #[rv a9] [.null, (.ref n7), (.ref b1), (.ref b1)])) (fun t k => st3 t k) ?_
  refine oALN (n := 13) X3 hx (hb hby own_d20_12) rfl rfl rfl ?_
  obtain ⟨T4, X4, e4, st4⟩ := getF X3 hx hZ hown (host := "") (Or.inl (oW hw 93 rfl)) Via.refl e3 (F92.ext E1) (g := (mkF m 13 #[rv a9] [(.ref a9), .null, (.ref n7), (.ref b1), (.ref b1)])) rfl rfl (hb hby own_d20_13)
  refine ov (B := T4.setTop (mkF m 16 #[rv a9] [(.ref d7), .null, (.ref n7), (.ref b1), (.ref b1)])) (fun t k => st4 t k) ?_
  refine oIC (n := 17) X4 hx (1 : Int32) (hb hby own_d20_16) (by decide) rfl ?_
  obtain ⟨_, _, ⟨T5, L5, k5, n5⟩, -, X5, hT5, gT5, ⟨Lc5, hQ5, l5, y5, z5⟩, st5⟩ := X4.specialBackS hx (y := (⟨"com/example/planmend/planmend/cli/Option", "<init>", "(Ljava/lang/String;Ljava/lang/String;Ljava/lang/String;Z)V"⟩ : MethodName)) rfl hown (mvT hZ (oW hw 108 rfl)) (mvT hZ (oW hw 48 rfl)) (mvT hZ (oW hw 49 rfl)) (by decide) (own_backP (VP := fun vm'' => Lit (Z.setVm vm'') "com/example/planmend/planmend/cli/Option" 7 lc) (W := 1) (rmO2n l Z a0 hw [] b1 n7 d7 (1 : Int32) .null .null .null (.int (0 : Int32)) zc t7 k7 x1 x2 x3 lc lt lk h1 n0 (Nat.le_trans Z0 E1.1) (O0.ext E1) (by assumption) (by assumption) (by assumption) (by assumption) A1 F1_name F1_value F1_description F1_required g_b1 (E_n7.ext E1) (C_n7.ext E1) (V_n7.ext E1) (A_n7.ext E1) hx1 hx2 (Or.inr rfl) (E_lc.ext E1) (C_lc.ext E1) (V_lc.ext E1) (A_lc.ext E1)) (fun vm'' hW'' => own_litL (s := s) (vm := s.vm) hV hW'') hZ (oW hw 49 rfl) (oW hw 46 rfl) (by decide) (by decide)) (g := (mkF m 17 #[rv a9] [(.int (1 : Int32)), (.ref d7), .null, (.ref n7), (.ref b1), (.ref b1)])) rfl (by rw [hml]; rfl) (Steps.refl _) (a := b1) (argsL := [(.ref n7), .null, (.ref d7), (.int (1 : Int32))]) (rest := [(.ref b1)]) (lenOf own_pd11 rfl) rfl (by show 2 * 0 + _ ≤ _; exact Nat.le_of_eq rfl) (hb hby own_d20_17) (fun _ _ => ⟨rfl, e4, (by decide : (0 + 1) + 4 ≤ _), (by decide : (0 + 4) + 60 ≤ _)⟩)
  dsimp only [Pt.U, Pt.locs, Pt.cells, Pt.slots] at X5 l5 y5 z5 st5 hQ5 hT5 gT5
  subst l5 y5 z5
  obtain ⟨X5, hS5, hZ, hown⟩ := rebS hS0 (by rw [e4]; exact (Nat.le_trans hk0 E1.1)) X5 hT5 gT5 hZ hown
  have hlit5_lc := Lit.stays (s := s) hV hT5.1
  obtain ⟨rfl, Nq5, Kq5, f5_0, f5_1, f5_2, f5_3⟩ := hQ5
  have N5 := Fr.app N0 Nq5
  refine ov (B := T5.setTop (mkF m 20 #[rv a9] [(.ref b1)])) (fun t k => st5.trans k) ?_
  refine own_leafW X5 hx hlk hS5 (Nat.le_refl _) (t := (.object "com/example/planmend/planmend/cli/Option")) Bd.returns rfl (Or.inr (Or.inr (Or.inr (Or.inr ⟨rfl, rfl, rfl⟩)))) (hb hby own_d20_20) (by decide) (by decide) ?_
  show QAn Z a9 zc n7 d7 t7 k7 x1 x2 x3 lc lt lk h0 n0 _ T5.heap _
  refine ⟨b1, ?_, N5, (((Keep.refl h0 []).ext E1).trans Kq5 (allS (Or.inr (Nat.le_of_eq g1.symm)) all0)), (A1.keep Kq5), f5_1⟩
  rfl
theorem own_efAr (m : MethodId) (x0 : Addr) : entryFrame m #[(.ref x0)] 1 = mkF m 0 #[rv x0] [] := by first | (simp [entryFrame, mkF, argsToLocals, Value.category]; done) | rfl
def QAr (Z : State) (a9 : Addr) (zc : Int32) (n7 : Addr) (d7 : Addr) (t7 : Addr) (k7 : ClassId) (w7 : Addr) (x1 : Int32) (x2 : Int32) (x3 : Int32) (lc : Addr) (lt : Addr) (lk : ClassId) (h0 : Heap) (n0 : Nat) (v : Option Value) (h : Heap) (L : List Loc) : Prop := ∃ (r : Addr), v = some (.ref r) ∧ Fr n0 L ∧ Keep h0 h [] ∧ (Exa Z h r "com/example/planmend/planmend/cli/Option") ∧ (Fld Z h r "com/example/planmend/planmend/cli/Option" "value" "Ljava/lang/String;" (.ref w7))
set_option maxRecDepth 65536 in
set_option maxHeartbeats 40000000 in
theorem rmAr (l : Launch) (Z : State) (a0 : Array Value) (hw : ∀ d ∈ tables_1, d.before a0 Z = true) (ws : List Jvm.Cond) (a9 : Addr) (zc : Int32) (n7 : Addr) (d7 : Addr) (t7 : Addr) (k7 : ClassId) (w7 : Addr) (x1 : Int32) (x2 : Int32) (x3 : Int32) (lc : Addr) (lt : Addr) (lk : ClassId) (h0 : Heap) (n0 : Nat) (Z0 : n0 ≤ h0.size) (O0 : Old Z n0 h0) (Scz : Sta Z Z.heap "java/lang/String" "COMPACT_STRINGS" "Z" (.int zc)) (hcz : ¬ zc = 0) (hcw : Jvm.Lit.compactW.before a0 Z = true) (hco : Jvm.Lit.constHeld Z "com/example/planmend/planmend/cli/Option" 7) (F90 : Fld Z h0 a9 "com/example/planmend/planmend/cli/Option" "name" "Ljava/lang/String;" (.ref n7)) (F91 : Fld Z h0 a9 "com/example/planmend/planmend/cli/Option" "value" "Ljava/lang/String;" (.ref w7)) (F92 : Fld Z h0 a9 "com/example/planmend/planmend/cli/Option" "description" "Ljava/lang/String;" (.ref d7)) (E_n7 : Exa Z h0 n7 "java/lang/String") (C_n7 : Fld Z h0 n7 "java/lang/String" "coder" "B" (.int (0 : Int32))) (V_n7 : Fld Z h0 n7 "java/lang/String" "value" "[B" (.ref t7)) (A_n7 : Arv Z h0 t7 k7 .byte (3 : Int32) [(.int x1), (.int x2), (.int x3)] (.int (0 : Int32))) (hx1 : x1 = (45 : Int32)) (hx2 : x2 = (45 : Int32)) (E_lc : Exa Z h0 lc "java/lang/String") (C_lc : Fld Z h0 lc "java/lang/String" "coder" "B" (.int (0 : Int32))) (V_lc : Fld Z h0 lc "java/lang/String" "value" "[B" (.ref lt)) (A_lc : Arv Z h0 lt lk .byte (2 : Int32) [(.int (45 : Int32)), (.int (45 : Int32))] (.int (0 : Int32))) :
    MetFree l (⟨"com/example/planmend/planmend/cli/Option", "asRequired", "()Lcom/example/planmend/planmend/cli/Option;"⟩ : MethodName) (head1 (Jvm.Cond.code (⟨"com/example/planmend/planmend/cli/Option", "asRequired", "()Lcom/example/planmend/planmend/cli/Option;"⟩ : MethodName) prog_2_method_4_code 1 (some (.object "com/example/planmend/planmend/cli/Option")) :: ws) ({ frames := 5, cells := 5, slots := 64, locals := 110 } : Room)) (fun a U => a = #[(.ref a9)] ∧ Z.Warmed39 U.vm ∧ U.heap = h0 ∧ (Lit (Z.setVm U.vm) "com/example/planmend/planmend/cli/Option" 7 lc)) (fun _ _ _ _ _ => True) (fun _ U o U' => ∃ v L, o = .returned v ∧ QAr Z a9 zc n7 d7 t7 k7 w7 x1 x2 x3 lc lt lk h0 n0 v U'.heap L ∧ ReturnedEndW U o U' L ({ frames := 5, cells := 5, slots := 64, locals := 110 } : Room).cells ({ frames := 5, cells := 5, slots := 64, locals := 110 } : Room).slots) := by
  refine MetFree.of_bodySF (plainFor_of_name own_pn5) hisR ?_
  intro p e s m args below meth c s₁ Bd hml0 hP hK
  obtain ⟨rfl, hZ, hh, hV⟩ := hP
  have hx := Bd.exec
  have hby := Bd.bytes
  have hlk : meth.locks = false := Bd.notSynchronized
  have hml : c.maxLocals = 1 := hml0
  have hown : s.vm.findClass "com/example/planmend/planmend/cli/Option" = some m.cls := findClass_of_methodNamed Bd.named
  have hnm := (name_of_methodNamed Bd.named Bd.method).1
  have X0 : Stand p l e ({ frames := 5, cells := 5, slots := 64, locals := 110 } : Room) (s.setVm s.vm) m #[(.ref a9)] below meth c s₁ [] 0 0 := Stand.of_body Bd
  have e0 : s₁.heap = h0 := by rw [← hh, Bd.state]; rfl
  have N0 := Fr.nil n0
  have hS0 : s.Since s.vm h0.size := (State.WarmedH.refl s).since _
  have hk0 : h0.size ≤ h0.size := Nat.le_refl _
  have wS : ∀ a ∈ Bundle.stringAtoms, a.before a0 Z = true := by
    intro a ha
    simp only [Bundle.stringAtoms, List.mem_cons, List.not_mem_nil, or_false] at ha
    rcases ha with rfl | rfl | rfl | rfl | rfl | rfl | rfl
    · exact (oW hw 2 rfl)
    · exact (oW hw 1 rfl)
    · exact (oW hw 19 rfl)
    · exact (oW hw 29 rfl)
    · exact (oW hw 27 rfl)
    · exact (oW hw 57 rfl)
    · exact (oW hw 58 rfl)
  refine own_bodyW (A := s₁.setTop (mkF m 0 #[rv a9] [])) (Q := QAr Z a9 zc n7 d7 t7 k7 w7 x1 x2 x3 lc lt lk h0 n0) (fun t k => castTop (own_efAr m a9) k) ?_
  obtain ⟨T1, h1, X1, e1, E1, A1, D1, -, st1⟩ := newO X0 hx hZ hown (oW hw 107 rfl) (oW hw 45 rfl) (oW hw 46 rfl) e0 (g := (mkF m 0 #[rv a9] [])) rfl (hb hby own_d20_0) (by decide) (by decide)
  obtain ⟨b1, g1⟩ : ∃ z, z = h0.size := ⟨_, rfl⟩
  rw [← g1] at A1 D1 st1
  have g_b1 : n0 ≤ b1 := Nat.le_trans Z0 (Nat.le_of_eq g1.symm)
  have F1_name : Fld Z h1 b1 "com/example/planmend/planmend/cli/Option" "name" "Ljava/lang/String;" .null := D1 (Or.inr (oW hw 90 rfl)) (ty := (.object "java/lang/String")) (by decide)
  have F1_value : Fld Z h1 b1 "com/example/planmend/planmend/cli/Option" "value" "Ljava/lang/String;" .null := D1 (Or.inr (oW hw 92 rfl)) (ty := (.object "java/lang/String")) (by decide)
  have F1_description : Fld Z h1 b1 "com/example/planmend/planmend/cli/Option" "description" "Ljava/lang/String;" .null := D1 (Or.inr (oW hw 94 rfl)) (ty := (.object "java/lang/String")) (by decide)
  have F1_required : Fld Z h1 b1 "com/example/planmend/planmend/cli/Option" "required" "Z" (.int (0 : Int32)) := D1 (Or.inr (oW hw 96 rfl)) (ty := .boolean) (by decide)
  refine ov (B := T1.setTop (mkF m 3 #[rv a9] [(.ref b1)])) (fun t k => st1 t k) ?_
  refine oDU (n := 4) X1 hx (hb hby own_d20_3) rfl rfl ?_
  refine oALN (n := 5) X1 hx (hb hby own_d20_4) rfl rfl rfl ?_
  obtain ⟨T2, X2, e2, st2⟩ := getF X1 hx hZ hown (host := "") (Or.inl (oW hw 89 rfl)) Via.refl e1 (F90.ext E1) (g := (mkF m 5 #[rv a9] [(.ref a9), (.ref b1), (.ref b1)])) rfl rfl (hb hby own_d20_5)
  refine ov (B := T2.setTop (mkF m 8 #[rv a9] [(.ref n7), (.ref b1), (.ref b1)])) (fun t k => st2 t k) ?_
  refine oALN (n := 9) X2 hx (hb hby own_d20_8) rfl rfl rfl ?_
  obtain ⟨T3, X3, e3, st3⟩ := getF X2 hx hZ hown (host := "") (Or.inl (oW hw 91 rfl)) Via.refl e2 (F91.ext E1) (g := (mkF m 9 #[rv a9] [(.ref a9), (.ref n7), (.ref b1), (.ref b1)])) rfl rfl (hb hby own_d20_9)
  refine ov (B := T3.setTop (mkF m 12 #[rv a9] [(.ref w7), (.ref n7), (.ref b1), (.ref b1)])) (fun t k => st3 t k) ?_
  refine oALN (n := 13) X3 hx (hb hby own_d20_12) rfl rfl rfl ?_
  obtain ⟨T4, X4, e4, st4⟩ := getF X3 hx hZ hown (host := "") (Or.inl (oW hw 93 rfl)) Via.refl e3 (F92.ext E1) (g := (mkF m 13 #[rv a9] [(.ref a9), (.ref w7), (.ref n7), (.ref b1), (.ref b1)])) rfl rfl (hb hby own_d20_13)
  refine ov (B := T4.setTop (mkF m 16 #[rv a9] [(.ref d7), (.ref w7), (.ref n7), (.ref b1), (.ref b1)])) (fun t k => st4 t k) ?_
  refine oIC (n := 17) X4 hx (1 : Int32) (hb hby own_d20_16) (by decide) rfl ?_
  obtain ⟨_, _, ⟨T5, L5, k5, n5⟩, -, X5, hT5, gT5, ⟨Lc5, hQ5, l5, y5, z5⟩, st5⟩ := X4.specialBackS hx (y := (⟨"com/example/planmend/planmend/cli/Option", "<init>", "(Ljava/lang/String;Ljava/lang/String;Ljava/lang/String;Z)V"⟩ : MethodName)) rfl hown (mvT hZ (oW hw 108 rfl)) (mvT hZ (oW hw 48 rfl)) (mvT hZ (oW hw 49 rfl)) (by decide) (own_backP (VP := fun vm'' => Lit (Z.setVm vm'') "com/example/planmend/planmend/cli/Option" 7 lc) (W := 1) (rmO2r l Z a0 hw [] b1 n7 w7 d7 (1 : Int32) .null .null .null (.int (0 : Int32)) zc t7 k7 x1 x2 x3 lc lt lk h1 n0 (Nat.le_trans Z0 E1.1) (O0.ext E1) (by assumption) (by assumption) (by assumption) (by assumption) A1 F1_name F1_value F1_description F1_required g_b1 (E_n7.ext E1) (C_n7.ext E1) (V_n7.ext E1) (A_n7.ext E1) hx1 hx2 (Or.inr rfl) (E_lc.ext E1) (C_lc.ext E1) (V_lc.ext E1) (A_lc.ext E1)) (fun vm'' hW'' => own_litL (s := s) (vm := s.vm) hV hW'') hZ (oW hw 49 rfl) (oW hw 46 rfl) (by decide) (by decide)) (g := (mkF m 17 #[rv a9] [(.int (1 : Int32)), (.ref d7), (.ref w7), (.ref n7), (.ref b1), (.ref b1)])) rfl (by rw [hml]; rfl) (Steps.refl _) (a := b1) (argsL := [(.ref n7), (.ref w7), (.ref d7), (.int (1 : Int32))]) (rest := [(.ref b1)]) (lenOf own_pd11 rfl) rfl (by show 2 * 0 + _ ≤ _; exact Nat.le_of_eq rfl) (hb hby own_d20_17) (fun _ _ => ⟨rfl, e4, (by decide : (0 + 1) + 4 ≤ _), (by decide : (0 + 4) + 60 ≤ _)⟩)
  dsimp only [Pt.U, Pt.locs, Pt.cells, Pt.slots] at X5 l5 y5 z5 st5 hQ5 hT5 gT5
  subst l5 y5 z5
  obtain ⟨X5, hS5, hZ, hown⟩ := rebS hS0 (by rw [e4]; exact (Nat.le_trans hk0 E1.1)) X5 hT5 gT5 hZ hown
  have hlit5_lc := Lit.stays (s := s) hV hT5.1
  obtain ⟨rfl, Nq5, Kq5, f5_0, f5_1, f5_2, f5_3⟩ := hQ5
  have N5 := Fr.app N0 Nq5
  refine ov (B := T5.setTop (mkF m 20 #[rv a9] [(.ref b1)])) (fun t k => st5.trans k) ?_
  refine own_leafW X5 hx hlk hS5 (Nat.le_refl _) (t := (.object "com/example/planmend/planmend/cli/Option")) Bd.returns rfl (Or.inr (Or.inr (Or.inr (Or.inr ⟨rfl, rfl, rfl⟩)))) (hb hby own_d20_20) (by decide) (by decide) ?_
  show QAr Z a9 zc n7 d7 t7 k7 w7 x1 x2 x3 lc lt lk h0 n0 _ T5.heap _
  refine ⟨b1, ?_, N5, (((Keep.refl h0 []).ext E1).trans Kq5 (allS (Or.inr (Nat.le_of_eq g1.symm)) all0)), (A1.keep Kq5), f5_1⟩
  rfl
theorem own_pn6 : plainName "com/example/planmend/planmend/cli/OptionTakesValuePinLaw" = true := by first | (simp [plainName, overriddenIn]; done) | decide +kernel
theorem own_pd12 : parseMethodDescriptor "([C)V" = some ⟨[(.array .char)], none⟩ := by decide +kernel
theorem own_pd13 : parseMethodDescriptor "(C)Ljava/lang/String;" = some ⟨[.char], some (.object "java/lang/String")⟩ := by decide +kernel
theorem own_pd14 : parseMethodDescriptor "()Z" = some ⟨[], some .boolean⟩ := by decide +kernel
theorem own_pd15 : parseMethodDescriptor "()Lcom/example/planmend/planmend/cli/Option;" = some ⟨[], some (.object "com/example/planmend/planmend/cli/Option")⟩ := by decide +kernel
theorem own_ef0 (m : MethodId) (x0 : Int32) (x1 : Int32) (x2 : Int32) : entryFrame m #[(.int x0), (.int x1), (.int x2)] maxLocals = mkF m 0 #[iv x0, iv x1, iv x2, uu, uu, uu, uu, uu, uu, uu, uu, uu, uu, uu, uu] [] := by first | (simp [entryFrame, mkF, argsToLocals, Value.category, maxLocals]; done) | rfl
def Q0 (Z : State) (i0 : Int32) (i1 : Int32) (i2 : Int32) (zc : Int32) (h0 : Heap) (n0 : Nat) (v : Option Value) (h : Heap) (L : List Loc) : Prop := v = some (.int 1) ∧ Fr n0 L
set_option maxRecDepth 65536 in
set_option maxHeartbeats 40000000 in
theorem rm0 (l : Launch) (Z : State) (a0 : Array Value) (hw : ∀ d ∈ tables_1, d.before a0 Z = true) (ws : List Jvm.Cond) (i0 : Int32) (i1 : Int32) (i2 : Int32) (zc : Int32) (h0 : Heap) (n0 : Nat) (Z0 : n0 ≤ h0.size) (O0 : Old Z n0 h0) (Scz : Sta Z Z.heap "java/lang/String" "COMPACT_STRINGS" "Z" (.int zc)) (hcz : ¬ zc = 0) (hch : Jvm.Lit.constHeld Z "java/lang/String" 7) (hcw : Jvm.Lit.compactW.before a0 Z = true) (hco : Jvm.Lit.constHeld Z "com/example/planmend/planmend/cli/Option" 7) :
    MetFree l x (head1 (Jvm.Cond.code x code maxLocals ret :: ws) room_1) (fun a U => a = #[(.int i0), (.int i1), (.int i2)] ∧ Z.Warmed39 U.vm ∧ U.heap = h0 ∧ IB Z U.vm []) (fun _ _ _ _ _ => True) (fun _ U o U' => ∃ v L, o = .returned v ∧ Q0 Z i0 i1 i2 zc h0 n0 v U'.heap L ∧ ReturnedEndW U o U' L room_1.cells room_1.slots) := by
  refine MetFree.of_bodySF (plainFor_of_name own_pn6) hisR ?_
  intro p e s m args below meth c s₁ Bd hml0 hP hK
  obtain ⟨rfl, hZ, hh, hI⟩ := hP
  have hx := Bd.exec
  have hby := Bd.bytes
  have hlk : meth.locks = false := Bd.notSynchronized
  have hml : c.maxLocals = 15 := hml0
  have hown : s.vm.findClass "com/example/planmend/planmend/cli/OptionTakesValuePinLaw" = some m.cls := findClass_of_methodNamed Bd.named
  have hnm := (name_of_methodNamed Bd.named Bd.method).1
  have X0 : Stand p l e room_1 (s.setVm s.vm) m #[(.int i0), (.int i1), (.int i2)] below meth c s₁ [] 0 0 := Stand.of_body Bd
  have e0 : s₁.heap = h0 := by rw [← hh, Bd.state]; rfl
  have N0 := Fr.nil n0
  have hS0 : s.Since s.vm h0.size := (State.WarmedH.refl s).since _
  have hk0 : h0.size ≤ h0.size := Nat.le_refl _
  have wS : ∀ a ∈ Bundle.stringAtoms, a.before a0 Z = true := by
    intro a ha
    simp only [Bundle.stringAtoms, List.mem_cons, List.not_mem_nil, or_false] at ha
    rcases ha with rfl | rfl | rfl | rfl | rfl | rfl | rfl
    · exact (oW hw 2 rfl)
    · exact (oW hw 1 rfl)
    · exact (oW hw 19 rfl)
    · exact (oW hw 29 rfl)
    · exact (oW hw 27 rfl)
    · exact (oW hw 57 rfl)
    · exact (oW hw 58 rfl)
  refine own_bodyW (A := s₁.setTop (mkF m 0 #[iv i0, iv i1, iv i2, uu, uu, uu, uu, uu, uu, uu, uu, uu, uu, uu, uu] [])) (Q := Q0 Z i0 i1 i2 zc h0 n0) (fun t k => castTop (own_ef0 m i0 i1 i2) k) ?_
  have hws : ∀ d ∈ StrChars.Road.words, d.before a0 Z = true := fun d hd => hw d ((by decide +kernel : ∀ d ∈ StrChars.Road.words, d ∈ tables_1) d hd)
  refine oILN (n := 1) X0 hx (hb hby at_0) rfl rfl ?_
  refine oSP (n := 4) X0 hx (255 : Int32) (hb hby at_1) (by decide) rfl ?_
  refine ov (B := s₁.setTop (mkF m 5 #[iv i0, iv i1, iv i2, uu, uu, uu, uu, uu, uu, uu, uu, uu, uu, uu, uu] [(.int (i0 &&& (255 : Int32)))])) (fun t k => XS.iand X0.here hx rfl (hb hby at_4) rfl k) ?_
  refine ov (B := s₁.setTop (mkF m 6 #[iv i0, iv i1, iv i2, uu, uu, uu, uu, uu, uu, uu, uu, uu, uu, uu, uu] [(.int (i0 &&& (255 : Int32)))])) (fun t k => XS.i2c X0.here hx rfl (hb hby at_5) rfl (by rw [own_i2c (own_b255 i0)]; exact k)) ?_
  refine ov (B := s₁.setTop (mkF m 7 #[iv i0, iv i1, iv i2, iv (i0 &&& (255 : Int32)), uu, uu, uu, uu, uu, uu, uu, uu, uu, uu, uu] [])) (fun t k => XS.istoreN X0.here hx rfl (hb hby at_6) rfl (l' := #[iv i0, iv i1, iv i2, iv (i0 &&& (255 : Int32)), uu, uu, uu, uu, uu, uu, uu, uu, uu, uu, uu]) rfl k) ?_
  generalize hs6 : (i0 &&& (255 : Int32)) = s6
  obtain ⟨T1, h1, X1, e1, E1, A1, D1, -, st1⟩ := newO X0 hx hZ hown (oW hw 0 rfl) (oW hw 1 rfl) (oW hw 2 rfl) e0 (g := (mkF m 7 #[iv i0, iv i1, iv i2, iv s6, uu, uu, uu, uu, uu, uu, uu, uu, uu, uu, uu] [])) rfl (hb hby at_7) (by decide) (by decide)
  obtain ⟨b1, g1⟩ : ∃ z, z = h0.size := ⟨_, rfl⟩
  rw [← g1] at A1 D1 st1
  have g_b1 : n0 ≤ b1 := Nat.le_trans Z0 (Nat.le_of_eq g1.symm)
  have F1_coder : Fld Z h1 b1 "java/lang/String" "coder" "B" (.int (0 : Int32)) := D1 (Or.inr (oW hw 27 rfl)) (ty := .byte) (by decide)
  have F1_value : Fld Z h1 b1 "java/lang/String" "value" "[B" .null := D1 (Or.inr (oW hw 29 rfl)) (ty := (.array .byte)) (by decide)
  refine ov (B := T1.setTop (mkF m 10 #[iv i0, iv i1, iv i2, iv s6, uu, uu, uu, uu, uu, uu, uu, uu, uu, uu, uu] [(.ref b1)])) (fun t k => st1 t k) ?_
  refine oDU (n := 11) X1 hx (hb hby at_10) rfl rfl ?_
  refine oIC (n := 12) X1 hx (3 : Int32) (hb hby at_11) (by decide) rfl ?_
  obtain ⟨T2, h2, kc2, X2, e2, E2, A2, st2⟩ := newP X1 hx hZ (oW hw 3 rfl) e1 (g := (mkF m 12 #[iv i0, iv i1, iv i2, iv s6, uu, uu, uu, uu, uu, uu, uu, uu, uu, uu, uu] [(.int (3 : Int32)), (.ref b1), (.ref b1)])) rfl (hb hby at_12) rfl (by decide) (cap := 3) (by decide) (by decide) (by decide) (by decide)
  obtain ⟨b2, g2⟩ : ∃ z, z = h1.size := ⟨_, rfl⟩
  rw [← g2] at A2 st2
  have g_b2 : n0 ≤ b2 := Nat.le_trans (Nat.le_trans Z0 E1.1) (Nat.le_of_eq g2.symm)
  have V2 : Arv Z h2 b2 kc2 .char (3 : Int32) [(.int (0 : Int32)), (.int (0 : Int32)), (.int (0 : Int32))] (.int (0 : Int32)) := (Arv.new A2 (by decide)).pad (pad_rep [] (.int (0 : Int32)) 3)
  refine ov (B := T2.setTop (mkF m 14 #[iv i0, iv i1, iv i2, iv s6, uu, uu, uu, uu, uu, uu, uu, uu, uu, uu, uu] [(.ref b2), (.ref b1), (.ref b1)])) (fun t k => st2 t k) ?_
  refine oDU (n := 15) X2 hx (hb hby at_14) rfl rfl ?_
  refine oIC (n := 16) X2 hx (0 : Int32) (hb hby at_15) (by decide) rfl ?_
  refine oBP (n := 18) X2 hx (45 : Int32) (hb hby at_16) (by decide) rfl ?_
  obtain ⟨cl3, Ar3, q3, S3, M3, H3, G3⟩ := id V2
  obtain ⟨T4, h4, X4, e4, W4, st4⟩ := stC X2 hx hZ e2 Ar3 (j := (0 : Int32)) (inb_of S3 ⟨by decide, by decide⟩) (g := (mkF m 18 #[iv i0, iv i1, iv i2, iv s6, uu, uu, uu, uu, uu, uu, uu, uu, uu, uu, uu] [(.int (45 : Int32)), (.int (0 : Int32)), (.ref b2), (.ref b2), (.ref b1), (.ref b1)])) rfl rfl (hb hby at_18)
  have V4 : Arv Z h4 b2 kc2 .char (3 : Int32) [(.int (45 : Int32)), (.int (0 : Int32)), (.int (0 : Int32))] (.int (0 : Int32)) := by have q := Arv.set Ar3 q3 S3 M3 H3 G3 (fits_nar_char _) W4 0 rfl (Nat.le_of_ble_eq_true rfl); rw [own_nc (show own_C (45 : Int32) from ⟨by decide, by decide⟩)] at q; exact q
  have N4 := Fr.snoc X4 N0 g_b2
  refine ov (B := T4.setTop (mkF m 19 #[iv i0, iv i1, iv i2, iv s6, uu, uu, uu, uu, uu, uu, uu, uu, uu, uu, uu] [(.ref b2), (.ref b1), (.ref b1)])) (fun t k => st4 t k) ?_
  refine oDU (n := 20) X4 hx (hb hby at_19) rfl rfl ?_
  refine oIC (n := 21) X4 hx (1 : Int32) (hb hby at_20) (by decide) rfl ?_
  refine oBP (n := 23) X4 hx (45 : Int32) (hb hby at_21) (by decide) rfl ?_
  obtain ⟨cl5, Ar5, q5, S5, M5, H5, G5⟩ := id V4
  obtain ⟨T6, h6, X6, e6, W6, st6⟩ := stC X4 hx hZ e4 Ar5 (j := (1 : Int32)) (inb_of S5 ⟨by decide, by decide⟩) (g := (mkF m 23 #[iv i0, iv i1, iv i2, iv s6, uu, uu, uu, uu, uu, uu, uu, uu, uu, uu, uu] [(.int (45 : Int32)), (.int (1 : Int32)), (.ref b2), (.ref b2), (.ref b1), (.ref b1)])) rfl rfl (hb hby at_23)
  have V6 : Arv Z h6 b2 kc2 .char (3 : Int32) [(.int (45 : Int32)), (.int (45 : Int32)), (.int (0 : Int32))] (.int (0 : Int32)) := by have q := Arv.set Ar5 q5 S5 M5 H5 G5 (fits_nar_char _) W6 1 rfl (Nat.le_of_ble_eq_true rfl); rw [own_nc (show own_C (45 : Int32) from ⟨by decide, by decide⟩)] at q; exact q
  have N6 := Fr.snoc X6 N4 g_b2
  refine ov (B := T6.setTop (mkF m 24 #[iv i0, iv i1, iv i2, iv s6, uu, uu, uu, uu, uu, uu, uu, uu, uu, uu, uu] [(.ref b2), (.ref b1), (.ref b1)])) (fun t k => st6 t k) ?_
  refine oDU (n := 25) X6 hx (hb hby at_24) rfl rfl ?_
  refine oIC (n := 26) X6 hx (2 : Int32) (hb hby at_25) (by decide) rfl ?_
  refine oILN (n := 27) X6 hx (hb hby at_26) rfl rfl ?_
  obtain ⟨cl7, Ar7, q7, S7, M7, H7, G7⟩ := id V6
  obtain ⟨T8, h8, X8, e8, W8, st8⟩ := stC X6 hx hZ e6 Ar7 (j := (2 : Int32)) (inb_of S7 ⟨by decide, by decide⟩) (g := (mkF m 27 #[iv i0, iv i1, iv i2, iv s6, uu, uu, uu, uu, uu, uu, uu, uu, uu, uu, uu] [(.int s6), (.int (2 : Int32)), (.ref b2), (.ref b2), (.ref b1), (.ref b1)])) rfl rfl (hb hby at_27)
  have V8 : Arv Z h8 b2 kc2 .char (3 : Int32) [(.int (45 : Int32)), (.int (45 : Int32)), (.int s6)] (.int (0 : Int32)) := by have q := Arv.set Ar7 q7 S7 M7 H7 G7 (fits_nar_char _) W8 2 rfl (Nat.le_of_ble_eq_true rfl); rw [own_nc (own_cg hs6 (own_b255 i0))] at q; exact q
  have N8 := Fr.snoc X8 N6 g_b2
  refine ov (B := T8.setTop (mkF m 28 #[iv i0, iv i1, iv i2, iv s6, uu, uu, uu, uu, uu, uu, uu, uu, uu, uu, uu] [(.ref b2), (.ref b1), (.ref b1)])) (fun t k => st8 t k) ?_
  obtain ⟨_, _, ⟨T9, L9, k9, n9⟩, -, X9, ⟨Lc9, hQ9, l9, y9, z9⟩, st9⟩ := X8.specialBack hx (y := (⟨"java/lang/String", "<init>", "([C)V"⟩ : MethodName)) rfl hown (mvT hZ (oW hw 4 rfl)) (mvT hZ (oW hw 5 rfl)) (mvT hZ (oW hw 6 rfl)) (by decide) (StrChars.Road.backV (W := 1) hZ hws (kI := 4) (oW hw 1 rfl) (cs := ([(45 : Int32), (45 : Int32), s6] : List Int32)) (bs := ([(45 : Int32), (45 : Int32), s6] : List Int32).map (fun c => c.toInt8.toInt32)) (n := 3) g_b1 (Nat.le_trans (Nat.le_trans (Nat.le_trans (Nat.le_trans (Nat.le_trans Z0 E1.1) E2.1) (Keep.of_wr W4).1) (Keep.of_wr W6).1) (Keep.of_wr W8).1) ((((A1.ext E2).wr W4).wr W6).wr W8) ((((F1_value.ext E2).other W4 (Or.inl (Nat.ne_of_lt (Nat.lt_of_lt_of_le A1.lt (Nat.le_of_eq g2.symm))))).other W6 (Or.inl (Nat.ne_of_lt (Nat.lt_of_lt_of_le A1.lt (Nat.le_of_eq g2.symm))))).other W8 (Or.inl (Nat.ne_of_lt (Nat.lt_of_lt_of_le A1.lt (Nat.le_of_eq g2.symm))))) ((((F1_coder.ext E2).other W4 (Or.inl (Nat.ne_of_lt (Nat.lt_of_lt_of_le A1.lt (Nat.le_of_eq g2.symm))))).other W6 (Or.inl (Nat.ne_of_lt (Nat.lt_of_lt_of_le A1.lt (Nat.le_of_eq g2.symm))))).other W8 (Or.inl (Nat.ne_of_lt (Nat.lt_of_lt_of_le A1.lt (Nat.le_of_eq g2.symm))))) V8 (Scz.ext (((((O0.ext E1).ext E2).wr W4 g_b2).wr W6 g_b2).wr W8 g_b2).2) hcz rfl rfl (by decide) (by decide) (own_cs3 (show own_C (45 : Int32) from ⟨by decide, by decide⟩) (show own_C (45 : Int32) from ⟨by decide, by decide⟩) (own_cg hs6 (own_b255 i0))) rfl (by decide) (by decide)) (g := (mkF m 28 #[iv i0, iv i1, iv i2, iv s6, uu, uu, uu, uu, uu, uu, uu, uu, uu, uu, uu] [(.ref b2), (.ref b1), (.ref b1)])) rfl (by rw [hml]; rfl) (Steps.refl _) (a := b1) (argsL := [(.ref b2)]) (rest := [(.ref b1)]) (lenOf own_pd12 rfl) rfl (by show 2 * 0 + _ ≤ _; exact Nat.le_of_eq rfl) (hb hby at_28) (fun _ _ => ⟨rfl, e8, (by decide : ((0 + 1) + 1) + 1 ≤ _), (by decide : ((0 + 4) + 3) + 3 ≤ _)⟩)
  dsimp only [Pt.U, Pt.locs, Pt.cells, Pt.slots] at X9 l9 y9 z9 st9 hQ9
  subst l9 y9 z9
  obtain ⟨rfl, Nq9, Kq9, gE9, gC9, t9, kt9, u9, su9, ne9, gV9, gA9⟩ := hQ9
  have N9 := Fr.app N8 Nq9
  have g_t9 : n0 ≤ t9 := u9
  refine ov (B := T9.setTop (mkF m 31 #[iv i0, iv i1, iv i2, iv s6, uu, uu, uu, uu, uu, uu, uu, uu, uu, uu, uu] [(.ref b1)])) (fun t k => st9.trans k) ?_
  refine ov (B := T9.setTop (mkF m 33 #[iv i0, iv i1, iv i2, iv s6, rv b1, uu, uu, uu, uu, uu, uu, uu, uu, uu, uu] [])) (fun t k => XS.astore X9.here hx rfl (hb hby at_31) rfl rfl (l' := #[iv i0, iv i1, iv i2, iv s6, rv b1, uu, uu, uu, uu, uu, uu, uu, uu, uu, uu]) rfl k) ?_
  refine oILN (n := 34) X9 hx (hb hby at_33) rfl rfl ?_
  refine oIC (n := 35) X9 hx (1 : Int32) (hb hby at_34) (by decide) rfl ?_
  refine ov (B := T9.setTop (mkF m 36 #[iv i0, iv i1, iv i2, iv s6, rv b1, uu, uu, uu, uu, uu, uu, uu, uu, uu, uu] [(.int (i2 &&& (1 : Int32)))])) (fun t k => XS.iand X9.here hx rfl (hb hby at_35) rfl k) ?_
  by_cases hc36 : (i2 &&& (1 : Int32)) = (0 : Int32)
  · refine ov (B := T9.setTop (mkF m 43 #[iv i0, iv i1, iv i2, iv s6, rv b1, uu, uu, uu, uu, uu, uu, uu, uu, uu, uu] [])) (fun t k => XS.ifYes X9.here hx rfl (pc0 := 36) (pc' := 43) rfl (hb hby at_36) rfl ((if0 _ _).trans (teq hc36).1) (by decide) (by decide) k) ?_
    refine oIC (n := 44) X9 hx (0 : Int32) (hb hby at_43) (by decide) rfl ?_
    refine ov (B := T9.setTop (mkF m 46 #[iv i0, iv i1, iv i2, iv s6, rv b1, iv (0 : Int32), uu, uu, uu, uu, uu, uu, uu, uu, uu] [])) (fun t k => XS.istore X9.here hx rfl (hb hby at_44) rfl (l' := #[iv i0, iv i1, iv i2, iv s6, rv b1, iv (0 : Int32), uu, uu, uu, uu, uu, uu, uu, uu, uu]) rfl k) ?_
    refine oILN (n := 47) X9 hx (hb hby at_46) rfl rfl ?_
    refine oIC (n := 48) X9 hx (2 : Int32) (hb hby at_47) (by decide) rfl ?_
    refine ov (B := T9.setTop (mkF m 49 #[iv i0, iv i1, iv i2, iv s6, rv b1, iv (0 : Int32), uu, uu, uu, uu, uu, uu, uu, uu, uu] [(.int (i2 &&& (2 : Int32)))])) (fun t k => XS.iand X9.here hx rfl (hb hby at_48) rfl k) ?_
    refine own_bind (G := fun B => ∃ (T' : State) (L' : List Loc) (v49s0 : Int32), Fr n0 L' ∧ ((((i2 &&& (2 : Int32)) = (0 : Int32)) ∧ v49s0 = (0 : Int32)) ∨ ((¬ ((i2 &&& (2 : Int32)) = (0 : Int32))) ∧ v49s0 = (1 : Int32))) ∧ B = T'.setTop (mkF m 57 #[iv i0, iv i1, iv i2, iv s6, rv b1, iv (0 : Int32), uu, uu, uu, uu, uu, uu, uu, uu, uu] [(.int v49s0)]) ∧ Stand p l e room_1 (s.setVm s.vm) m #[(.int i0), (.int i1), (.int i2)] below meth c T' L' (((0 + 1) + 1) + 1) (((0 + 4) + 3) + 3) ∧ T'.heap = T9.heap) ?_ ?_
    · by_cases hc49 : (i2 &&& (2 : Int32)) = (0 : Int32)
      · refine ov (B := T9.setTop (mkF m 56 #[iv i0, iv i1, iv i2, iv s6, rv b1, iv (0 : Int32), uu, uu, uu, uu, uu, uu, uu, uu, uu] [])) (fun t k => XS.ifYes X9.here hx rfl (pc0 := 49) (pc' := 56) rfl (hb hby at_49) rfl ((if0 _ _).trans (teq hc49).1) (by decide) (by decide) k) ?_
        refine oIC (n := 57) X9 hx (0 : Int32) (hb hby at_56) (by decide) rfl ?_
        exact own_done ⟨_, _, _, N9, (Or.inl ⟨hc49, rfl⟩), rfl, X9, rfl⟩
      · refine ov (B := T9.setTop (mkF m 52 #[iv i0, iv i1, iv i2, iv s6, rv b1, iv (0 : Int32), uu, uu, uu, uu, uu, uu, uu, uu, uu] [])) (fun t k => XS.ifNo X9.here hx rfl (hb hby at_49) rfl ((if0 _ _).trans (feq hc49).1) k) ?_
        refine oIC (n := 53) X9 hx (1 : Int32) (hb hby at_52) (by decide) rfl ?_
        refine oGO (n := 57) X9 hx (hb hby at_53) (by decide) (by decide) ?_
        exact own_done ⟨_, _, _, N9, (Or.inr ⟨hc49, rfl⟩), rfl, X9, rfl⟩
    · rintro B ⟨T10, L10, v49s0, N10, hv49, rfl, X10, e10⟩
      refine ov (B := T10.setTop (mkF m 59 #[iv i0, iv i1, iv i2, iv s6, rv b1, iv (0 : Int32), iv v49s0, uu, uu, uu, uu, uu, uu, uu, uu] [])) (fun t k => XS.istore X10.here hx rfl (hb hby at_57) rfl (l' := #[iv i0, iv i1, iv i2, iv s6, rv b1, iv (0 : Int32), iv v49s0, uu, uu, uu, uu, uu, uu, uu, uu]) rfl k) ?_
      refine oILN (n := 60) X10 hx (hb hby at_59) rfl rfl ?_
      refine oIC (n := 61) X10 hx (2 : Int32) (hb hby at_60) (by decide) rfl ?_
      refine ov (B := T10.setTop (mkF m 62 #[iv i0, iv i1, iv i2, iv s6, rv b1, iv (0 : Int32), iv v49s0, uu, uu, uu, uu, uu, uu, uu, uu] [(.int ((i2.toUInt32 >>> ((2 : Int32) &&& 31).toUInt32).toInt32))])) (fun t k => XS.iushr X10.here hx rfl (hb hby at_61) rfl k) ?_
      refine oIC (n := 63) X10 hx (3 : Int32) (hb hby at_62) (by decide) rfl ?_
      refine ov (B := T10.setTop (mkF m 64 #[iv i0, iv i1, iv i2, iv s6, rv b1, iv (0 : Int32), iv v49s0, uu, uu, uu, uu, uu, uu, uu, uu] [(.int (((i2.toUInt32 >>> ((2 : Int32) &&& 31).toUInt32).toInt32) &&& (3 : Int32)))])) (fun t k => XS.iand X10.here hx rfl (hb hby at_63) rfl k) ?_
      refine ov (B := T10.setTop (mkF m 66 #[iv i0, iv i1, iv i2, iv s6, rv b1, iv (0 : Int32), iv v49s0, iv (((i2.toUInt32 >>> ((2 : Int32) &&& 31).toUInt32).toInt32) &&& (3 : Int32)), uu, uu, uu, uu, uu, uu, uu] [])) (fun t k => XS.istore X10.here hx rfl (hb hby at_64) rfl (l' := #[iv i0, iv i1, iv i2, iv s6, rv b1, iv (0 : Int32), iv v49s0, iv (((i2.toUInt32 >>> ((2 : Int32) &&& 31).toUInt32).toInt32) &&& (3 : Int32)), uu, uu, uu, uu, uu, uu, uu]) rfl k) ?_
      generalize hs64 : (((i2.toUInt32 >>> ((2 : Int32) &&& 31).toUInt32).toInt32) &&& (3 : Int32)) = s64
      refine oILN (n := 67) X10 hx (hb hby at_66) rfl rfl ?_
      refine oSP (n := 70) X10 hx (255 : Int32) (hb hby at_67) (by decide) rfl ?_
      refine ov (B := T10.setTop (mkF m 71 #[iv i0, iv i1, iv i2, iv s6, rv b1, iv (0 : Int32), iv v49s0, iv s64, uu, uu, uu, uu, uu, uu, uu] [(.int (i1 &&& (255 : Int32)))])) (fun t k => XS.iand X10.here hx rfl (hb hby at_70) rfl k) ?_
      refine ov (B := T10.setTop (mkF m 72 #[iv i0, iv i1, iv i2, iv s6, rv b1, iv (0 : Int32), iv v49s0, iv s64, uu, uu, uu, uu, uu, uu, uu] [(.int (i1 &&& (255 : Int32)))])) (fun t k => XS.i2c X10.here hx rfl (hb hby at_71) rfl (by rw [own_i2c (own_b255 i1)]; exact k)) ?_
      refine ov (B := T10.setTop (mkF m 74 #[iv i0, iv i1, iv i2, iv s6, rv b1, iv (0 : Int32), iv v49s0, iv s64, iv (i1 &&& (255 : Int32)), uu, uu, uu, uu, uu, uu] [])) (fun t k => XS.istore X10.here hx rfl (hb hby at_72) rfl (l' := #[iv i0, iv i1, iv i2, iv s6, rv b1, iv (0 : Int32), iv v49s0, iv s64, iv (i1 &&& (255 : Int32)), uu, uu, uu, uu, uu, uu]) rfl k) ?_
      generalize hs72 : (i1 &&& (255 : Int32)) = s72
      refine oILN (n := 75) X10 hx (hb hby at_74) rfl rfl ?_
      refine oBP (n := 77) X10 hx (8 : Int32) (hb hby at_75) (by decide) rfl ?_
      refine ov (B := T10.setTop (mkF m 78 #[iv i0, iv i1, iv i2, iv s6, rv b1, iv (0 : Int32), iv v49s0, iv s64, iv s72, uu, uu, uu, uu, uu, uu] [(.int ((i1.toUInt32 >>> ((8 : Int32) &&& 31).toUInt32).toInt32))])) (fun t k => XS.iushr X10.here hx rfl (hb hby at_77) rfl k) ?_
      refine oSP (n := 81) X10 hx (255 : Int32) (hb hby at_78) (by decide) rfl ?_
      refine ov (B := T10.setTop (mkF m 82 #[iv i0, iv i1, iv i2, iv s6, rv b1, iv (0 : Int32), iv v49s0, iv s64, iv s72, uu, uu, uu, uu, uu, uu] [(.int (((i1.toUInt32 >>> ((8 : Int32) &&& 31).toUInt32).toInt32) &&& (255 : Int32)))])) (fun t k => XS.iand X10.here hx rfl (hb hby at_81) rfl k) ?_
      refine ov (B := T10.setTop (mkF m 83 #[iv i0, iv i1, iv i2, iv s6, rv b1, iv (0 : Int32), iv v49s0, iv s64, iv s72, uu, uu, uu, uu, uu, uu] [(.int (((i1.toUInt32 >>> ((8 : Int32) &&& 31).toUInt32).toInt32) &&& (255 : Int32)))])) (fun t k => XS.i2c X10.here hx rfl (hb hby at_82) rfl (by rw [own_i2c (own_b255 ((i1.toUInt32 >>> ((8 : Int32) &&& 31).toUInt32).toInt32))]; exact k)) ?_
      refine ov (B := T10.setTop (mkF m 85 #[iv i0, iv i1, iv i2, iv s6, rv b1, iv (0 : Int32), iv v49s0, iv s64, iv s72, iv (((i1.toUInt32 >>> ((8 : Int32) &&& 31).toUInt32).toInt32) &&& (255 : Int32)), uu, uu, uu, uu, uu] [])) (fun t k => XS.istore X10.here hx rfl (hb hby at_83) rfl (l' := #[iv i0, iv i1, iv i2, iv s6, rv b1, iv (0 : Int32), iv v49s0, iv s64, iv s72, iv (((i1.toUInt32 >>> ((8 : Int32) &&& 31).toUInt32).toInt32) &&& (255 : Int32)), uu, uu, uu, uu, uu]) rfl k) ?_
      generalize hs83 : (((i1.toUInt32 >>> ((8 : Int32) &&& 31).toUInt32).toInt32) &&& (255 : Int32)) = s83
      refine oNU (n := 86) X10 hx (hb hby at_85) rfl ?_
      refine ov (B := T10.setTop (mkF m 88 #[iv i0, iv i1, iv i2, iv s6, rv b1, iv (0 : Int32), iv v49s0, iv s64, iv s72, iv s83, .val .null, uu, uu, uu, uu] [])) (fun t k => XS.astore X10.here hx rfl (hb hby at_86) rfl rfl (l' := #[iv i0, iv i1, iv i2, iv s6, rv b1, iv (0 : Int32), iv v49s0, iv s64, iv s72, iv s83, .val .null, uu, uu, uu, uu]) rfl k) ?_
      refine oIL (n := 90) X10 hx (hb hby at_88) rfl rfl ?_
      have hc90 : (0 : Int32) = (0 : Int32) := by decide
      refine ov (B := T10.setTop (mkF m 151 #[iv i0, iv i1, iv i2, iv s6, rv b1, iv (0 : Int32), iv v49s0, iv s64, iv s72, iv s83, .val .null, uu, uu, uu, uu] [])) (fun t k => XS.ifYes X10.here hx rfl (pc0 := 90) (pc' := 151) rfl (hb hby at_90) rfl ((if0 _ _).trans (teq hc90).1) (by decide) (by decide) k) ?_
      refine oILN (n := 152) X10 hx (hb hby at_151) rfl rfl ?_
      refine oBP (n := 154) X10 hx (8 : Int32) (hb hby at_152) (by decide) rfl ?_
      refine ov (B := T10.setTop (mkF m 155 #[iv i0, iv i1, iv i2, iv s6, rv b1, iv (0 : Int32), iv v49s0, iv s64, iv s72, iv s83, .val .null, uu, uu, uu, uu] [(.int ((i0.toUInt32 >>> ((8 : Int32) &&& 31).toUInt32).toInt32))])) (fun t k => XS.iushr X10.here hx rfl (hb hby at_154) rfl k) ?_
      refine oSP (n := 158) X10 hx (255 : Int32) (hb hby at_155) (by decide) rfl ?_
      refine ov (B := T10.setTop (mkF m 159 #[iv i0, iv i1, iv i2, iv s6, rv b1, iv (0 : Int32), iv v49s0, iv s64, iv s72, iv s83, .val .null, uu, uu, uu, uu] [(.int (((i0.toUInt32 >>> ((8 : Int32) &&& 31).toUInt32).toInt32) &&& (255 : Int32)))])) (fun t k => XS.iand X10.here hx rfl (hb hby at_158) rfl k) ?_
      refine ov (B := T10.setTop (mkF m 160 #[iv i0, iv i1, iv i2, iv s6, rv b1, iv (0 : Int32), iv v49s0, iv s64, iv s72, iv s83, .val .null, uu, uu, uu, uu] [(.int (((i0.toUInt32 >>> ((8 : Int32) &&& 31).toUInt32).toInt32) &&& (255 : Int32)))])) (fun t k => XS.i2c X10.here hx rfl (hb hby at_159) rfl (by rw [own_i2c (own_b255 ((i0.toUInt32 >>> ((8 : Int32) &&& 31).toUInt32).toInt32))]; exact k)) ?_
      obtain ⟨_, _, ⟨T11, L11, k11, n11⟩, -, X11, ⟨Lc11, hQ11, l11, y11, z11⟩, st11⟩ := Jvm.LawKit.callS X10 hx (y := (⟨"java/lang/String", "valueOf", "(C)Ljava/lang/String;"⟩ : MethodName)) hown (mvT hZ (oW hw 30 rfl)) (mvT hZ (oW hw 31 rfl)) (mvT hZ (oW hw 2 rfl)) (mvT hZ (oW hw 32 rfl)) (by decide) (backOf (W := 0) (rmJ l Z a0 hw [] (((i0.toUInt32 >>> ((8 : Int32) &&& 31).toUInt32).toInt32) &&& (255 : Int32)) zc T9.heap n0 (Nat.le_trans (Nat.le_trans (Nat.le_trans (Nat.le_trans (Nat.le_trans (Nat.le_trans Z0 E1.1) E2.1) (Keep.of_wr W4).1) (Keep.of_wr W6).1) (Keep.of_wr W8).1) Kq9.1) ((((((O0.ext E1).ext E2).wr W4 g_b2).wr W6 g_b2).wr W8 g_b2).keep Kq9 (allS g_b1 all0)) (by assumption) (by assumption) (own_b255 ((i0.toUInt32 >>> ((8 : Int32) &&& 31).toUInt32).toInt32))) hZ (oW hw 32 rfl) (oW hw 2 rfl) (by decide) (by decide)) (g := (mkF m 160 #[iv i0, iv i1, iv i2, iv s6, rv b1, iv (0 : Int32), iv v49s0, iv s64, iv s72, iv s83, .val .null, uu, uu, uu, uu] [(.int (((i0.toUInt32 >>> ((8 : Int32) &&& 31).toUInt32).toInt32) &&& (255 : Int32)))])) rfl (by rw [hml]; rfl) (argsL := [(.int (((i0.toUInt32 >>> ((8 : Int32) &&& 31).toUInt32).toInt32) &&& (255 : Int32)))]) (rest := []) (lenOf own_pd13 rfl) rfl (by show 2 * 0 + _ ≤ _; exact Nat.le_of_eq rfl) (hb hby at_160) (fun _ _ => ⟨rfl, e10, (by decide : (((0 + 1) + 1) + 1) + 2 ≤ _), (by decide : (((0 + 4) + 3) + 3) + 5 ≤ _)⟩)
      dsimp only [Pt.U, Pt.locs, Pt.cells, Pt.slots] at X11 l11 y11 z11 st11 hQ11
      subst l11 y11 z11
      obtain ⟨r_11, tr_11, kr_11, rfl, Nq11, Kq11, hr_11, htr_11, f11_0, f11_1, f11_2, f11_3⟩ := hQ11
      have N11 := Fr.app N10 Nq11
      have g_r_11 : n0 ≤ r_11 := Nat.le_trans (Nat.le_trans (Nat.le_trans (Nat.le_trans (Nat.le_trans (Nat.le_trans (Nat.le_trans Z0 E1.1) E2.1) (Keep.of_wr W4).1) (Keep.of_wr W6).1) (Keep.of_wr W8).1) Kq9.1) hr_11
      have g_tr_11 : n0 ≤ tr_11 := Nat.le_trans (Nat.le_trans (Nat.le_trans (Nat.le_trans (Nat.le_trans (Nat.le_trans (Nat.le_trans Z0 E1.1) E2.1) (Keep.of_wr W4).1) (Keep.of_wr W6).1) (Keep.of_wr W8).1) Kq9.1) htr_11
      refine ov (B := T11.setTop (mkF m 163 #[iv i0, iv i1, iv i2, iv s6, rv b1, iv (0 : Int32), iv v49s0, iv s64, iv s72, iv s83, .val .null, uu, uu, uu, uu] [(.ref r_11)])) (fun t k => st11 t k) ?_
      refine ov (B := T11.setTop (mkF m 165 #[iv i0, iv i1, iv i2, iv s6, rv b1, iv (0 : Int32), iv v49s0, iv s64, iv s72, iv s83, .val .null, rv r_11, uu, uu, uu] [])) (fun t k => XS.astore X11.here hx rfl (hb hby at_163) rfl rfl (l' := #[iv i0, iv i1, iv i2, iv s6, rv b1, iv (0 : Int32), iv v49s0, iv s64, iv s72, iv s83, .val .null, rv r_11, uu, uu, uu]) rfl k) ?_
      obtain ⟨T12, h12, X12, e12, E12, A12, D12, -, st12⟩ := newO X11 hx hZ hown (oW hw 44 rfl) (oW hw 45 rfl) (oW hw 46 rfl) rfl (g := (mkF m 165 #[iv i0, iv i1, iv i2, iv s6, rv b1, iv (0 : Int32), iv v49s0, iv s64, iv s72, iv s83, .val .null, rv r_11, uu, uu, uu] [])) rfl (hb hby at_165) (by decide) (by decide)
      obtain ⟨b12, g12⟩ : ∃ z, z = T11.heap.size := ⟨_, rfl⟩
      rw [← g12] at A12 D12 st12
      have g_b12 : n0 ≤ b12 := Nat.le_trans (Nat.le_trans (Nat.le_trans (Nat.le_trans (Nat.le_trans (Nat.le_trans (Nat.le_trans (Nat.le_trans Z0 E1.1) E2.1) (Keep.of_wr W4).1) (Keep.of_wr W6).1) (Keep.of_wr W8).1) Kq9.1) Kq11.1) (Nat.le_of_eq g12.symm)
      have F12_name : Fld Z h12 b12 "com/example/planmend/planmend/cli/Option" "name" "Ljava/lang/String;" .null := D12 (Or.inr (oW hw 90 rfl)) (ty := (.object "java/lang/String")) (by decide)
      have F12_value : Fld Z h12 b12 "com/example/planmend/planmend/cli/Option" "value" "Ljava/lang/String;" .null := D12 (Or.inr (oW hw 92 rfl)) (ty := (.object "java/lang/String")) (by decide)
      have F12_description : Fld Z h12 b12 "com/example/planmend/planmend/cli/Option" "description" "Ljava/lang/String;" .null := D12 (Or.inr (oW hw 94 rfl)) (ty := (.object "java/lang/String")) (by decide)
      have F12_required : Fld Z h12 b12 "com/example/planmend/planmend/cli/Option" "required" "Z" (.int (0 : Int32)) := D12 (Or.inr (oW hw 96 rfl)) (ty := .boolean) (by decide)
      refine ov (B := T12.setTop (mkF m 168 #[iv i0, iv i1, iv i2, iv s6, rv b1, iv (0 : Int32), iv v49s0, iv s64, iv s72, iv s83, .val .null, rv r_11, uu, uu, uu] [(.ref b12)])) (fun t k => st12 t k) ?_
      refine oDU (n := 169) X12 hx (hb hby at_168) rfl rfl ?_
      refine oAL (n := 171) X12 hx (hb hby at_169) rfl rfl rfl ?_
      refine oAL (n := 173) X12 hx (hb hby at_171) rfl rfl rfl ?_
      refine oAL (n := 175) X12 hx (hb hby at_173) rfl rfl rfl ?_
      refine oIL (n := 177) X12 hx (hb hby at_175) rfl rfl ?_
      obtain ⟨_, _, ⟨T13, L13, k13, n13⟩, -, X13, hT13, gT13, ⟨Lc13, hQ13, l13, y13, z13⟩, st13⟩ := X12.specialBackS hx (y := (⟨"com/example/planmend/planmend/cli/Option", "<init>", "(Ljava/lang/String;Ljava/lang/String;Ljava/lang/String;Z)V"⟩ : MethodName)) rfl hown (mvT hZ (oW hw 47 rfl)) (mvT hZ (oW hw 48 rfl)) (mvT hZ (oW hw 49 rfl)) (by decide) (own_backV (VP := fun vm'' => IB Z vm'' []) (W := 1) (rmO1n l Z a0 hw [] b12 b1 r_11 v49s0 .null .null .null (.int (0 : Int32)) zc t9 kt9 (45 : Int32).toInt8.toInt32 (45 : Int32).toInt8.toInt32 s6.toInt8.toInt32 [] h12 n0 (Nat.le_trans (Nat.le_trans (Nat.le_trans (Nat.le_trans (Nat.le_trans (Nat.le_trans (Nat.le_trans (Nat.le_trans Z0 E1.1) E2.1) (Keep.of_wr W4).1) (Keep.of_wr W6).1) (Keep.of_wr W8).1) Kq9.1) Kq11.1) E12.1) ((((((((O0.ext E1).ext E2).wr W4 g_b2).wr W6 g_b2).wr W8 g_b2).keep Kq9 (allS g_b1 all0)).keep Kq11 all0).ext E12) (by assumption) (by assumption) (by assumption) (by assumption) A12 F12_name F12_value F12_description F12_required g_b12 (((((((A1.ext E2).wr W4).wr W6).wr W8).keep Kq9).keep Kq11).ext E12) ((gC9.keep Kq11 nin0).ext E12) ((gV9.keep Kq11 nin0).ext E12) ((gA9.keep Kq11 nin0).ext E12) (by decide) (by decide) (hv49.elim (fun h => Or.inl h.2) (fun h => Or.inr h.2)) (by simp)) (fun vm'' hW'' => own_ibW (s := (s.setVm s.vm)) hI hW'') hZ (oW hw 49 rfl) (oW hw 46 rfl) (by decide) (by decide)) (g := (mkF m 177 #[iv i0, iv i1, iv i2, iv s6, rv b1, iv (0 : Int32), iv v49s0, iv s64, iv s72, iv s83, .val .null, rv r_11, uu, uu, uu] [(.int v49s0), (.ref r_11), .null, (.ref b1), (.ref b12), (.ref b12)])) rfl (by rw [hml]; rfl) (Steps.refl _) (a := b12) (argsL := [(.ref b1), .null, (.ref r_11), (.int v49s0)]) (rest := [(.ref b12)]) (lenOf own_pd11 rfl) rfl (by show 2 * 0 + _ ≤ _; exact Nat.le_of_eq rfl) (hb hby at_177) (fun _ _ => ⟨rfl, e12, (by decide : (((((0 + 1) + 1) + 1) + 2) + 1) + 4 ≤ _), (by decide : (((((0 + 4) + 3) + 3) + 5) + 4) + 60 ≤ _)⟩)
      dsimp only [Pt.U, Pt.locs, Pt.cells, Pt.slots] at X13 l13 y13 z13 st13 hQ13 hT13 gT13
      subst l13 y13 z13
      obtain ⟨X13, hS13, hZ, hown⟩ := rebS hS0 (by rw [e12]; exact (Nat.le_trans (Nat.le_trans (Nat.le_trans (Nat.le_trans (Nat.le_trans (Nat.le_trans (Nat.le_trans (Nat.le_trans hk0 E1.1) E2.1) (Keep.of_wr W4).1) (Keep.of_wr W6).1) (Keep.of_wr W8).1) Kq9.1) Kq11.1) E12.1)) X13 hT13 gT13 hZ hown
      obtain ⟨lc_13, lt_13, lk_13, rfl, Nq13, Kq13, vL_13, f13_0, f13_1, f13_2, f13_3, f13_4, f13_5, f13_6, f13_7⟩ := hQ13
      have N13 := Fr.app N11 Nq13
      refine ov (B := T13.setTop (mkF m 180 #[iv i0, iv i1, iv i2, iv s6, rv b1, iv (0 : Int32), iv v49s0, iv s64, iv s72, iv s83, .val .null, rv r_11, uu, uu, uu] [(.ref b12)])) (fun t k => st13.trans k) ?_
      refine ov (B := T13.setTop (mkF m 182 #[iv i0, iv i1, iv i2, iv s6, rv b1, iv (0 : Int32), iv v49s0, iv s64, iv s72, iv s83, .val .null, rv r_11, rv b12, uu, uu] [])) (fun t k => XS.astore X13.here hx rfl (hb hby at_180) rfl rfl (l' := #[iv i0, iv i1, iv i2, iv s6, rv b1, iv (0 : Int32), iv v49s0, iv s64, iv s72, iv s83, .val .null, rv r_11, rv b12, uu, uu]) rfl k) ?_
      refine oAL (n := 184) X13 hx (hb hby at_182) rfl rfl rfl ?_
      obtain ⟨cq14, kq14, q14a, q14b, q14c⟩ := isOf hZ rfl (A12.keep Kq13)
      obtain ⟨_, _, ⟨T14, L14, k14, n14⟩, -, X14, ⟨Lc14, hQ14, l14, y14, z14⟩, st14⟩ := X13.virtualBack hx (y := (⟨"com/example/planmend/planmend/cli/Option", "takesValue", "()Z"⟩ : MethodName)) (z := (⟨"com/example/planmend/planmend/cli/Option", "takesValue", "()Z"⟩ : MethodName)) hown (mvT hZ (oW hw 97 rfl)) (mvT hZ (oW hw 98 rfl)) (notFace_of_selects (args := #[]) (mvT hZ (oW hw 100 rfl))) (mvT hZ (oW hw 100 rfl)) (mvT hZ (oW hw 99 rfl)) (by decide) (backOf (W := 0) (rmTn l Z a0 hw [] b12 T13.heap n0 (Nat.le_trans (Nat.le_trans (Nat.le_trans (Nat.le_trans (Nat.le_trans (Nat.le_trans (Nat.le_trans (Nat.le_trans (Nat.le_trans Z0 E1.1) E2.1) (Keep.of_wr W4).1) (Keep.of_wr W6).1) (Keep.of_wr W8).1) Kq9.1) Kq11.1) E12.1) Kq13.1) f13_1) hZ (oW hw 101 rfl) (oW hw 46 rfl) (by decide) (by decide)) q14a q14c (g := (mkF m 184 #[iv i0, iv i1, iv i2, iv s6, rv b1, iv (0 : Int32), iv v49s0, iv s64, iv s72, iv s83, .val .null, rv r_11, rv b12, uu, uu] [(.ref b12)])) rfl (by rw [hml]; rfl) (Steps.refl _) (argsL := []) (rest := []) (lenOf own_pd14 rfl) rfl (by show 2 * 0 + _ ≤ _; exact Nat.le_of_eq rfl) (hb hby at_184) (fun _ _ => ⟨rfl, rfl, (by decide : ((((((0 + 1) + 1) + 1) + 2) + 1) + 4) + 0 ≤ _), (by decide : ((((((0 + 4) + 3) + 3) + 5) + 4) + 60) + 0 ≤ _)⟩)
      dsimp only [Pt.U, Pt.locs, Pt.cells, Pt.slots] at X14 l14 y14 z14 st14 hQ14
      subst l14 y14 z14
      obtain ⟨rfl, Nq14, eq14⟩ := hQ14
      have N14 := Fr.app N13 Nq14
      refine ov (B := T14.setTop (mkF m 187 #[iv i0, iv i1, iv i2, iv s6, rv b1, iv (0 : Int32), iv v49s0, iv s64, iv s72, iv s83, .val .null, rv r_11, rv b12, uu, uu] [(.int (0 : Int32))])) (fun t k => st14.trans k) ?_
      refine ov (B := T14.setTop (mkF m 189 #[iv i0, iv i1, iv i2, iv s6, rv b1, iv (0 : Int32), iv v49s0, iv s64, iv s72, iv s83, .val .null, rv r_11, rv b12, iv (0 : Int32), uu] [])) (fun t k => XS.istore X14.here hx rfl (hb hby at_187) rfl (l' := #[iv i0, iv i1, iv i2, iv s6, rv b1, iv (0 : Int32), iv v49s0, iv s64, iv s72, iv s83, .val .null, rv r_11, rv b12, iv (0 : Int32), uu]) rfl k) ?_
      refine oAL (n := 191) X14 hx (hb hby at_189) rfl rfl rfl ?_
      obtain ⟨cq15, kq15, q15a, q15b, q15c⟩ := isOf hZ eq14 (A12.keep Kq13)
      obtain ⟨_, _, ⟨T15, L15, k15, n15⟩, -, X15, hT15, gT15, ⟨Lc15, hQ15, l15, y15, z15⟩, st15⟩ := X14.virtualBackS hx (y := (⟨"com/example/planmend/planmend/cli/Option", "asRequired", "()Lcom/example/planmend/planmend/cli/Option;"⟩ : MethodName)) (z := (⟨"com/example/planmend/planmend/cli/Option", "asRequired", "()Lcom/example/planmend/planmend/cli/Option;"⟩ : MethodName)) hown (mvT hZ (oW hw 102 rfl)) (mvT hZ (oW hw 103 rfl)) (notFace_of_selects (args := #[]) (mvT hZ (oW hw 105 rfl))) (mvT hZ (oW hw 105 rfl)) (mvT hZ (oW hw 104 rfl)) (by decide) (own_backP (VP := fun vm'' => Lit (Z.setVm vm'') "com/example/planmend/planmend/cli/Option" 7 lc_13) (W := 0) (rmAn l Z a0 hw [] b12 zc b1 r_11 t9 kt9 (45 : Int32).toInt8.toInt32 (45 : Int32).toInt8.toInt32 s6.toInt8.toInt32 lc_13 lt_13 lk_13 T13.heap n0 (Nat.le_trans (Nat.le_trans (Nat.le_trans (Nat.le_trans (Nat.le_trans (Nat.le_trans (Nat.le_trans (Nat.le_trans (Nat.le_trans Z0 E1.1) E2.1) (Keep.of_wr W4).1) (Keep.of_wr W6).1) (Keep.of_wr W8).1) Kq9.1) Kq11.1) E12.1) Kq13.1) (((((((((O0.ext E1).ext E2).wr W4 g_b2).wr W6 g_b2).wr W8 g_b2).keep Kq9 (allS g_b1 all0)).keep Kq11 all0).ext E12).keep Kq13 (allS g_b12 all0)) (by assumption) (by assumption) (by assumption) (by assumption) f13_0 f13_1 f13_2 ((((((((A1.ext E2).wr W4).wr W6).wr W8).keep Kq9).keep Kq11).ext E12).keep Kq13) (((gC9.keep Kq11 nin0).ext E12).keep Kq13 (ninS (Nat.ne_of_lt (Nat.lt_of_lt_of_le ((((((A1.ext E2).wr W4).wr W6).wr W8).keep Kq9).keep Kq11).lt (Nat.le_of_eq g12.symm))) nin0)) (((gV9.keep Kq11 nin0).ext E12).keep Kq13 (ninS (Nat.ne_of_lt (Nat.lt_of_lt_of_le ((((((A1.ext E2).wr W4).wr W6).wr W8).keep Kq9).keep Kq11).lt (Nat.le_of_eq g12.symm))) nin0)) (((gA9.keep Kq11 nin0).ext E12).keep Kq13 (ninS (Nat.ne_of_lt (Nat.lt_of_lt_of_le (gA9.keep Kq11 nin0).lt (Nat.le_of_eq g12.symm))) nin0)) (by decide) (by decide) f13_4 f13_5 f13_6 f13_7) (fun vm'' hW'' => own_litL (s := s) (vm := T13.vm) vL_13 hW'') hZ (oW hw 106 rfl) (oW hw 46 rfl) (by decide) (by decide)) q15a q15c (g := (mkF m 191 #[iv i0, iv i1, iv i2, iv s6, rv b1, iv (0 : Int32), iv v49s0, iv s64, iv s72, iv s83, .val .null, rv r_11, rv b12, iv (0 : Int32), uu] [(.ref b12)])) rfl (by rw [hml]; rfl) (Steps.refl _) (argsL := []) (rest := []) (lenOf own_pd15 rfl) rfl (by show 2 * 0 + _ ≤ _; exact Nat.le_of_eq rfl) (hb hby at_191) (fun _ _ => ⟨rfl, eq14, (by decide : (((((((0 + 1) + 1) + 1) + 2) + 1) + 4) + 0) + 5 ≤ _), (by decide : (((((((0 + 4) + 3) + 3) + 5) + 4) + 60) + 0) + 64 ≤ _)⟩)
      dsimp only [Pt.U, Pt.locs, Pt.cells, Pt.slots] at X15 l15 y15 z15 st15 hQ15 hT15 gT15
      subst l15 y15 z15
      obtain ⟨X15, hS15, hZ, hown⟩ := rebS hS13 (by rw [eq14]; exact (Nat.le_refl _)) X15 hT15 gT15 hZ hown
      have hlit15_lc_13 := Lit.stays (s := s) vL_13 hT15.1
      obtain ⟨r_15, rfl, Nq15, Kq15, f15_0, f15_1⟩ := hQ15
      have N15 := Fr.app N14 Nq15
      refine ov (B := T15.setTop (mkF m 194 #[iv i0, iv i1, iv i2, iv s6, rv b1, iv (0 : Int32), iv v49s0, iv s64, iv s72, iv s83, .val .null, rv r_11, rv b12, iv (0 : Int32), uu] [(.ref r_15)])) (fun t k => st15.trans k) ?_
      obtain ⟨cq16, kq16, q16a, q16b, q16c⟩ := isOf hZ rfl f15_0
      obtain ⟨_, _, ⟨T16, L16, k16, n16⟩, -, X16, ⟨Lc16, hQ16, l16, y16, z16⟩, st16⟩ := X15.virtualBack hx (y := (⟨"com/example/planmend/planmend/cli/Option", "takesValue", "()Z"⟩ : MethodName)) (z := (⟨"com/example/planmend/planmend/cli/Option", "takesValue", "()Z"⟩ : MethodName)) hown (mvT hZ (oW hw 97 rfl)) (mvT hZ (oW hw 98 rfl)) (notFace_of_selects (args := #[]) (mvT hZ (oW hw 100 rfl))) (mvT hZ (oW hw 100 rfl)) (mvT hZ (oW hw 99 rfl)) (by decide) (backOf (W := 0) (rmTn l Z a0 hw [] r_15 T15.heap n0 (Nat.le_trans (Nat.le_trans (Nat.le_trans (Nat.le_trans (Nat.le_trans (Nat.le_trans (Nat.le_trans (Nat.le_trans (Nat.le_trans (Nat.le_trans Z0 E1.1) E2.1) (Keep.of_wr W4).1) (Keep.of_wr W6).1) (Keep.of_wr W8).1) Kq9.1) Kq11.1) E12.1) Kq13.1) Kq15.1) f15_1) hZ (oW hw 101 rfl) (oW hw 46 rfl) (by decide) (by decide)) q16a q16c (g := (mkF m 194 #[iv i0, iv i1, iv i2, iv s6, rv b1, iv (0 : Int32), iv v49s0, iv s64, iv s72, iv s83, .val .null, rv r_11, rv b12, iv (0 : Int32), uu] [(.ref r_15)])) rfl (by rw [hml]; rfl) (Steps.refl _) (argsL := []) (rest := []) (lenOf own_pd14 rfl) rfl (by show 2 * 0 + _ ≤ _; exact Nat.le_of_eq rfl) (hb hby at_194) (fun _ _ => ⟨rfl, rfl, (by decide : ((((((((0 + 1) + 1) + 1) + 2) + 1) + 4) + 0) + 5) + 0 ≤ _), (by decide : ((((((((0 + 4) + 3) + 3) + 5) + 4) + 60) + 0) + 64) + 0 ≤ _)⟩)
      dsimp only [Pt.U, Pt.locs, Pt.cells, Pt.slots] at X16 l16 y16 z16 st16 hQ16
      subst l16 y16 z16
      obtain ⟨rfl, Nq16, eq16⟩ := hQ16
      have N16 := Fr.app N15 Nq16
      refine ov (B := T16.setTop (mkF m 197 #[iv i0, iv i1, iv i2, iv s6, rv b1, iv (0 : Int32), iv v49s0, iv s64, iv s72, iv s83, .val .null, rv r_11, rv b12, iv (0 : Int32), uu] [(.int (0 : Int32))])) (fun t k => st16.trans k) ?_
      refine ov (B := T16.setTop (mkF m 199 #[iv i0, iv i1, iv i2, iv s6, rv b1, iv (0 : Int32), iv v49s0, iv s64, iv s72, iv s83, .val .null, rv r_11, rv b12, iv (0 : Int32), iv (0 : Int32)] [])) (fun t k => XS.istore X16.here hx rfl (hb hby at_197) rfl (l' := #[iv i0, iv i1, iv i2, iv s6, rv b1, iv (0 : Int32), iv v49s0, iv s64, iv s72, iv s83, .val .null, rv r_11, rv b12, iv (0 : Int32), iv (0 : Int32)]) rfl k) ?_
      refine oIL (n := 201) X16 hx (hb hby at_199) rfl rfl ?_
      refine oIL (n := 203) X16 hx (hb hby at_201) rfl rfl ?_
      have hc203 : (0 : Int32) = (0 : Int32) := by decide
      refine ov (B := T16.setTop (mkF m 206 #[iv i0, iv i1, iv i2, iv s6, rv b1, iv (0 : Int32), iv v49s0, iv s64, iv s72, iv s83, .val .null, rv r_11, rv b12, iv (0 : Int32), iv (0 : Int32)] [])) (fun t k => XS.icmpNo X16.here hx rfl (hb hby at_203) rfl (teq hc203).2 k) ?_
      refine oIL (n := 208) X16 hx (hb hby at_206) rfl rfl ?_
      refine oIL (n := 210) X16 hx (hb hby at_208) rfl rfl ?_
      have hc210 : (0 : Int32) = (0 : Int32) := by decide
      refine ov (B := T16.setTop (mkF m 213 #[iv i0, iv i1, iv i2, iv s6, rv b1, iv (0 : Int32), iv v49s0, iv s64, iv s72, iv s83, .val .null, rv r_11, rv b12, iv (0 : Int32), iv (0 : Int32)] [])) (fun t k => XS.icmpNo X16.here hx rfl (hb hby at_210) rfl (teq hc210).2 k) ?_
      refine oIC (n := 214) X16 hx (1 : Int32) (hb hby at_213) (by decide) rfl ?_
      refine oGO (n := 218) X16 hx (hb hby at_214) (by decide) (by decide) ?_
      refine own_leafW X16 hx hlk hS15 (by rw [eq16]; exact (Nat.le_refl _)) (t := .boolean) Bd.returns (by decide) (Or.inl ⟨rfl, by simp, _, rfl⟩) (hb hby at_218) (by decide) (by decide) ?_
      show Q0 Z i0 i1 i2 zc h0 n0 _ T16.heap _
      rw [eq16]
      refine ⟨?_, N16⟩
      rfl
  · refine ov (B := T9.setTop (mkF m 39 #[iv i0, iv i1, iv i2, iv s6, rv b1, uu, uu, uu, uu, uu, uu, uu, uu, uu, uu] [])) (fun t k => XS.ifNo X9.here hx rfl (hb hby at_36) rfl ((if0 _ _).trans (feq hc36).1) k) ?_
    refine oIC (n := 40) X9 hx (1 : Int32) (hb hby at_39) (by decide) rfl ?_
    refine oGO (n := 44) X9 hx (hb hby at_40) (by decide) (by decide) ?_
    refine ov (B := T9.setTop (mkF m 46 #[iv i0, iv i1, iv i2, iv s6, rv b1, iv (1 : Int32), uu, uu, uu, uu, uu, uu, uu, uu, uu] [])) (fun t k => XS.istore X9.here hx rfl (hb hby at_44) rfl (l' := #[iv i0, iv i1, iv i2, iv s6, rv b1, iv (1 : Int32), uu, uu, uu, uu, uu, uu, uu, uu, uu]) rfl k) ?_
    refine oILN (n := 47) X9 hx (hb hby at_46) rfl rfl ?_
    refine oIC (n := 48) X9 hx (2 : Int32) (hb hby at_47) (by decide) rfl ?_
    refine ov (B := T9.setTop (mkF m 49 #[iv i0, iv i1, iv i2, iv s6, rv b1, iv (1 : Int32), uu, uu, uu, uu, uu, uu, uu, uu, uu] [(.int (i2 &&& (2 : Int32)))])) (fun t k => XS.iand X9.here hx rfl (hb hby at_48) rfl k) ?_
    refine own_bind (G := fun B => ∃ (T' : State) (L' : List Loc) (v49s0 : Int32), Fr n0 L' ∧ ((((i2 &&& (2 : Int32)) = (0 : Int32)) ∧ v49s0 = (0 : Int32)) ∨ ((¬ ((i2 &&& (2 : Int32)) = (0 : Int32))) ∧ v49s0 = (1 : Int32))) ∧ B = T'.setTop (mkF m 57 #[iv i0, iv i1, iv i2, iv s6, rv b1, iv (1 : Int32), uu, uu, uu, uu, uu, uu, uu, uu, uu] [(.int v49s0)]) ∧ Stand p l e room_1 (s.setVm s.vm) m #[(.int i0), (.int i1), (.int i2)] below meth c T' L' (((0 + 1) + 1) + 1) (((0 + 4) + 3) + 3) ∧ T'.heap = T9.heap) ?_ ?_
    · by_cases hc49 : (i2 &&& (2 : Int32)) = (0 : Int32)
      · refine ov (B := T9.setTop (mkF m 56 #[iv i0, iv i1, iv i2, iv s6, rv b1, iv (1 : Int32), uu, uu, uu, uu, uu, uu, uu, uu, uu] [])) (fun t k => XS.ifYes X9.here hx rfl (pc0 := 49) (pc' := 56) rfl (hb hby at_49) rfl ((if0 _ _).trans (teq hc49).1) (by decide) (by decide) k) ?_
        refine oIC (n := 57) X9 hx (0 : Int32) (hb hby at_56) (by decide) rfl ?_
        exact own_done ⟨_, _, _, N9, (Or.inl ⟨hc49, rfl⟩), rfl, X9, rfl⟩
      · refine ov (B := T9.setTop (mkF m 52 #[iv i0, iv i1, iv i2, iv s6, rv b1, iv (1 : Int32), uu, uu, uu, uu, uu, uu, uu, uu, uu] [])) (fun t k => XS.ifNo X9.here hx rfl (hb hby at_49) rfl ((if0 _ _).trans (feq hc49).1) k) ?_
        refine oIC (n := 53) X9 hx (1 : Int32) (hb hby at_52) (by decide) rfl ?_
        refine oGO (n := 57) X9 hx (hb hby at_53) (by decide) (by decide) ?_
        exact own_done ⟨_, _, _, N9, (Or.inr ⟨hc49, rfl⟩), rfl, X9, rfl⟩
    · rintro B ⟨T17, L17, v49s0, N17, hv49, rfl, X17, e17⟩
      refine ov (B := T17.setTop (mkF m 59 #[iv i0, iv i1, iv i2, iv s6, rv b1, iv (1 : Int32), iv v49s0, uu, uu, uu, uu, uu, uu, uu, uu] [])) (fun t k => XS.istore X17.here hx rfl (hb hby at_57) rfl (l' := #[iv i0, iv i1, iv i2, iv s6, rv b1, iv (1 : Int32), iv v49s0, uu, uu, uu, uu, uu, uu, uu, uu]) rfl k) ?_
      refine oILN (n := 60) X17 hx (hb hby at_59) rfl rfl ?_
      refine oIC (n := 61) X17 hx (2 : Int32) (hb hby at_60) (by decide) rfl ?_
      refine ov (B := T17.setTop (mkF m 62 #[iv i0, iv i1, iv i2, iv s6, rv b1, iv (1 : Int32), iv v49s0, uu, uu, uu, uu, uu, uu, uu, uu] [(.int ((i2.toUInt32 >>> ((2 : Int32) &&& 31).toUInt32).toInt32))])) (fun t k => XS.iushr X17.here hx rfl (hb hby at_61) rfl k) ?_
      refine oIC (n := 63) X17 hx (3 : Int32) (hb hby at_62) (by decide) rfl ?_
      refine ov (B := T17.setTop (mkF m 64 #[iv i0, iv i1, iv i2, iv s6, rv b1, iv (1 : Int32), iv v49s0, uu, uu, uu, uu, uu, uu, uu, uu] [(.int (((i2.toUInt32 >>> ((2 : Int32) &&& 31).toUInt32).toInt32) &&& (3 : Int32)))])) (fun t k => XS.iand X17.here hx rfl (hb hby at_63) rfl k) ?_
      refine ov (B := T17.setTop (mkF m 66 #[iv i0, iv i1, iv i2, iv s6, rv b1, iv (1 : Int32), iv v49s0, iv (((i2.toUInt32 >>> ((2 : Int32) &&& 31).toUInt32).toInt32) &&& (3 : Int32)), uu, uu, uu, uu, uu, uu, uu] [])) (fun t k => XS.istore X17.here hx rfl (hb hby at_64) rfl (l' := #[iv i0, iv i1, iv i2, iv s6, rv b1, iv (1 : Int32), iv v49s0, iv (((i2.toUInt32 >>> ((2 : Int32) &&& 31).toUInt32).toInt32) &&& (3 : Int32)), uu, uu, uu, uu, uu, uu, uu]) rfl k) ?_
      generalize hs64 : (((i2.toUInt32 >>> ((2 : Int32) &&& 31).toUInt32).toInt32) &&& (3 : Int32)) = s64
      refine oILN (n := 67) X17 hx (hb hby at_66) rfl rfl ?_
      refine oSP (n := 70) X17 hx (255 : Int32) (hb hby at_67) (by decide) rfl ?_
      refine ov (B := T17.setTop (mkF m 71 #[iv i0, iv i1, iv i2, iv s6, rv b1, iv (1 : Int32), iv v49s0, iv s64, uu, uu, uu, uu, uu, uu, uu] [(.int (i1 &&& (255 : Int32)))])) (fun t k => XS.iand X17.here hx rfl (hb hby at_70) rfl k) ?_
      refine ov (B := T17.setTop (mkF m 72 #[iv i0, iv i1, iv i2, iv s6, rv b1, iv (1 : Int32), iv v49s0, iv s64, uu, uu, uu, uu, uu, uu, uu] [(.int (i1 &&& (255 : Int32)))])) (fun t k => XS.i2c X17.here hx rfl (hb hby at_71) rfl (by rw [own_i2c (own_b255 i1)]; exact k)) ?_
      refine ov (B := T17.setTop (mkF m 74 #[iv i0, iv i1, iv i2, iv s6, rv b1, iv (1 : Int32), iv v49s0, iv s64, iv (i1 &&& (255 : Int32)), uu, uu, uu, uu, uu, uu] [])) (fun t k => XS.istore X17.here hx rfl (hb hby at_72) rfl (l' := #[iv i0, iv i1, iv i2, iv s6, rv b1, iv (1 : Int32), iv v49s0, iv s64, iv (i1 &&& (255 : Int32)), uu, uu, uu, uu, uu, uu]) rfl k) ?_
      generalize hs72 : (i1 &&& (255 : Int32)) = s72
      refine oILN (n := 75) X17 hx (hb hby at_74) rfl rfl ?_
      refine oBP (n := 77) X17 hx (8 : Int32) (hb hby at_75) (by decide) rfl ?_
      refine ov (B := T17.setTop (mkF m 78 #[iv i0, iv i1, iv i2, iv s6, rv b1, iv (1 : Int32), iv v49s0, iv s64, iv s72, uu, uu, uu, uu, uu, uu] [(.int ((i1.toUInt32 >>> ((8 : Int32) &&& 31).toUInt32).toInt32))])) (fun t k => XS.iushr X17.here hx rfl (hb hby at_77) rfl k) ?_
      refine oSP (n := 81) X17 hx (255 : Int32) (hb hby at_78) (by decide) rfl ?_
      refine ov (B := T17.setTop (mkF m 82 #[iv i0, iv i1, iv i2, iv s6, rv b1, iv (1 : Int32), iv v49s0, iv s64, iv s72, uu, uu, uu, uu, uu, uu] [(.int (((i1.toUInt32 >>> ((8 : Int32) &&& 31).toUInt32).toInt32) &&& (255 : Int32)))])) (fun t k => XS.iand X17.here hx rfl (hb hby at_81) rfl k) ?_
      refine ov (B := T17.setTop (mkF m 83 #[iv i0, iv i1, iv i2, iv s6, rv b1, iv (1 : Int32), iv v49s0, iv s64, iv s72, uu, uu, uu, uu, uu, uu] [(.int (((i1.toUInt32 >>> ((8 : Int32) &&& 31).toUInt32).toInt32) &&& (255 : Int32)))])) (fun t k => XS.i2c X17.here hx rfl (hb hby at_82) rfl (by rw [own_i2c (own_b255 ((i1.toUInt32 >>> ((8 : Int32) &&& 31).toUInt32).toInt32))]; exact k)) ?_
      refine ov (B := T17.setTop (mkF m 85 #[iv i0, iv i1, iv i2, iv s6, rv b1, iv (1 : Int32), iv v49s0, iv s64, iv s72, iv (((i1.toUInt32 >>> ((8 : Int32) &&& 31).toUInt32).toInt32) &&& (255 : Int32)), uu, uu, uu, uu, uu] [])) (fun t k => XS.istore X17.here hx rfl (hb hby at_83) rfl (l' := #[iv i0, iv i1, iv i2, iv s6, rv b1, iv (1 : Int32), iv v49s0, iv s64, iv s72, iv (((i1.toUInt32 >>> ((8 : Int32) &&& 31).toUInt32).toInt32) &&& (255 : Int32)), uu, uu, uu, uu, uu]) rfl k) ?_
      generalize hs83 : (((i1.toUInt32 >>> ((8 : Int32) &&& 31).toUInt32).toInt32) &&& (255 : Int32)) = s83
      refine oNU (n := 86) X17 hx (hb hby at_85) rfl ?_
      refine ov (B := T17.setTop (mkF m 88 #[iv i0, iv i1, iv i2, iv s6, rv b1, iv (1 : Int32), iv v49s0, iv s64, iv s72, iv s83, .val .null, uu, uu, uu, uu] [])) (fun t k => XS.astore X17.here hx rfl (hb hby at_86) rfl rfl (l' := #[iv i0, iv i1, iv i2, iv s6, rv b1, iv (1 : Int32), iv v49s0, iv s64, iv s72, iv s83, .val .null, uu, uu, uu, uu]) rfl k) ?_
      refine oIL (n := 90) X17 hx (hb hby at_88) rfl rfl ?_
      have hc90 : ¬ ((1 : Int32) = (0 : Int32)) := by decide
      refine ov (B := T17.setTop (mkF m 93 #[iv i0, iv i1, iv i2, iv s6, rv b1, iv (1 : Int32), iv v49s0, iv s64, iv s72, iv s83, .val .null, uu, uu, uu, uu] [])) (fun t k => XS.ifNo X17.here hx rfl (hb hby at_90) rfl ((if0 _ _).trans (feq hc90).1) k) ?_
      refine oIL (n := 95) X17 hx (hb hby at_93) rfl rfl ?_
      by_cases hc95 : s64 = (0 : Int32)
      · refine ov (B := T17.setTop (mkF m 98 #[iv i0, iv i1, iv i2, iv s6, rv b1, iv (1 : Int32), iv v49s0, iv s64, iv s72, iv s83, .val .null, uu, uu, uu, uu] [])) (fun t k => XS.ifNo X17.here hx rfl (hb hby at_95) rfl ((if0 _ _).trans (teq hc95).2) k) ?_
        obtain ⟨T18, h18, X18, e18, E18, A18, D18, -, st18⟩ := newO X17 hx hZ hown (oW hw 0 rfl) (oW hw 1 rfl) (oW hw 2 rfl) e17 (g := (mkF m 98 #[iv i0, iv i1, iv i2, iv s6, rv b1, iv (1 : Int32), iv v49s0, iv s64, iv s72, iv s83, .val .null, uu, uu, uu, uu] [])) rfl (hb hby at_98) (by decide) (by decide)
        obtain ⟨b18, g18⟩ : ∃ z, z = T9.heap.size := ⟨_, rfl⟩
        rw [← g18] at A18 D18 st18
        have g_b18 : n0 ≤ b18 := Nat.le_trans (Nat.le_trans (Nat.le_trans (Nat.le_trans (Nat.le_trans (Nat.le_trans (Nat.le_trans Z0 E1.1) E2.1) (Keep.of_wr W4).1) (Keep.of_wr W6).1) (Keep.of_wr W8).1) Kq9.1) (Nat.le_of_eq g18.symm)
        have F18_coder : Fld Z h18 b18 "java/lang/String" "coder" "B" (.int (0 : Int32)) := D18 (Or.inr (oW hw 27 rfl)) (ty := .byte) (by decide)
        have F18_value : Fld Z h18 b18 "java/lang/String" "value" "[B" .null := D18 (Or.inr (oW hw 29 rfl)) (ty := (.array .byte)) (by decide)
        refine ov (B := T18.setTop (mkF m 101 #[iv i0, iv i1, iv i2, iv s6, rv b1, iv (1 : Int32), iv v49s0, iv s64, iv s72, iv s83, .val .null, uu, uu, uu, uu] [(.ref b18)])) (fun t k => st18 t k) ?_
        refine oDU (n := 102) X18 hx (hb hby at_101) rfl rfl ?_
        refine oIC (n := 103) X18 hx (0 : Int32) (hb hby at_102) (by decide) rfl ?_
        obtain ⟨T19, h19, kc19, X19, e19, E19, A19, st19⟩ := newP X18 hx hZ (oW hw 3 rfl) e18 (g := (mkF m 103 #[iv i0, iv i1, iv i2, iv s6, rv b1, iv (1 : Int32), iv v49s0, iv s64, iv s72, iv s83, .val .null, uu, uu, uu, uu] [(.int (0 : Int32)), (.ref b18), (.ref b18)])) rfl (hb hby at_103) rfl (by decide) (cap := 0) (by decide) (by decide) (by decide) (by decide)
        obtain ⟨b19, g19⟩ : ∃ z, z = h18.size := ⟨_, rfl⟩
        rw [← g19] at A19 st19
        have g_b19 : n0 ≤ b19 := Nat.le_trans (Nat.le_trans (Nat.le_trans (Nat.le_trans (Nat.le_trans (Nat.le_trans (Nat.le_trans (Nat.le_trans Z0 E1.1) E2.1) (Keep.of_wr W4).1) (Keep.of_wr W6).1) (Keep.of_wr W8).1) Kq9.1) E18.1) (Nat.le_of_eq g19.symm)
        have V19 : Arv Z h19 b19 kc19 .char (0 : Int32) [] (.int (0 : Int32)) := (Arv.new A19 (by decide)).pad (pad_rep [] (.int (0 : Int32)) 0)
        refine ov (B := T19.setTop (mkF m 105 #[iv i0, iv i1, iv i2, iv s6, rv b1, iv (1 : Int32), iv v49s0, iv s64, iv s72, iv s83, .val .null, uu, uu, uu, uu] [(.ref b19), (.ref b18), (.ref b18)])) (fun t k => st19 t k) ?_
        obtain ⟨_, _, ⟨T20, L20, k20, n20⟩, -, X20, hT20, gT20, ⟨Lc20, hQ20, l20, y20, z20⟩, st20⟩ := X19.specialBackS hx (y := (⟨"java/lang/String", "<init>", "([C)V"⟩ : MethodName)) rfl hown (mvT hZ (oW hw 4 rfl)) (mvT hZ (oW hw 5 rfl)) (mvT hZ (oW hw 6 rfl)) (by decide) (own_backV (VP := fun vm'' => IB Z vm'' []) (W := 1) (rmF l Z a0 hw [] b18 b19 (.int (0 : Int32)) kc19 h19 n0 (Nat.le_trans (Nat.le_trans (Nat.le_trans (Nat.le_trans (Nat.le_trans (Nat.le_trans (Nat.le_trans (Nat.le_trans Z0 E1.1) E2.1) (Keep.of_wr W4).1) (Keep.of_wr W6).1) (Keep.of_wr W8).1) Kq9.1) E18.1) E19.1) ((((((((O0.ext E1).ext E2).wr W4 g_b2).wr W6 g_b2).wr W8 g_b2).keep Kq9 (allS g_b1 all0)).ext E18).ext E19) (by assumption) (by assumption) (A18.ext E19) (F18_value.ext E19) (F18_coder.ext E19) g_b18 V19) (fun vm'' hW'' => own_ibW (s := (s.setVm s.vm)) hI hW'') hZ (oW hw 6 rfl) (oW hw 2 rfl) (by decide) (by decide)) (g := (mkF m 105 #[iv i0, iv i1, iv i2, iv s6, rv b1, iv (1 : Int32), iv v49s0, iv s64, iv s72, iv s83, .val .null, uu, uu, uu, uu] [(.ref b19), (.ref b18), (.ref b18)])) rfl (by rw [hml]; rfl) (Steps.refl _) (a := b18) (argsL := [(.ref b19)]) (rest := [(.ref b18)]) (lenOf own_pd12 rfl) rfl (by show 2 * 0 + _ ≤ _; exact Nat.le_of_eq rfl) (hb hby at_105) (fun _ _ => ⟨rfl, e19, (by decide : (((((0 + 1) + 1) + 1) + 1) + 1) + 2 ≤ _), (by decide : (((((0 + 4) + 3) + 3) + 4) + 0) + 4 ≤ _)⟩)
        dsimp only [Pt.U, Pt.locs, Pt.cells, Pt.slots] at X20 l20 y20 z20 st20 hQ20 hT20 gT20
        subst l20 y20 z20
        obtain ⟨X20, hS20, hZ, hown⟩ := rebS hS0 (by rw [e19]; exact (Nat.le_trans (Nat.le_trans (Nat.le_trans (Nat.le_trans (Nat.le_trans (Nat.le_trans (Nat.le_trans (Nat.le_trans hk0 E1.1) E2.1) (Keep.of_wr W4).1) (Keep.of_wr W6).1) (Keep.of_wr W8).1) Kq9.1) E18.1) E19.1)) X20 hT20 gT20 hZ hown
        obtain ⟨rfl, Nq20, Kq20, vI_20⟩ := hQ20
        have N20 := Fr.app N17 Nq20
        refine ov (B := T20.setTop (mkF m 108 #[iv i0, iv i1, iv i2, iv s6, rv b1, iv (1 : Int32), iv v49s0, iv s64, iv s72, iv s83, .val .null, uu, uu, uu, uu] [(.ref b18)])) (fun t k => st20.trans k) ?_
        refine ov (B := T20.setTop (mkF m 110 #[iv i0, iv i1, iv i2, iv s6, rv b1, iv (1 : Int32), iv v49s0, iv s64, iv s72, iv s83, rv b18, uu, uu, uu, uu] [])) (fun t k => XS.astore X20.here hx rfl (hb hby at_108) rfl rfl (l' := #[iv i0, iv i1, iv i2, iv s6, rv b1, iv (1 : Int32), iv v49s0, iv s64, iv s72, iv s83, rv b18, uu, uu, uu, uu]) rfl k) ?_
        refine oGO (n := 151) X20 hx (hb hby at_110) (by decide) (by decide) ?_
        refine oILN (n := 152) X20 hx (hb hby at_151) rfl rfl ?_
        refine oBP (n := 154) X20 hx (8 : Int32) (hb hby at_152) (by decide) rfl ?_
        refine ov (B := T20.setTop (mkF m 155 #[iv i0, iv i1, iv i2, iv s6, rv b1, iv (1 : Int32), iv v49s0, iv s64, iv s72, iv s83, rv b18, uu, uu, uu, uu] [(.int ((i0.toUInt32 >>> ((8 : Int32) &&& 31).toUInt32).toInt32))])) (fun t k => XS.iushr X20.here hx rfl (hb hby at_154) rfl k) ?_
        refine oSP (n := 158) X20 hx (255 : Int32) (hb hby at_155) (by decide) rfl ?_
        refine ov (B := T20.setTop (mkF m 159 #[iv i0, iv i1, iv i2, iv s6, rv b1, iv (1 : Int32), iv v49s0, iv s64, iv s72, iv s83, rv b18, uu, uu, uu, uu] [(.int (((i0.toUInt32 >>> ((8 : Int32) &&& 31).toUInt32).toInt32) &&& (255 : Int32)))])) (fun t k => XS.iand X20.here hx rfl (hb hby at_158) rfl k) ?_
        refine ov (B := T20.setTop (mkF m 160 #[iv i0, iv i1, iv i2, iv s6, rv b1, iv (1 : Int32), iv v49s0, iv s64, iv s72, iv s83, rv b18, uu, uu, uu, uu] [(.int (((i0.toUInt32 >>> ((8 : Int32) &&& 31).toUInt32).toInt32) &&& (255 : Int32)))])) (fun t k => XS.i2c X20.here hx rfl (hb hby at_159) rfl (by rw [own_i2c (own_b255 ((i0.toUInt32 >>> ((8 : Int32) &&& 31).toUInt32).toInt32))]; exact k)) ?_
        obtain ⟨_, _, ⟨T21, L21, k21, n21⟩, -, X21, ⟨Lc21, hQ21, l21, y21, z21⟩, st21⟩ := Jvm.LawKit.callS X20 hx (y := (⟨"java/lang/String", "valueOf", "(C)Ljava/lang/String;"⟩ : MethodName)) hown (mvT hZ (oW hw 30 rfl)) (mvT hZ (oW hw 31 rfl)) (mvT hZ (oW hw 2 rfl)) (mvT hZ (oW hw 32 rfl)) (by decide) (backOf (W := 0) (rmJ l Z a0 hw [] (((i0.toUInt32 >>> ((8 : Int32) &&& 31).toUInt32).toInt32) &&& (255 : Int32)) zc T20.heap n0 (Nat.le_trans (Nat.le_trans (Nat.le_trans (Nat.le_trans (Nat.le_trans (Nat.le_trans (Nat.le_trans (Nat.le_trans (Nat.le_trans Z0 E1.1) E2.1) (Keep.of_wr W4).1) (Keep.of_wr W6).1) (Keep.of_wr W8).1) Kq9.1) E18.1) E19.1) Kq20.1) (((((((((O0.ext E1).ext E2).wr W4 g_b2).wr W6 g_b2).wr W8 g_b2).keep Kq9 (allS g_b1 all0)).ext E18).ext E19).keep Kq20 (allS g_b18 all0)) (by assumption) (by assumption) (own_b255 ((i0.toUInt32 >>> ((8 : Int32) &&& 31).toUInt32).toInt32))) hZ (oW hw 32 rfl) (oW hw 2 rfl) (by decide) (by decide)) (g := (mkF m 160 #[iv i0, iv i1, iv i2, iv s6, rv b1, iv (1 : Int32), iv v49s0, iv s64, iv s72, iv s83, rv b18, uu, uu, uu, uu] [(.int (((i0.toUInt32 >>> ((8 : Int32) &&& 31).toUInt32).toInt32) &&& (255 : Int32)))])) rfl (by rw [hml]; rfl) (argsL := [(.int (((i0.toUInt32 >>> ((8 : Int32) &&& 31).toUInt32).toInt32) &&& (255 : Int32)))]) (rest := []) (lenOf own_pd13 rfl) rfl (by show 2 * 0 + _ ≤ _; exact Nat.le_of_eq rfl) (hb hby at_160) (fun _ _ => ⟨rfl, rfl, (by decide : ((((((0 + 1) + 1) + 1) + 1) + 1) + 2) + 2 ≤ _), (by decide : ((((((0 + 4) + 3) + 3) + 4) + 0) + 4) + 5 ≤ _)⟩)
        dsimp only [Pt.U, Pt.locs, Pt.cells, Pt.slots] at X21 l21 y21 z21 st21 hQ21
        subst l21 y21 z21
        obtain ⟨r_21, tr_21, kr_21, rfl, Nq21, Kq21, hr_21, htr_21, f21_0, f21_1, f21_2, f21_3⟩ := hQ21
        have N21 := Fr.app N20 Nq21
        have g_r_21 : n0 ≤ r_21 := Nat.le_trans (Nat.le_trans (Nat.le_trans (Nat.le_trans (Nat.le_trans (Nat.le_trans (Nat.le_trans (Nat.le_trans (Nat.le_trans (Nat.le_trans Z0 E1.1) E2.1) (Keep.of_wr W4).1) (Keep.of_wr W6).1) (Keep.of_wr W8).1) Kq9.1) E18.1) E19.1) Kq20.1) hr_21
        have g_tr_21 : n0 ≤ tr_21 := Nat.le_trans (Nat.le_trans (Nat.le_trans (Nat.le_trans (Nat.le_trans (Nat.le_trans (Nat.le_trans (Nat.le_trans (Nat.le_trans (Nat.le_trans Z0 E1.1) E2.1) (Keep.of_wr W4).1) (Keep.of_wr W6).1) (Keep.of_wr W8).1) Kq9.1) E18.1) E19.1) Kq20.1) htr_21
        refine ov (B := T21.setTop (mkF m 163 #[iv i0, iv i1, iv i2, iv s6, rv b1, iv (1 : Int32), iv v49s0, iv s64, iv s72, iv s83, rv b18, uu, uu, uu, uu] [(.ref r_21)])) (fun t k => st21 t k) ?_
        refine ov (B := T21.setTop (mkF m 165 #[iv i0, iv i1, iv i2, iv s6, rv b1, iv (1 : Int32), iv v49s0, iv s64, iv s72, iv s83, rv b18, rv r_21, uu, uu, uu] [])) (fun t k => XS.astore X21.here hx rfl (hb hby at_163) rfl rfl (l' := #[iv i0, iv i1, iv i2, iv s6, rv b1, iv (1 : Int32), iv v49s0, iv s64, iv s72, iv s83, rv b18, rv r_21, uu, uu, uu]) rfl k) ?_
        obtain ⟨T22, h22, X22, e22, E22, A22, D22, -, st22⟩ := newO X21 hx hZ hown (oW hw 44 rfl) (oW hw 45 rfl) (oW hw 46 rfl) rfl (g := (mkF m 165 #[iv i0, iv i1, iv i2, iv s6, rv b1, iv (1 : Int32), iv v49s0, iv s64, iv s72, iv s83, rv b18, rv r_21, uu, uu, uu] [])) rfl (hb hby at_165) (by decide) (by decide)
        obtain ⟨b22, g22⟩ : ∃ z, z = T21.heap.size := ⟨_, rfl⟩
        rw [← g22] at A22 D22 st22
        have g_b22 : n0 ≤ b22 := Nat.le_trans (Nat.le_trans (Nat.le_trans (Nat.le_trans (Nat.le_trans (Nat.le_trans (Nat.le_trans (Nat.le_trans (Nat.le_trans (Nat.le_trans (Nat.le_trans Z0 E1.1) E2.1) (Keep.of_wr W4).1) (Keep.of_wr W6).1) (Keep.of_wr W8).1) Kq9.1) E18.1) E19.1) Kq20.1) Kq21.1) (Nat.le_of_eq g22.symm)
        have F22_name : Fld Z h22 b22 "com/example/planmend/planmend/cli/Option" "name" "Ljava/lang/String;" .null := D22 (Or.inr (oW hw 90 rfl)) (ty := (.object "java/lang/String")) (by decide)
        have F22_value : Fld Z h22 b22 "com/example/planmend/planmend/cli/Option" "value" "Ljava/lang/String;" .null := D22 (Or.inr (oW hw 92 rfl)) (ty := (.object "java/lang/String")) (by decide)
        have F22_description : Fld Z h22 b22 "com/example/planmend/planmend/cli/Option" "description" "Ljava/lang/String;" .null := D22 (Or.inr (oW hw 94 rfl)) (ty := (.object "java/lang/String")) (by decide)
        have F22_required : Fld Z h22 b22 "com/example/planmend/planmend/cli/Option" "required" "Z" (.int (0 : Int32)) := D22 (Or.inr (oW hw 96 rfl)) (ty := .boolean) (by decide)
        refine ov (B := T22.setTop (mkF m 168 #[iv i0, iv i1, iv i2, iv s6, rv b1, iv (1 : Int32), iv v49s0, iv s64, iv s72, iv s83, rv b18, rv r_21, uu, uu, uu] [(.ref b22)])) (fun t k => st22 t k) ?_
        refine oDU (n := 169) X22 hx (hb hby at_168) rfl rfl ?_
        refine oAL (n := 171) X22 hx (hb hby at_169) rfl rfl rfl ?_
        refine oAL (n := 173) X22 hx (hb hby at_171) rfl rfl rfl ?_
        refine oAL (n := 175) X22 hx (hb hby at_173) rfl rfl rfl ?_
        refine oIL (n := 177) X22 hx (hb hby at_175) rfl rfl ?_
        obtain ⟨_, _, ⟨T23, L23, k23, n23⟩, -, X23, hT23, gT23, ⟨Lc23, hQ23, l23, y23, z23⟩, st23⟩ := X22.specialBackS hx (y := (⟨"com/example/planmend/planmend/cli/Option", "<init>", "(Ljava/lang/String;Ljava/lang/String;Ljava/lang/String;Z)V"⟩ : MethodName)) rfl hown (mvT hZ (oW hw 47 rfl)) (mvT hZ (oW hw 48 rfl)) (mvT hZ (oW hw 49 rfl)) (by decide) (own_backV (VP := fun vm'' => IB Z vm'' [""]) (W := 1) (rmO1r l Z a0 hw [] b22 b1 b18 r_21 v49s0 .null .null .null (.int (0 : Int32)) zc t9 kt9 (45 : Int32).toInt8.toInt32 (45 : Int32).toInt8.toInt32 s6.toInt8.toInt32 [""] h22 n0 (Nat.le_trans (Nat.le_trans (Nat.le_trans (Nat.le_trans (Nat.le_trans (Nat.le_trans (Nat.le_trans (Nat.le_trans (Nat.le_trans (Nat.le_trans (Nat.le_trans Z0 E1.1) E2.1) (Keep.of_wr W4).1) (Keep.of_wr W6).1) (Keep.of_wr W8).1) Kq9.1) E18.1) E19.1) Kq20.1) Kq21.1) E22.1) (((((((((((O0.ext E1).ext E2).wr W4 g_b2).wr W6 g_b2).wr W8 g_b2).keep Kq9 (allS g_b1 all0)).ext E18).ext E19).keep Kq20 (allS g_b18 all0)).keep Kq21 all0).ext E22) (by assumption) (by assumption) (by assumption) (by assumption) A22 F22_name F22_value F22_description F22_required g_b22 ((((((((((A1.ext E2).wr W4).wr W6).wr W8).keep Kq9).ext E18).ext E19).keep Kq20).keep Kq21).ext E22) (((((gC9.ext E18).ext E19).keep Kq20 (ninS (Nat.ne_of_lt (Nat.lt_of_lt_of_le (((((A1.ext E2).wr W4).wr W6).wr W8).keep Kq9).lt (Nat.le_of_eq g18.symm))) nin0)).keep Kq21 nin0).ext E22) (((((gV9.ext E18).ext E19).keep Kq20 (ninS (Nat.ne_of_lt (Nat.lt_of_lt_of_le (((((A1.ext E2).wr W4).wr W6).wr W8).keep Kq9).lt (Nat.le_of_eq g18.symm))) nin0)).keep Kq21 nin0).ext E22) (((((gA9.ext E18).ext E19).keep Kq20 (ninS (Nat.ne_of_lt (Nat.lt_of_lt_of_le gA9.lt (Nat.le_of_eq g18.symm))) nin0)).keep Kq21 nin0).ext E22) (by decide) (by decide) (hv49.elim (fun h => Or.inl h.2) (fun h => Or.inr h.2)) (by simp)) (fun vm'' hW'' => own_ibW (s := (s.setVm T20.vm)) vI_20 hW'') hZ (oW hw 49 rfl) (oW hw 46 rfl) (by decide) (by decide)) (g := (mkF m 177 #[iv i0, iv i1, iv i2, iv s6, rv b1, iv (1 : Int32), iv v49s0, iv s64, iv s72, iv s83, rv b18, rv r_21, uu, uu, uu] [(.int v49s0), (.ref r_21), (.ref b18), (.ref b1), (.ref b22), (.ref b22)])) rfl (by rw [hml]; rfl) (Steps.refl _) (a := b22) (argsL := [(.ref b1), (.ref b18), (.ref r_21), (.int v49s0)]) (rest := [(.ref b22)]) (lenOf own_pd11 rfl) rfl (by show 2 * 0 + _ ≤ _; exact Nat.le_of_eq rfl) (hb hby at_177) (fun _ _ => ⟨rfl, e22, (by decide : ((((((((0 + 1) + 1) + 1) + 1) + 1) + 2) + 2) + 1) + 4 ≤ _), (by decide : ((((((((0 + 4) + 3) + 3) + 4) + 0) + 4) + 5) + 4) + 60 ≤ _)⟩)
        dsimp only [Pt.U, Pt.locs, Pt.cells, Pt.slots] at X23 l23 y23 z23 st23 hQ23 hT23 gT23
        subst l23 y23 z23
        obtain ⟨X23, hS23, hZ, hown⟩ := rebS hS20 (by rw [e22]; exact (Nat.le_trans (Nat.le_trans (Nat.le_refl _) Kq21.1) E22.1)) X23 hT23 gT23 hZ hown
        obtain ⟨lc_23, lt_23, lk_23, rfl, Nq23, Kq23, vL_23, f23_0, f23_1, f23_2, f23_3, f23_4, f23_5, f23_6, f23_7⟩ := hQ23
        have N23 := Fr.app N21 Nq23
        refine ov (B := T23.setTop (mkF m 180 #[iv i0, iv i1, iv i2, iv s6, rv b1, iv (1 : Int32), iv v49s0, iv s64, iv s72, iv s83, rv b18, rv r_21, uu, uu, uu] [(.ref b22)])) (fun t k => st23.trans k) ?_
        refine ov (B := T23.setTop (mkF m 182 #[iv i0, iv i1, iv i2, iv s6, rv b1, iv (1 : Int32), iv v49s0, iv s64, iv s72, iv s83, rv b18, rv r_21, rv b22, uu, uu] [])) (fun t k => XS.astore X23.here hx rfl (hb hby at_180) rfl rfl (l' := #[iv i0, iv i1, iv i2, iv s6, rv b1, iv (1 : Int32), iv v49s0, iv s64, iv s72, iv s83, rv b18, rv r_21, rv b22, uu, uu]) rfl k) ?_
        refine oAL (n := 184) X23 hx (hb hby at_182) rfl rfl rfl ?_
        obtain ⟨cq24, kq24, q24a, q24b, q24c⟩ := isOf hZ rfl (A22.keep Kq23)
        obtain ⟨_, _, ⟨T24, L24, k24, n24⟩, -, X24, ⟨Lc24, hQ24, l24, y24, z24⟩, st24⟩ := X23.virtualBack hx (y := (⟨"com/example/planmend/planmend/cli/Option", "takesValue", "()Z"⟩ : MethodName)) (z := (⟨"com/example/planmend/planmend/cli/Option", "takesValue", "()Z"⟩ : MethodName)) hown (mvT hZ (oW hw 97 rfl)) (mvT hZ (oW hw 98 rfl)) (notFace_of_selects (args := #[]) (mvT hZ (oW hw 100 rfl))) (mvT hZ (oW hw 100 rfl)) (mvT hZ (oW hw 99 rfl)) (by decide) (backOf (W := 0) (rmTr l Z a0 hw [] b22 b18 T23.heap n0 (Nat.le_trans (Nat.le_trans (Nat.le_trans (Nat.le_trans (Nat.le_trans (Nat.le_trans (Nat.le_trans (Nat.le_trans (Nat.le_trans (Nat.le_trans (Nat.le_trans (Nat.le_trans Z0 E1.1) E2.1) (Keep.of_wr W4).1) (Keep.of_wr W6).1) (Keep.of_wr W8).1) Kq9.1) E18.1) E19.1) Kq20.1) Kq21.1) E22.1) Kq23.1) f23_1) hZ (oW hw 101 rfl) (oW hw 46 rfl) (by decide) (by decide)) q24a q24c (g := (mkF m 184 #[iv i0, iv i1, iv i2, iv s6, rv b1, iv (1 : Int32), iv v49s0, iv s64, iv s72, iv s83, rv b18, rv r_21, rv b22, uu, uu] [(.ref b22)])) rfl (by rw [hml]; rfl) (Steps.refl _) (argsL := []) (rest := []) (lenOf own_pd14 rfl) rfl (by show 2 * 0 + _ ≤ _; exact Nat.le_of_eq rfl) (hb hby at_184) (fun _ _ => ⟨rfl, rfl, (by decide : (((((((((0 + 1) + 1) + 1) + 1) + 1) + 2) + 2) + 1) + 4) + 0 ≤ _), (by decide : (((((((((0 + 4) + 3) + 3) + 4) + 0) + 4) + 5) + 4) + 60) + 0 ≤ _)⟩)
        dsimp only [Pt.U, Pt.locs, Pt.cells, Pt.slots] at X24 l24 y24 z24 st24 hQ24
        subst l24 y24 z24
        obtain ⟨rfl, Nq24, eq24⟩ := hQ24
        have N24 := Fr.app N23 Nq24
        refine ov (B := T24.setTop (mkF m 187 #[iv i0, iv i1, iv i2, iv s6, rv b1, iv (1 : Int32), iv v49s0, iv s64, iv s72, iv s83, rv b18, rv r_21, rv b22, uu, uu] [(.int (1 : Int32))])) (fun t k => st24.trans k) ?_
        refine ov (B := T24.setTop (mkF m 189 #[iv i0, iv i1, iv i2, iv s6, rv b1, iv (1 : Int32), iv v49s0, iv s64, iv s72, iv s83, rv b18, rv r_21, rv b22, iv (1 : Int32), uu] [])) (fun t k => XS.istore X24.here hx rfl (hb hby at_187) rfl (l' := #[iv i0, iv i1, iv i2, iv s6, rv b1, iv (1 : Int32), iv v49s0, iv s64, iv s72, iv s83, rv b18, rv r_21, rv b22, iv (1 : Int32), uu]) rfl k) ?_
        refine oAL (n := 191) X24 hx (hb hby at_189) rfl rfl rfl ?_
        obtain ⟨cq25, kq25, q25a, q25b, q25c⟩ := isOf hZ eq24 (A22.keep Kq23)
        obtain ⟨_, _, ⟨T25, L25, k25, n25⟩, -, X25, hT25, gT25, ⟨Lc25, hQ25, l25, y25, z25⟩, st25⟩ := X24.virtualBackS hx (y := (⟨"com/example/planmend/planmend/cli/Option", "asRequired", "()Lcom/example/planmend/planmend/cli/Option;"⟩ : MethodName)) (z := (⟨"com/example/planmend/planmend/cli/Option", "asRequired", "()Lcom/example/planmend/planmend/cli/Option;"⟩ : MethodName)) hown (mvT hZ (oW hw 102 rfl)) (mvT hZ (oW hw 103 rfl)) (notFace_of_selects (args := #[]) (mvT hZ (oW hw 105 rfl))) (mvT hZ (oW hw 105 rfl)) (mvT hZ (oW hw 104 rfl)) (by decide) (own_backP (VP := fun vm'' => Lit (Z.setVm vm'') "com/example/planmend/planmend/cli/Option" 7 lc_23) (W := 0) (rmAr l Z a0 hw [] b22 zc b1 r_21 t9 kt9 b18 (45 : Int32).toInt8.toInt32 (45 : Int32).toInt8.toInt32 s6.toInt8.toInt32 lc_23 lt_23 lk_23 T23.heap n0 (Nat.le_trans (Nat.le_trans (Nat.le_trans (Nat.le_trans (Nat.le_trans (Nat.le_trans (Nat.le_trans (Nat.le_trans (Nat.le_trans (Nat.le_trans (Nat.le_trans (Nat.le_trans Z0 E1.1) E2.1) (Keep.of_wr W4).1) (Keep.of_wr W6).1) (Keep.of_wr W8).1) Kq9.1) E18.1) E19.1) Kq20.1) Kq21.1) E22.1) Kq23.1) ((((((((((((O0.ext E1).ext E2).wr W4 g_b2).wr W6 g_b2).wr W8 g_b2).keep Kq9 (allS g_b1 all0)).ext E18).ext E19).keep Kq20 (allS g_b18 all0)).keep Kq21 all0).ext E22).keep Kq23 (allS g_b22 all0)) (by assumption) (by assumption) (by assumption) (by assumption) f23_0 f23_1 f23_2 (((((((((((A1.ext E2).wr W4).wr W6).wr W8).keep Kq9).ext E18).ext E19).keep Kq20).keep Kq21).ext E22).keep Kq23) ((((((gC9.ext E18).ext E19).keep Kq20 (ninS (Nat.ne_of_lt (Nat.lt_of_lt_of_le (((((A1.ext E2).wr W4).wr W6).wr W8).keep Kq9).lt (Nat.le_of_eq g18.symm))) nin0)).keep Kq21 nin0).ext E22).keep Kq23 (ninS (Nat.ne_of_lt (Nat.lt_of_lt_of_le (((((((((A1.ext E2).wr W4).wr W6).wr W8).keep Kq9).ext E18).ext E19).keep Kq20).keep Kq21).lt (Nat.le_of_eq g22.symm))) nin0)) ((((((gV9.ext E18).ext E19).keep Kq20 (ninS (Nat.ne_of_lt (Nat.lt_of_lt_of_le (((((A1.ext E2).wr W4).wr W6).wr W8).keep Kq9).lt (Nat.le_of_eq g18.symm))) nin0)).keep Kq21 nin0).ext E22).keep Kq23 (ninS (Nat.ne_of_lt (Nat.lt_of_lt_of_le (((((((((A1.ext E2).wr W4).wr W6).wr W8).keep Kq9).ext E18).ext E19).keep Kq20).keep Kq21).lt (Nat.le_of_eq g22.symm))) nin0)) ((((((gA9.ext E18).ext E19).keep Kq20 (ninS (Nat.ne_of_lt (Nat.lt_of_lt_of_le gA9.lt (Nat.le_of_eq g18.symm))) nin0)).keep Kq21 nin0).ext E22).keep Kq23 (ninS (Nat.ne_of_lt (Nat.lt_of_lt_of_le ((((gA9.ext E18).ext E19).keep Kq20 (ninS (Nat.ne_of_lt (Nat.lt_of_lt_of_le gA9.lt (Nat.le_of_eq g18.symm))) nin0)).keep Kq21 nin0).lt (Nat.le_of_eq g22.symm))) nin0)) (by decide) (by decide) f23_4 f23_5 f23_6 f23_7) (fun vm'' hW'' => own_litL (s := s) (vm := T23.vm) vL_23 hW'') hZ (oW hw 106 rfl) (oW hw 46 rfl) (by decide) (by decide)) q25a q25c (g := (mkF m 191 #[iv i0, iv i1, iv i2, iv s6, rv b1, iv (1 : Int32), iv v49s0, iv s64, iv s72, iv s83, rv b18, rv r_21, rv b22, iv (1 : Int32), uu] [(.ref b22)])) rfl (by rw [hml]; rfl) (Steps.refl _) (argsL := []) (rest := []) (lenOf own_pd15 rfl) rfl (by show 2 * 0 + _ ≤ _; exact Nat.le_of_eq rfl) (hb hby at_191) (fun _ _ => ⟨rfl, eq24, (by decide : ((((((((((0 + 1) + 1) + 1) + 1) + 1) + 2) + 2) + 1) + 4) + 0) + 5 ≤ _), (by decide : ((((((((((0 + 4) + 3) + 3) + 4) + 0) + 4) + 5) + 4) + 60) + 0) + 64 ≤ _)⟩)
        dsimp only [Pt.U, Pt.locs, Pt.cells, Pt.slots] at X25 l25 y25 z25 st25 hQ25 hT25 gT25
        subst l25 y25 z25
        obtain ⟨X25, hS25, hZ, hown⟩ := rebS hS23 (by rw [eq24]; exact (Nat.le_refl _)) X25 hT25 gT25 hZ hown
        have hlit25_lc_23 := Lit.stays (s := s) vL_23 hT25.1
        obtain ⟨r_25, rfl, Nq25, Kq25, f25_0, f25_1⟩ := hQ25
        have N25 := Fr.app N24 Nq25
        refine ov (B := T25.setTop (mkF m 194 #[iv i0, iv i1, iv i2, iv s6, rv b1, iv (1 : Int32), iv v49s0, iv s64, iv s72, iv s83, rv b18, rv r_21, rv b22, iv (1 : Int32), uu] [(.ref r_25)])) (fun t k => st25.trans k) ?_
        obtain ⟨cq26, kq26, q26a, q26b, q26c⟩ := isOf hZ rfl f25_0
        obtain ⟨_, _, ⟨T26, L26, k26, n26⟩, -, X26, ⟨Lc26, hQ26, l26, y26, z26⟩, st26⟩ := X25.virtualBack hx (y := (⟨"com/example/planmend/planmend/cli/Option", "takesValue", "()Z"⟩ : MethodName)) (z := (⟨"com/example/planmend/planmend/cli/Option", "takesValue", "()Z"⟩ : MethodName)) hown (mvT hZ (oW hw 97 rfl)) (mvT hZ (oW hw 98 rfl)) (notFace_of_selects (args := #[]) (mvT hZ (oW hw 100 rfl))) (mvT hZ (oW hw 100 rfl)) (mvT hZ (oW hw 99 rfl)) (by decide) (backOf (W := 0) (rmTr l Z a0 hw [] r_25 b18 T25.heap n0 (Nat.le_trans (Nat.le_trans (Nat.le_trans (Nat.le_trans (Nat.le_trans (Nat.le_trans (Nat.le_trans (Nat.le_trans (Nat.le_trans (Nat.le_trans (Nat.le_trans (Nat.le_trans (Nat.le_trans Z0 E1.1) E2.1) (Keep.of_wr W4).1) (Keep.of_wr W6).1) (Keep.of_wr W8).1) Kq9.1) E18.1) E19.1) Kq20.1) Kq21.1) E22.1) Kq23.1) Kq25.1) f25_1) hZ (oW hw 101 rfl) (oW hw 46 rfl) (by decide) (by decide)) q26a q26c (g := (mkF m 194 #[iv i0, iv i1, iv i2, iv s6, rv b1, iv (1 : Int32), iv v49s0, iv s64, iv s72, iv s83, rv b18, rv r_21, rv b22, iv (1 : Int32), uu] [(.ref r_25)])) rfl (by rw [hml]; rfl) (Steps.refl _) (argsL := []) (rest := []) (lenOf own_pd14 rfl) rfl (by show 2 * 0 + _ ≤ _; exact Nat.le_of_eq rfl) (hb hby at_194) (fun _ _ => ⟨rfl, rfl, (by decide : (((((((((((0 + 1) + 1) + 1) + 1) + 1) + 2) + 2) + 1) + 4) + 0) + 5) + 0 ≤ _), (by decide : (((((((((((0 + 4) + 3) + 3) + 4) + 0) + 4) + 5) + 4) + 60) + 0) + 64) + 0 ≤ _)⟩)
        dsimp only [Pt.U, Pt.locs, Pt.cells, Pt.slots] at X26 l26 y26 z26 st26 hQ26
        subst l26 y26 z26
        obtain ⟨rfl, Nq26, eq26⟩ := hQ26
        have N26 := Fr.app N25 Nq26
        refine ov (B := T26.setTop (mkF m 197 #[iv i0, iv i1, iv i2, iv s6, rv b1, iv (1 : Int32), iv v49s0, iv s64, iv s72, iv s83, rv b18, rv r_21, rv b22, iv (1 : Int32), uu] [(.int (1 : Int32))])) (fun t k => st26.trans k) ?_
        refine ov (B := T26.setTop (mkF m 199 #[iv i0, iv i1, iv i2, iv s6, rv b1, iv (1 : Int32), iv v49s0, iv s64, iv s72, iv s83, rv b18, rv r_21, rv b22, iv (1 : Int32), iv (1 : Int32)] [])) (fun t k => XS.istore X26.here hx rfl (hb hby at_197) rfl (l' := #[iv i0, iv i1, iv i2, iv s6, rv b1, iv (1 : Int32), iv v49s0, iv s64, iv s72, iv s83, rv b18, rv r_21, rv b22, iv (1 : Int32), iv (1 : Int32)]) rfl k) ?_
        refine oIL (n := 201) X26 hx (hb hby at_199) rfl rfl ?_
        refine oIL (n := 203) X26 hx (hb hby at_201) rfl rfl ?_
        have hc203 : (1 : Int32) = (1 : Int32) := by decide
        refine ov (B := T26.setTop (mkF m 206 #[iv i0, iv i1, iv i2, iv s6, rv b1, iv (1 : Int32), iv v49s0, iv s64, iv s72, iv s83, rv b18, rv r_21, rv b22, iv (1 : Int32), iv (1 : Int32)] [])) (fun t k => XS.icmpNo X26.here hx rfl (hb hby at_203) rfl (teq hc203).2 k) ?_
        refine oIL (n := 208) X26 hx (hb hby at_206) rfl rfl ?_
        refine oIL (n := 210) X26 hx (hb hby at_208) rfl rfl ?_
        have hc210 : (1 : Int32) = (1 : Int32) := by decide
        refine ov (B := T26.setTop (mkF m 213 #[iv i0, iv i1, iv i2, iv s6, rv b1, iv (1 : Int32), iv v49s0, iv s64, iv s72, iv s83, rv b18, rv r_21, rv b22, iv (1 : Int32), iv (1 : Int32)] [])) (fun t k => XS.icmpNo X26.here hx rfl (hb hby at_210) rfl (teq hc210).2 k) ?_
        refine oIC (n := 214) X26 hx (1 : Int32) (hb hby at_213) (by decide) rfl ?_
        refine oGO (n := 218) X26 hx (hb hby at_214) (by decide) (by decide) ?_
        refine own_leafW X26 hx hlk hS25 (by rw [eq26]; exact (Nat.le_refl _)) (t := .boolean) Bd.returns (by decide) (Or.inl ⟨rfl, by simp, _, rfl⟩) (hb hby at_218) (by decide) (by decide) ?_
        show Q0 Z i0 i1 i2 zc h0 n0 _ T26.heap _
        rw [eq26]
        refine ⟨?_, N26⟩
        rfl
      · refine ov (B := T17.setTop (mkF m 113 #[iv i0, iv i1, iv i2, iv s6, rv b1, iv (1 : Int32), iv v49s0, iv s64, iv s72, iv s83, .val .null, uu, uu, uu, uu] [])) (fun t k => XS.ifYes X17.here hx rfl (pc0 := 95) (pc' := 113) rfl (hb hby at_95) rfl ((if0 _ _).trans (feq hc95).2) (by decide) (by decide) k) ?_
        refine oIL (n := 115) X17 hx (hb hby at_113) rfl rfl ?_
        refine oIC (n := 116) X17 hx (1 : Int32) (hb hby at_115) (by decide) rfl ?_
        by_cases hc116 : s64 = (1 : Int32)
        · refine ov (B := T17.setTop (mkF m 119 #[iv i0, iv i1, iv i2, iv s6, rv b1, iv (1 : Int32), iv v49s0, iv s64, iv s72, iv s83, .val .null, uu, uu, uu, uu] [])) (fun t k => XS.icmpNo X17.here hx rfl (hb hby at_116) rfl (teq hc116).2 k) ?_
          refine oIL (n := 121) X17 hx (hb hby at_119) rfl rfl ?_
          obtain ⟨_, _, ⟨T27, L27, k27, n27⟩, -, X27, ⟨Lc27, hQ27, l27, y27, z27⟩, st27⟩ := Jvm.LawKit.callS X17 hx (y := (⟨"java/lang/String", "valueOf", "(C)Ljava/lang/String;"⟩ : MethodName)) hown (mvT hZ (oW hw 30 rfl)) (mvT hZ (oW hw 31 rfl)) (mvT hZ (oW hw 2 rfl)) (mvT hZ (oW hw 32 rfl)) (by decide) (backOf (W := 0) (rmJ l Z a0 hw [] s72 zc T9.heap n0 (Nat.le_trans (Nat.le_trans (Nat.le_trans (Nat.le_trans (Nat.le_trans (Nat.le_trans Z0 E1.1) E2.1) (Keep.of_wr W4).1) (Keep.of_wr W6).1) (Keep.of_wr W8).1) Kq9.1) ((((((O0.ext E1).ext E2).wr W4 g_b2).wr W6 g_b2).wr W8 g_b2).keep Kq9 (allS g_b1 all0)) (by assumption) (by assumption) (own_cg hs72 (own_b255 i1))) hZ (oW hw 32 rfl) (oW hw 2 rfl) (by decide) (by decide)) (g := (mkF m 121 #[iv i0, iv i1, iv i2, iv s6, rv b1, iv (1 : Int32), iv v49s0, iv s64, iv s72, iv s83, .val .null, uu, uu, uu, uu] [(.int s72)])) rfl (by rw [hml]; rfl) (argsL := [(.int s72)]) (rest := []) (lenOf own_pd13 rfl) rfl (by show 2 * 0 + _ ≤ _; exact Nat.le_of_eq rfl) (hb hby at_121) (fun _ _ => ⟨rfl, e17, (by decide : (((0 + 1) + 1) + 1) + 2 ≤ _), (by decide : (((0 + 4) + 3) + 3) + 5 ≤ _)⟩)
          dsimp only [Pt.U, Pt.locs, Pt.cells, Pt.slots] at X27 l27 y27 z27 st27 hQ27
          subst l27 y27 z27
          obtain ⟨r_27, tr_27, kr_27, rfl, Nq27, Kq27, hr_27, htr_27, f27_0, f27_1, f27_2, f27_3⟩ := hQ27
          have N27 := Fr.app N17 Nq27
          have g_r_27 : n0 ≤ r_27 := Nat.le_trans (Nat.le_trans (Nat.le_trans (Nat.le_trans (Nat.le_trans (Nat.le_trans (Nat.le_trans Z0 E1.1) E2.1) (Keep.of_wr W4).1) (Keep.of_wr W6).1) (Keep.of_wr W8).1) Kq9.1) hr_27
          have g_tr_27 : n0 ≤ tr_27 := Nat.le_trans (Nat.le_trans (Nat.le_trans (Nat.le_trans (Nat.le_trans (Nat.le_trans (Nat.le_trans Z0 E1.1) E2.1) (Keep.of_wr W4).1) (Keep.of_wr W6).1) (Keep.of_wr W8).1) Kq9.1) htr_27
          refine ov (B := T27.setTop (mkF m 124 #[iv i0, iv i1, iv i2, iv s6, rv b1, iv (1 : Int32), iv v49s0, iv s64, iv s72, iv s83, .val .null, uu, uu, uu, uu] [(.ref r_27)])) (fun t k => st27 t k) ?_
          refine ov (B := T27.setTop (mkF m 126 #[iv i0, iv i1, iv i2, iv s6, rv b1, iv (1 : Int32), iv v49s0, iv s64, iv s72, iv s83, rv r_27, uu, uu, uu, uu] [])) (fun t k => XS.astore X27.here hx rfl (hb hby at_124) rfl rfl (l' := #[iv i0, iv i1, iv i2, iv s6, rv b1, iv (1 : Int32), iv v49s0, iv s64, iv s72, iv s83, rv r_27, uu, uu, uu, uu]) rfl k) ?_
          refine oGO (n := 151) X27 hx (hb hby at_126) (by decide) (by decide) ?_
          refine oILN (n := 152) X27 hx (hb hby at_151) rfl rfl ?_
          refine oBP (n := 154) X27 hx (8 : Int32) (hb hby at_152) (by decide) rfl ?_
          refine ov (B := T27.setTop (mkF m 155 #[iv i0, iv i1, iv i2, iv s6, rv b1, iv (1 : Int32), iv v49s0, iv s64, iv s72, iv s83, rv r_27, uu, uu, uu, uu] [(.int ((i0.toUInt32 >>> ((8 : Int32) &&& 31).toUInt32).toInt32))])) (fun t k => XS.iushr X27.here hx rfl (hb hby at_154) rfl k) ?_
          refine oSP (n := 158) X27 hx (255 : Int32) (hb hby at_155) (by decide) rfl ?_
          refine ov (B := T27.setTop (mkF m 159 #[iv i0, iv i1, iv i2, iv s6, rv b1, iv (1 : Int32), iv v49s0, iv s64, iv s72, iv s83, rv r_27, uu, uu, uu, uu] [(.int (((i0.toUInt32 >>> ((8 : Int32) &&& 31).toUInt32).toInt32) &&& (255 : Int32)))])) (fun t k => XS.iand X27.here hx rfl (hb hby at_158) rfl k) ?_
          refine ov (B := T27.setTop (mkF m 160 #[iv i0, iv i1, iv i2, iv s6, rv b1, iv (1 : Int32), iv v49s0, iv s64, iv s72, iv s83, rv r_27, uu, uu, uu, uu] [(.int (((i0.toUInt32 >>> ((8 : Int32) &&& 31).toUInt32).toInt32) &&& (255 : Int32)))])) (fun t k => XS.i2c X27.here hx rfl (hb hby at_159) rfl (by rw [own_i2c (own_b255 ((i0.toUInt32 >>> ((8 : Int32) &&& 31).toUInt32).toInt32))]; exact k)) ?_
          obtain ⟨_, _, ⟨T28, L28, k28, n28⟩, -, X28, ⟨Lc28, hQ28, l28, y28, z28⟩, st28⟩ := Jvm.LawKit.callS X27 hx (y := (⟨"java/lang/String", "valueOf", "(C)Ljava/lang/String;"⟩ : MethodName)) hown (mvT hZ (oW hw 30 rfl)) (mvT hZ (oW hw 31 rfl)) (mvT hZ (oW hw 2 rfl)) (mvT hZ (oW hw 32 rfl)) (by decide) (backOf (W := 0) (rmJ l Z a0 hw [] (((i0.toUInt32 >>> ((8 : Int32) &&& 31).toUInt32).toInt32) &&& (255 : Int32)) zc T27.heap n0 (Nat.le_trans (Nat.le_trans (Nat.le_trans (Nat.le_trans (Nat.le_trans (Nat.le_trans (Nat.le_trans Z0 E1.1) E2.1) (Keep.of_wr W4).1) (Keep.of_wr W6).1) (Keep.of_wr W8).1) Kq9.1) Kq27.1) (((((((O0.ext E1).ext E2).wr W4 g_b2).wr W6 g_b2).wr W8 g_b2).keep Kq9 (allS g_b1 all0)).keep Kq27 all0) (by assumption) (by assumption) (own_b255 ((i0.toUInt32 >>> ((8 : Int32) &&& 31).toUInt32).toInt32))) hZ (oW hw 32 rfl) (oW hw 2 rfl) (by decide) (by decide)) (g := (mkF m 160 #[iv i0, iv i1, iv i2, iv s6, rv b1, iv (1 : Int32), iv v49s0, iv s64, iv s72, iv s83, rv r_27, uu, uu, uu, uu] [(.int (((i0.toUInt32 >>> ((8 : Int32) &&& 31).toUInt32).toInt32) &&& (255 : Int32)))])) rfl (by rw [hml]; rfl) (argsL := [(.int (((i0.toUInt32 >>> ((8 : Int32) &&& 31).toUInt32).toInt32) &&& (255 : Int32)))]) (rest := []) (lenOf own_pd13 rfl) rfl (by show 2 * 0 + _ ≤ _; exact Nat.le_of_eq rfl) (hb hby at_160) (fun _ _ => ⟨rfl, rfl, (by decide : ((((0 + 1) + 1) + 1) + 2) + 2 ≤ _), (by decide : ((((0 + 4) + 3) + 3) + 5) + 5 ≤ _)⟩)
          dsimp only [Pt.U, Pt.locs, Pt.cells, Pt.slots] at X28 l28 y28 z28 st28 hQ28
          subst l28 y28 z28
          obtain ⟨r_28, tr_28, kr_28, rfl, Nq28, Kq28, hr_28, htr_28, f28_0, f28_1, f28_2, f28_3⟩ := hQ28
          have N28 := Fr.app N27 Nq28
          have g_r_28 : n0 ≤ r_28 := Nat.le_trans (Nat.le_trans (Nat.le_trans (Nat.le_trans (Nat.le_trans (Nat.le_trans (Nat.le_trans (Nat.le_trans Z0 E1.1) E2.1) (Keep.of_wr W4).1) (Keep.of_wr W6).1) (Keep.of_wr W8).1) Kq9.1) Kq27.1) hr_28
          have g_tr_28 : n0 ≤ tr_28 := Nat.le_trans (Nat.le_trans (Nat.le_trans (Nat.le_trans (Nat.le_trans (Nat.le_trans (Nat.le_trans (Nat.le_trans Z0 E1.1) E2.1) (Keep.of_wr W4).1) (Keep.of_wr W6).1) (Keep.of_wr W8).1) Kq9.1) Kq27.1) htr_28
          refine ov (B := T28.setTop (mkF m 163 #[iv i0, iv i1, iv i2, iv s6, rv b1, iv (1 : Int32), iv v49s0, iv s64, iv s72, iv s83, rv r_27, uu, uu, uu, uu] [(.ref r_28)])) (fun t k => st28 t k) ?_
          refine ov (B := T28.setTop (mkF m 165 #[iv i0, iv i1, iv i2, iv s6, rv b1, iv (1 : Int32), iv v49s0, iv s64, iv s72, iv s83, rv r_27, rv r_28, uu, uu, uu] [])) (fun t k => XS.astore X28.here hx rfl (hb hby at_163) rfl rfl (l' := #[iv i0, iv i1, iv i2, iv s6, rv b1, iv (1 : Int32), iv v49s0, iv s64, iv s72, iv s83, rv r_27, rv r_28, uu, uu, uu]) rfl k) ?_
          obtain ⟨T29, h29, X29, e29, E29, A29, D29, -, st29⟩ := newO X28 hx hZ hown (oW hw 44 rfl) (oW hw 45 rfl) (oW hw 46 rfl) rfl (g := (mkF m 165 #[iv i0, iv i1, iv i2, iv s6, rv b1, iv (1 : Int32), iv v49s0, iv s64, iv s72, iv s83, rv r_27, rv r_28, uu, uu, uu] [])) rfl (hb hby at_165) (by decide) (by decide)
          obtain ⟨b29, g29⟩ : ∃ z, z = T28.heap.size := ⟨_, rfl⟩
          rw [← g29] at A29 D29 st29
          have g_b29 : n0 ≤ b29 := Nat.le_trans (Nat.le_trans (Nat.le_trans (Nat.le_trans (Nat.le_trans (Nat.le_trans (Nat.le_trans (Nat.le_trans (Nat.le_trans Z0 E1.1) E2.1) (Keep.of_wr W4).1) (Keep.of_wr W6).1) (Keep.of_wr W8).1) Kq9.1) Kq27.1) Kq28.1) (Nat.le_of_eq g29.symm)
          have F29_name : Fld Z h29 b29 "com/example/planmend/planmend/cli/Option" "name" "Ljava/lang/String;" .null := D29 (Or.inr (oW hw 90 rfl)) (ty := (.object "java/lang/String")) (by decide)
          have F29_value : Fld Z h29 b29 "com/example/planmend/planmend/cli/Option" "value" "Ljava/lang/String;" .null := D29 (Or.inr (oW hw 92 rfl)) (ty := (.object "java/lang/String")) (by decide)
          have F29_description : Fld Z h29 b29 "com/example/planmend/planmend/cli/Option" "description" "Ljava/lang/String;" .null := D29 (Or.inr (oW hw 94 rfl)) (ty := (.object "java/lang/String")) (by decide)
          have F29_required : Fld Z h29 b29 "com/example/planmend/planmend/cli/Option" "required" "Z" (.int (0 : Int32)) := D29 (Or.inr (oW hw 96 rfl)) (ty := .boolean) (by decide)
          refine ov (B := T29.setTop (mkF m 168 #[iv i0, iv i1, iv i2, iv s6, rv b1, iv (1 : Int32), iv v49s0, iv s64, iv s72, iv s83, rv r_27, rv r_28, uu, uu, uu] [(.ref b29)])) (fun t k => st29 t k) ?_
          refine oDU (n := 169) X29 hx (hb hby at_168) rfl rfl ?_
          refine oAL (n := 171) X29 hx (hb hby at_169) rfl rfl rfl ?_
          refine oAL (n := 173) X29 hx (hb hby at_171) rfl rfl rfl ?_
          refine oAL (n := 175) X29 hx (hb hby at_173) rfl rfl rfl ?_
          refine oIL (n := 177) X29 hx (hb hby at_175) rfl rfl ?_
          obtain ⟨_, _, ⟨T30, L30, k30, n30⟩, -, X30, hT30, gT30, ⟨Lc30, hQ30, l30, y30, z30⟩, st30⟩ := X29.specialBackS hx (y := (⟨"com/example/planmend/planmend/cli/Option", "<init>", "(Ljava/lang/String;Ljava/lang/String;Ljava/lang/String;Z)V"⟩ : MethodName)) rfl hown (mvT hZ (oW hw 47 rfl)) (mvT hZ (oW hw 48 rfl)) (mvT hZ (oW hw 49 rfl)) (by decide) (own_backV (VP := fun vm'' => IB Z vm'' []) (W := 1) (rmO1r l Z a0 hw [] b29 b1 r_27 r_28 v49s0 .null .null .null (.int (0 : Int32)) zc t9 kt9 (45 : Int32).toInt8.toInt32 (45 : Int32).toInt8.toInt32 s6.toInt8.toInt32 [] h29 n0 (Nat.le_trans (Nat.le_trans (Nat.le_trans (Nat.le_trans (Nat.le_trans (Nat.le_trans (Nat.le_trans (Nat.le_trans (Nat.le_trans Z0 E1.1) E2.1) (Keep.of_wr W4).1) (Keep.of_wr W6).1) (Keep.of_wr W8).1) Kq9.1) Kq27.1) Kq28.1) E29.1) (((((((((O0.ext E1).ext E2).wr W4 g_b2).wr W6 g_b2).wr W8 g_b2).keep Kq9 (allS g_b1 all0)).keep Kq27 all0).keep Kq28 all0).ext E29) (by assumption) (by assumption) (by assumption) (by assumption) A29 F29_name F29_value F29_description F29_required g_b29 ((((((((A1.ext E2).wr W4).wr W6).wr W8).keep Kq9).keep Kq27).keep Kq28).ext E29) (((gC9.keep Kq27 nin0).keep Kq28 nin0).ext E29) (((gV9.keep Kq27 nin0).keep Kq28 nin0).ext E29) (((gA9.keep Kq27 nin0).keep Kq28 nin0).ext E29) (by decide) (by decide) (hv49.elim (fun h => Or.inl h.2) (fun h => Or.inr h.2)) (by simp)) (fun vm'' hW'' => own_ibW (s := (s.setVm s.vm)) hI hW'') hZ (oW hw 49 rfl) (oW hw 46 rfl) (by decide) (by decide)) (g := (mkF m 177 #[iv i0, iv i1, iv i2, iv s6, rv b1, iv (1 : Int32), iv v49s0, iv s64, iv s72, iv s83, rv r_27, rv r_28, uu, uu, uu] [(.int v49s0), (.ref r_28), (.ref r_27), (.ref b1), (.ref b29), (.ref b29)])) rfl (by rw [hml]; rfl) (Steps.refl _) (a := b29) (argsL := [(.ref b1), (.ref r_27), (.ref r_28), (.int v49s0)]) (rest := [(.ref b29)]) (lenOf own_pd11 rfl) rfl (by show 2 * 0 + _ ≤ _; exact Nat.le_of_eq rfl) (hb hby at_177) (fun _ _ => ⟨rfl, e29, (by decide : ((((((0 + 1) + 1) + 1) + 2) + 2) + 1) + 4 ≤ _), (by decide : ((((((0 + 4) + 3) + 3) + 5) + 5) + 4) + 60 ≤ _)⟩)
          dsimp only [Pt.U, Pt.locs, Pt.cells, Pt.slots] at X30 l30 y30 z30 st30 hQ30 hT30 gT30
          subst l30 y30 z30
          obtain ⟨X30, hS30, hZ, hown⟩ := rebS hS0 (by rw [e29]; exact (Nat.le_trans (Nat.le_trans (Nat.le_trans (Nat.le_trans (Nat.le_trans (Nat.le_trans (Nat.le_trans (Nat.le_trans (Nat.le_trans hk0 E1.1) E2.1) (Keep.of_wr W4).1) (Keep.of_wr W6).1) (Keep.of_wr W8).1) Kq9.1) Kq27.1) Kq28.1) E29.1)) X30 hT30 gT30 hZ hown
          obtain ⟨lc_30, lt_30, lk_30, rfl, Nq30, Kq30, vL_30, f30_0, f30_1, f30_2, f30_3, f30_4, f30_5, f30_6, f30_7⟩ := hQ30
          have N30 := Fr.app N28 Nq30
          refine ov (B := T30.setTop (mkF m 180 #[iv i0, iv i1, iv i2, iv s6, rv b1, iv (1 : Int32), iv v49s0, iv s64, iv s72, iv s83, rv r_27, rv r_28, uu, uu, uu] [(.ref b29)])) (fun t k => st30.trans k) ?_
          refine ov (B := T30.setTop (mkF m 182 #[iv i0, iv i1, iv i2, iv s6, rv b1, iv (1 : Int32), iv v49s0, iv s64, iv s72, iv s83, rv r_27, rv r_28, rv b29, uu, uu] [])) (fun t k => XS.astore X30.here hx rfl (hb hby at_180) rfl rfl (l' := #[iv i0, iv i1, iv i2, iv s6, rv b1, iv (1 : Int32), iv v49s0, iv s64, iv s72, iv s83, rv r_27, rv r_28, rv b29, uu, uu]) rfl k) ?_
          refine oAL (n := 184) X30 hx (hb hby at_182) rfl rfl rfl ?_
          obtain ⟨cq31, kq31, q31a, q31b, q31c⟩ := isOf hZ rfl (A29.keep Kq30)
          obtain ⟨_, _, ⟨T31, L31, k31, n31⟩, -, X31, ⟨Lc31, hQ31, l31, y31, z31⟩, st31⟩ := X30.virtualBack hx (y := (⟨"com/example/planmend/planmend/cli/Option", "takesValue", "()Z"⟩ : MethodName)) (z := (⟨"com/example/planmend/planmend/cli/Option", "takesValue", "()Z"⟩ : MethodName)) hown (mvT hZ (oW hw 97 rfl)) (mvT hZ (oW hw 98 rfl)) (notFace_of_selects (args := #[]) (mvT hZ (oW hw 100 rfl))) (mvT hZ (oW hw 100 rfl)) (mvT hZ (oW hw 99 rfl)) (by decide) (backOf (W := 0) (rmTr l Z a0 hw [] b29 r_27 T30.heap n0 (Nat.le_trans (Nat.le_trans (Nat.le_trans (Nat.le_trans (Nat.le_trans (Nat.le_trans (Nat.le_trans (Nat.le_trans (Nat.le_trans (Nat.le_trans Z0 E1.1) E2.1) (Keep.of_wr W4).1) (Keep.of_wr W6).1) (Keep.of_wr W8).1) Kq9.1) Kq27.1) Kq28.1) E29.1) Kq30.1) f30_1) hZ (oW hw 101 rfl) (oW hw 46 rfl) (by decide) (by decide)) q31a q31c (g := (mkF m 184 #[iv i0, iv i1, iv i2, iv s6, rv b1, iv (1 : Int32), iv v49s0, iv s64, iv s72, iv s83, rv r_27, rv r_28, rv b29, uu, uu] [(.ref b29)])) rfl (by rw [hml]; rfl) (Steps.refl _) (argsL := []) (rest := []) (lenOf own_pd14 rfl) rfl (by show 2 * 0 + _ ≤ _; exact Nat.le_of_eq rfl) (hb hby at_184) (fun _ _ => ⟨rfl, rfl, (by decide : (((((((0 + 1) + 1) + 1) + 2) + 2) + 1) + 4) + 0 ≤ _), (by decide : (((((((0 + 4) + 3) + 3) + 5) + 5) + 4) + 60) + 0 ≤ _)⟩)
          dsimp only [Pt.U, Pt.locs, Pt.cells, Pt.slots] at X31 l31 y31 z31 st31 hQ31
          subst l31 y31 z31
          obtain ⟨rfl, Nq31, eq31⟩ := hQ31
          have N31 := Fr.app N30 Nq31
          refine ov (B := T31.setTop (mkF m 187 #[iv i0, iv i1, iv i2, iv s6, rv b1, iv (1 : Int32), iv v49s0, iv s64, iv s72, iv s83, rv r_27, rv r_28, rv b29, uu, uu] [(.int (1 : Int32))])) (fun t k => st31.trans k) ?_
          refine ov (B := T31.setTop (mkF m 189 #[iv i0, iv i1, iv i2, iv s6, rv b1, iv (1 : Int32), iv v49s0, iv s64, iv s72, iv s83, rv r_27, rv r_28, rv b29, iv (1 : Int32), uu] [])) (fun t k => XS.istore X31.here hx rfl (hb hby at_187) rfl (l' := #[iv i0, iv i1, iv i2, iv s6, rv b1, iv (1 : Int32), iv v49s0, iv s64, iv s72, iv s83, rv r_27, rv r_28, rv b29, iv (1 : Int32), uu]) rfl k) ?_
          refine oAL (n := 191) X31 hx (hb hby at_189) rfl rfl rfl ?_
          obtain ⟨cq32, kq32, q32a, q32b, q32c⟩ := isOf hZ eq31 (A29.keep Kq30)
          obtain ⟨_, _, ⟨T32, L32, k32, n32⟩, -, X32, hT32, gT32, ⟨Lc32, hQ32, l32, y32, z32⟩, st32⟩ := X31.virtualBackS hx (y := (⟨"com/example/planmend/planmend/cli/Option", "asRequired", "()Lcom/example/planmend/planmend/cli/Option;"⟩ : MethodName)) (z := (⟨"com/example/planmend/planmend/cli/Option", "asRequired", "()Lcom/example/planmend/planmend/cli/Option;"⟩ : MethodName)) hown (mvT hZ (oW hw 102 rfl)) (mvT hZ (oW hw 103 rfl)) (notFace_of_selects (args := #[]) (mvT hZ (oW hw 105 rfl))) (mvT hZ (oW hw 105 rfl)) (mvT hZ (oW hw 104 rfl)) (by decide) (own_backP (VP := fun vm'' => Lit (Z.setVm vm'') "com/example/planmend/planmend/cli/Option" 7 lc_30) (W := 0) (rmAr l Z a0 hw [] b29 zc b1 r_28 t9 kt9 r_27 (45 : Int32).toInt8.toInt32 (45 : Int32).toInt8.toInt32 s6.toInt8.toInt32 lc_30 lt_30 lk_30 T30.heap n0 (Nat.le_trans (Nat.le_trans (Nat.le_trans (Nat.le_trans (Nat.le_trans (Nat.le_trans (Nat.le_trans (Nat.le_trans (Nat.le_trans (Nat.le_trans Z0 E1.1) E2.1) (Keep.of_wr W4).1) (Keep.of_wr W6).1) (Keep.of_wr W8).1) Kq9.1) Kq27.1) Kq28.1) E29.1) Kq30.1) ((((((((((O0.ext E1).ext E2).wr W4 g_b2).wr W6 g_b2).wr W8 g_b2).keep Kq9 (allS g_b1 all0)).keep Kq27 all0).keep Kq28 all0).ext E29).keep Kq30 (allS g_b29 all0)) (by assumption) (by assumption) (by assumption) (by assumption) f30_0 f30_1 f30_2 (((((((((A1.ext E2).wr W4).wr W6).wr W8).keep Kq9).keep Kq27).keep Kq28).ext E29).keep Kq30) ((((gC9.keep Kq27 nin0).keep Kq28 nin0).ext E29).keep Kq30 (ninS (Nat.ne_of_lt (Nat.lt_of_lt_of_le (((((((A1.ext E2).wr W4).wr W6).wr W8).keep Kq9).keep Kq27).keep Kq28).lt (Nat.le_of_eq g29.symm))) nin0)) ((((gV9.keep Kq27 nin0).keep Kq28 nin0).ext E29).keep Kq30 (ninS (Nat.ne_of_lt (Nat.lt_of_lt_of_le (((((((A1.ext E2).wr W4).wr W6).wr W8).keep Kq9).keep Kq27).keep Kq28).lt (Nat.le_of_eq g29.symm))) nin0)) ((((gA9.keep Kq27 nin0).keep Kq28 nin0).ext E29).keep Kq30 (ninS (Nat.ne_of_lt (Nat.lt_of_lt_of_le ((gA9.keep Kq27 nin0).keep Kq28 nin0).lt (Nat.le_of_eq g29.symm))) nin0)) (by decide) (by decide) f30_4 f30_5 f30_6 f30_7) (fun vm'' hW'' => own_litL (s := s) (vm := T30.vm) vL_30 hW'') hZ (oW hw 106 rfl) (oW hw 46 rfl) (by decide) (by decide)) q32a q32c (g := (mkF m 191 #[iv i0, iv i1, iv i2, iv s6, rv b1, iv (1 : Int32), iv v49s0, iv s64, iv s72, iv s83, rv r_27, rv r_28, rv b29, iv (1 : Int32), uu] [(.ref b29)])) rfl (by rw [hml]; rfl) (Steps.refl _) (argsL := []) (rest := []) (lenOf own_pd15 rfl) rfl (by show 2 * 0 + _ ≤ _; exact Nat.le_of_eq rfl) (hb hby at_191) (fun _ _ => ⟨rfl, eq31, (by decide : ((((((((0 + 1) + 1) + 1) + 2) + 2) + 1) + 4) + 0) + 5 ≤ _), (by decide : ((((((((0 + 4) + 3) + 3) + 5) + 5) + 4) + 60) + 0) + 64 ≤ _)⟩)
          dsimp only [Pt.U, Pt.locs, Pt.cells, Pt.slots] at X32 l32 y32 z32 st32 hQ32 hT32 gT32
          subst l32 y32 z32
          obtain ⟨X32, hS32, hZ, hown⟩ := rebS hS30 (by rw [eq31]; exact (Nat.le_refl _)) X32 hT32 gT32 hZ hown
          have hlit32_lc_30 := Lit.stays (s := s) vL_30 hT32.1
          obtain ⟨r_32, rfl, Nq32, Kq32, f32_0, f32_1⟩ := hQ32
          have N32 := Fr.app N31 Nq32
          refine ov (B := T32.setTop (mkF m 194 #[iv i0, iv i1, iv i2, iv s6, rv b1, iv (1 : Int32), iv v49s0, iv s64, iv s72, iv s83, rv r_27, rv r_28, rv b29, iv (1 : Int32), uu] [(.ref r_32)])) (fun t k => st32.trans k) ?_
          obtain ⟨cq33, kq33, q33a, q33b, q33c⟩ := isOf hZ rfl f32_0
          obtain ⟨_, _, ⟨T33, L33, k33, n33⟩, -, X33, ⟨Lc33, hQ33, l33, y33, z33⟩, st33⟩ := X32.virtualBack hx (y := (⟨"com/example/planmend/planmend/cli/Option", "takesValue", "()Z"⟩ : MethodName)) (z := (⟨"com/example/planmend/planmend/cli/Option", "takesValue", "()Z"⟩ : MethodName)) hown (mvT hZ (oW hw 97 rfl)) (mvT hZ (oW hw 98 rfl)) (notFace_of_selects (args := #[]) (mvT hZ (oW hw 100 rfl))) (mvT hZ (oW hw 100 rfl)) (mvT hZ (oW hw 99 rfl)) (by decide) (backOf (W := 0) (rmTr l Z a0 hw [] r_32 r_27 T32.heap n0 (Nat.le_trans (Nat.le_trans (Nat.le_trans (Nat.le_trans (Nat.le_trans (Nat.le_trans (Nat.le_trans (Nat.le_trans (Nat.le_trans (Nat.le_trans (Nat.le_trans Z0 E1.1) E2.1) (Keep.of_wr W4).1) (Keep.of_wr W6).1) (Keep.of_wr W8).1) Kq9.1) Kq27.1) Kq28.1) E29.1) Kq30.1) Kq32.1) f32_1) hZ (oW hw 101 rfl) (oW hw 46 rfl) (by decide) (by decide)) q33a q33c (g := (mkF m 194 #[iv i0, iv i1, iv i2, iv s6, rv b1, iv (1 : Int32), iv v49s0, iv s64, iv s72, iv s83, rv r_27, rv r_28, rv b29, iv (1 : Int32), uu] [(.ref r_32)])) rfl (by rw [hml]; rfl) (Steps.refl _) (argsL := []) (rest := []) (lenOf own_pd14 rfl) rfl (by show 2 * 0 + _ ≤ _; exact Nat.le_of_eq rfl) (hb hby at_194) (fun _ _ => ⟨rfl, rfl, (by decide : (((((((((0 + 1) + 1) + 1) + 2) + 2) + 1) + 4) + 0) + 5) + 0 ≤ _), (by decide : (((((((((0 + 4) + 3) + 3) + 5) + 5) + 4) + 60) + 0) + 64) + 0 ≤ _)⟩)
          dsimp only [Pt.U, Pt.locs, Pt.cells, Pt.slots] at X33 l33 y33 z33 st33 hQ33
          subst l33 y33 z33
          obtain ⟨rfl, Nq33, eq33⟩ := hQ33
          have N33 := Fr.app N32 Nq33
          refine ov (B := T33.setTop (mkF m 197 #[iv i0, iv i1, iv i2, iv s6, rv b1, iv (1 : Int32), iv v49s0, iv s64, iv s72, iv s83, rv r_27, rv r_28, rv b29, iv (1 : Int32), uu] [(.int (1 : Int32))])) (fun t k => st33.trans k) ?_
          refine ov (B := T33.setTop (mkF m 199 #[iv i0, iv i1, iv i2, iv s6, rv b1, iv (1 : Int32), iv v49s0, iv s64, iv s72, iv s83, rv r_27, rv r_28, rv b29, iv (1 : Int32), iv (1 : Int32)] [])) (fun t k => XS.istore X33.here hx rfl (hb hby at_197) rfl (l' := #[iv i0, iv i1, iv i2, iv s6, rv b1, iv (1 : Int32), iv v49s0, iv s64, iv s72, iv s83, rv r_27, rv r_28, rv b29, iv (1 : Int32), iv (1 : Int32)]) rfl k) ?_
          refine oIL (n := 201) X33 hx (hb hby at_199) rfl rfl ?_
          refine oIL (n := 203) X33 hx (hb hby at_201) rfl rfl ?_
          have hc203 : (1 : Int32) = (1 : Int32) := by decide
          refine ov (B := T33.setTop (mkF m 206 #[iv i0, iv i1, iv i2, iv s6, rv b1, iv (1 : Int32), iv v49s0, iv s64, iv s72, iv s83, rv r_27, rv r_28, rv b29, iv (1 : Int32), iv (1 : Int32)] [])) (fun t k => XS.icmpNo X33.here hx rfl (hb hby at_203) rfl (teq hc203).2 k) ?_
          refine oIL (n := 208) X33 hx (hb hby at_206) rfl rfl ?_
          refine oIL (n := 210) X33 hx (hb hby at_208) rfl rfl ?_
          have hc210 : (1 : Int32) = (1 : Int32) := by decide
          refine ov (B := T33.setTop (mkF m 213 #[iv i0, iv i1, iv i2, iv s6, rv b1, iv (1 : Int32), iv v49s0, iv s64, iv s72, iv s83, rv r_27, rv r_28, rv b29, iv (1 : Int32), iv (1 : Int32)] [])) (fun t k => XS.icmpNo X33.here hx rfl (hb hby at_210) rfl (teq hc210).2 k) ?_
          refine oIC (n := 214) X33 hx (1 : Int32) (hb hby at_213) (by decide) rfl ?_
          refine oGO (n := 218) X33 hx (hb hby at_214) (by decide) (by decide) ?_
          refine own_leafW X33 hx hlk hS32 (by rw [eq33]; exact (Nat.le_refl _)) (t := .boolean) Bd.returns (by decide) (Or.inl ⟨rfl, by simp, _, rfl⟩) (hb hby at_218) (by decide) (by decide) ?_
          show Q0 Z i0 i1 i2 zc h0 n0 _ T33.heap _
          rw [eq33]
          refine ⟨?_, N33⟩
          rfl
        · refine ov (B := T17.setTop (mkF m 129 #[iv i0, iv i1, iv i2, iv s6, rv b1, iv (1 : Int32), iv v49s0, iv s64, iv s72, iv s83, .val .null, uu, uu, uu, uu] [])) (fun t k => XS.icmpYes X17.here hx rfl (pc0 := 116) (pc' := 129) rfl (hb hby at_116) rfl (feq hc116).2 (by decide) (by decide) k) ?_
          obtain ⟨T34, h34, X34, e34, E34, A34, D34, -, st34⟩ := newO X17 hx hZ hown (oW hw 0 rfl) (oW hw 1 rfl) (oW hw 2 rfl) e17 (g := (mkF m 129 #[iv i0, iv i1, iv i2, iv s6, rv b1, iv (1 : Int32), iv v49s0, iv s64, iv s72, iv s83, .val .null, uu, uu, uu, uu] [])) rfl (hb hby at_129) (by decide) (by decide)
          obtain ⟨b34, g34⟩ : ∃ z, z = T9.heap.size := ⟨_, rfl⟩
          rw [← g34] at A34 D34 st34
          have g_b34 : n0 ≤ b34 := Nat.le_trans (Nat.le_trans (Nat.le_trans (Nat.le_trans (Nat.le_trans (Nat.le_trans (Nat.le_trans Z0 E1.1) E2.1) (Keep.of_wr W4).1) (Keep.of_wr W6).1) (Keep.of_wr W8).1) Kq9.1) (Nat.le_of_eq g34.symm)
          have F34_coder : Fld Z h34 b34 "java/lang/String" "coder" "B" (.int (0 : Int32)) := D34 (Or.inr (oW hw 27 rfl)) (ty := .byte) (by decide)
          have F34_value : Fld Z h34 b34 "java/lang/String" "value" "[B" .null := D34 (Or.inr (oW hw 29 rfl)) (ty := (.array .byte)) (by decide)
          refine ov (B := T34.setTop (mkF m 132 #[iv i0, iv i1, iv i2, iv s6, rv b1, iv (1 : Int32), iv v49s0, iv s64, iv s72, iv s83, .val .null, uu, uu, uu, uu] [(.ref b34)])) (fun t k => st34 t k) ?_
          refine oDU (n := 133) X34 hx (hb hby at_132) rfl rfl ?_
          refine oIC (n := 134) X34 hx (2 : Int32) (hb hby at_133) (by decide) rfl ?_
          obtain ⟨T35, h35, kc35, X35, e35, E35, A35, st35⟩ := newP X34 hx hZ (oW hw 3 rfl) e34 (g := (mkF m 134 #[iv i0, iv i1, iv i2, iv s6, rv b1, iv (1 : Int32), iv v49s0, iv s64, iv s72, iv s83, .val .null, uu, uu, uu, uu] [(.int (2 : Int32)), (.ref b34), (.ref b34)])) rfl (hb hby at_134) rfl (by decide) (cap := 2) (by decide) (by decide) (by decide) (by decide)
          obtain ⟨b35, g35⟩ : ∃ z, z = h34.size := ⟨_, rfl⟩
          rw [← g35] at A35 st35
          have g_b35 : n0 ≤ b35 := Nat.le_trans (Nat.le_trans (Nat.le_trans (Nat.le_trans (Nat.le_trans (Nat.le_trans (Nat.le_trans (Nat.le_trans Z0 E1.1) E2.1) (Keep.of_wr W4).1) (Keep.of_wr W6).1) (Keep.of_wr W8).1) Kq9.1) E34.1) (Nat.le_of_eq g35.symm)
          have V35 : Arv Z h35 b35 kc35 .char (2 : Int32) [(.int (0 : Int32)), (.int (0 : Int32))] (.int (0 : Int32)) := (Arv.new A35 (by decide)).pad (pad_rep [] (.int (0 : Int32)) 2)
          refine ov (B := T35.setTop (mkF m 136 #[iv i0, iv i1, iv i2, iv s6, rv b1, iv (1 : Int32), iv v49s0, iv s64, iv s72, iv s83, .val .null, uu, uu, uu, uu] [(.ref b35), (.ref b34), (.ref b34)])) (fun t k => st35 t k) ?_
          refine oDU (n := 137) X35 hx (hb hby at_136) rfl rfl ?_
          refine oIC (n := 138) X35 hx (0 : Int32) (hb hby at_137) (by decide) rfl ?_
          refine oIL (n := 140) X35 hx (hb hby at_138) rfl rfl ?_
          obtain ⟨cl36, Ar36, q36, S36, M36, H36, G36⟩ := id V35
          obtain ⟨T37, h37, X37, e37, W37, st37⟩ := stC X35 hx hZ e35 Ar36 (j := (0 : Int32)) (inb_of S36 ⟨by decide, by decide⟩) (g := (mkF m 140 #[iv i0, iv i1, iv i2, iv s6, rv b1, iv (1 : Int32), iv v49s0, iv s64, iv s72, iv s83, .val .null, uu, uu, uu, uu] [(.int s72), (.int (0 : Int32)), (.ref b35), (.ref b35), (.ref b34), (.ref b34)])) rfl rfl (hb hby at_140)
          have V37 : Arv Z h37 b35 kc35 .char (2 : Int32) [(.int s72), (.int (0 : Int32))] (.int (0 : Int32)) := by have q := Arv.set Ar36 q36 S36 M36 H36 G36 (fits_nar_char _) W37 0 rfl (Nat.le_of_ble_eq_true rfl); rw [own_nc (own_cg hs72 (own_b255 i1))] at q; exact q
          have N37 := Fr.snoc X37 N17 g_b35
          refine ov (B := T37.setTop (mkF m 141 #[iv i0, iv i1, iv i2, iv s6, rv b1, iv (1 : Int32), iv v49s0, iv s64, iv s72, iv s83, .val .null, uu, uu, uu, uu] [(.ref b35), (.ref b34), (.ref b34)])) (fun t k => st37 t k) ?_
          refine oDU (n := 142) X37 hx (hb hby at_141) rfl rfl ?_
          refine oIC (n := 143) X37 hx (1 : Int32) (hb hby at_142) (by decide) rfl ?_
          refine oIL (n := 145) X37 hx (hb hby at_143) rfl rfl ?_
          obtain ⟨cl38, Ar38, q38, S38, M38, H38, G38⟩ := id V37
          obtain ⟨T39, h39, X39, e39, W39, st39⟩ := stC X37 hx hZ e37 Ar38 (j := (1 : Int32)) (inb_of S38 ⟨by decide, by decide⟩) (g := (mkF m 145 #[iv i0, iv i1, iv i2, iv s6, rv b1, iv (1 : Int32), iv v49s0, iv s64, iv s72, iv s83, .val .null, uu, uu, uu, uu] [(.int s83), (.int (1 : Int32)), (.ref b35), (.ref b35), (.ref b34), (.ref b34)])) rfl rfl (hb hby at_145)
          have V39 : Arv Z h39 b35 kc35 .char (2 : Int32) [(.int s72), (.int s83)] (.int (0 : Int32)) := by have q := Arv.set Ar38 q38 S38 M38 H38 G38 (fits_nar_char _) W39 1 rfl (Nat.le_of_ble_eq_true rfl); rw [own_nc (own_cg hs83 (own_b255 ((i1.toUInt32 >>> ((8 : Int32) &&& 31).toUInt32).toInt32)))] at q; exact q
          have N39 := Fr.snoc X39 N37 g_b35
          refine ov (B := T39.setTop (mkF m 146 #[iv i0, iv i1, iv i2, iv s6, rv b1, iv (1 : Int32), iv v49s0, iv s64, iv s72, iv s83, .val .null, uu, uu, uu, uu] [(.ref b35), (.ref b34), (.ref b34)])) (fun t k => st39 t k) ?_
          obtain ⟨_, _, ⟨T40, L40, k40, n40⟩, -, X40, ⟨Lc40, hQ40, l40, y40, z40⟩, st40⟩ := X39.specialBack hx (y := (⟨"java/lang/String", "<init>", "([C)V"⟩ : MethodName)) rfl hown (mvT hZ (oW hw 4 rfl)) (mvT hZ (oW hw 5 rfl)) (mvT hZ (oW hw 6 rfl)) (by decide) (StrChars.Road.backV (W := 1) hZ hws (kI := 4) (oW hw 1 rfl) (cs := ([s72, s83] : List Int32)) (bs := ([s72, s83] : List Int32).map (fun c => c.toInt8.toInt32)) (n := 2) g_b34 (Nat.le_trans (Nat.le_trans (Nat.le_trans (Nat.le_trans (Nat.le_trans (Nat.le_trans (Nat.le_trans (Nat.le_trans (Nat.le_trans (Nat.le_trans Z0 E1.1) E2.1) (Keep.of_wr W4).1) (Keep.of_wr W6).1) (Keep.of_wr W8).1) Kq9.1) E34.1) E35.1) (Keep.of_wr W37).1) (Keep.of_wr W39).1) (((A34.ext E35).wr W37).wr W39) (((F34_value.ext E35).other W37 (Or.inl (Nat.ne_of_lt (Nat.lt_of_lt_of_le A34.lt (Nat.le_of_eq g35.symm))))).other W39 (Or.inl (Nat.ne_of_lt (Nat.lt_of_lt_of_le A34.lt (Nat.le_of_eq g35.symm))))) (((F34_coder.ext E35).other W37 (Or.inl (Nat.ne_of_lt (Nat.lt_of_lt_of_le A34.lt (Nat.le_of_eq g35.symm))))).other W39 (Or.inl (Nat.ne_of_lt (Nat.lt_of_lt_of_le A34.lt (Nat.le_of_eq g35.symm))))) V39 (Scz.ext ((((((((((O0.ext E1).ext E2).wr W4 g_b2).wr W6 g_b2).wr W8 g_b2).keep Kq9 (allS g_b1 all0)).ext E34).ext E35).wr W37 g_b35).wr W39 g_b35).2) hcz rfl rfl (by decide) (by decide) (own_cs2 (own_cg hs72 (own_b255 i1)) (own_cg hs83 (own_b255 ((i1.toUInt32 >>> ((8 : Int32) &&& 31).toUInt32).toInt32)))) rfl (by decide) (by decide)) (g := (mkF m 146 #[iv i0, iv i1, iv i2, iv s6, rv b1, iv (1 : Int32), iv v49s0, iv s64, iv s72, iv s83, .val .null, uu, uu, uu, uu] [(.ref b35), (.ref b34), (.ref b34)])) rfl (by rw [hml]; rfl) (Steps.refl _) (a := b34) (argsL := [(.ref b35)]) (rest := [(.ref b34)]) (lenOf own_pd12 rfl) rfl (by show 2 * 0 + _ ≤ _; exact Nat.le_of_eq rfl) (hb hby at_146) (fun _ _ => ⟨rfl, e39, (by decide : (((((0 + 1) + 1) + 1) + 1) + 1) + 1 ≤ _), (by decide : (((((0 + 4) + 3) + 3) + 4) + 2) + 2 ≤ _)⟩)
          dsimp only [Pt.U, Pt.locs, Pt.cells, Pt.slots] at X40 l40 y40 z40 st40 hQ40
          subst l40 y40 z40
          obtain ⟨rfl, Nq40, Kq40, gE40, gC40, t40, kt40, u40, su40, ne40, gV40, gA40⟩ := hQ40
          have N40 := Fr.app N39 Nq40
          have g_t40 : n0 ≤ t40 := u40
          refine ov (B := T40.setTop (mkF m 149 #[iv i0, iv i1, iv i2, iv s6, rv b1, iv (1 : Int32), iv v49s0, iv s64, iv s72, iv s83, .val .null, uu, uu, uu, uu] [(.ref b34)])) (fun t k => st40.trans k) ?_
          refine ov (B := T40.setTop (mkF m 151 #[iv i0, iv i1, iv i2, iv s6, rv b1, iv (1 : Int32), iv v49s0, iv s64, iv s72, iv s83, rv b34, uu, uu, uu, uu] [])) (fun t k => XS.astore X40.here hx rfl (hb hby at_149) rfl rfl (l' := #[iv i0, iv i1, iv i2, iv s6, rv b1, iv (1 : Int32), iv v49s0, iv s64, iv s72, iv s83, rv b34, uu, uu, uu, uu]) rfl k) ?_
          refine oILN (n := 152) X40 hx (hb hby at_151) rfl rfl ?_
          refine oBP (n := 154) X40 hx (8 : Int32) (hb hby at_152) (by decide) rfl ?_
          refine ov (B := T40.setTop (mkF m 155 #[iv i0, iv i1, iv i2, iv s6, rv b1, iv (1 : Int32), iv v49s0, iv s64, iv s72, iv s83, rv b34, uu, uu, uu, uu] [(.int ((i0.toUInt32 >>> ((8 : Int32) &&& 31).toUInt32).toInt32))])) (fun t k => XS.iushr X40.here hx rfl (hb hby at_154) rfl k) ?_
          refine oSP (n := 158) X40 hx (255 : Int32) (hb hby at_155) (by decide) rfl ?_
          refine ov (B := T40.setTop (mkF m 159 #[iv i0, iv i1, iv i2, iv s6, rv b1, iv (1 : Int32), iv v49s0, iv s64, iv s72, iv s83, rv b34, uu, uu, uu, uu] [(.int (((i0.toUInt32 >>> ((8 : Int32) &&& 31).toUInt32).toInt32) &&& (255 : Int32)))])) (fun t k => XS.iand X40.here hx rfl (hb hby at_158) rfl k) ?_
          refine ov (B := T40.setTop (mkF m 160 #[iv i0, iv i1, iv i2, iv s6, rv b1, iv (1 : Int32), iv v49s0, iv s64, iv s72, iv s83, rv b34, uu, uu, uu, uu] [(.int (((i0.toUInt32 >>> ((8 : Int32) &&& 31).toUInt32).toInt32) &&& (255 : Int32)))])) (fun t k => XS.i2c X40.here hx rfl (hb hby at_159) rfl (by rw [own_i2c (own_b255 ((i0.toUInt32 >>> ((8 : Int32) &&& 31).toUInt32).toInt32))]; exact k)) ?_
          obtain ⟨_, _, ⟨T41, L41, k41, n41⟩, -, X41, ⟨Lc41, hQ41, l41, y41, z41⟩, st41⟩ := Jvm.LawKit.callS X40 hx (y := (⟨"java/lang/String", "valueOf", "(C)Ljava/lang/String;"⟩ : MethodName)) hown (mvT hZ (oW hw 30 rfl)) (mvT hZ (oW hw 31 rfl)) (mvT hZ (oW hw 2 rfl)) (mvT hZ (oW hw 32 rfl)) (by decide) (backOf (W := 0) (rmJ l Z a0 hw [] (((i0.toUInt32 >>> ((8 : Int32) &&& 31).toUInt32).toInt32) &&& (255 : Int32)) zc T40.heap n0 (Nat.le_trans (Nat.le_trans (Nat.le_trans (Nat.le_trans (Nat.le_trans (Nat.le_trans (Nat.le_trans (Nat.le_trans (Nat.le_trans (Nat.le_trans (Nat.le_trans Z0 E1.1) E2.1) (Keep.of_wr W4).1) (Keep.of_wr W6).1) (Keep.of_wr W8).1) Kq9.1) E34.1) E35.1) (Keep.of_wr W37).1) (Keep.of_wr W39).1) Kq40.1) (((((((((((O0.ext E1).ext E2).wr W4 g_b2).wr W6 g_b2).wr W8 g_b2).keep Kq9 (allS g_b1 all0)).ext E34).ext E35).wr W37 g_b35).wr W39 g_b35).keep Kq40 (allS g_b34 all0)) (by assumption) (by assumption) (own_b255 ((i0.toUInt32 >>> ((8 : Int32) &&& 31).toUInt32).toInt32))) hZ (oW hw 32 rfl) (oW hw 2 rfl) (by decide) (by decide)) (g := (mkF m 160 #[iv i0, iv i1, iv i2, iv s6, rv b1, iv (1 : Int32), iv v49s0, iv s64, iv s72, iv s83, rv b34, uu, uu, uu, uu] [(.int (((i0.toUInt32 >>> ((8 : Int32) &&& 31).toUInt32).toInt32) &&& (255 : Int32)))])) rfl (by rw [hml]; rfl) (argsL := [(.int (((i0.toUInt32 >>> ((8 : Int32) &&& 31).toUInt32).toInt32) &&& (255 : Int32)))]) (rest := []) (lenOf own_pd13 rfl) rfl (by show 2 * 0 + _ ≤ _; exact Nat.le_of_eq rfl) (hb hby at_160) (fun _ _ => ⟨rfl, rfl, (by decide : ((((((0 + 1) + 1) + 1) + 1) + 1) + 1) + 2 ≤ _), (by decide : ((((((0 + 4) + 3) + 3) + 4) + 2) + 2) + 5 ≤ _)⟩)
          dsimp only [Pt.U, Pt.locs, Pt.cells, Pt.slots] at X41 l41 y41 z41 st41 hQ41
          subst l41 y41 z41
          obtain ⟨r_41, tr_41, kr_41, rfl, Nq41, Kq41, hr_41, htr_41, f41_0, f41_1, f41_2, f41_3⟩ := hQ41
          have N41 := Fr.app N40 Nq41
          have g_r_41 : n0 ≤ r_41 := Nat.le_trans (Nat.le_trans (Nat.le_trans (Nat.le_trans (Nat.le_trans (Nat.le_trans (Nat.le_trans (Nat.le_trans (Nat.le_trans (Nat.le_trans (Nat.le_trans (Nat.le_trans Z0 E1.1) E2.1) (Keep.of_wr W4).1) (Keep.of_wr W6).1) (Keep.of_wr W8).1) Kq9.1) E34.1) E35.1) (Keep.of_wr W37).1) (Keep.of_wr W39).1) Kq40.1) hr_41
          have g_tr_41 : n0 ≤ tr_41 := Nat.le_trans (Nat.le_trans (Nat.le_trans (Nat.le_trans (Nat.le_trans (Nat.le_trans (Nat.le_trans (Nat.le_trans (Nat.le_trans (Nat.le_trans (Nat.le_trans (Nat.le_trans Z0 E1.1) E2.1) (Keep.of_wr W4).1) (Keep.of_wr W6).1) (Keep.of_wr W8).1) Kq9.1) E34.1) E35.1) (Keep.of_wr W37).1) (Keep.of_wr W39).1) Kq40.1) htr_41
          refine ov (B := T41.setTop (mkF m 163 #[iv i0, iv i1, iv i2, iv s6, rv b1, iv (1 : Int32), iv v49s0, iv s64, iv s72, iv s83, rv b34, uu, uu, uu, uu] [(.ref r_41)])) (fun t k => st41 t k) ?_
          refine ov (B := T41.setTop (mkF m 165 #[iv i0, iv i1, iv i2, iv s6, rv b1, iv (1 : Int32), iv v49s0, iv s64, iv s72, iv s83, rv b34, rv r_41, uu, uu, uu] [])) (fun t k => XS.astore X41.here hx rfl (hb hby at_163) rfl rfl (l' := #[iv i0, iv i1, iv i2, iv s6, rv b1, iv (1 : Int32), iv v49s0, iv s64, iv s72, iv s83, rv b34, rv r_41, uu, uu, uu]) rfl k) ?_
          obtain ⟨T42, h42, X42, e42, E42, A42, D42, -, st42⟩ := newO X41 hx hZ hown (oW hw 44 rfl) (oW hw 45 rfl) (oW hw 46 rfl) rfl (g := (mkF m 165 #[iv i0, iv i1, iv i2, iv s6, rv b1, iv (1 : Int32), iv v49s0, iv s64, iv s72, iv s83, rv b34, rv r_41, uu, uu, uu] [])) rfl (hb hby at_165) (by decide) (by decide)
          obtain ⟨b42, g42⟩ : ∃ z, z = T41.heap.size := ⟨_, rfl⟩
          rw [← g42] at A42 D42 st42
          have g_b42 : n0 ≤ b42 := Nat.le_trans (Nat.le_trans (Nat.le_trans (Nat.le_trans (Nat.le_trans (Nat.le_trans (Nat.le_trans (Nat.le_trans (Nat.le_trans (Nat.le_trans (Nat.le_trans (Nat.le_trans (Nat.le_trans Z0 E1.1) E2.1) (Keep.of_wr W4).1) (Keep.of_wr W6).1) (Keep.of_wr W8).1) Kq9.1) E34.1) E35.1) (Keep.of_wr W37).1) (Keep.of_wr W39).1) Kq40.1) Kq41.1) (Nat.le_of_eq g42.symm)
          have F42_name : Fld Z h42 b42 "com/example/planmend/planmend/cli/Option" "name" "Ljava/lang/String;" .null := D42 (Or.inr (oW hw 90 rfl)) (ty := (.object "java/lang/String")) (by decide)
          have F42_value : Fld Z h42 b42 "com/example/planmend/planmend/cli/Option" "value" "Ljava/lang/String;" .null := D42 (Or.inr (oW hw 92 rfl)) (ty := (.object "java/lang/String")) (by decide)
          have F42_description : Fld Z h42 b42 "com/example/planmend/planmend/cli/Option" "description" "Ljava/lang/String;" .null := D42 (Or.inr (oW hw 94 rfl)) (ty := (.object "java/lang/String")) (by decide)
          have F42_required : Fld Z h42 b42 "com/example/planmend/planmend/cli/Option" "required" "Z" (.int (0 : Int32)) := D42 (Or.inr (oW hw 96 rfl)) (ty := .boolean) (by decide)
          refine ov (B := T42.setTop (mkF m 168 #[iv i0, iv i1, iv i2, iv s6, rv b1, iv (1 : Int32), iv v49s0, iv s64, iv s72, iv s83, rv b34, rv r_41, uu, uu, uu] [(.ref b42)])) (fun t k => st42 t k) ?_
          refine oDU (n := 169) X42 hx (hb hby at_168) rfl rfl ?_
          refine oAL (n := 171) X42 hx (hb hby at_169) rfl rfl rfl ?_
          refine oAL (n := 173) X42 hx (hb hby at_171) rfl rfl rfl ?_
          refine oAL (n := 175) X42 hx (hb hby at_173) rfl rfl rfl ?_
          refine oIL (n := 177) X42 hx (hb hby at_175) rfl rfl ?_
          obtain ⟨_, _, ⟨T43, L43, k43, n43⟩, -, X43, hT43, gT43, ⟨Lc43, hQ43, l43, y43, z43⟩, st43⟩ := X42.specialBackS hx (y := (⟨"com/example/planmend/planmend/cli/Option", "<init>", "(Ljava/lang/String;Ljava/lang/String;Ljava/lang/String;Z)V"⟩ : MethodName)) rfl hown (mvT hZ (oW hw 47 rfl)) (mvT hZ (oW hw 48 rfl)) (mvT hZ (oW hw 49 rfl)) (by decide) (own_backV (VP := fun vm'' => IB Z vm'' []) (W := 1) (rmO1r l Z a0 hw [] b42 b1 b34 r_41 v49s0 .null .null .null (.int (0 : Int32)) zc t9 kt9 (45 : Int32).toInt8.toInt32 (45 : Int32).toInt8.toInt32 s6.toInt8.toInt32 [] h42 n0 (Nat.le_trans (Nat.le_trans (Nat.le_trans (Nat.le_trans (Nat.le_trans (Nat.le_trans (Nat.le_trans (Nat.le_trans (Nat.le_trans (Nat.le_trans (Nat.le_trans (Nat.le_trans (Nat.le_trans Z0 E1.1) E2.1) (Keep.of_wr W4).1) (Keep.of_wr W6).1) (Keep.of_wr W8).1) Kq9.1) E34.1) E35.1) (Keep.of_wr W37).1) (Keep.of_wr W39).1) Kq40.1) Kq41.1) E42.1) (((((((((((((O0.ext E1).ext E2).wr W4 g_b2).wr W6 g_b2).wr W8 g_b2).keep Kq9 (allS g_b1 all0)).ext E34).ext E35).wr W37 g_b35).wr W39 g_b35).keep Kq40 (allS g_b34 all0)).keep Kq41 all0).ext E42) (by assumption) (by assumption) (by assumption) (by assumption) A42 F42_name F42_value F42_description F42_required g_b42 ((((((((((((A1.ext E2).wr W4).wr W6).wr W8).keep Kq9).ext E34).ext E35).wr W37).wr W39).keep Kq40).keep Kq41).ext E42) (((((((gC9.ext E34).ext E35).other W37 (Or.inl (Nat.ne_of_lt (Nat.lt_of_lt_of_le ((((((A1.ext E2).wr W4).wr W6).wr W8).keep Kq9).ext E34).lt (Nat.le_of_eq g35.symm))))).other W39 (Or.inl (Nat.ne_of_lt (Nat.lt_of_lt_of_le ((((((A1.ext E2).wr W4).wr W6).wr W8).keep Kq9).ext E34).lt (Nat.le_of_eq g35.symm))))).keep Kq40 (ninS (Nat.ne_of_lt (Nat.lt_of_lt_of_le (((((A1.ext E2).wr W4).wr W6).wr W8).keep Kq9).lt (Nat.le_of_eq g34.symm))) nin0)).keep Kq41 nin0).ext E42) (((((((gV9.ext E34).ext E35).other W37 (Or.inl (Nat.ne_of_lt (Nat.lt_of_lt_of_le ((((((A1.ext E2).wr W4).wr W6).wr W8).keep Kq9).ext E34).lt (Nat.le_of_eq g35.symm))))).other W39 (Or.inl (Nat.ne_of_lt (Nat.lt_of_lt_of_le ((((((A1.ext E2).wr W4).wr W6).wr W8).keep Kq9).ext E34).lt (Nat.le_of_eq g35.symm))))).keep Kq40 (ninS (Nat.ne_of_lt (Nat.lt_of_lt_of_le (((((A1.ext E2).wr W4).wr W6).wr W8).keep Kq9).lt (Nat.le_of_eq g34.symm))) nin0)).keep Kq41 nin0).ext E42) (((((((gA9.ext E34).ext E35).other W37 (Nat.ne_of_lt (Nat.lt_of_lt_of_le (gA9.ext E34).lt (Nat.le_of_eq g35.symm)))).other W39 (Nat.ne_of_lt (Nat.lt_of_lt_of_le (gA9.ext E34).lt (Nat.le_of_eq g35.symm)))).keep Kq40 (ninS (Nat.ne_of_lt (Nat.lt_of_lt_of_le gA9.lt (Nat.le_of_eq g34.symm))) nin0)).keep Kq41 nin0).ext E42) (by decide) (by decide) (hv49.elim (fun h => Or.inl h.2) (fun h => Or.inr h.2)) (by simp)) (fun vm'' hW'' => own_ibW (s := (s.setVm s.vm)) hI hW'') hZ (oW hw 49 rfl) (oW hw 46 rfl) (by decide) (by decide)) (g := (mkF m 177 #[iv i0, iv i1, iv i2, iv s6, rv b1, iv (1 : Int32), iv v49s0, iv s64, iv s72, iv s83, rv b34, rv r_41, uu, uu, uu] [(.int v49s0), (.ref r_41), (.ref b34), (.ref b1), (.ref b42), (.ref b42)])) rfl (by rw [hml]; rfl) (Steps.refl _) (a := b42) (argsL := [(.ref b1), (.ref b34), (.ref r_41), (.int v49s0)]) (rest := [(.ref b42)]) (lenOf own_pd11 rfl) rfl (by show 2 * 0 + _ ≤ _; exact Nat.le_of_eq rfl) (hb hby at_177) (fun _ _ => ⟨rfl, e42, (by decide : ((((((((0 + 1) + 1) + 1) + 1) + 1) + 1) + 2) + 1) + 4 ≤ _), (by decide : ((((((((0 + 4) + 3) + 3) + 4) + 2) + 2) + 5) + 4) + 60 ≤ _)⟩)
          dsimp only [Pt.U, Pt.locs, Pt.cells, Pt.slots] at X43 l43 y43 z43 st43 hQ43 hT43 gT43
          subst l43 y43 z43
          obtain ⟨X43, hS43, hZ, hown⟩ := rebS hS0 (by rw [e42]; exact (Nat.le_trans (Nat.le_trans (Nat.le_trans (Nat.le_trans (Nat.le_trans (Nat.le_trans (Nat.le_trans (Nat.le_trans (Nat.le_trans (Nat.le_trans (Nat.le_trans (Nat.le_trans (Nat.le_trans hk0 E1.1) E2.1) (Keep.of_wr W4).1) (Keep.of_wr W6).1) (Keep.of_wr W8).1) Kq9.1) E34.1) E35.1) (Keep.of_wr W37).1) (Keep.of_wr W39).1) Kq40.1) Kq41.1) E42.1)) X43 hT43 gT43 hZ hown
          obtain ⟨lc_43, lt_43, lk_43, rfl, Nq43, Kq43, vL_43, f43_0, f43_1, f43_2, f43_3, f43_4, f43_5, f43_6, f43_7⟩ := hQ43
          have N43 := Fr.app N41 Nq43
          refine ov (B := T43.setTop (mkF m 180 #[iv i0, iv i1, iv i2, iv s6, rv b1, iv (1 : Int32), iv v49s0, iv s64, iv s72, iv s83, rv b34, rv r_41, uu, uu, uu] [(.ref b42)])) (fun t k => st43.trans k) ?_
          refine ov (B := T43.setTop (mkF m 182 #[iv i0, iv i1, iv i2, iv s6, rv b1, iv (1 : Int32), iv v49s0, iv s64, iv s72, iv s83, rv b34, rv r_41, rv b42, uu, uu] [])) (fun t k => XS.astore X43.here hx rfl (hb hby at_180) rfl rfl (l' := #[iv i0, iv i1, iv i2, iv s6, rv b1, iv (1 : Int32), iv v49s0, iv s64, iv s72, iv s83, rv b34, rv r_41, rv b42, uu, uu]) rfl k) ?_
          refine oAL (n := 184) X43 hx (hb hby at_182) rfl rfl rfl ?_
          obtain ⟨cq44, kq44, q44a, q44b, q44c⟩ := isOf hZ rfl (A42.keep Kq43)
          obtain ⟨_, _, ⟨T44, L44, k44, n44⟩, -, X44, ⟨Lc44, hQ44, l44, y44, z44⟩, st44⟩ := X43.virtualBack hx (y := (⟨"com/example/planmend/planmend/cli/Option", "takesValue", "()Z"⟩ : MethodName)) (z := (⟨"com/example/planmend/planmend/cli/Option", "takesValue", "()Z"⟩ : MethodName)) hown (mvT hZ (oW hw 97 rfl)) (mvT hZ (oW hw 98 rfl)) (notFace_of_selects (args := #[]) (mvT hZ (oW hw 100 rfl))) (mvT hZ (oW hw 100 rfl)) (mvT hZ (oW hw 99 rfl)) (by decide) (backOf (W := 0) (rmTr l Z a0 hw [] b42 b34 T43.heap n0 (Nat.le_trans (Nat.le_trans (Nat.le_trans (Nat.le_trans (Nat.le_trans (Nat.le_trans (Nat.le_trans (Nat.le_trans (Nat.le_trans (Nat.le_trans (Nat.le_trans (Nat.le_trans (Nat.le_trans (Nat.le_trans Z0 E1.1) E2.1) (Keep.of_wr W4).1) (Keep.of_wr W6).1) (Keep.of_wr W8).1) Kq9.1) E34.1) E35.1) (Keep.of_wr W37).1) (Keep.of_wr W39).1) Kq40.1) Kq41.1) E42.1) Kq43.1) f43_1) hZ (oW hw 101 rfl) (oW hw 46 rfl) (by decide) (by decide)) q44a q44c (g := (mkF m 184 #[iv i0, iv i1, iv i2, iv s6, rv b1, iv (1 : Int32), iv v49s0, iv s64, iv s72, iv s83, rv b34, rv r_41, rv b42, uu, uu] [(.ref b42)])) rfl (by rw [hml]; rfl) (Steps.refl _) (argsL := []) (rest := []) (lenOf own_pd14 rfl) rfl (by show 2 * 0 + _ ≤ _; exact Nat.le_of_eq rfl) (hb hby at_184) (fun _ _ => ⟨rfl, rfl, (by decide : (((((((((0 + 1) + 1) + 1) + 1) + 1) + 1) + 2) + 1) + 4) + 0 ≤ _), (by decide : (((((((((0 + 4) + 3) + 3) + 4) + 2) + 2) + 5) + 4) + 60) + 0 ≤ _)⟩)
          dsimp only [Pt.U, Pt.locs, Pt.cells, Pt.slots] at X44 l44 y44 z44 st44 hQ44
          subst l44 y44 z44
          obtain ⟨rfl, Nq44, eq44⟩ := hQ44
          have N44 := Fr.app N43 Nq44
          refine ov (B := T44.setTop (mkF m 187 #[iv i0, iv i1, iv i2, iv s6, rv b1, iv (1 : Int32), iv v49s0, iv s64, iv s72, iv s83, rv b34, rv r_41, rv b42, uu, uu] [(.int (1 : Int32))])) (fun t k => st44.trans k) ?_
          refine ov (B := T44.setTop (mkF m 189 #[iv i0, iv i1, iv i2, iv s6, rv b1, iv (1 : Int32), iv v49s0, iv s64, iv s72, iv s83, rv b34, rv r_41, rv b42, iv (1 : Int32), uu] [])) (fun t k => XS.istore X44.here hx rfl (hb hby at_187) rfl (l' := #[iv i0, iv i1, iv i2, iv s6, rv b1, iv (1 : Int32), iv v49s0, iv s64, iv s72, iv s83, rv b34, rv r_41, rv b42, iv (1 : Int32), uu]) rfl k) ?_
          refine oAL (n := 191) X44 hx (hb hby at_189) rfl rfl rfl ?_
          obtain ⟨cq45, kq45, q45a, q45b, q45c⟩ := isOf hZ eq44 (A42.keep Kq43)
          obtain ⟨_, _, ⟨T45, L45, k45, n45⟩, -, X45, hT45, gT45, ⟨Lc45, hQ45, l45, y45, z45⟩, st45⟩ := X44.virtualBackS hx (y := (⟨"com/example/planmend/planmend/cli/Option", "asRequired", "()Lcom/example/planmend/planmend/cli/Option;"⟩ : MethodName)) (z := (⟨"com/example/planmend/planmend/cli/Option", "asRequired", "()Lcom/example/planmend/planmend/cli/Option;"⟩ : MethodName)) hown (mvT hZ (oW hw 102 rfl)) (mvT hZ (oW hw 103 rfl)) (notFace_of_selects (args := #[]) (mvT hZ (oW hw 105 rfl))) (mvT hZ (oW hw 105 rfl)) (mvT hZ (oW hw 104 rfl)) (by decide) (own_backP (VP := fun vm'' => Lit (Z.setVm vm'') "com/example/planmend/planmend/cli/Option" 7 lc_43) (W := 0) (rmAr l Z a0 hw [] b42 zc b1 r_41 t9 kt9 b34 (45 : Int32).toInt8.toInt32 (45 : Int32).toInt8.toInt32 s6.toInt8.toInt32 lc_43 lt_43 lk_43 T43.heap n0 (Nat.le_trans (Nat.le_trans (Nat.le_trans (Nat.le_trans (Nat.le_trans (Nat.le_trans (Nat.le_trans (Nat.le_trans (Nat.le_trans (Nat.le_trans (Nat.le_trans (Nat.le_trans (Nat.le_trans (Nat.le_trans Z0 E1.1) E2.1) (Keep.of_wr W4).1) (Keep.of_wr W6).1) (Keep.of_wr W8).1) Kq9.1) E34.1) E35.1) (Keep.of_wr W37).1) (Keep.of_wr W39).1) Kq40.1) Kq41.1) E42.1) Kq43.1) ((((((((((((((O0.ext E1).ext E2).wr W4 g_b2).wr W6 g_b2).wr W8 g_b2).keep Kq9 (allS g_b1 all0)).ext E34).ext E35).wr W37 g_b35).wr W39 g_b35).keep Kq40 (allS g_b34 all0)).keep Kq41 all0).ext E42).keep Kq43 (allS g_b42 all0)) (by assumption) (by assumption) (by assumption) (by assumption) f43_0 f43_1 f43_2 (((((((((((((A1.ext E2).wr W4).wr W6).wr W8).keep Kq9).ext E34).ext E35).wr W37).wr W39).keep Kq40).keep Kq41).ext E42).keep Kq43) ((((((((gC9.ext E34).ext E35).other W37 (Or.inl (Nat.ne_of_lt (Nat.lt_of_lt_of_le ((((((A1.ext E2).wr W4).wr W6).wr W8).keep Kq9).ext E34).lt (Nat.le_of_eq g35.symm))))).other W39 (Or.inl (Nat.ne_of_lt (Nat.lt_of_lt_of_le ((((((A1.ext E2).wr W4).wr W6).wr W8).keep Kq9).ext E34).lt (Nat.le_of_eq g35.symm))))).keep Kq40 (ninS (Nat.ne_of_lt (Nat.lt_of_lt_of_le (((((A1.ext E2).wr W4).wr W6).wr W8).keep Kq9).lt (Nat.le_of_eq g34.symm))) nin0)).keep Kq41 nin0).ext E42).keep Kq43 (ninS (Nat.ne_of_lt (Nat.lt_of_lt_of_le (((((((((((A1.ext E2).wr W4).wr W6).wr W8).keep Kq9).ext E34).ext E35).wr W37).wr W39).keep Kq40).keep Kq41).lt (Nat.le_of_eq g42.symm))) nin0)) ((((((((gV9.ext E34).ext E35).other W37 (Or.inl (Nat.ne_of_lt (Nat.lt_of_lt_of_le ((((((A1.ext E2).wr W4).wr W6).wr W8).keep Kq9).ext E34).lt (Nat.le_of_eq g35.symm))))).other W39 (Or.inl (Nat.ne_of_lt (Nat.lt_of_lt_of_le ((((((A1.ext E2).wr W4).wr W6).wr W8).keep Kq9).ext E34).lt (Nat.le_of_eq g35.symm))))).keep Kq40 (ninS (Nat.ne_of_lt (Nat.lt_of_lt_of_le (((((A1.ext E2).wr W4).wr W6).wr W8).keep Kq9).lt (Nat.le_of_eq g34.symm))) nin0)).keep Kq41 nin0).ext E42).keep Kq43 (ninS (Nat.ne_of_lt (Nat.lt_of_lt_of_le (((((((((((A1.ext E2).wr W4).wr W6).wr W8).keep Kq9).ext E34).ext E35).wr W37).wr W39).keep Kq40).keep Kq41).lt (Nat.le_of_eq g42.symm))) nin0)) ((((((((gA9.ext E34).ext E35).other W37 (Nat.ne_of_lt (Nat.lt_of_lt_of_le (gA9.ext E34).lt (Nat.le_of_eq g35.symm)))).other W39 (Nat.ne_of_lt (Nat.lt_of_lt_of_le (gA9.ext E34).lt (Nat.le_of_eq g35.symm)))).keep Kq40 (ninS (Nat.ne_of_lt (Nat.lt_of_lt_of_le gA9.lt (Nat.le_of_eq g34.symm))) nin0)).keep Kq41 nin0).ext E42).keep Kq43 (ninS (Nat.ne_of_lt (Nat.lt_of_lt_of_le ((((((gA9.ext E34).ext E35).other W37 (Nat.ne_of_lt (Nat.lt_of_lt_of_le (gA9.ext E34).lt (Nat.le_of_eq g35.symm)))).other W39 (Nat.ne_of_lt (Nat.lt_of_lt_of_le (gA9.ext E34).lt (Nat.le_of_eq g35.symm)))).keep Kq40 (ninS (Nat.ne_of_lt (Nat.lt_of_lt_of_le gA9.lt (Nat.le_of_eq g34.symm))) nin0)).keep Kq41 nin0).lt (Nat.le_of_eq g42.symm))) nin0)) (by decide) (by decide) f43_4 f43_5 f43_6 f43_7) (fun vm'' hW'' => own_litL (s := s) (vm := T43.vm) vL_43 hW'') hZ (oW hw 106 rfl) (oW hw 46 rfl) (by decide) (by decide)) q45a q45c (g := (mkF m 191 #[iv i0, iv i1, iv i2, iv s6, rv b1, iv (1 : Int32), iv v49s0, iv s64, iv s72, iv s83, rv b34, rv r_41, rv b42, iv (1 : Int32), uu] [(.ref b42)])) rfl (by rw [hml]; rfl) (Steps.refl _) (argsL := []) (rest := []) (lenOf own_pd15 rfl) rfl (by show 2 * 0 + _ ≤ _; exact Nat.le_of_eq rfl) (hb hby at_191) (fun _ _ => ⟨rfl, eq44, (by decide : ((((((((((0 + 1) + 1) + 1) + 1) + 1) + 1) + 2) + 1) + 4) + 0) + 5 ≤ _), (by decide : ((((((((((0 + 4) + 3) + 3) + 4) + 2) + 2) + 5) + 4) + 60) + 0) + 64 ≤ _)⟩)
          dsimp only [Pt.U, Pt.locs, Pt.cells, Pt.slots] at X45 l45 y45 z45 st45 hQ45 hT45 gT45
          subst l45 y45 z45
          obtain ⟨X45, hS45, hZ, hown⟩ := rebS hS43 (by rw [eq44]; exact (Nat.le_refl _)) X45 hT45 gT45 hZ hown
          have hlit45_lc_43 := Lit.stays (s := s) vL_43 hT45.1
          obtain ⟨r_45, rfl, Nq45, Kq45, f45_0, f45_1⟩ := hQ45
          have N45 := Fr.app N44 Nq45
          refine ov (B := T45.setTop (mkF m 194 #[iv i0, iv i1, iv i2, iv s6, rv b1, iv (1 : Int32), iv v49s0, iv s64, iv s72, iv s83, rv b34, rv r_41, rv b42, iv (1 : Int32), uu] [(.ref r_45)])) (fun t k => st45.trans k) ?_
          obtain ⟨cq46, kq46, q46a, q46b, q46c⟩ := isOf hZ rfl f45_0
          obtain ⟨_, _, ⟨T46, L46, k46, n46⟩, -, X46, ⟨Lc46, hQ46, l46, y46, z46⟩, st46⟩ := X45.virtualBack hx (y := (⟨"com/example/planmend/planmend/cli/Option", "takesValue", "()Z"⟩ : MethodName)) (z := (⟨"com/example/planmend/planmend/cli/Option", "takesValue", "()Z"⟩ : MethodName)) hown (mvT hZ (oW hw 97 rfl)) (mvT hZ (oW hw 98 rfl)) (notFace_of_selects (args := #[]) (mvT hZ (oW hw 100 rfl))) (mvT hZ (oW hw 100 rfl)) (mvT hZ (oW hw 99 rfl)) (by decide) (backOf (W := 0) (rmTr l Z a0 hw [] r_45 b34 T45.heap n0 (Nat.le_trans (Nat.le_trans (Nat.le_trans (Nat.le_trans (Nat.le_trans (Nat.le_trans (Nat.le_trans (Nat.le_trans (Nat.le_trans (Nat.le_trans (Nat.le_trans (Nat.le_trans (Nat.le_trans (Nat.le_trans (Nat.le_trans Z0 E1.1) E2.1) (Keep.of_wr W4).1) (Keep.of_wr W6).1) (Keep.of_wr W8).1) Kq9.1) E34.1) E35.1) (Keep.of_wr W37).1) (Keep.of_wr W39).1) Kq40.1) Kq41.1) E42.1) Kq43.1) Kq45.1) f45_1) hZ (oW hw 101 rfl) (oW hw 46 rfl) (by decide) (by decide)) q46a q46c (g := (mkF m 194 #[iv i0, iv i1, iv i2, iv s6, rv b1, iv (1 : Int32), iv v49s0, iv s64, iv s72, iv s83, rv b34, rv r_41, rv b42, iv (1 : Int32), uu] [(.ref r_45)])) rfl (by rw [hml]; rfl) (Steps.refl _) (argsL := []) (rest := []) (lenOf own_pd14 rfl) rfl (by show 2 * 0 + _ ≤ _; exact Nat.le_of_eq rfl) (hb hby at_194) (fun _ _ => ⟨rfl, rfl, (by decide : (((((((((((0 + 1) + 1) + 1) + 1) + 1) + 1) + 2) + 1) + 4) + 0) + 5) + 0 ≤ _), (by decide : (((((((((((0 + 4) + 3) + 3) + 4) + 2) + 2) + 5) + 4) + 60) + 0) + 64) + 0 ≤ _)⟩)
          dsimp only [Pt.U, Pt.locs, Pt.cells, Pt.slots] at X46 l46 y46 z46 st46 hQ46
          subst l46 y46 z46
          obtain ⟨rfl, Nq46, eq46⟩ := hQ46
          have N46 := Fr.app N45 Nq46
          refine ov (B := T46.setTop (mkF m 197 #[iv i0, iv i1, iv i2, iv s6, rv b1, iv (1 : Int32), iv v49s0, iv s64, iv s72, iv s83, rv b34, rv r_41, rv b42, iv (1 : Int32), uu] [(.int (1 : Int32))])) (fun t k => st46.trans k) ?_
          refine ov (B := T46.setTop (mkF m 199 #[iv i0, iv i1, iv i2, iv s6, rv b1, iv (1 : Int32), iv v49s0, iv s64, iv s72, iv s83, rv b34, rv r_41, rv b42, iv (1 : Int32), iv (1 : Int32)] [])) (fun t k => XS.istore X46.here hx rfl (hb hby at_197) rfl (l' := #[iv i0, iv i1, iv i2, iv s6, rv b1, iv (1 : Int32), iv v49s0, iv s64, iv s72, iv s83, rv b34, rv r_41, rv b42, iv (1 : Int32), iv (1 : Int32)]) rfl k) ?_
          refine oIL (n := 201) X46 hx (hb hby at_199) rfl rfl ?_
          refine oIL (n := 203) X46 hx (hb hby at_201) rfl rfl ?_
          have hc203 : (1 : Int32) = (1 : Int32) := by decide
          refine ov (B := T46.setTop (mkF m 206 #[iv i0, iv i1, iv i2, iv s6, rv b1, iv (1 : Int32), iv v49s0, iv s64, iv s72, iv s83, rv b34, rv r_41, rv b42, iv (1 : Int32), iv (1 : Int32)] [])) (fun t k => XS.icmpNo X46.here hx rfl (hb hby at_203) rfl (teq hc203).2 k) ?_
          refine oIL (n := 208) X46 hx (hb hby at_206) rfl rfl ?_
          refine oIL (n := 210) X46 hx (hb hby at_208) rfl rfl ?_
          have hc210 : (1 : Int32) = (1 : Int32) := by decide
          refine ov (B := T46.setTop (mkF m 213 #[iv i0, iv i1, iv i2, iv s6, rv b1, iv (1 : Int32), iv v49s0, iv s64, iv s72, iv s83, rv b34, rv r_41, rv b42, iv (1 : Int32), iv (1 : Int32)] [])) (fun t k => XS.icmpNo X46.here hx rfl (hb hby at_210) rfl (teq hc210).2 k) ?_
          refine oIC (n := 214) X46 hx (1 : Int32) (hb hby at_213) (by decide) rfl ?_
          refine oGO (n := 218) X46 hx (hb hby at_214) (by decide) (by decide) ?_
          refine own_leafW X46 hx hlk hS45 (by rw [eq46]; exact (Nat.le_refl _)) (t := .boolean) Bd.returns (by decide) (Or.inl ⟨rfl, by simp, _, rfl⟩) (hb hby at_218) (by decide) (by decide) ?_
          show Q0 Z i0 i1 i2 zc h0 n0 _ T46.heap _
          rw [eq46]
          refine ⟨?_, N46⟩
          rfl
set_option maxRecDepth 65536 in
set_option maxHeartbeats 40000000 in
theorem comes_1 {Post : Tables → Env → Array Value → State → Outcome → State → Prop} (hpost : ∀ tb e args s v u, (limb_1_1.after args s (.returned v) u = true ∧ limb_1_2.after args s (.returned v) u = true ∧ True) → ReturnedEndW s (.returned v) u (Jvm.fieldLocs frame_1_writes args s ++ Jvm.arrayLocs frame_1_arrays args s ++ Jvm.staticLocs frame_1_statics s) 40 3264 → Post tb e args s (.returned v) u) :
    ArmFor flags0 classFile x code maxLocals ret World_1 tables_1 room_1 Calls_1 rest_1 Pre_1 Post := by
  intro l hfl _ _ p e ha hc hk s m args below hf hA hF happ hP
  obtain ⟨hcalls, hrest, hpre⟩ := hP
  obtain ⟨-, -, -, hnamed, -, -, -, hat⟩ := (Spec.applies_iff hf).mp happ
  obtain ⟨hg, hn⟩ := and_e (Cond.before_iff.mp (show (Jvm.Cond.and given_1 narrow_1).before args s = true from hpre))
  obtain ⟨g1, g2⟩ := and_e hg
  obtain ⟨g3, g4⟩ := and_e g2
  obtain ⟨g5, g6⟩ := and_e g4
  obtain ⟨w0, w1, w2, rfl⟩ : ∃ w0 w1 w2 : Value, args = #[w0, w1, w2] := by
    have hs : args.size = 3 := by simpa [Cond.value, given_1] using g1
    obtain ⟨L⟩ := args
    match L, hs with
    | [w0, w1, w2], _ => exact ⟨w0, w1, w2, rfl⟩
  have hw := fun d (hd : d ∈ tables_1) => atoms_spec (ws := Jvm.Cond.code x code maxLocals ret :: tables_1) hat d (List.mem_cons_of_mem _ hd)
  have hfit : Fit s := fun {y c} hc i hi => by
    obtain ⟨ha, rfl⟩ := Array.getElem?_eq_some_iff.mp hc
    have q := List.all_eq_true.mp ((Array.all_eq_true_iff_forall_mem.mp hF) _ (Array.getElem_mem ha)) i (List.mem_range.mpr hi)
    simpa [Array.getElem?_eq_getElem hi] using q
  obtain ⟨i0, ei0⟩ := is_v g3
  obtain rfl : w0 = (.int i0) := Option.some.inj ei0
  obtain ⟨i1, ei1⟩ := is_v g5
  obtain rfl : w1 = (.int i1) := Option.some.inj ei1
  obtain ⟨i2, ei2⟩ := is_v g6
  obtain rfl : w2 = (.int i2) := Option.some.inj ei2
  obtain ⟨hsets, hown0⟩ := atoms_of _ (rest_1_c_eq ▸ (show rest_1_c.before _ s = true from hrest))
  have hr0 := Cond.before_iff.mp hown0
  obtain ⟨zc, evz⟩ := is_v (Cond.before_iff.mp (hsets _ (List.mem_of_getElem? (i := 1) rfl)))
  have Scz : Sta s s.heap "java/lang/String" "COMPACT_STRINGS" "Z" (.int zc) := Sta.start evz (Or.inl (hsets _ (List.mem_of_getElem? (i := 0) rfl)))
  have hcz : ¬ zc = 0 := fun q => by have z := not_v (Cond.before_iff.mp (hsets _ (List.mem_of_getElem? (i := 2) rfl))); rw [eq_i evz rfl (by rw [q])] at z; cases z
  have hcw : Jvm.Lit.compactW.before _ s = true := (hsets _ (List.mem_of_getElem? (i := 2) rfl))
  have hch : Jvm.Lit.constHeld s "java/lang/String" 7 := hcalls.1 _ (List.mem_of_getElem? (i := 2) rfl)
  have hco : Jvm.Lit.constHeld s "com/example/planmend/planmend/cli/Option" 7 := hcalls.1 _ (List.mem_of_getElem? (i := 0) rfl)
  obtain ⟨n, o, h1, h2, h3, _, L, rfl, ⟨rfl, N⟩, hq⟩ := rm0 l s _ hw tables_1 i0 i1 i2 zc s.heap s.heap.size (Nat.le_refl _) (Old.start s) Scz hcz hch hcw hco p e ha hc hk s m _ below hf ((Spec.applies_iff_loose hf).mp happ).1 ⟨rfl, State.Warmed39.refl s, rfl, IB.start⟩ trivial
  refine ⟨n, _, h1, h2, h3, hpost _ _ _ _ _ _ ⟨Cond.after_iff.mpr rfl, Cond.after_iff.mpr (eq_i res_at (Term.int_eval (1)) rfl), trivial⟩ ⟨hq.1, hq.2.1, hq.2.2.1, (hq.2.2.2.sift fun y hy => Or.inr (N y hy)).mono (by decide) (by decide)⟩⟩
theorem main_1_1 : Claimed_1_1 := comes_1 fun _ _ _ _ _ _ h hF => ⟨h.1, hF⟩
theorem main_1_2 : Claimed_1_2 := comes_1 fun _ _ _ _ _ _ h hF => ⟨h.2.1, hF⟩
end Jvm.Pilot.@@N@@
namespace Jvm.Pilot.@@N@@
open Jvm Jvm.ClassFile Sem Op Lib Jvm.Free Jvm.Stand Jvm.Pilot.@@N@@.Jvm.D
/-! MADE BY PROGRAM (witnessworld.py) out of the Statement's table words and the real class files: 22 classes; the members and pool entries that the words name. The judged class is class 1, her method 1. -/
namespace start1
open Jvm.ClassFile
def u (s : String) : CpInfo := .utf8 (stringToUtf16 s)
/-- a pool by its gaps: so many unusable entries, then the entry; so many at the end -/
def gap : Nat → List CpInfo → List CpInfo
  | 0, r => r
  | n + 1, r => .unusable :: gap n r
def poolList (es : List (Nat × CpInfo)) (last : Nat) : List CpInfo := es.foldr (fun e r => gap e.1 (e.2 :: r)) (gap last [])
def pool (es : List (Nat × CpInfo)) (last : Nat) : Array CpInfo := ⟨poolList es last⟩
def fileOf (pool : Array CpInfo) (this : Nat) (attrs : Array Attribute := #[]) (ms : Array MethodInfo := #[]) (fl : Nat := 33) (sup : Nat := 0) (ifs : Array Nat := #[]) (fds : Array FieldInfo := #[]) : ClassFile where
  minorVersion := 0
  majorVersion := 65
  constantPool := pool
  accessFlags := fl
  thisClass := this
  superClass := sup
  interfaces := ifs
  fields := fds
  methods := ms
  attributes := attrs
def plain (name : String) (sup : Option ClassId) : Class where
  name := name
  kind := .ordinary
  loader := none
  accessFlags := 33
  super := sup
  interfaces := #[]
  cf := none
  fields := #[]
  methods := #[]
  instanceTypes := #[]
  staticTypes := #[]
  resolved := #[]
  callSites := []
  init := .initialized
  statics := none
  mirror := none

def pool0 : Array CpInfo := pool [(5, u "<init>"), (0, u "()V"), (1, .class_ 10), (1, u "java/lang/Object")] 113

def k0c0 : Code := { maxStack := 0, maxLocals := 1, code := object_method_1_code, exceptionTable := #[], attributes := #[] }
def k0m0 : Method := { name := "<init>", desc := "()V", sig := { parameters := [], returnType := none }, accessFlags := 1, code := some k0c0 }
/-- java/lang/Object -/
def k0 : Class := { plain "java/lang/Object" none with
  accessFlags := 33
  interfaces := #[]
  cf := some (fileOf pool0 8 #[] #[{ accessFlags := 1, nameIndex := 5, descriptorIndex := 6, attributes := #[] }] 33 0 #[] #[])
  fields := #[]
  methods := #[k0m0]
  instanceTypes := #[]
  staticTypes := #[]
  resolved := Array.replicate 124 none
  statics := none }

def pool1 : Array CpInfo := pool [(2, .class_ 4), (1, u "java/lang/Object"), (0, u "<init>"), (0, u "()V"), (0, .class_ 8), (0, u "java/lang/String"), (0, .methodref 7 10), (0, .nameAndType 5 11), (0, u "([C)V"), (0, .methodref 7 13), (0, .nameAndType 14 15), (0, u "valueOf"), (0, u "(C)Ljava/lang/String;"), (0, .class_ 17), (0, u "com/example/planmend/planmend/cli/Option"), (0, .methodref 16 19), (0, .nameAndType 5 20), (0, u "(Ljava/lang/String;Ljava/lang/String;Ljava/lang/String;Z)V"), (0, .methodref 16 22), (0, .nameAndType 23 24), (0, u "takesValue"), (0, u "()Z"), (0, .methodref 16 26), (0, .nameAndType 27 28), (0, u "asRequired"), (0, u "()Lcom/example/planmend/planmend/cli/Option;"), (0, .class_ 30), (0, u "com/example/planmend/planmend/cli/OptionTakesValuePinLaw"), (2, u "law"), (0, u "(III)Z")] 3

def k1m0 : Method := { name := "<init>", desc := "()V", sig := { parameters := [], returnType := none }, accessFlags := 1, code := none }
def k1c1 : Code := { maxStack := 6, maxLocals := 15, code := code, exceptionTable := #[], attributes := #[] }
def k1m1 : Method := { name := "law", desc := "(III)Z", sig := { parameters := [.int, .int, .int], returnType := some .boolean }, accessFlags := 9, code := some k1c1 }
/-- com/example/planmend/planmend/cli/OptionTakesValuePinLaw -/
def k1 : Class := { plain "com/example/planmend/planmend/cli/OptionTakesValuePinLaw" (some 0) with
  accessFlags := 49
  interfaces := #[]
  cf := some (fileOf pool1 29 #[] #[{ accessFlags := 1, nameIndex := 5, descriptorIndex := 6, attributes := #[] }, { accessFlags := 9, nameIndex := 33, descriptorIndex := 34, attributes := #[] }] 49 2 #[] #[])
  fields := #[]
  methods := #[k1m0, k1m1]
  instanceTypes := #[]
  staticTypes := #[]
  resolved := Array.replicate 38 none
  statics := none }

def pool2 : Array CpInfo := pool [(1, .class_ 2), (0, u "java/io/Serializable"), (0, .class_ 4), (0, u "java/lang/Object")] 2

/-- java/io/Serializable -/
def k2 : Class := { plain "java/io/Serializable" (some 0) with
  accessFlags := 1537
  interfaces := #[]
  cf := some (fileOf pool2 1 #[] #[] 1537 3 #[] #[])
  fields := #[]
  methods := #[]
  instanceTypes := #[]
  staticTypes := #[]
  resolved := Array.replicate 7 none
  statics := none }

def pool3 : Array CpInfo := pool [(1, .class_ 2), (0, u "java/lang/Comparable"), (0, .class_ 4), (0, u "java/lang/Object")] 7

/-- java/lang/Comparable -/
def k3 : Class := { plain "java/lang/Comparable" (some 0) with
  accessFlags := 1537
  interfaces := #[]
  cf := some (fileOf pool3 1 #[] #[] 1537 3 #[] #[])
  fields := #[]
  methods := #[]
  instanceTypes := #[]
  staticTypes := #[]
  resolved := Array.replicate 12 none
  statics := none }

def pool4 : Array CpInfo := pool [(2, .class_ 4), (1, u "java/lang/CharSequence"), (42, .class_ 48), (0, u "java/lang/CharSequence$1CodePointIterator"), (10, .class_ 60), (0, u "java/lang/CharSequence$1CharIterator"), (5, .class_ 67), (0, u "java/lang/Object")] 63

/-- java/lang/CharSequence -/
def k4 : Class := { plain "java/lang/CharSequence" (some 0) with
  accessFlags := 1537
  interfaces := #[]
  cf := some (fileOf pool4 2 #[.nestMembers #[47, 59]] #[] 1537 66 #[] #[])
  fields := #[]
  methods := #[]
  instanceTypes := #[]
  staticTypes := #[]
  resolved := Array.replicate 131 none
  statics := none }

def pool5 : Array CpInfo := pool [(1, .class_ 2), (0, u "java/lang/constant/Constable"), (0, .class_ 4), (0, u "java/lang/Object")] 6

/-- java/lang/constant/Constable -/
def k5 : Class := { plain "java/lang/constant/Constable" (some 0) with
  accessFlags := 1537
  interfaces := #[]
  cf := some (fileOf pool5 1 #[] #[] 1537 3 #[] #[])
  fields := #[]
  methods := #[]
  instanceTypes := #[]
  staticTypes := #[]
  resolved := Array.replicate 11 none
  statics := none }

def pool6 : Array CpInfo := pool [(1, .class_ 2), (0, u "java/lang/constant/ConstantDesc"), (0, .class_ 4), (0, u "java/lang/Object")] 32

/-- java/lang/constant/ConstantDesc -/
def k6 : Class := { plain "java/lang/constant/ConstantDesc" (some 0) with
  accessFlags := 1537
  interfaces := #[]
  cf := some (fileOf pool6 1 #[] #[] 1537 3 #[] #[])
  fields := #[]
  methods := #[]
  instanceTypes := #[]
  staticTypes := #[]
  resolved := Array.replicate 37 none
  statics := none }

def pool7 : Array CpInfo := pool [(1, .methodref 2 3), (0, .class_ 4), (0, .nameAndType 5 6), (0, u "java/lang/Object"), (0, u "<init>"), (0, u "()V"), (0, .string 8), (0, u ""), (0, .fieldref 10 11), (0, .class_ 12), (0, .nameAndType 13 14), (0, u "java/lang/String"), (0, u "value"), (0, u "[B"), (0, .fieldref 10 16), (0, .nameAndType 17 18), (0, u "coder"), (0, u "B"), (2, u "hash"), (0, u "I"), (2, u "hashIsZero"), (0, u "Z"), (0, .methodref 10 28), (0, .nameAndType 5 29), (0, u "([CIILjava/lang/Void;)V"), (8, .fieldref 10 39), (0, .nameAndType 40 26), (0, u "COMPACT_STRINGS"), (1, .class_ 44), (1, u "java/lang/StringUTF16"), (0, u "compress"), (1, .methodref 42 48), (0, .nameAndType 49 50), (0, u "coderFromArrayLen"), (0, u "([BI)B"), (2, u "toBytes"), (53, .class_ 109), (1, u "java/lang/StringLatin1"), (67, .methodref 42 178), (0, .nameAndType 45 179), (0, u "([CII)[B"), (29, .methodref 10 210), (0, .nameAndType 5 211), (0, u "([BB)V"), (122, u "()I"), (0, .methodref 10 336), (0, .nameAndType 17 337), (0, u "()B"), (31, u "(C)Z"), (6, u "([BI[BII)I"), (128, .methodref 10 506), (0, .nameAndType 507 334), (0, u "length"), (51, .class_ 561), (1, u "jdk/internal/util/ArraysSupport"), (0, u "mismatch"), (12, .class_ 576), (0, u "java/lang/CharSequence"), (22, u "CASE_INSENSITIVE_ORDER"), (0, u "Ljava/util/Comparator;"), (6, .methodref 559 608), (0, .nameAndType 562 376), (15, .methodref 10 625), (0, .nameAndType 626 627), (0, u "startsWith"), (0, u "(Ljava/lang/String;I)Z"), (154, u "valueOf"), (0, u "(C)Ljava/lang/String;"), (226, u "([C)V"), (4, .methodref 107 1016), (0, .nameAndType 1017 369), (0, u "canEncode"), (0, .methodref 107 1019), (0, .nameAndType 53 1020), (0, u "(C)[B"), (80, u "serialPersistentFields"), (0, u "[Ljava/io/ObjectStreamField;"), (0, .class_ 1104), (0, u "java/lang/String$CaseInsensitiveComparator"), (1, .class_ 1107), (0, u "java/io/Serializable"), (0, .class_ 1109), (0, u "java/lang/Comparable"), (0, .class_ 1111), (0, u "java/lang/constant/Constable"), (0, .class_ 1113), (0, u "java/lang/constant/ConstantDesc"), (2, u "serialVersionUID"), (0, u "J"), (3, u "REPL"), (0, u "C"), (2, u "LATIN1"), (1, u "UTF16"), (129, u "(Ljava/lang/String;)Z")] 193

def k7m0 : Method := { name := "<init>", desc := "()V", sig := { parameters := [], returnType := none }, accessFlags := 1, code := none }
def k7c1 : Code := { maxStack := 5, maxLocals := 2, code := jdk_42_method_3_code, exceptionTable := #[], attributes := #[] }
def k7m1 : Method := { name := "<init>", desc := "([C)V", sig := { parameters := [(.array .char)], returnType := none }, accessFlags := 1, code := some k7c1 }
def k7c2 : Code := { maxStack := 2, maxLocals := 1, code := jdk_42_method_54_code, exceptionTable := #[], attributes := #[] }
def k7m2 : Method := { name := "length", desc := "()I", sig := { parameters := [], returnType := some .int }, accessFlags := 1, code := some k7c2 }
def k7c3 : Code := { maxStack := 5, maxLocals := 8, code := jdk_42_method_75_code, exceptionTable := #[], attributes := #[] }
def k7m3 : Method := { name := "startsWith", desc := "(Ljava/lang/String;I)Z", sig := { parameters := [(.object "java/lang/String"), .int], returnType := some .boolean }, accessFlags := 1, code := some k7c3 }
def k7c4 : Code := { maxStack := 3, maxLocals := 2, code := jdk_42_method_76_code, exceptionTable := #[], attributes := #[] }
def k7m4 : Method := { name := "startsWith", desc := "(Ljava/lang/String;)Z", sig := { parameters := [(.object "java/lang/String")], returnType := some .boolean }, accessFlags := 1, code := some k7c4 }
def k7c5 : Code := { maxStack := 4, maxLocals := 1, code := jdk_42_method_139_code, exceptionTable := #[], attributes := #[] }
def k7m5 : Method := { name := "valueOf", desc := "(C)Ljava/lang/String;", sig := { parameters := [.char], returnType := some (.object "java/lang/String") }, accessFlags := 9, code := some k7c5 }
def k7c6 : Code := { maxStack := 4, maxLocals := 6, code := jdk_42_method_149_code, exceptionTable := #[], attributes := #[] }
def k7m6 : Method := { name := "<init>", desc := "([CIILjava/lang/Void;)V", sig := { parameters := [(.array .char), .int, .int, (.object "java/lang/Void")], returnType := none }, accessFlags := 2, code := some k7c6 }
def k7c7 : Code := { maxStack := 2, maxLocals := 3, code := jdk_42_method_151_code, exceptionTable := #[], attributes := #[] }
def k7m7 : Method := { name := "<init>", desc := "([BB)V", sig := { parameters := [(.array .byte), .byte], returnType := none }, accessFlags := 0, code := some k7c7 }
def k7c8 : Code := { maxStack := 1, maxLocals := 1, code := jdk_42_method_152_code, exceptionTable := #[], attributes := #[] }
def k7m8 : Method := { name := "coder", desc := "()B", sig := { parameters := [], returnType := some .byte }, accessFlags := 0, code := some k7c8 }
/-- java/lang/String -/
def k7 : Class := { plain "java/lang/String" (some 0) with
  accessFlags := 49
  interfaces := #[2, 3, 4, 5, 6]
  cf := some (fileOf pool7 10 #[.nestMembers #[1103]] #[{ accessFlags := 1, nameIndex := 5, descriptorIndex := 6, attributes := #[] }, { accessFlags := 1, nameIndex := 5, descriptorIndex := 1010, attributes := #[] }, { accessFlags := 1, nameIndex := 507, descriptorIndex := 334, attributes := #[] }, { accessFlags := 1, nameIndex := 626, descriptorIndex := 627, attributes := #[] }, { accessFlags := 1, nameIndex := 626, descriptorIndex := 1257, attributes := #[] }, { accessFlags := 9, nameIndex := 782, descriptorIndex := 783, attributes := #[] }, { accessFlags := 2, nameIndex := 5, descriptorIndex := 29, attributes := #[] }, { accessFlags := 0, nameIndex := 5, descriptorIndex := 211, attributes := #[] }, { accessFlags := 0, nameIndex := 17, descriptorIndex := 337, attributes := #[] }] 49 2 #[1106, 1108, 575, 1110, 1112] #[{ accessFlags := 18, nameIndex := 13, descriptorIndex := 14, attributes := #[] }, { accessFlags := 18, nameIndex := 17, descriptorIndex := 18, attributes := #[] }, { accessFlags := 2, nameIndex := 21, descriptorIndex := 22, attributes := #[] }, { accessFlags := 2, nameIndex := 25, descriptorIndex := 26, attributes := #[] }, { accessFlags := 26, nameIndex := 1116, descriptorIndex := 1117, attributes := #[] }, { accessFlags := 24, nameIndex := 40, descriptorIndex := 26, attributes := #[] }, { accessFlags := 26, nameIndex := 1101, descriptorIndex := 1102, attributes := #[] }, { accessFlags := 26, nameIndex := 1121, descriptorIndex := 1122, attributes := #[] }, { accessFlags := 25, nameIndex := 599, descriptorIndex := 600, attributes := #[] }, { accessFlags := 24, nameIndex := 1125, descriptorIndex := 18, attributes := #[] }, { accessFlags := 24, nameIndex := 1127, descriptorIndex := 18, attributes := #[] }])
  fields := #[{ name := "value", type := (.array .byte), accessFlags := 18, slot := 0, constantValue := 0 }, { name := "coder", type := .byte, accessFlags := 18, slot := 1, constantValue := 0 }, { name := "hash", type := .int, accessFlags := 2, slot := 2, constantValue := 0 }, { name := "hashIsZero", type := .boolean, accessFlags := 2, slot := 3, constantValue := 0 }, { name := "serialVersionUID", type := .long, accessFlags := 26, slot := 0, constantValue := 0 }, { name := "COMPACT_STRINGS", type := .boolean, accessFlags := 24, slot := 1, constantValue := 0 }, { name := "serialPersistentFields", type := (.array (.object "java/io/ObjectStreamField")), accessFlags := 26, slot := 2, constantValue := 0 }, { name := "REPL", type := .char, accessFlags := 26, slot := 3, constantValue := 0 }, { name := "CASE_INSENSITIVE_ORDER", type := (.object "java/util/Comparator"), accessFlags := 25, slot := 4, constantValue := 0 }, { name := "LATIN1", type := .byte, accessFlags := 24, slot := 5, constantValue := 0 }, { name := "UTF16", type := .byte, accessFlags := 24, slot := 6, constantValue := 0 }]
  methods := #[k7m0, k7m1, k7m2, k7m3, k7m4, k7m5, k7m6, k7m7, k7m8]
  instanceTypes := #[(.array .byte), .byte, .int, .boolean]
  staticTypes := #[.long, .boolean, (.array (.object "java/io/ObjectStreamField")), .char, (.object "java/util/Comparator"), .byte, .byte]
  resolved := Array.replicate 1451 none
  statics := some 0 }

def pool8 : Array CpInfo := pool [(6, .class_ 8), (1, u "java/lang/Object"), (0, u "<init>"), (0, u "()V"), (1, .class_ 14), (1, u "java/lang/StringUTF16"), (31, u "$assertionsDisabled"), (0, u "Z"), (13, u "HI_BYTE_SHIFT"), (0, u "I"), (2, u "LO_BYTE_SHIFT"), (49, .methodref 12 116), (0, .nameAndType 117 118), (0, u "compress"), (0, u "([CI[BII)I"), (3, u "([CII)[B"), (138, u "coderFromArrayLen"), (0, u "([BI)B"), (106, .class_ 371), (1, u "java/lang/StringUTF16$LinesSpliterator"), (58, u "MAX_LENGTH"), (196, .class_ 628), (0, u "java/lang/StringUTF16$CodePointsSpliterator"), (0, .class_ 630), (0, u "java/lang/StringUTF16$CharsSpliterator")] 4

def k8m0 : Method := { name := "<init>", desc := "()V", sig := { parameters := [], returnType := none }, accessFlags := 0, code := none }
def k8c1 : Code := { maxStack := 2, maxLocals := 2, code := jdk_52_method_15_code, exceptionTable := #[], attributes := #[] }
def k8m1 : Method := { name := "coderFromArrayLen", desc := "([BI)B", sig := { parameters := [(.array .byte), .int], returnType := some .byte }, accessFlags := 8, code := some k8c1 }
def k8c2 : Code := { maxStack := 5, maxLocals := 6, code := jdk_52_method_16_code, exceptionTable := #[], attributes := #[] }
def k8m2 : Method := { name := "compress", desc := "([CII)[B", sig := { parameters := [(.array .char), .int, .int], returnType := some (.array .byte) }, accessFlags := 9, code := some k8c2 }
def k8c3 : Code := { maxStack := 3, maxLocals := 7, code := jdk_52_method_21_code, exceptionTable := #[], attributes := #[] }
def k8m3 : Method := { name := "compress", desc := "([CI[BII)I", sig := { parameters := [(.array .char), .int, (.array .byte), .int, .int], returnType := some .int }, accessFlags := 9, code := some k8c3 }
/-- java/lang/StringUTF16 -/
def k8 : Class := { plain "java/lang/StringUTF16" (some 0) with
  accessFlags := 48
  interfaces := #[]
  cf := some (fileOf pool8 12 #[.nestMembers #[627, 629, 369]] #[{ accessFlags := 0, nameIndex := 9, descriptorIndex := 10, attributes := #[] }, { accessFlags := 8, nameIndex := 261, descriptorIndex := 262, attributes := #[] }, { accessFlags := 9, nameIndex := 117, descriptorIndex := 122, attributes := #[] }, { accessFlags := 9, nameIndex := 117, descriptorIndex := 118, attributes := #[] }] 48 6 #[] #[{ accessFlags := 26, nameIndex := 61, descriptorIndex := 62, attributes := #[] }, { accessFlags := 26, nameIndex := 65, descriptorIndex := 62, attributes := #[] }, { accessFlags := 24, nameIndex := 430, descriptorIndex := 62, attributes := #[] }, { accessFlags := 4120, nameIndex := 46, descriptorIndex := 47, attributes := #[] }])
  fields := #[{ name := "HI_BYTE_SHIFT", type := .int, accessFlags := 26, slot := 0, constantValue := 0 }, { name := "LO_BYTE_SHIFT", type := .int, accessFlags := 26, slot := 1, constantValue := 0 }, { name := "MAX_LENGTH", type := .int, accessFlags := 24, slot := 2, constantValue := 0 }, { name := "$assertionsDisabled", type := .boolean, accessFlags := 4120, slot := 3, constantValue := 0 }]
  methods := #[k8m0, k8m1, k8m2, k8m3]
  instanceTypes := #[]
  staticTypes := #[.int, .int, .int, .boolean]
  resolved := Array.replicate 635 none
  statics := none }

def pool9 : Array CpInfo := pool [(4, .class_ 6), (1, u "java/lang/Object"), (0, u "<init>"), (0, u "()V"), (5, .class_ 16), (1, u "java/lang/StringLatin1"), (73, u "canEncode"), (14, u "(C)Z"), (15, u "$assertionsDisabled"), (0, u "Z"), (98, .class_ 223), (1, u "java/lang/StringLatin1$LinesSpliterator"), (156, u "toBytes"), (1, u "(C)[B"), (7, .class_ 391), (0, u "java/lang/StringLatin1$CharsSpliterator")] 3

def k9m0 : Method := { name := "<init>", desc := "()V", sig := { parameters := [], returnType := none }, accessFlags := 0, code := none }
def k9c1 : Code := { maxStack := 2, maxLocals := 1, code := jdk_43_method_3_code, exceptionTable := #[], attributes := #[] }
def k9m1 : Method := { name := "canEncode", desc := "(C)Z", sig := { parameters := [.char], returnType := some .boolean }, accessFlags := 9, code := some k9c1 }
def k9c2 : Code := { maxStack := 4, maxLocals := 1, code := jdk_43_method_46_code, exceptionTable := #[], attributes := #[] }
def k9m2 : Method := { name := "toBytes", desc := "(C)[B", sig := { parameters := [.char], returnType := some (.array .byte) }, accessFlags := 9, code := some k9c2 }
/-- java/lang/StringLatin1 -/
def k9 : Class := { plain "java/lang/StringLatin1" (some 0) with
  accessFlags := 48
  interfaces := #[]
  cf := some (fileOf pool9 14 #[.nestMembers #[390, 221]] #[{ accessFlags := 0, nameIndex := 7, descriptorIndex := 8, attributes := #[] }, { accessFlags := 9, nameIndex := 90, descriptorIndex := 105, attributes := #[] }, { accessFlags := 9, nameIndex := 380, descriptorIndex := 382, attributes := #[] }] 48 4 #[] #[{ accessFlags := 4120, nameIndex := 121, descriptorIndex := 122, attributes := #[] }])
  fields := #[{ name := "$assertionsDisabled", type := .boolean, accessFlags := 4120, slot := 0, constantValue := 0 }]
  methods := #[k9m0, k9m1, k9m2]
  instanceTypes := #[]
  staticTypes := #[.boolean]
  resolved := Array.replicate 395 none
  statics := none }

def pool10 : Array CpInfo := pool [(1, .methodref 2 3), (0, .class_ 4), (0, .nameAndType 5 6), (0, u "java/lang/Object"), (0, u "<init>"), (0, u "()V"), (0, .class_ 8), (0, u "java/lang/Record")] 13

def k10c0 : Code := { maxStack := 1, maxLocals := 1, code := jdk_30_method_1_code, exceptionTable := #[], attributes := #[] }
def k10m0 : Method := { name := "<init>", desc := "()V", sig := { parameters := [], returnType := none }, accessFlags := 4, code := some k10c0 }
/-- java/lang/Record -/
def k10 : Class := { plain "java/lang/Record" (some 0) with
  accessFlags := 1057
  interfaces := #[]
  cf := some (fileOf pool10 7 #[] #[{ accessFlags := 4, nameIndex := 5, descriptorIndex := 6, attributes := #[] }] 1057 2 #[] #[])
  fields := #[]
  methods := #[k10m0]
  instanceTypes := #[]
  staticTypes := #[]
  resolved := Array.replicate 22 none
  statics := none }

def pool11 : Array CpInfo := pool [(1, .methodref 2 3), (0, .class_ 4), (0, .nameAndType 5 6), (0, u "java/lang/Record"), (0, u "<init>"), (0, u "()V"), (0, .string 8), (0, u "--"), (0, .methodref 10 11), (0, .class_ 12), (0, .nameAndType 13 14), (0, u "java/lang/String"), (0, u "startsWith"), (0, u "(Ljava/lang/String;)Z"), (0, .methodref 10 16), (0, .nameAndType 17 18), (0, u "length"), (0, u "()I"), (9, .string 29), (0, u "description"), (0, .methodref 31 32), (0, .class_ 33), (0, .nameAndType 34 35), (0, u "java/util/Objects"), (0, u "requireNonNull"), (0, u "(Ljava/lang/Object;Ljava/lang/String;)Ljava/lang/Object;"), (0, .fieldref 37 38), (0, .class_ 39), (0, .nameAndType 40 41), (0, u "com/example/planmend/planmend/cli/Option"), (0, u "name"), (0, u "Ljava/lang/String;"), (0, .fieldref 37 43), (0, .nameAndType 44 41), (0, u "value"), (0, .fieldref 37 46), (0, .nameAndType 29 41), (0, .fieldref 37 48), (0, .nameAndType 49 50), (0, u "required"), (0, u "Z"), (0, .methodref 37 52), (0, .nameAndType 5 53), (0, u "(Ljava/lang/String;Ljava/lang/String;Ljava/lang/String;Z)V"), (3, u "takesValue"), (0, u "()Z"), (28, u "asRequired"), (0, u "()Lcom/example/planmend/planmend/cli/Option;")] 37

def k11c0 : Code := { maxStack := 3, maxLocals := 5, code := prog_2_method_1_code, exceptionTable := #[], attributes := #[] }
def k11m0 : Method := { name := "<init>", desc := "(Ljava/lang/String;Ljava/lang/String;Ljava/lang/String;Z)V", sig := { parameters := [(.object "java/lang/String"), (.object "java/lang/String"), (.object "java/lang/String"), .boolean], returnType := none }, accessFlags := 1, code := some k11c0 }
def k11c1 : Code := { maxStack := 6, maxLocals := 1, code := prog_2_method_4_code, exceptionTable := #[], attributes := #[] }
def k11m1 : Method := { name := "asRequired", desc := "()Lcom/example/planmend/planmend/cli/Option;", sig := { parameters := [], returnType := some (.object "com/example/planmend/planmend/cli/Option") }, accessFlags := 1, code := some k11c1 }
def k11c2 : Code := { maxStack := 1, maxLocals := 1, code := prog_2_method_5_code, exceptionTable := #[], attributes := #[] }
def k11m2 : Method := { name := "takesValue", desc := "()Z", sig := { parameters := [], returnType := some .boolean }, accessFlags := 1, code := some k11c2 }
/-- com/example/planmend/planmend/cli/Option -/
def k11 : Class := { plain "com/example/planmend/planmend/cli/Option" (some 10) with
  accessFlags := 49
  interfaces := #[]
  cf := some (fileOf pool11 37 #[] #[{ accessFlags := 1, nameIndex := 5, descriptorIndex := 53, attributes := #[] }, { accessFlags := 1, nameIndex := 87, descriptorIndex := 88, attributes := #[] }, { accessFlags := 1, nameIndex := 57, descriptorIndex := 58, attributes := #[] }] 49 2 #[] #[{ accessFlags := 18, nameIndex := 40, descriptorIndex := 41, attributes := #[] }, { accessFlags := 18, nameIndex := 44, descriptorIndex := 41, attributes := #[] }, { accessFlags := 18, nameIndex := 29, descriptorIndex := 41, attributes := #[] }, { accessFlags := 18, nameIndex := 49, descriptorIndex := 50, attributes := #[] }])
  fields := #[{ name := "name", type := (.object "java/lang/String"), accessFlags := 18, slot := 0, constantValue := 0 }, { name := "value", type := (.object "java/lang/String"), accessFlags := 18, slot := 1, constantValue := 0 }, { name := "description", type := (.object "java/lang/String"), accessFlags := 18, slot := 2, constantValue := 0 }, { name := "required", type := .boolean, accessFlags := 18, slot := 3, constantValue := 0 }]
  methods := #[k11m0, k11m1, k11m2]
  instanceTypes := #[(.object "java/lang/String"), (.object "java/lang/String"), (.object "java/lang/String"), .boolean]
  staticTypes := #[]
  resolved := Array.replicate 126 none
  statics := none }

def pool12 : Array CpInfo := pool [(9, u "<init>"), (6, .class_ 18), (1, u "java/lang/Object"), (0, u "()V"), (1, .class_ 23), (1, u "jdk/internal/util/ArraysSupport"), (0, u "LOG2_ARRAY_LONG_INDEX_SCALE"), (0, u "I"), (2, u "U"), (0, u "Ljdk/internal/misc/Unsafe;"), (8, u "BIG_ENDIAN"), (0, u "Z"), (8, u "LOG2_BYTE_BIT_SIZE"), (4, u "LOG2_ARRAY_INT_INDEX_SCALE"), (54, u "JLA"), (0, u "Ljdk/internal/access/JavaLangAccess;"), (11, u "LOG2_ARRAY_BOOLEAN_INDEX_SCALE"), (9, u "LOG2_ARRAY_BYTE_INDEX_SCALE"), (5, u "LOG2_ARRAY_CHAR_INDEX_SCALE"), (5, u "LOG2_ARRAY_SHORT_INDEX_SCALE"), (5, u "mismatch"), (12, u "LOG2_ARRAY_FLOAT_INDEX_SCALE"), (24, u "LOG2_ARRAY_DOUBLE_INDEX_SCALE"), (89, u "T_BOOLEAN"), (2, u "T_CHAR"), (1, u "T_FLOAT"), (1, u "T_DOUBLE"), (1, u "T_BYTE"), (1, u "T_SHORT"), (1, u "T_INT"), (1, u "T_LONG"), (1, u "SOFT_MAX_ARRAY_LENGTH"), (42, u "([BI[BII)I")] 40

def k12m0 : Method := { name := "<init>", desc := "()V", sig := { parameters := [], returnType := none }, accessFlags := 2, code := none }
def k12c1 : Code := { maxStack := 8, maxLocals := 8, code := jdk_48_method_14_code, exceptionTable := #[], attributes := #[] }
def k12m1 : Method := { name := "mismatch", desc := "([BI[BII)I", sig := { parameters := [(.array .byte), .int, (.array .byte), .int, .int], returnType := some .int }, accessFlags := 9, code := some k12c1 }
/-- jdk/internal/util/ArraysSupport -/
def k12 : Class := { plain "jdk/internal/util/ArraysSupport" (some 0) with
  accessFlags := 33
  interfaces := #[]
  cf := some (fileOf pool12 21 #[] #[{ accessFlags := 2, nameIndex := 9, descriptorIndex := 19, attributes := #[] }, { accessFlags := 9, nameIndex := 149, descriptorIndex := 337, attributes := #[] }] 33 16 #[] #[{ accessFlags := 24, nameIndex := 28, descriptorIndex := 29, attributes := #[] }, { accessFlags := 26, nameIndex := 38, descriptorIndex := 39, attributes := #[] }, { accessFlags := 25, nameIndex := 121, descriptorIndex := 25, attributes := #[] }, { accessFlags := 25, nameIndex := 131, descriptorIndex := 25, attributes := #[] }, { accessFlags := 25, nameIndex := 137, descriptorIndex := 25, attributes := #[] }, { accessFlags := 25, nameIndex := 143, descriptorIndex := 25, attributes := #[] }, { accessFlags := 25, nameIndex := 53, descriptorIndex := 25, attributes := #[] }, { accessFlags := 25, nameIndex := 24, descriptorIndex := 25, attributes := #[] }, { accessFlags := 25, nameIndex := 162, descriptorIndex := 25, attributes := #[] }, { accessFlags := 25, nameIndex := 187, descriptorIndex := 25, attributes := #[] }, { accessFlags := 26, nameIndex := 48, descriptorIndex := 25, attributes := #[] }, { accessFlags := 25, nameIndex := 277, descriptorIndex := 25, attributes := #[] }, { accessFlags := 25, nameIndex := 280, descriptorIndex := 25, attributes := #[] }, { accessFlags := 25, nameIndex := 282, descriptorIndex := 25, attributes := #[] }, { accessFlags := 25, nameIndex := 284, descriptorIndex := 25, attributes := #[] }, { accessFlags := 25, nameIndex := 286, descriptorIndex := 25, attributes := #[] }, { accessFlags := 25, nameIndex := 288, descriptorIndex := 25, attributes := #[] }, { accessFlags := 25, nameIndex := 290, descriptorIndex := 25, attributes := #[] }, { accessFlags := 25, nameIndex := 292, descriptorIndex := 25, attributes := #[] }, { accessFlags := 26, nameIndex := 108, descriptorIndex := 109, attributes := #[] }, { accessFlags := 25, nameIndex := 294, descriptorIndex := 25, attributes := #[] }])
  fields := #[{ name := "U", type := (.object "jdk/internal/misc/Unsafe"), accessFlags := 24, slot := 0, constantValue := 0 }, { name := "BIG_ENDIAN", type := .boolean, accessFlags := 26, slot := 1, constantValue := 0 }, { name := "LOG2_ARRAY_BOOLEAN_INDEX_SCALE", type := .int, accessFlags := 25, slot := 2, constantValue := 0 }, { name := "LOG2_ARRAY_BYTE_INDEX_SCALE", type := .int, accessFlags := 25, slot := 3, constantValue := 0 }, { name := "LOG2_ARRAY_CHAR_INDEX_SCALE", type := .int, accessFlags := 25, slot := 4, constantValue := 0 }, { name := "LOG2_ARRAY_SHORT_INDEX_SCALE", type := .int, accessFlags := 25, slot := 5, constantValue := 0 }, { name := "LOG2_ARRAY_INT_INDEX_SCALE", type := .int, accessFlags := 25, slot := 6, constantValue := 0 }, { name := "LOG2_ARRAY_LONG_INDEX_SCALE", type := .int, accessFlags := 25, slot := 7, constantValue := 0 }, { name := "LOG2_ARRAY_FLOAT_INDEX_SCALE", type := .int, accessFlags := 25, slot := 8, constantValue := 0 }, { name := "LOG2_ARRAY_DOUBLE_INDEX_SCALE", type := .int, accessFlags := 25, slot := 9, constantValue := 0 }, { name := "LOG2_BYTE_BIT_SIZE", type := .int, accessFlags := 26, slot := 10, constantValue := 0 }, { name := "T_BOOLEAN", type := .int, accessFlags := 25, slot := 11, constantValue := 0 }, { name := "T_CHAR", type := .int, accessFlags := 25, slot := 12, constantValue := 0 }, { name := "T_FLOAT", type := .int, accessFlags := 25, slot := 13, constantValue := 0 }, { name := "T_DOUBLE", type := .int, accessFlags := 25, slot := 14, constantValue := 0 }, { name := "T_BYTE", type := .int, accessFlags := 25, slot := 15, constantValue := 0 }, { name := "T_SHORT", type := .int, accessFlags := 25, slot := 16, constantValue := 0 }, { name := "T_INT", type := .int, accessFlags := 25, slot := 17, constantValue := 0 }, { name := "T_LONG", type := .int, accessFlags := 25, slot := 18, constantValue := 0 }, { name := "JLA", type := (.object "jdk/internal/access/JavaLangAccess"), accessFlags := 26, slot := 19, constantValue := 0 }, { name := "SOFT_MAX_ARRAY_LENGTH", type := .int, accessFlags := 25, slot := 20, constantValue := 0 }]
  methods := #[k12m0, k12m1]
  instanceTypes := #[]
  staticTypes := #[(.object "jdk/internal/misc/Unsafe"), .boolean, .int, .int, .int, .int, .int, .int, .int, .int, .int, .int, .int, .int, .int, .int, .int, .int, .int, (.object "jdk/internal/access/JavaLangAccess"), .int]
  resolved := Array.replicate 378 none
  statics := none }

def pool13 : Array CpInfo := pool [(2, .class_ 4), (1, u "java/lang/Object"), (0, u "<init>"), (0, u "()V"), (35, .class_ 44), (1, u "java/util/Objects"), (0, u "requireNonNull"), (48, u "(Ljava/lang/Object;Ljava/lang/String;)Ljava/lang/Object;")] 89

def k13m0 : Method := { name := "<init>", desc := "()V", sig := { parameters := [], returnType := none }, accessFlags := 2, code := none }
def k13c1 : Code := { maxStack := 3, maxLocals := 2, code := jdk_31_method_11_code, exceptionTable := #[], attributes := #[] }
def k13m1 : Method := { name := "requireNonNull", desc := "(Ljava/lang/Object;Ljava/lang/String;)Ljava/lang/Object;", sig := { parameters := [(.object "java/lang/Object"), (.object "java/lang/String")], returnType := some (.object "java/lang/Object") }, accessFlags := 9, code := some k13c1 }
/-- java/util/Objects -/
def k13 : Class := { plain "java/util/Objects" (some 0) with
  accessFlags := 49
  interfaces := #[]
  cf := some (fileOf pool13 42 #[] #[{ accessFlags := 2, nameIndex := 5, descriptorIndex := 6, attributes := #[] }, { accessFlags := 9, nameIndex := 45, descriptorIndex := 94, attributes := #[] }] 49 2 #[] #[])
  fields := #[]
  methods := #[k13m0, k13m1]
  instanceTypes := #[]
  staticTypes := #[]
  resolved := Array.replicate 184 none
  statics := none }

def pool14 : Array CpInfo := pool [(2, .class_ 4), (1, u "java/lang/Object"), (0, u "<init>"), (0, u "()V"), (17, .class_ 26), (1, u "jdk/internal/util/Preconditions"), (28, .class_ 56), (0, u "jdk/internal/util/Preconditions$4"), (57, .class_ 115), (0, u "jdk/internal/util/Preconditions$1"), (7, u "SIOOBE_FORMATTER"), (0, u "Ljava/util/function/BiFunction;"), (0, .class_ 126), (0, u "jdk/internal/util/Preconditions$2"), (3, u "AIOOBE_FORMATTER"), (0, .class_ 132), (0, u "jdk/internal/util/Preconditions$3"), (3, u "IOOBE_FORMATTER")] 57

def k14m0 : Method := { name := "<init>", desc := "()V", sig := { parameters := [], returnType := none }, accessFlags := 1, code := none }
/-- jdk/internal/util/Preconditions -/
def k14 : Class := { plain "jdk/internal/util/Preconditions" (some 0) with
  accessFlags := 33
  interfaces := #[]
  cf := some (fileOf pool14 24 #[.nestMembers #[55, 131, 125, 114]] #[{ accessFlags := 1, nameIndex := 5, descriptorIndex := 6, attributes := #[] }] 33 2 #[] #[{ accessFlags := 25, nameIndex := 123, descriptorIndex := 124, attributes := #[] }, { accessFlags := 25, nameIndex := 130, descriptorIndex := 124, attributes := #[] }, { accessFlags := 25, nameIndex := 136, descriptorIndex := 124, attributes := #[] }])
  fields := #[{ name := "SIOOBE_FORMATTER", type := (.object "java/util/function/BiFunction"), accessFlags := 25, slot := 0, constantValue := 0 }, { name := "AIOOBE_FORMATTER", type := (.object "java/util/function/BiFunction"), accessFlags := 25, slot := 1, constantValue := 0 }, { name := "IOOBE_FORMATTER", type := (.object "java/util/function/BiFunction"), accessFlags := 25, slot := 2, constantValue := 0 }]
  methods := #[k14m0]
  instanceTypes := #[]
  staticTypes := #[(.object "java/util/function/BiFunction"), (.object "java/util/function/BiFunction"), (.object "java/util/function/BiFunction")]
  resolved := Array.replicate 194 none
  statics := some 1 }

def pool15 : Array CpInfo := pool [(1, u "java/lang/Cloneable"), (0, .class_ 1), (0, u "java/lang/Object"), (0, .class_ 3)] 3

/-- java/lang/Cloneable -/
def k15 : Class := { plain "java/lang/Cloneable" (some 0) with
  accessFlags := 1537
  interfaces := #[]
  cf := some (fileOf pool15 2 #[] #[] 1537 4 #[] #[])
  fields := #[]
  methods := #[]
  instanceTypes := #[]
  staticTypes := #[]
  resolved := Array.replicate 8 none
  statics := none }

/-- the primitive byte -/
def k16 : Class := { plain "byte" none with kind := .primitive 'B', accessFlags := 0x411 }
/-- [B -/
def k17 : Class := { plain "[B" (some 0) with kind := .array 16 .byte, interfaces := #[15, 2], accessFlags := 1041 }

/-- the primitive char -/
def k18 : Class := { plain "char" none with kind := .primitive 'C', accessFlags := 0x411 }
/-- [C -/
def k19 : Class := { plain "[C" (some 0) with kind := .array 18 .char, interfaces := #[15, 2], accessFlags := 1041 }

/-- the primitive int -/
def k20 : Class := { plain "int" none with kind := .primitive 'I', accessFlags := 0x411 }
/-- [I -/
def k21 : Class := { plain "[I" (some 0) with kind := .array 20 .int, interfaces := #[15, 2], accessFlags := 1041 }

def heap : Heap := #[{ cls := 7, slots := #[.long 0, .int 1, .null, .int 0, .null, .int 0, .int 0], vm := .statics 7 },
  { cls := 14, slots := #[.null, .null, .null], vm := .statics 14 }]
def classes : Array Class := #[k0, k1, k2, k3, k4, k5, k6, k7, k8, k9, k10, k11, k12, k13, k14, k15, k16, k17, k18, k19, k20, k21]
def interned : List (Array UInt16 × Addr) := []
def slotsUsed : Nat := 10
def theMethod : MethodId := ⟨1, 1⟩
def args0 : Array Value := #[.int 5, .int 6, .int 7]
def aboutOver (below : List Frame) : State where
  vm := { classes := classes, interned := interned.toArray }
  heap := heap
  slotsUsed := slotsUsed
  threads := #[{ frames := .invoking theMethod args0 :: below }]
def below0 : List Frame := [.native { method := ⟨0, 0⟩, args := #[] }]
def about1 : State := aboutOver below0
def p0 : Program := .bare "" "" ""
def e0 : Env := launch0.env 0 0 0
theorem w_frames : about1.frames = Frame.invoking theMethod args0 :: below0 := rfl
set_option maxRecDepth 65536 in
theorem w_args : argsFit about1.vm theMethod args0 = true := by decide +kernel
set_option maxRecDepth 65536 in
theorem w_heap : heapFits about1 = true := by decide +kernel
set_option maxRecDepth 65536 in
theorem w_runnable : about1.curStatus? = some .runnable := by decide +kernel
set_option maxRecDepth 65536 in
theorem w_alone : about1.alone = true := by decide +kernel
set_option maxRecDepth 65536 in
theorem w_named : about1.methodNamed? x = some theMethod := by decide +kernel
set_option maxRecDepth 65536 in
theorem w_hears : about1.hears theMethod below0 = true := by decide +kernel
set_option maxRecDepth 65536 in
theorem w_ripe : about1.ripe theMethod args0 below0 = true := by decide +kernel
theorem w_running : about1.status = .running := rfl
set_option maxRecDepth 65536 in
theorem w_room : about1.hasRoom e0.platform room_1 = true :=
  launch0.hasRoom_least _ room_1 (by decide +kernel) (by decide +kernel) (by decide +kernel) (by decide +kernel) (by decide +kernel) (by decide +kernel)
theorem allAtoms_all (ts : List Jvm.Cond) (a : Array Jvm.Value) (st : Jvm.State) : (allAtoms ts).before a st = ts.all (fun c => c.before a st) := by
  induction ts with
  | nil => rfl
  | cons c t ih =>
    show (Jvm.Cond.and c (allAtoms t)).before a st = _
    rw [Jvm.Cond.before_and, ih, List.all_cons]
def words1 : List Jvm.Cond := Jvm.Cond.code x code maxLocals ret :: tables_1
/-- a 'code' word, met by the world's own term for the bytes: nothing is compared byte by byte -/
theorem code_word {y : MethodName} {bytes : ByteArray} {mx : Nat} {rt : Option FieldType} {a : Array Value} {s : State} {m : MethodId} {meth : Method} {c : Code} (h1 : s.methodNamed? y = some m) (h2 : s.vm.method? m = some meth) (h3 : meth.code = some c) (h4 : c.code = bytes)
    (h5 : (c.maxLocals == mx && c.exceptionTable.isEmpty && decide (c.maxStack ≤ mostOperands) && decide (meth.sig.returnType = rt) && !meth.locks && decide (parseMethodDescriptor y.desc = some meth.sig)) = true) : (Jvm.Cond.code y bytes mx rt).before a s = true := by
  simp only [Bool.and_eq_true, beq_iff_eq, Bool.not_eq_true', decide_eq_true_eq] at h5
  obtain ⟨⟨⟨⟨⟨g1, g2⟩, g3⟩, g4⟩, g5⟩, g6⟩ := h5
  simp [Cond.before, Cond.holds, Cond.value, h1, h2, h3, h4, g1, g2, g3, g4, g5, g6]
def isCode : Jvm.Cond → Bool
  | .code _ _ _ _ => true
  | _ => false
theorem all_split {L : List Jvm.Cond} {P : Jvm.Cond → Bool} (h1 : L.all (fun c => isCode c || P c) = true) (h2 : ∀ c ∈ L.filter isCode, P c = true) : L.all P = true := by
  refine List.all_eq_true.mpr fun c hc => ?_
  have h := List.all_eq_true.mp h1 c hc
  rcases Bool.eq_false_or_eq_true (isCode c) with hi | hi
  · exact h2 c (List.mem_filter.mpr ⟨hc, hi⟩)
  · simpa [hi] using h
set_option maxRecDepth 65536 in
theorem w_c0 : (Jvm.Cond.code x code maxLocals ret).before args0 about1 = true := code_word (m := ⟨1, 1⟩) (meth := k1m1) (c := k1c1) (by decide +kernel) rfl rfl rfl (by decide +kernel)
set_option maxRecDepth 65536 in
theorem w_c1 : (Jvm.Cond.code ({ cls := "java/lang/String", name := "<init>", desc := "([C)V" } : Jvm.MethodName) jdk_42_method_3_code (2 : Nat) (Option.none : Option Jvm.ClassFile.FieldType)).before args0 about1 = true := code_word (m := ⟨7, 1⟩) (meth := k7m1) (c := k7c1) (by decide +kernel) rfl rfl rfl (by decide +kernel)
set_option maxRecDepth 65536 in
theorem w_c2 : (Jvm.Cond.code ({ cls := "java/lang/String", name := "<init>", desc := "([CIILjava/lang/Void;)V" } : Jvm.MethodName) jdk_42_method_149_code (6 : Nat) (Option.none : Option Jvm.ClassFile.FieldType)).before args0 about1 = true := code_word (m := ⟨7, 6⟩) (meth := k7m6) (c := k7c6) (by decide +kernel) rfl rfl rfl (by decide +kernel)
set_option maxRecDepth 65536 in
theorem w_c3 : (Jvm.Cond.code ({ cls := "java/lang/Object", name := "<init>", desc := "()V" } : Jvm.MethodName) object_method_1_code (1 : Nat) (Option.none : Option Jvm.ClassFile.FieldType)).before args0 about1 = true := code_word (m := ⟨0, 0⟩) (meth := k0m0) (c := k0c0) (by decide +kernel) rfl rfl rfl (by decide +kernel)
set_option maxRecDepth 65536 in
theorem w_c4 : (Jvm.Cond.code ({ cls := "java/lang/StringUTF16", name := "compress", desc := "([CII)[B" } : Jvm.MethodName) jdk_52_method_16_code (6 : Nat) (Option.some (Jvm.ClassFile.FieldType.array Jvm.ClassFile.FieldType.byte))).before args0 about1 = true := code_word (m := ⟨8, 2⟩) (meth := k8m2) (c := k8c2) (by decide +kernel) rfl rfl rfl (by decide +kernel)
set_option maxRecDepth 65536 in
theorem w_c5 : (Jvm.Cond.code ({ cls := "java/lang/StringUTF16", name := "compress", desc := "([CI[BII)I" } : Jvm.MethodName) jdk_52_method_21_code (7 : Nat) (Option.some Jvm.ClassFile.FieldType.int)).before args0 about1 = true := code_word (m := ⟨8, 3⟩) (meth := k8m3) (c := k8c3) (by decide +kernel) rfl rfl rfl (by decide +kernel)
set_option maxRecDepth 65536 in
theorem w_c6 : (Jvm.Cond.code ({ cls := "java/lang/StringUTF16", name := "coderFromArrayLen", desc := "([BI)B" } : Jvm.MethodName) jdk_52_method_15_code (2 : Nat) (Option.some Jvm.ClassFile.FieldType.byte)).before args0 about1 = true := code_word (m := ⟨8, 1⟩) (meth := k8m1) (c := k8c1) (by decide +kernel) rfl rfl rfl (by decide +kernel)
set_option maxRecDepth 65536 in
theorem w_c7 : (Jvm.Cond.code ({ cls := "java/lang/String", name := "valueOf", desc := "(C)Ljava/lang/String;" } : Jvm.MethodName) jdk_42_method_139_code (1 : Nat) (Option.some (Jvm.ClassFile.FieldType.object "java/lang/String"))).before args0 about1 = true := code_word (m := ⟨7, 5⟩) (meth := k7m5) (c := k7c5) (by decide +kernel) rfl rfl rfl (by decide +kernel)
set_option maxRecDepth 65536 in
theorem w_c8 : (Jvm.Cond.code ({ cls := "java/lang/StringLatin1", name := "canEncode", desc := "(C)Z" } : Jvm.MethodName) jdk_43_method_3_code (1 : Nat) (Option.some Jvm.ClassFile.FieldType.boolean)).before args0 about1 = true := code_word (m := ⟨9, 1⟩) (meth := k9m1) (c := k9c1) (by decide +kernel) rfl rfl rfl (by decide +kernel)
set_option maxRecDepth 65536 in
theorem w_c9 : (Jvm.Cond.code ({ cls := "java/lang/StringLatin1", name := "toBytes", desc := "(C)[B" } : Jvm.MethodName) jdk_43_method_46_code (1 : Nat) (Option.some (Jvm.ClassFile.FieldType.array Jvm.ClassFile.FieldType.byte))).before args0 about1 = true := code_word (m := ⟨9, 2⟩) (meth := k9m2) (c := k9c2) (by decide +kernel) rfl rfl rfl (by decide +kernel)
set_option maxRecDepth 65536 in
theorem w_c10 : (Jvm.Cond.code ({ cls := "java/lang/String", name := "<init>", desc := "([BB)V" } : Jvm.MethodName) jdk_42_method_151_code (3 : Nat) (Option.none : Option Jvm.ClassFile.FieldType)).before args0 about1 = true := code_word (m := ⟨7, 7⟩) (meth := k7m7) (c := k7c7) (by decide +kernel) rfl rfl rfl (by decide +kernel)
set_option maxRecDepth 65536 in
theorem w_c11 : (Jvm.Cond.code ({ cls := "com/example/planmend/planmend/cli/Option", name := "<init>", desc := "(Ljava/lang/String;Ljava/lang/String;Ljava/lang/String;Z)V" } : Jvm.MethodName) prog_2_method_1_code (5 : Nat) (Option.none : Option Jvm.ClassFile.FieldType)).before args0 about1 = true := code_word (m := ⟨11, 0⟩) (meth := k11m0) (c := k11c0) (by decide +kernel) rfl rfl rfl (by decide +kernel)
set_option maxRecDepth 65536 in
theorem w_c12 : (Jvm.Cond.code ({ cls := "java/lang/Record", name := "<init>", desc := "()V" } : Jvm.MethodName) jdk_30_method_1_code (1 : Nat) (Option.none : Option Jvm.ClassFile.FieldType)).before args0 about1 = true := code_word (m := ⟨10, 0⟩) (meth := k10m0) (c := k10c0) (by decide +kernel) rfl rfl rfl (by decide +kernel)
set_option maxRecDepth 65536 in
theorem w_c13 : (Jvm.Cond.code ({ cls := "java/lang/String", name := "startsWith", desc := "(Ljava/lang/String;)Z" } : Jvm.MethodName) jdk_42_method_76_code (2 : Nat) (Option.some Jvm.ClassFile.FieldType.boolean)).before args0 about1 = true := code_word (m := ⟨7, 4⟩) (meth := k7m4) (c := k7c4) (by decide +kernel) rfl rfl rfl (by decide +kernel)
set_option maxRecDepth 65536 in
theorem w_c14 : (Jvm.Cond.code ({ cls := "java/lang/String", name := "startsWith", desc := "(Ljava/lang/String;I)Z" } : Jvm.MethodName) jdk_42_method_75_code (8 : Nat) (Option.some Jvm.ClassFile.FieldType.boolean)).before args0 about1 = true := code_word (m := ⟨7, 3⟩) (meth := k7m3) (c := k7c3) (by decide +kernel) rfl rfl rfl (by decide +kernel)
set_option maxRecDepth 65536 in
theorem w_c15 : (Jvm.Cond.code ({ cls := "java/lang/String", name := "length", desc := "()I" } : Jvm.MethodName) jdk_42_method_54_code (1 : Nat) (Option.some Jvm.ClassFile.FieldType.int)).before args0 about1 = true := code_word (m := ⟨7, 2⟩) (meth := k7m2) (c := k7c2) (by decide +kernel) rfl rfl rfl (by decide +kernel)
set_option maxRecDepth 65536 in
theorem w_c16 : (Jvm.Cond.code ({ cls := "java/lang/String", name := "coder", desc := "()B" } : Jvm.MethodName) jdk_42_method_152_code (1 : Nat) (Option.some Jvm.ClassFile.FieldType.byte)).before args0 about1 = true := code_word (m := ⟨7, 8⟩) (meth := k7m8) (c := k7c8) (by decide +kernel) rfl rfl rfl (by decide +kernel)
set_option maxRecDepth 65536 in
theorem w_c17 : (Jvm.Cond.code ({ cls := "jdk/internal/util/ArraysSupport", name := "mismatch", desc := "([BI[BII)I" } : Jvm.MethodName) jdk_48_method_14_code (8 : Nat) (Option.some Jvm.ClassFile.FieldType.int)).before args0 about1 = true := code_word (m := ⟨12, 1⟩) (meth := k12m1) (c := k12c1) (by decide +kernel) rfl rfl rfl (by decide +kernel)
set_option maxRecDepth 65536 in
theorem w_c18 : (Jvm.Cond.code ({ cls := "java/util/Objects", name := "requireNonNull", desc := "(Ljava/lang/Object;Ljava/lang/String;)Ljava/lang/Object;" } : Jvm.MethodName) jdk_31_method_11_code (2 : Nat) (Option.some (Jvm.ClassFile.FieldType.object "java/lang/Object"))).before args0 about1 = true := code_word (m := ⟨13, 1⟩) (meth := k13m1) (c := k13c1) (by decide +kernel) rfl rfl rfl (by decide +kernel)
set_option maxRecDepth 65536 in
theorem w_c19 : (Jvm.Cond.code ({ cls := "com/example/planmend/planmend/cli/Option", name := "takesValue", desc := "()Z" } : Jvm.MethodName) prog_2_method_5_code (1 : Nat) (Option.some Jvm.ClassFile.FieldType.boolean)).before args0 about1 = true := code_word (m := ⟨11, 2⟩) (meth := k11m2) (c := k11c2) (by decide +kernel) rfl rfl rfl (by decide +kernel)
set_option maxRecDepth 65536 in
theorem w_c20 : (Jvm.Cond.code ({ cls := "com/example/planmend/planmend/cli/Option", name := "asRequired", desc := "()Lcom/example/planmend/planmend/cli/Option;" } : Jvm.MethodName) prog_2_method_4_code (1 : Nat) (Option.some (Jvm.ClassFile.FieldType.object "com/example/planmend/planmend/cli/Option"))).before args0 about1 = true := code_word (m := ⟨11, 1⟩) (meth := k11m1) (c := k11c1) (by decide +kernel) rfl rfl rfl (by decide +kernel)
def codes1 : List Jvm.Cond := [Jvm.Cond.code x code maxLocals ret, Jvm.Cond.code ({ cls := "java/lang/String", name := "<init>", desc := "([C)V" } : Jvm.MethodName) jdk_42_method_3_code (2 : Nat) (Option.none : Option Jvm.ClassFile.FieldType), Jvm.Cond.code ({ cls := "java/lang/String", name := "<init>", desc := "([CIILjava/lang/Void;)V" } : Jvm.MethodName) jdk_42_method_149_code (6 : Nat) (Option.none : Option Jvm.ClassFile.FieldType), Jvm.Cond.code ({ cls := "java/lang/Object", name := "<init>", desc := "()V" } : Jvm.MethodName) object_method_1_code (1 : Nat) (Option.none : Option Jvm.ClassFile.FieldType), Jvm.Cond.code ({ cls := "java/lang/StringUTF16", name := "compress", desc := "([CII)[B" } : Jvm.MethodName) jdk_52_method_16_code (6 : Nat) (Option.some (Jvm.ClassFile.FieldType.array Jvm.ClassFile.FieldType.byte)), Jvm.Cond.code ({ cls := "java/lang/StringUTF16", name := "compress", desc := "([CI[BII)I" } : Jvm.MethodName) jdk_52_method_21_code (7 : Nat) (Option.some Jvm.ClassFile.FieldType.int), Jvm.Cond.code ({ cls := "java/lang/StringUTF16", name := "coderFromArrayLen", desc := "([BI)B" } : Jvm.MethodName) jdk_52_method_15_code (2 : Nat) (Option.some Jvm.ClassFile.FieldType.byte), Jvm.Cond.code ({ cls := "java/lang/String", name := "valueOf", desc := "(C)Ljava/lang/String;" } : Jvm.MethodName) jdk_42_method_139_code (1 : Nat) (Option.some (Jvm.ClassFile.FieldType.object "java/lang/String")), Jvm.Cond.code ({ cls := "java/lang/StringLatin1", name := "canEncode", desc := "(C)Z" } : Jvm.MethodName) jdk_43_method_3_code (1 : Nat) (Option.some Jvm.ClassFile.FieldType.boolean), Jvm.Cond.code ({ cls := "java/lang/StringLatin1", name := "toBytes", desc := "(C)[B" } : Jvm.MethodName) jdk_43_method_46_code (1 : Nat) (Option.some (Jvm.ClassFile.FieldType.array Jvm.ClassFile.FieldType.byte)), Jvm.Cond.code ({ cls := "java/lang/String", name := "<init>", desc := "([BB)V" } : Jvm.MethodName) jdk_42_method_151_code (3 : Nat) (Option.none : Option Jvm.ClassFile.FieldType), Jvm.Cond.code ({ cls := "com/example/planmend/planmend/cli/Option", name := "<init>", desc := "(Ljava/lang/String;Ljava/lang/String;Ljava/lang/String;Z)V" } : Jvm.MethodName) prog_2_method_1_code (5 : Nat) (Option.none : Option Jvm.ClassFile.FieldType), Jvm.Cond.code ({ cls := "java/lang/Record", name := "<init>", desc := "()V" } : Jvm.MethodName) jdk_30_method_1_code (1 : Nat) (Option.none : Option Jvm.ClassFile.FieldType), Jvm.Cond.code ({ cls := "java/lang/String", name := "startsWith", desc := "(Ljava/lang/String;)Z" } : Jvm.MethodName) jdk_42_method_76_code (2 : Nat) (Option.some Jvm.ClassFile.FieldType.boolean), Jvm.Cond.code ({ cls := "java/lang/String", name := "startsWith", desc := "(Ljava/lang/String;I)Z" } : Jvm.MethodName) jdk_42_method_75_code (8 : Nat) (Option.some Jvm.ClassFile.FieldType.boolean), Jvm.Cond.code ({ cls := "java/lang/String", name := "length", desc := "()I" } : Jvm.MethodName) jdk_42_method_54_code (1 : Nat) (Option.some Jvm.ClassFile.FieldType.int), Jvm.Cond.code ({ cls := "java/lang/String", name := "coder", desc := "()B" } : Jvm.MethodName) jdk_42_method_152_code (1 : Nat) (Option.some Jvm.ClassFile.FieldType.byte), Jvm.Cond.code ({ cls := "jdk/internal/util/ArraysSupport", name := "mismatch", desc := "([BI[BII)I" } : Jvm.MethodName) jdk_48_method_14_code (8 : Nat) (Option.some Jvm.ClassFile.FieldType.int), Jvm.Cond.code ({ cls := "java/util/Objects", name := "requireNonNull", desc := "(Ljava/lang/Object;Ljava/lang/String;)Ljava/lang/Object;" } : Jvm.MethodName) jdk_31_method_11_code (2 : Nat) (Option.some (Jvm.ClassFile.FieldType.object "java/lang/Object")), Jvm.Cond.code ({ cls := "com/example/planmend/planmend/cli/Option", name := "takesValue", desc := "()Z" } : Jvm.MethodName) prog_2_method_5_code (1 : Nat) (Option.some Jvm.ClassFile.FieldType.boolean), Jvm.Cond.code ({ cls := "com/example/planmend/planmend/cli/Option", name := "asRequired", desc := "()Lcom/example/planmend/planmend/cli/Option;" } : Jvm.MethodName) prog_2_method_4_code (1 : Nat) (Option.some (Jvm.ClassFile.FieldType.object "com/example/planmend/planmend/cli/Option"))]
set_option maxRecDepth 65536 in
theorem codes_eq : words1.filter isCode = codes1 := rfl
theorem w_codes : ∀ c ∈ words1.filter isCode, c.before args0 about1 = true := by
  rw [codes_eq]
  intro c hc
  simp only [codes1, List.mem_cons, List.not_mem_nil, or_false] at hc
  rcases hc with rfl | rfl | rfl | rfl | rfl | rfl | rfl | rfl | rfl | rfl | rfl | rfl | rfl | rfl | rfl | rfl | rfl | rfl | rfl | rfl | rfl
  · exact w_c0
  · exact w_c1
  · exact w_c2
  · exact w_c3
  · exact w_c4
  · exact w_c5
  · exact w_c6
  · exact w_c7
  · exact w_c8
  · exact w_c9
  · exact w_c10
  · exact w_c11
  · exact w_c12
  · exact w_c13
  · exact w_c14
  · exact w_c15
  · exact w_c16
  · exact w_c17
  · exact w_c18
  · exact w_c19
  · exact w_c20
set_option maxRecDepth 65536 in
theorem w_t1 : (words1.take 24).all (fun c => isCode c || c.before args0 about1) = true := by decide +kernel
set_option maxRecDepth 65536 in
theorem w_t2 : ((words1.drop 24).take 24).all (fun c => isCode c || c.before args0 about1) = true := by decide +kernel
set_option maxRecDepth 65536 in
theorem w_t3 : (((words1.drop 24).drop 24).take 24).all (fun c => isCode c || c.before args0 about1) = true := by decide +kernel
set_option maxRecDepth 65536 in
theorem w_t4 : ((((words1.drop 24).drop 24).drop 24).take 24).all (fun c => isCode c || c.before args0 about1) = true := by decide +kernel
set_option maxRecDepth 65536 in
theorem w_t5 : ((((words1.drop 24).drop 24).drop 24).drop 24).all (fun c => isCode c || c.before args0 about1) = true := by decide +kernel
theorem w_tables : (allAtoms (Jvm.Cond.code x code maxLocals ret :: tables_1)).before args0 about1 = true := by
  rw [allAtoms_all]
  show words1.all (fun c => c.before args0 about1) = true
  refine all_split ?_ w_codes
  rw [← List.take_append_drop 24 words1, List.all_append, w_t1, ← List.take_append_drop 24 (words1.drop 24), List.all_append, w_t2, ← List.take_append_drop 24 ((words1.drop 24).drop 24), List.all_append, w_t3, ← List.take_append_drop 24 (((words1.drop 24).drop 24).drop 24), List.all_append, w_t4, w_t5]
  rfl
set_option maxRecDepth 65536 in
theorem w_rest : rest_1_c.before args0 about1 = true := by decide +kernel
set_option maxRecDepth 65536 in
theorem w_case : (Jvm.Cond.and given_1 narrow_1).before args0 about1 = true := by decide +kernel
set_option maxRecDepth 65536 in
theorem w_consts : constsHeld consts_1 about1 := Jvm.Lit.constsHeldB_iff.mp (by decide +kernel)
theorem w_applies : (headSpec (Jvm.Cond.code x code maxLocals ret :: tables_1) room_1).applies x e0.platform about1 = true :=
  (Spec.applies_iff w_frames).mpr ⟨w_running, w_runnable, w_alone, w_named, w_hears, w_ripe, w_room, w_tables⟩
theorem atStart : AtStart classFile x code maxLocals ret World_1 tables_1 room_1 Calls_1 rest_1 Pre_1 launch0 p0 e0 about1 theMethod args0 below0 :=
  ⟨lists_1, trivial, launch0.admits_env _ _ _, launch0.least_env, fairChoices_fair.cas, fairChoices_fair.clock, w_frames, w_args, w_heap, w_applies, ⟨w_consts, trivial⟩, w_rest, w_case⟩
end start1
theorem witness_1 : WitnessClaimed_1 := ⟨start1.p0, start1.e0, start1.about1, start1.theMethod, start1.args0, start1.below0, start1.atStart⟩
end Jvm.Pilot.@@N@@
